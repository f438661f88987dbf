/-
  The walk of the law FnTreeShares.
-/
import Derived.Test.YtflaklceejokhaaDoorTreeKH
import Derived.Test.YtflaklceejokhaaDoorTreeM1
import Derived.Lib.QuietBelow
import Derived.Deep.DeepCutAuto
namespace Go.Proofs.YtflaklceejokhaaDoor.tree
open Go.ChangeShapes Go.WideShapes Go.ChangeAt Go.RowKit
open Go.Proofs.YtflaklceejokhaaDoor.mem Go.Proofs.YtflaklceejokhaaDoor.flt
set_option linter.unusedVariables false
set_option linter.unusedSimpArgs false

theorem infoIt : (Tryd.prog.info? 43).map (fun i => (i.zero, i.size, i.bytes)) = some (some (.agg #[.float .f64 0, .float .f64 0, .float .f64 0, .float .f64 0, .int .i64 0]), 5, 40) := by kernel_rfl

theorem Rd.head {w : World} {A : Option Addr} {n : Nat} {f : Nat → It} (h : Rd w A n f) (m : Nat) (hm : m ≤ n) : Rd w A m f := fun h0 => by
  obtain ⟨g, off, rfl, hg, hc⟩ := h (by omega)
  exact ⟨g, off, rfl, hg, fun i hi => hc i (by omega)⟩
theorem Rd.tail {w : World} {A : Option Addr} {n : Nat} {f : Nat → It} (h : Rd w A n f) (c a : Nat) (ha : a ≤ n) (hc : n ≤ c) : Rd w (if c = a then A else A.map (·.add (a * 5))) (n - a) (fun j => f (a + j)) := fun h0 => by
  obtain ⟨g, off, rfl, hg, hcc⟩ := h (by omega)
  rw [if_neg (by omega)]
  refine ⟨g, off + a * 5, by simp [mem.add_plain], hg, fun i hi c hc5 => ?_⟩
  have := hcc (a + i) (by omega) c hc5
  rw [show off + (a + i) * 5 + c = off + a * 5 + i * 5 + c by omega] at this
  exact this
theorem GoodIts.part {n : Nat} {f : Nat → It} (h : GoodIts n f) (a m : Nat) (hm : a + m ≤ n) : GoodIts m (fun j => f (a + j)) :=
  ⟨by have := h.few; omega, fun i hi => h.box _ (by omega), fun i j hij hj => h.ids _ _ (by omega) (by omega)⟩
theorem GoodIts.head {n : Nat} {f : Nat → It} (h : GoodIts n f) (m : Nat) (hm : m ≤ n) : GoodIts m f :=
  ⟨by have := h.few; omega, fun i hi => h.box _ (by omega), fun i j hij hj => h.ids _ _ hij (by omega)⟩

/-- Two searches' answers in a slice of three. -/
structure Ans3 (w : World) (g off : Nat) (A0 A1 : Option Addr) (l0 l1 : List Int) (k0 k1 : Nat) : Prop where
  lt : g < w.heap.size
  c0 : w.cell? ⟨g, off, none⟩ = some (.slice A0 l0.length k0)
  c1 : w.cell? ⟨g, off + 10, none⟩ = some (.slice A1 l1.length k1)
  h0 : l0.length ≤ k0
  h1 : l1.length ≤ k1
  s0 : Sl w w.heap.size A0 l0.length 1 (idVs l0)
  s1 : Sl w w.heap.size A1 l1.length 1 (idVs l1)
theorem Ans3.below {w w' : World} {g off : Nat} {A0 A1 : Option Addr} {l0 l1 : List Int} {k0 k1 : Nat} (h : Ans3 w g off A0 A1 l0 l1 k0 k1) (hb : Below w.heap.size w w') : Ans3 w' g off A0 A1 l0 l1 k0 k1 :=
  ⟨Nat.lt_of_lt_of_le h.lt hb.size, (hb.cell (p := ⟨g, off, none⟩) h.lt).trans h.c0, (hb.cell (p := ⟨g, off + 10, none⟩) h.lt).trans h.c1, h.h0, h.h1, h.s0.up hb, h.s1.up hb⟩
theorem told3_open {w : World} {A : Option Addr} {an : Nat → An} (h : ToldR w A 3 an) : ∃ (g off : Nat) (A0 A1 : Option Addr) (k0 k1 : Nat), A = some ⟨g, off, none⟩ ∧ Ans3 w g off A0 A1 (an 0).ids (an 1).ids k0 k1 ∧ w.cell? ⟨g, off + 20 + 9, none⟩ = some (.int .i64 (an 2).cnt) := by
  obtain ⟨g, off, vs, rfl, hg, hc⟩ := h (by omega)
  obtain ⟨A0, k0, e0, h0, s0⟩ := (hc 0 (by omega)).2
  obtain ⟨A1, k1, e1, h1, s1⟩ := (hc 1 (by omega)).2
  have c0 := (hc 0 (by omega)).1 0 _ rfl
  have c1 := (hc 1 (by omega)).1 0 _ rfl
  have c2 := (hc 2 (by omega)).1 9 _ rfl
  rw [e0] at c0
  rw [e1] at c1
  exact ⟨g, off, A0, A1, k0, k1, rfl, ⟨hg, c0, c1, h0, h1, s0, s1⟩, c2⟩
theorem nodup_take {l : List Int} (h : l.Nodup) {i : Nat} {z : Int} (hz : l[i]? = some z) : z ∉ l.take i := fun hin => by
  obtain ⟨hi, e1⟩ := List.getElem?_eq_some_iff.1 hz
  obtain ⟨j, hj, e⟩ := List.getElem_of_mem hin
  rw [List.getElem_take] at e
  rw [List.length_take] at hj
  exact (List.pairwise_iff_getElem.1 h) j i (by omega) hi (by omega) (e.trans e1.symm)
theorem take_snoc {l : List Int} {i : Nat} {z : Int} (hz : l[i]? = some z) : l.take i ++ [z] = l.take (i + 1) := by
  rw [List.take_add_one, hz]; rfl
theorem idVs_one (l : List Int) : ∀ u ∈ idVs l, u.oneCell' = true := by
  intro u hu
  unfold idVs at hu
  obtain ⟨z, _, rfl⟩ := List.mem_map.1 hu
  rfl
theorem idVs_app (l m : List Int) : idVs l ++ idVs m = idVs (l ++ m) := by unfold idVs; rw [List.map_append]
theorem infoZ : (Tryd.prog.info? 3).map (fun i => (i.zero, i.size, i.bytes)) = some (some (.int .i64 0), 1, 8) := by kernel_rfl
theorem del_step {W M : List Int} {LR : List Int} {j : Nat} {z : Int} (hLR : LR.Nodup) (hp : W.Perm LR) (hz : LR[j]? = some z) (hM : M.Nodup) (hiff : ∀ x, x ∈ M ↔ x ∈ W ∧ x ∉ LR.take j) (hlen : M.length + j = W.length) :
    z ∈ M ∧ (M.erase z).Nodup ∧ (∀ x, x ∈ M.erase z ↔ x ∈ W ∧ x ∉ LR.take (j + 1)) ∧ (M.erase z).length + (j + 1) = W.length := by
  have hin : z ∈ M := (hiff z).2 ⟨hp.mem_iff.2 (List.mem_of_getElem? hz), nodup_take hLR hz⟩
  refine ⟨hin, hM.erase z, fun x => ?_, ?_⟩
  · rw [hM.mem_erase_iff, hiff x, ← take_snoc hz, List.mem_append, List.mem_singleton]
    constructor
    · rintro ⟨h1, h2, h3⟩
      exact ⟨h2, fun h => h.elim h3 h1⟩
    · rintro ⟨h1, h2⟩
      exact ⟨fun h => h2 (.inr h), h1, fun h => h2 (.inl h)⟩
  · have := List.length_erase_of_mem hin
    have := List.length_pos_of_mem hin
    omega
theorem IdR.next {w : World} {A : Option Addr} {k : Nat} {z : Int} {l : List Int} (h : IdR w (.slice A (z :: l).length k) (z :: l)) : IdR w (.slice (if k = 1 then A else A.map (·.add 1)) l.length (k - 1)) l := by
  obtain ⟨A', k', e, hk, hs⟩ := h
  injection e with e1 e2 e3
  subst e1 e3
  rw [List.length_cons] at hk
  have ht := Sl.tail (c := k) (n := l.length + 1) (size := 1) (x := [.int .i64 z]) (xs := idVs l) (by simpa [idVs] using hs) rfl (by omega) hk
  rw [Nat.add_sub_cancel] at ht
  exact ⟨_, _, rfl, by omega, ht⟩
theorem IdR.first {w : World} {A : Option Addr} {k : Nat} {z : Int} {l : List Int} (h : IdR w (.slice A (z :: l).length k) (z :: l)) : ∃ g off, A = some ⟨g, off, none⟩ ∧ g < w.heap.size ∧ w.cell? ⟨g, off, none⟩ = some (.int .i64 z) := by
  obtain ⟨A', k', e, hk, hs⟩ := h
  injection e with e1 e2 e3
  subst e1
  obtain ⟨g, off, rfl, hg, hc⟩ := hs.2.2 (by rw [List.length_cons]; omega)
  exact ⟨g, off, rfl, hg, hc 0 _ rfl⟩
theorem askL3 (b : Bx) : askL (q3 b) 3 = [.int .i64 0, .float .f64 b.x0, .float .f64 b.y0, .float .f64 b.x1, .float .f64 b.y1, .int .i64 0, .int .i64 0, .int .i64 1, .float .f64 b.x0, .float .f64 b.y0, .float .f64 b.x1, .float .f64 b.y1, .int .i64 0, .int .i64 0, .int .i64 4, .float .f64 b.x0, .float .f64 b.y0, .float .f64 b.x1, .float .f64 b.y1, .int .i64 0, .int .i64 0] := rfl

set_option maxRecDepth 100000 in
set_option maxHeartbeats 16000000 in
theorem shares_calls (A : Option Addr) (n c : Nat) (k : Int) (b : Bx) (f : Nat → It) (S : Addr) (hcap : n ≤ c) (hwf : ∀ i, i < n → (Lit.int .i64 (f i).id).wf = true) (w : World) (hR : Rd w A n f) (hgv : GV w S) (h0 : 0 < w.heap.size) :
    Calls Tryd.prog 4 #[.slice A n c, .int .i64 k, .agg (bxA b)] w fun e w' => e = .returned (.bool true) ∧ Below w.heap.size w w' := by
  obtain ⟨iI, hiI, hzI0, hzI1, hzI2⟩ := info_parts infoIt
  obtain ⟨iZ, hiZ, hzZ0, hzZ1, hzZ2⟩ := info_parts infoZ
  have HR := Lib.hid hR
  have HGV := Lib.hid hgv
  have HWF := Lib.hid hwf
  have HBX := Lib.hid (kBox_calls b)
  have hbx := kBox_calls b
  obtain ⟨b0, b1, b2, b3⟩ := b
  obtain ⟨w0, hw0⟩ : ∃ w0, w0 = w.alloc (.cells #[.float .f64 b0, .float .f64 b1, .float .f64 b2, .float .f64 b3] 32) := ⟨_, rfl⟩
  have hb0 : Below w.heap.size w w0 := by rw [hw0]; exact (Below.refl _ _).alloc (Nat.le_refl _) _
  have hN0 : Blk w0 w.heap.size 32 #[.float .f64 b0, .float .f64 b1, .float .f64 b2, .float .f64 b3] := by rw [hw0]; exact Blk.new _ _ _
  have HB0 := Lib.hid hb0
  have HN0 := Lib.hid hN0
  have HW0 := Lib.hid hw0
  unfold bxA at hbx ⊢
  simp only at hbx ⊢
  have HKB := Lib.hid hbx
  by_cases g1 : 2147483647 < (n : Int)
  · clear hR hgv hwf hbx hb0 hN0 hw0
    go_enter Tryd.func4, Tryd.ntmps4
    go_wp2_with fail
    rw [← HW0.out]
    exact bodyPost_ret (v := .bool true) (by simp [results, go_sem]) rfl ⟨rfl, HB0.out⟩
  have g11 : (n : Int) ≤ 2147483647 := by omega
  have HI := Lib.hid (kItems_calls A n c f hwf w0 (hR.below hb0))
  clear g1 hR hgv hwf hbx hb0 hN0 hw0
  go_enter Tryd.func4, Tryd.ntmps4
  go_wp2_with fail
  rw [← HW0.out]
  refine HI.out.mono ?_
  rintro e w1 ⟨t1, rfl, hg1, hb1⟩
  have HB1 := Lib.hid (HB0.out.trans (hb1.mono HB0.out.size))
  have hN1 := HN0.out.below hb1 HN0.out.lt
  obtain ⟨d0, d1, d2, d3, -, -, -, -, d4⟩ := cells4 hN1
  have HN1 := Lib.hid hN1
  clear hN1
  cases t1 with
  | false =>
    clear hb1
    go_wp2_with fail
    exact bodyPost_ret (v := .bool true) (by simp [results, go_sem]) rfl ⟨rfl, HB1.out⟩
  | true =>
    have HG := Lib.hid (hg1 rfl)
    have hn4 := HG.out.few
    clear hg1 hb1
    go_wp2_with fail
    refine (HKB.out _).mono ?_
    rintro e w2 ⟨t2, rfl, hg2, hb2⟩
    have HB2 := Lib.hid (HB1.out.trans (hb2.mono HB1.out.size))
    have HN2 := Lib.hid (HN1.out.below hb2 HN1.out.lt)
    obtain ⟨e0, e1, e2, e3, -, -, -, -, e4⟩ := cells4 HN2.out
    cases t2 with
    | false =>
      clear hb2
      go_wp2_with fail
      exact bodyPost_ret (v := .bool true) (by simp [results, go_sem]) rfl ⟨rfl, HB2.out⟩
    | true =>
      have HGB := Lib.hid (hg2 rfl)
      clear hb2 hg2 d0 d1 d2 d3 d4
      by_cases g2 : k < 0
      · go_wp2_with fail
        exact bodyPost_ret (v := .bool true) (by simp [results, go_sem]) rfl ⟨rfl, HB2.out⟩
      have g22 : 0 ≤ k := by omega
      by_cases g3 : (n : Int) < k
      · go_wp2_with fail
        exact bodyPost_ret (v := .bool true) (by simp [results, go_sem]) rfl ⟨rfl, HB2.out⟩
      obtain ⟨m, rfl⟩ : ∃ m : Nat, k = (m : Int) := Int.eq_ofNat_of_zero_le g22
      have g33 : (m : Int) ≤ (n : Int) := by omega
      have hmn : m ≤ n := by omega
      obtain ⟨r, hr⟩ : ∃ r, r = n - m := ⟨_, rfl⟩
      have hnr : (m : Int) + (r : Int) = (n : Int) := by omega
      have HGt := Lib.hid (HG.out.part m r (by omega))
      have HHR := Lib.hid hr
      have HNR := Lib.hid hnr
      clear hr hnr
      have s2 := HB2.out.size
      clear g2 g3
      go_wp2_with fail
      obtain ⟨wq, hwq⟩ : ∃ wq, wq = w2.alloc (.cells #[.int .i64 0, .float .f64 b0, .float .f64 b1, .float .f64 b2, .float .f64 b3, .int .i64 0, .int .i64 0, .int .i64 1, .float .f64 b0, .float .f64 b1, .float .f64 b2, .float .f64 b3, .int .i64 0, .int .i64 0, .int .i64 4, .float .f64 b0, .float .f64 b1, .float .f64 b2, .float .f64 b3, .int .i64 0, .int .i64 0] 34) := ⟨_, rfl⟩
      have hq0 : AskR wq (some ⟨w2.heap.size, 0, none⟩) 3 (q3 ⟨b0, b1, b2, b3⟩) := by
        rw [hwq]
        exact AskR.of_sl (slBlk (n := 3) (c := 7) (heap_alloc_new w2 _) rfl (by unfold maxLen; omega)) (Nat.le_refl _)
      have hbq : Below w2.heap.size w2 wq := by rw [hwq]; exact (Below.refl _ _).alloc (Nat.le_refl _) _
      rw [← hwq]
      have HBQ := Lib.hid (HB2.out.trans (hbq.mono HB2.out.size))
      have HN3 := Lib.hid (HN2.out.below hbq HN2.out.lt)
      have sq := HBQ.out.size
      have HQ := Lib.hid hq0
      have HP1 := Lib.hid (playR_calls A (some ⟨w2.heap.size, 0, none⟩) n c 3 3 f (q3 ⟨b0, b1, b2, b3⟩) S HG.out (by omega) (fun i _ => q3_good HGB.out i) wq (HR.out.below HBQ.out) hq0 (HGV.out.below h0 HBQ.out) (by omega))
      clear hwq hq0 hbq e0 e1 e2 e3 e4
      refine HP1.out.mono ?_
      rintro e w3 ⟨A1, k1, rfl, hk1, ht1, hb3⟩
      have HT1 := Lib.hid ht1
      have HQ3 := Lib.hid (HQ.out.below hb3)
      have HN4 := Lib.hid (HN3.out.below hb3 HN3.out.lt)
      have HB3 := Lib.hid (HBQ.out.trans (hb3.mono HBQ.out.size))
      have s3 := HB3.out.size
      have hup := run_upto (P := Tryd.prog) Tryd.underlying22 hiI hzI1 A n c m (by omega) w3
      clear ht1 hb3
      go_wp2_with fail
      have HP2 := Lib.hid (playR_calls A (some ⟨w2.heap.size, 0, none⟩) m c 3 3 f (q3 ⟨b0, b1, b2, b3⟩) S (HG.out.head m hmn) (by omega) (fun i _ => q3_good HGB.out i) w3 ((HR.out.below HB3.out).head m hmn) HQ3.out (HGV.out.below h0 HB3.out) (by omega))
      clear hup
      refine HP2.out.mono ?_
      rintro e w4 ⟨A2, k2, rfl, hk2, ht2, hb4⟩
      have HT1' := Lib.hid (HT1.out.below hb4)
      have HT2 := Lib.hid ht2
      have HQ4 := Lib.hid (HQ3.out.below hb4)
      have HN5 := Lib.hid (HN4.out.below hb4 HN4.out.lt)
      have HB4 := Lib.hid (HB3.out.trans (hb4.mono HB3.out.size))
      have s4 := HB4.out.size
      have hfrom := run_from (P := Tryd.prog) Tryd.underlying22 hiI hzI1 A n c m (by omega) hcap w4
      obtain ⟨AT, hAT⟩ : ∃ AT, AT = (if c = m then A else A.map (·.add (m * 5))) := ⟨_, rfl⟩
      rw [← hAT, ← HHR.out] at hfrom
      have HAT := Lib.hid hAT
      clear ht2 hb4 hAT
      go_wp2_with fail
      have hRt := (HR.out.below HB4.out).tail c m hmn hcap
      rw [← HAT.out, ← HHR.out] at hRt
      have HP3 := Lib.hid (playR_calls AT (some ⟨w2.heap.size, 0, none⟩) r (c - m) 3 3 (fun j => f (m + j)) (q3 ⟨b0, b1, b2, b3⟩) S HGt.out (by omega) (fun i _ => q3_good HGB.out i) w4 hRt HQ4.out (HGV.out.below h0 HB4.out) (by omega))
      clear hfrom hRt
      refine HP3.out.mono ?_
      rintro e w5 ⟨A3, k3, rfl, hk3, ht3, hb5⟩
      have HT1 := Lib.hid (HT1'.out.below hb5)
      have HT2 := Lib.hid (HT2.out.below hb5)
      have HT3 := Lib.hid ht3
      have HN6 := Lib.hid (HN5.out.below hb5 HN5.out.lt)
      have HB5 := Lib.hid (HB4.out.trans (hb5.mono HB4.out.size))
      have s5 := HB5.out.size
      clear ht3 hb5 HP1 HP2 HP3 HT1' HQ HQ3 HQ4 HI HKB HB2 HB3 HB4 HBQ HB1 HN1 HN2 HN3 HN4 HN5 HN0 HB0 HW0
      obtain ⟨W, V, x0, x1, x2, x3, x4, x5⟩ := ans3 n f ⟨b0, b1, b2, b3⟩ HG.out.box HGB.out
      obtain ⟨L, X, y0, y1, y2, y3, y4, y5⟩ := ans3 m f ⟨b0, b1, b2, b3⟩ (HG.out.head m hmn).box HGB.out
      obtain ⟨R, Y, z0, z1, z2, z3, z4, z5⟩ := ans3 r (fun j => f (m + j)) ⟨b0, b1, b2, b3⟩ HGt.out.box HGB.out
      have HSH := Lib.hid (shared (R := R) (Y := Y) HG.out HGB.out hmn x3 y3 (by rw [← HHR.out]; exact z3) x4 y4 (by rw [← HHR.out]; exact z4) x5 y5 z5)
      obtain ⟨a1, o1, A10, A11, k10, k11, rfl, t1, c12⟩ := told3_open HT1.out
      obtain ⟨a2, o2, A20, A21, k20, k21, rfl, t2, c22⟩ := told3_open HT2.out
      obtain ⟨a3, o3, A30, A31, k30, k31, rfl, t3, c32⟩ := told3_open HT3.out
      rw [x0, x1] at t1
      rw [y0, y1] at t2
      rw [z0, z1] at t3
      rw [x2] at c12
      rw [y2] at c22
      rw [z2] at c32
      simp only [an0] at t1 t2 t3 c12 c22 c32
      have la1 := t1.lt
      have la2 := t2.lt
      have la3 := t3.lt
      have TA1 := Lib.hid t1
      have TA2 := Lib.hid t2
      have TA3 := Lib.hid t3
      clear x0 x1 x2 x3 x4 x5 y0 y1 y2 y3 y4 y5 z0 z1 z2 z3 z4 z5 HT1 HT2 HT3 t1 t2 t3
      have u1 : IntKind.i64.wrap ((m : Int) + (r : Int)) = (n : Int) := by rw [HNR.out]; exact IntWalk.i64_in _ (by omega)
      go_wp2_with fail
      go_quiet (fail)
      have hb6 : Below w5.heap.size w5 (w5.drewN nq) := drewN_below _ _ _
      obtain ⟨w6, hw6⟩ : ∃ w6, w6 = w5.drewN nq := ⟨_, rfl⟩
      rw [← hw6] at hb6 ⊢
      have HB6 := Lib.hid (HB5.out.trans (hb6.mono HB5.out.size))
      have s6 := HB6.out.size
      have TB1 := Lib.hid (TA1.out.below hb6)
      have TB2 := Lib.hid (TA2.out.below hb6)
      have TB3 := Lib.hid (TA3.out.below hb6)
      have HN7 := Lib.hid (HN6.out.below hb6 HN6.out.lt)
      have hmm := @run_makeMap Tryd.prog
      have HX0 := Lib.hid (XM.made w6)
      clear hb6 hw6 TA1 TA2 TA3 HN6 HB5 la1 la2 la3 c12 c22 c32 u1
      go_wp2_with fail
      go_loopg [121] n (fun q ci wr => ∃ (i : Nat) (g : Int → Option Bx), i + q = n ∧ ci = .int .i64 (i : Nat) ∧ XM wr w6.heap.size i g ∧ (∀ j, j < i → g (f j).id = some (f j).b) ∧ Below w6.heap.size w6 wr)
      case atStart => exact ⟨0, _, by omega, by go_num, HX0.out, fun j hj => absurd hj (by omega), (Below.refl _ _).alloc (Nat.le_refl _) _⟩
      case round =>
        obtain ⟨i, g, hi', rfl, hxm, hgj, hbl⟩ := hrel
        have HIL := Lib.hid hi'
        have HXM := Lib.hid hxm
        have HGJ := Lib.hid hgj
        have HBL := Lib.hid hbl
        have hin : i ≤ n := by omega
        have hlw := hxm.lt
        have sr := hbl.size
        clear hi' hxm hgj hbl
        by_cases hlt : i < n
        ·
          --[
          obtain ⟨gb, off, hA, hgb, hcells⟩ := (HR.out.below HB6.out) (by omega)
          have d0 := (HBL.out.cell (p := ⟨gb, off + i * 5 + 0, none⟩) hgb).trans (hcells i hlt 0 (by omega))
          have d1 := (HBL.out.cell (p := ⟨gb, off + i * 5 + 1, none⟩) hgb).trans (hcells i hlt 1 (by omega))
          have d2 := (HBL.out.cell (p := ⟨gb, off + i * 5 + 2, none⟩) hgb).trans (hcells i hlt 2 (by omega))
          have d3 := (HBL.out.cell (p := ⟨gb, off + i * 5 + 3, none⟩) hgb).trans (hcells i hlt 3 (by omega))
          have d4 := (HBL.out.cell (p := ⟨gb, off + i * 5 + 4, none⟩) hgb).trans (hcells i hlt 4 (by omega))
          rw [Nat.add_zero] at d0
          simp only [itC] at d0 d1 d2 d3 d4
          obtain ⟨q, hfi⟩ : ∃ q, f i = q := ⟨_, rfl⟩
          rw [hfi] at d0 d1 d2 d3 d4
          have hwf := HWF.out i hlt
          rw [hfi] at hwf
          have HFI := Lib.hid hfi
          subst hA
          have hltI : (i : Int) < (n : Int) := by omega
          have hbB : Below wr.heap.size wr (wr.alloc (.cells #[.float .f64 q.b.x0, .float .f64 q.b.y0, .float .f64 q.b.x1, .float .f64 q.b.y1, .int .i64 q.id] 43)) := (Below.refl _ _).alloc (Nat.le_refl _) _
          have HBL1 := Lib.hid (HBL.out.trans (hbB.mono HBL.out.size))
          have HXM1 := Lib.hid (HXM.out.below hbB)
          have HWQ := Lib.hid hwf
          clear hfi hcells hwf hbB
          go_wp2_with (refine wpList_put_xm (o := ⟨none, .mapUpdate _ _ _ _, _, _, _, _⟩) _ rfl _ _ _ 41 rfl Tryd.underlying41 w6.heap.size i g rfl HXM1.out q.id rfl HWQ.out q.b rfl (by unfold maxLen; omega) ?_; intro wc hm4 hg4
                       have HM4 := Lib.hid hm4
                       have HBC := Lib.hid (HBL1.out.grown hg4 HBL1.out.size (fun x hx => by have : w6.heap.size = x := Option.some.inj hx; omega))
                       clear hm4 hg4)
          go_roundg (n - (i + 1))
          case measure => have := HIL.out; omega
          case rel =>
            refine ⟨i + 1, _, by omega, by go_num, HM4.out, fun j hj => ?_, HBC.out⟩
            by_cases e : j = i
            · subst e; rw [HFI.out, if_pos rfl]
            · have hne := HG.out.ids j i (by omega) hlt
              rw [HFI.out] at hne
              rw [if_neg hne]
              exact HGJ.out j (by omega)
          --]
        · have hin2 : i = n := by omega
          obtain ⟨w8, hw8⟩ : ∃ w8, w8 = wr := ⟨_, rfl⟩
          subst hw8
          have hltI : (n : Int) ≤ (i : Int) := by omega
          rw [hin2] at HXM HGJ
          clear hin2
          have HB8 := Lib.hid (HB6.out.trans (HBL.out.mono HB6.out.size))
          have s8 := HB8.out.size
          have TB1 := Lib.hid (TB1.out.below HBL.out)
          have TB2 := Lib.hid (TB2.out.below HBL.out)
          have TB3 := Lib.hid (TB3.out.below HBL.out)
          have HN8 := Lib.hid (HN7.out.below HBL.out HN7.out.lt)
          have c10 := TB1.out.c0
          have la1 := TB1.out.lt
          have HS0 := Lib.hid (SM.made w8)
          have hw4 := HSH.out.few.1
          clear HX0
          go_wp2_with fail
          go_loopg [137] W.length (fun q ci ws => ∃ (i : Nat), i + q = W.length ∧ ci = .int .i64 (i : Nat) ∧ SM ws w8.heap.size i (W.take i) ∧ Below w8.heap.size w8 ws)
          case atStart => exact ⟨0, by omega, by go_num, by rw [List.take_zero]; exact HS0.out, (Below.refl _ _).alloc (Nat.le_refl _) _⟩
          case round =>
            obtain ⟨i, hi', rfl, hsm, hbl⟩ := hrel
            have HIL := Lib.hid hi'
            have HSM := Lib.hid hsm
            have HBS := Lib.hid hbl
            have hin : i ≤ W.length := by omega
            have hlw := hsm.lt
            have ss := hbl.size
            clear hi' hsm hbl
            by_cases hlt : i < W.length
            ·
              --[
              obtain ⟨z, hz⟩ : ∃ z, W[i]? = some z := ⟨W[i], List.getElem?_eq_getElem hlt⟩
              obtain ⟨gb, off, hA, hgb, hcells⟩ := TB1.out.s0.2.2 (by omega)
              have d0 : wr.cell? ⟨gb, off + i, none⟩ = some (.int .i64 z) := (HBS.out.cell (p := ⟨gb, off + i, none⟩) hgb).trans (hcells i _ (by unfold idVs; rw [List.getElem?_map, hz]; rfl))
              have hnew := nodup_take HSH.out.nodup hz
              have htk := take_snoc hz
              have hwf : (Lit.int .i64 z).wf = true := by
                obtain ⟨j, hj, e⟩ := HSH.out.ids z (List.mem_of_getElem? hz)
                rw [← e]; exact HWF.out j hj
              have HTK := Lib.hid htk
              have HNEW := Lib.hid hnew
              have HWZ := Lib.hid hwf
              subst hA
              have hltI : (i : Int) < (W.length : Int) := by omega
              clear hz hcells hnew htk hwf
              go_wp2_with (refine wpList_put_sm (o := ⟨none, .mapUpdate _ _ _ _, _, _, _, _⟩) _ rfl _ _ _ 44 rfl Tryd.underlying44 w8.heap.size i (W.take i) rfl HSM.out z rfl HWZ.out HNEW.out rfl (by unfold maxLen; omega) ?_; intro wc hm4 hg4
                           have HM4 := Lib.hid hm4
                           have HBC := Lib.hid (HBS.out.grown hg4 HBS.out.size (fun x hx => by have : w8.heap.size = x := Option.some.inj hx; omega))
                           clear hm4 hg4)
              go_roundg (W.length - (i + 1))
              case measure => have := HIL.out; omega
              case rel => exact ⟨i + 1, by omega, by go_num, by rw [← HTK.out]; exact HM4.out, HBC.out⟩
              --]
            · have hin2 : i = W.length := by omega
              have hltI : (W.length : Int) ≤ (i : Int) := by omega
              rw [hin2, List.take_length] at HSM
              clear hin2
              have HB9 := Lib.hid (HB8.out.trans (HBS.out.mono HB8.out.size))
              have s9 := HB9.out.size
              have TC1 := Lib.hid (TB1.out.below HBS.out)
              have TC2 := Lib.hid (TB2.out.below HBS.out)
              have TC3 := Lib.hid (TB3.out.below HBS.out)
              have HN9 := Lib.hid (HN8.out.below HBS.out HN8.out.lt)
              have HXM9 := Lib.hid (HXM.out.below HBS.out)
              clear HN7 c10 la1 HBL HB6 HIL
              obtain ⟨w9, hw9⟩ : ∃ w9, w9 = wr := ⟨_, rfl⟩
              subst hw9
              have c20 := TC2.out.c0
              have c30 := TC3.out.c0
              have la2 := TC2.out.lt
              have la3 := TC3.out.lt
              have hb10 : Below w9.heap.size w9 (w9.alloc (.cells #[] 3)) := (Below.refl _ _).alloc (Nat.le_refl _) _
              have HF1 := Lib.hid (show ∀ w' : World, w'.heap = (w9.alloc (.cells #[] 3)).heap → w'.ownsRow w9.heap.size 3 1 (.slice (some ⟨w9.heap.size, 0, none⟩) 0 0) 0 [] ∧ Sl w' w'.heap.size A20 L.length 1 (idVs L) ∧ w9.heap.size ≤ w'.heap.size from fun w' hh => by
                have e : w' = { w' with heap := (w9.alloc (.cells #[] 3)).heap } := by rw [← hh]
                refine ⟨emptyOwn (by rw [hh]; exact heap_alloc_new w9 _) (Nat.le_refl _), ?_, by rw [hh]; simp⟩
                have h1 := TC2.out.s0.up hb10
                unfold Sl World.cell? at h1 ⊢
                rw [hh]
                exact h1)
              have HF2 := Lib.hid (show ∀ (w' w'' : World), w'.grownBy w'' (Value.slice (some ⟨w9.heap.size, 0, none⟩) 0 0).ownBlock → Below w9.heap.size w9 w' → Below w9.heap.size w9 w'' ∧ Sl w'' w''.heap.size A30 R.length 1 (idVs R) from fun w' w'' hg hb => by
                have hb2 : Below w9.heap.size w9 w'' := hb.grown hg hb.size (fun q hq => by have : w9.heap.size = q := Option.some.inj hq; omega)
                exact ⟨hb2, TC3.out.s0.up hb2⟩)
              have HF3 := Lib.hid (show ∀ (w' w'' : World) (v : Value) (xs : List Value) (nn : Nat), w'.grownBy w'' v.ownBlock → Below w9.heap.size w9 w' → w'.ownsRow w9.heap.size 3 1 v nn xs → Below w9.heap.size w9 w'' from fun w' w'' v xs nn hg hb ho => hb.grown hg hb.size (fun q hq => (ho.lt q hq).1))
              have HB10 := Lib.hid hb10
              have HKS := Lib.hid (show ∀ w' : World, Below w9.heap.size w9 w' → w'.cell? ⟨a2, o2, none⟩ = some (.slice A20 L.length k20) ∧ w'.cell? ⟨a3, o3, none⟩ = some (.slice A30 R.length k30) from fun w' hb =>
                ⟨(hb.cell (p := ⟨a2, o2, none⟩) la2).trans c20, (hb.cell (p := ⟨a3, o3, none⟩) la3).trans c30⟩)
              have hfw := HSH.out.few.1
              have hpl := HSH.out.perm.length_eq
              rw [List.length_append] at hpl
              have HPL := Lib.hid hpl
              have hl4 : L.length + R.length ≤ 400 := by omega
              clear hpl hb10
              go_wp2_with fail
              go_region_held3 (fun w' => w'.cell? ⟨a2, o2, none⟩ = some (.slice A20 L.length k20) ∧ w'.cell? ⟨a3, o3, none⟩ = some (.slice A30 R.length k30))
                (first
                  | go_keep
                  | (exact HKS.out _ hb7)
                  | (exact HKS.out _ hbA))
                (first
                  | (refine step_append_sl _ (by rfl) _ _ _ (by rfl) w9.heap.size 3 iZ _ 1 8 Tryd.underlying36 hiZ hzZ0 hzZ1 hzZ2 rfl (by decide) (.slice (some ⟨w9.heap.size, 0, none⟩) 0 0) 0 [] (by rfl) (HF1.out _ rfl).1
                      _ A20 L.length k20 (idVs L) (by rfl) (HF1.out _ rfl).2.1 (idVs_one _) (by unfold maxLen; omega) (by omega) (HF1.out _ rfl).2.2 ?_; intro A5 c5 w7 ho7 hg7 hat7
                     obtain ⟨hb7, hsl7⟩ := HF2.out _ w7 hg7 HB10.out.drew)
                  | (refine step_append_sl _ (by rfl) _ _ _ (by rfl) w9.heap.size 3 iZ _ 1 8 Tryd.underlying36 hiZ hzZ0 hzZ1 hzZ2 rfl (by decide) (.slice A5 (0 + L.length) c5) (0 + L.length) ([] ++ idVs L) (by rfl) ho7
                      _ A30 R.length k30 (idVs R) (by rfl) hsl7 (idVs_one _) (by unfold maxLen; omega) (by omega) hb7.size ?_; intro A6 c6 wA hoA hgA hatA
                     have hbA := HF3.out _ wA _ _ _ hgA hb7 ho7))
              simp only [List.nil_append, idVs_app] at hoA
              rw [Nat.zero_add, ← HPL.out] at hoA ⊢
              have hPI : (L.length : Int) + (R.length : Int) = (W.length : Int) := by have := HPL.out; omega
              try rw [hPI]
              clear hPI
              have HOA := Lib.hid hoA
              have HBA := Lib.hid (HBS.out.trans (hbA.mono HBS.out.size))
              have sA := HBA.out.size
              have s89 := HBS.out.size
              have HSMA := Lib.hid (HSM.out.below hbA)
              have hsm8 := HSMA.out.lt
              have HLR := Lib.hid (HSH.out.perm.nodup_iff.1 HSH.out.nodup)
              clear HF1 HF2 HF3 HKS hgA hatA hbA hoA ho7 hg7 hat7 hb7 hsl7 c20 c30 la2 la3 TC1 TC2 TC3 HN9 HXM9 HB9
              go_wp2_with fail
              go_loopg [156] W.length (fun q ci ws => ∃ (j : Nat) (M : List Int), j + q = W.length ∧ ci = .int .i64 (j : Nat) ∧ SM ws w8.heap.size W.length M ∧ M.Nodup ∧ (∀ x, x ∈ M ↔ x ∈ W ∧ x ∉ (L ++ R).take j) ∧ M.length + j = W.length ∧ ws.ownsRow w9.heap.size 3 1 (.slice A6 W.length c6) W.length (idVs (L ++ R)) ∧ Below w8.heap.size w8 ws)
              case atStart => exact ⟨0, W, by omega, by go_num, HSMA.out, HSH.out.nodup, fun x => by simp, by omega, HOA.out, HBA.out⟩
              case round =>
                obtain ⟨j, M, hi', rfl, hsm, hnd, hiff, hml, hown, hbl⟩ := hrel
                have HIL := Lib.hid hi'
                have HSM := Lib.hid hsm
                have HND := Lib.hid hnd
                have HIFF := Lib.hid hiff
                have HML := Lib.hid hml
                have HOW := Lib.hid hown
                have HBJ := Lib.hid hbl
                have hjn : j ≤ W.length := by omega
                have sj := hbl.size
                have hlr := HPL.out
                have HLRL : Hid ((L ++ R).length = W.length) := Lib.hid (by rw [List.length_append]; exact hlr.symm)
                clear hi' hsm hnd hiff hml hown hbl hlr
                by_cases hlt : j < W.length
                ·
                  --[
                  obtain ⟨z, hz⟩ : ∃ z, (L ++ R)[j]? = some z := ⟨(L ++ R)[j]'(by rw [HLRL.out]; exact hlt), List.getElem?_eq_getElem _⟩
                  obtain ⟨gb, off, hA, hgb, hcells⟩ := (Sl.of_own HOW.out).2.2 (by omega)
                  have d0 : wr.cell? ⟨gb, off + j, none⟩ = some (.int .i64 z) := hcells j _ (by unfold idVs; rw [List.getElem?_map, hz]; rfl)
                  obtain ⟨st1, st2, st3, st4⟩ := del_step HLR.out HSH.out.perm hz HND.out HIFF.out HML.out
                  have hwf : (Lit.int .i64 z).wf = true := by
                    obtain ⟨i, hi, e⟩ := HSH.out.ids z (HSH.out.perm.mem_iff.2 (List.mem_of_getElem? hz))
                    rw [← e]; exact HWF.out i hi
                  have hlk := HSM.out.lookup Tryd.underlying44 z hwf
                  rw [show decide (z ∈ M) = true by simp [st1]] at hlk
                  have ST1 := Lib.hid st1
                  have ST2 := Lib.hid st2
                  have ST3 := Lib.hid st3
                  have ST4 := Lib.hid st4
                  have HWZ := Lib.hid hwf
                  have hltI : (j : Int) < (W.length : Int) := by omega
                  clear hz hcells hwf st1 st2 st3 st4
                  subst hA
                  go_wp2_with (at_delete; refine wpList_del_sm _ rfl _ _ 44 rfl Tryd.underlying44 w8.heap.size W.length M rfl HSM.out z rfl HWZ.out HND.out ST1.out ?_; intro wc hm4 hg4
                               have HM4 := Lib.hid hm4
                               have HBC := Lib.hid (HBJ.out.grown hg4 HBJ.out.size (fun x hx => by have : w8.heap.size = x := Option.some.inj hx; omega))
                               have HOC := Lib.hid (HOW.out.kept hg4 (.inr (fun e => by have := (HOW.out.lt _ e).1; omega)))
                               clear hm4 hg4)
                  go_roundg (W.length - (j + 1))
                  case measure => have := HIL.out; omega
                  case rel => exact ⟨j + 1, M.erase z, by omega, by go_num, HM4.out, ST2.out, ST3.out, ST4.out, HOC.out, HBC.out⟩
                  --]
                · have hjn2 : j = W.length := by omega
                  have hltI : (W.length : Int) ≤ (j : Int) := by omega
                  obtain ⟨wB, hwB⟩ : ∃ wB, wB = wr := ⟨_, rfl⟩
                  subst hwB
                  have hm0 : M.length = 0 := by have := HML.out; omega
                  have hlen : ∀ (ty : TypeId) (d : Nat), (Builtin.len_ #[44] ty #[.map (some w8.heap.size)]).run Tryd.prog (wB.drewN d) = .ok (.int .i64 0) (wB.drewN d) := fun ty d => by
                    have := (HSM.out.below (drewN_below _ _ d)).len Tryd.underlying44 ty
                    rw [hm0] at this
                    exact this
                  have HBB := Lib.hid (HB8.out.trans (HBJ.out.mono HB8.out.size))
                  have sB := HBB.out.size
                  have TC1 := Lib.hid (TB1.out.below HBJ.out)
                  have TC2 := Lib.hid (TB2.out.below HBJ.out)
                  have TC3 := Lib.hid (TB3.out.below HBJ.out)
                  have HNB := Lib.hid (HN8.out.below HBJ.out HN8.out.lt)
                  have HXB := Lib.hid (HXM.out.below HBJ.out)
                  have c11 := TC1.out.c1
                  have c21 := TC2.out.c1
                  have c31 := TC3.out.c1
                  have la1 := TC1.out.lt
                  have la2 := TC2.out.lt
                  have la3 := TC3.out.lt
                  have hvl := HSH.out.all.length_eq
                  rw [List.length_append] at hvl
                  have hv4 := HSH.out.few.2
                  simp only [List.length_map] at c11 c21 c31
                  have v1 : IntKind.i64.wrap ((X.length : Int) + (Y.length : Int)) = (V.length : Int) := by rw [IntWalk.i64_in _ (by omega)]; omega
                  have HVL := Lib.hid hvl
                  clear hm0 hjn2 hvl HML HIFF HND HSM HOW HLRL TB1 TB2 TB3 HN8 HXM HB8 HBJ HBA HBS HSMA HOA HIL
                  go_wp2_with fail
                  go_quiet (fail)
                  have hbC : Below wB.heap.size wB (wB.drewN nq) := drewN_below _ _ _
                  obtain ⟨wC, hwC⟩ : ∃ wC, wC = wB.drewN nq := ⟨_, rfl⟩
                  rw [← hwC] at hbC ⊢
                  have kk21 := (hbC.cell (p := ⟨a2, o2 + 10, none⟩) la2).trans c21
                  have kk31 := (hbC.cell (p := ⟨a3, o3 + 10, none⟩) la3).trans c31
                  have kk11 := (hbC.cell (p := ⟨a1, o1 + 10, none⟩) la1).trans c11
                  have m1 := Nat.lt_of_lt_of_le la1 hbC.size
                  have m2 := Nat.lt_of_lt_of_le la2 hbC.size
                  have m3 := Nat.lt_of_lt_of_le la3 hbC.size
                  have HBC := Lib.hid hbC
                  clear hwC hbC c11 c21 c31 la1 la2 la3 hlen v1
                  go_wp2_with fail
                  go_quiet (fail)
                  have hbD : Below wC.heap.size wC (wC.drewN nq) := drewN_below _ _ _
                  obtain ⟨wD, hwD⟩ : ∃ wD, wD = wC.drewN nq := ⟨_, rfl⟩
                  rw [← hwD] at hbD ⊢
                  have l11 := (hbD.cell (p := ⟨a1, o1 + 10, none⟩) m1).trans kk11
                  have n1 := Nat.lt_of_lt_of_le m1 hbD.size
                  have hbBD := HBC.out.trans (hbD.mono HBC.out.size)
                  have HBD := Lib.hid (HBB.out.trans (hbBD.mono HBB.out.size))
                  have sD := HBD.out.size
                  have TD1 := Lib.hid (TC1.out.below hbBD)
                  have TD2 := Lib.hid (TC2.out.below hbBD)
                  have TD3 := Lib.hid (TC3.out.below hbBD)
                  have HND := Lib.hid (HNB.out.below hbBD HNB.out.lt)
                  have HXD := Lib.hid (HXB.out.below hbBD)
                  have hI1 : IdR wD (.slice A21 (X.map (·.id)).length k21) (X.map (·.id)) := ⟨_, _, rfl, TD2.out.h1, TD2.out.s1⟩
                  have hI2 : IdR wD (.slice A31 (Y.map (·.id)).length k31) (Y.map (·.id)) := ⟨_, _, rfl, TD3.out.h1, TD3.out.s1⟩
                  rw [List.length_map] at hI1 hI2
                  have HI1 := Lib.hid hI1
                  have HI2 := Lib.hid hI2
                  clear hbD hwD hbBD hI1 hI2 kk11 kk21 kk31 m1 m2 m3 HBC HBB TC1 TC2 TC3 HNB HXB sB
                  go_wp2_with fail
                  go_loopg [22, 23, 202] V.length (fun q vl vr ci ws => ∃ (i : Nat) (P Q : List It) (B1 B2 : Option Addr) (j1 j2 : Nat), i + q = V.length ∧ ci = .int .i64 (i : Nat) ∧ vl = .slice B1 P.length j1 ∧ vr = .slice B2 Q.length j2 ∧
                    IdR ws (.slice B1 P.length j1) (P.map (·.id)) ∧ IdR ws (.slice B2 Q.length j2) (Q.map (·.id)) ∧ ((V.drop i).map (fun p => far ⟨b0, b1, b2, b3⟩ p.b)).Perm (P.map (fun p => far ⟨b0, b1, b2, b3⟩ p.b) ++ Q.map (fun p => far ⟨b0, b1, b2, b3⟩ p.b)) ∧
                    (P.map (fun p => far ⟨b0, b1, b2, b3⟩ p.b)).Pairwise (· ≤ ·) ∧ (Q.map (fun p => far ⟨b0, b1, b2, b3⟩ p.b)).Pairwise (· ≤ ·) ∧ (∀ p ∈ P, p ∈ V) ∧ (∀ p ∈ Q, p ∈ V) ∧ Below wD.heap.size wD ws)
                  case atStart => exact ⟨0, X, Y, A21, A31, k21, k31, by omega, by go_num, rfl, rfl, HI1.out, HI2.out, by rw [List.drop_zero, ← List.map_append]; exact HSH.out.all.map _, HSH.out.s2, HSH.out.s3, fun p hp => HSH.out.all.mem_iff.2 (List.mem_append_left _ hp), fun p hp => HSH.out.all.mem_iff.2 (List.mem_append_right _ hp), Below.refl _ _⟩
                  case round =>
                    obtain ⟨i, P, Q, B1, B2, j1, j2, hi', rfl, rfl, rfl, hp1, hp2, hperm, hso1, hso2, hPV, hQV, hbl⟩ := hrel
                    have HIL := Lib.hid hi'
                    have HP1 := Lib.hid hp1
                    have HP2 := Lib.hid hp2
                    have HPM := Lib.hid hperm
                    have HO1 := Lib.hid hso1
                    have HO2 := Lib.hid hso2
                    have HPV := Lib.hid hPV
                    have HQV := Lib.hid hQV
                    have HBJ := Lib.hid hbl
                    have hin3 : i ≤ V.length := by omega
                    have sj := hbl.size
                    clear hi' hp1 hp2 hperm hso1 hso2 hPV hQV hbl
                    by_cases hlt : i < V.length
                    · have hltI : (i : Int) < (V.length : Int) := by omega
                      have HXJ := Lib.hid (HXD.out.below HBJ.out)
                      have HNJ := Lib.hid (HND.out.below HBJ.out HND.out.lt)
                      have TD := TD1.out.below HBJ.out
                      obtain ⟨p, hp⟩ : ∃ p, V[i]? = some p := ⟨V[i], List.getElem?_eq_getElem hlt⟩
                      obtain ⟨gb, off, hA, hgb, hcells⟩ := TD.s1.2.2 (by rw [List.length_map]; omega)
                      have d0 : wr.cell? ⟨gb, off + i, none⟩ = some (.int .i64 p.id) := hcells i _ (by unfold idVs; rw [List.getElem?_map, List.getElem?_map, hp]; rfl)
                      have HLK := Lib.hid (show ∀ p ∈ V, (Lit.int .i64 p.id).wf = true ∧ Gd p.b ∧ ∀ w' : World, Below wr.heap.size wr w' → (Instr.lookup 41 (.map (some w6.heap.size)) (.int .i64 p.id) false).run Tryd.prog w' = .ok (.agg #[.float .f64 p.b.x0, .float .f64 p.b.y0, .float .f64 p.b.x1, .float .f64 p.b.y1]) w' from fun p hp => by
                        obtain ⟨j, hj, e⟩ := HSH.out.its p hp
                        have hwf := HWF.out j hj
                        have hg := HGJ.out j hj
                        have hbx := HG.out.box j hj
                        rw [e] at hwf hg hbx
                        exact ⟨hwf, hbx, fun w' hb => (HXJ.out.below hb).lookup Tryd.underlying41 p.id hwf hg⟩)
                      have HBV := Lib.hid (List.mem_of_getElem? hp)
                      have hlk := (HLK.out p HBV.out).2.2 wr (Below.refl _ _)
                      obtain ⟨e0, e1, e2, e3, -, -, -, -, e4⟩ := cells4 HNJ.out
                      have HFAR := Lib.hid (show ∀ p ∈ V, ∀ w' : World, Calls Tryd.prog 11 #[.agg #[.float .f64 p.b.x0, .float .f64 p.b.y0, .float .f64 p.b.x1, .float .f64 p.b.y1], .agg #[.float .f64 b0, .float .f64 b1, .float .f64 b2, .float .f64 b3]] w' fun e w'' => e = .returned (.int .i64 (far ⟨b0, b1, b2, b3⟩ p.b)) ∧ Below w'.heap.size w' w'' from fun p hp w' => kFar_calls p.b ⟨b0, b1, b2, b3⟩ (HLK.out p hp).2.1 HGB.out w')
                      have HPE := Lib.hid hp
                      clear hp hcells TD
                      subst hA
                      go_wp2_with fail
                      refine (HFAR.out p HBV.out _).mono ?_
                      rintro e wE ⟨rfl, hbE⟩
                      clear hlk d0 e0 e1 e2 e3 e4
                      have HBE := Lib.hid hbE
                      clear hbE
                      go_wp2_with fail
                      have HQ1 := Lib.hid (HP1.out.below HBE.out)
                      have HQ2 := Lib.hid (HP2.out.below HBE.out)
                      have HNE := Lib.hid (HNJ.out.below HBE.out HNJ.out.lt)
                      have HLE := Lib.hid (show ∀ p ∈ V, ∀ w' : World, Below wE.heap.size wE w' → (Instr.lookup 41 (.map (some w6.heap.size)) (.int .i64 p.id) false).run Tryd.prog w' = .ok (.agg #[.float .f64 p.b.x0, .float .f64 p.b.y0, .float .f64 p.b.x1, .float .f64 p.b.y1]) w' from fun p hp w' hb => (HLK.out p hp).2.2 w' (HBE.out.trans (hb.mono HBE.out.size)))
                      have sE := HBE.out.size
                      obtain ⟨lb, hlb⟩ : ∃ lb, lb = leftB (fun p => far ⟨b0, b1, b2, b3⟩ p.b) P Q := ⟨_, rfl⟩
                      have HLB := Lib.hid hlb
                      obtain ⟨dI, hdI⟩ : ∃ dI, dI = far ⟨b0, b1, b2, b3⟩ p.b := ⟨_, rfl⟩
                      have HDI := Lib.hid hdI
                      rw [← hdI]
                      obtain ⟨nr, hnr⟩ : ∃ nr, nr = Q.length := ⟨_, rfl⟩
                      obtain ⟨np, hnp⟩ : ∃ np, np = P.length := ⟨_, rfl⟩
                      have HNRQ := Lib.hid hnr
                      have HNPP := Lib.hid hnp
                      rw [← hnr, ← hnp]
                      clear hlb hdI hnr hnp
                      go_cut [235] (fun t wx => t = .bool lb ∧ Below wE.heap.size wE wx)
                      case first =>
                        --[
                        cases Q with
                        | nil =>
                          have hl2 : lb = true := by rw [HLB.out]; cases P <;> rfl
                          have hn0 : nr = 0 := HNRQ.out
                          subst hl2 hn0
                          go_quiet (fail)
                          go_wp2_with fail
                          go_meet
                          exact ⟨rfl, drewN_below _ _ _⟩
                        | cons y Q =>
                          have hqn : ((nr : Int) == 0) = false := by rw [HNRQ.out, List.length_cons, beq_eq_false_iff_ne]; omega
                          have HQV2 := HQV.out y (by simp)
                          cases P with
                          | nil =>
                            have hl2 : lb = false := HLB.out
                            have hn0 : np = 0 := HNPP.out
                            subst hl2 hn0
                            go_quiet (fail)
                            go_wp2_with fail
                            go_meet
                            exact ⟨rfl, drewN_below _ _ _⟩
                          | cons x P =>
                            have hl2 : lb = decide (far ⟨b0, b1, b2, b3⟩ x.b ≤ far ⟨b0, b1, b2, b3⟩ y.b) := HLB.out
                            have hpn : (0 : Int) < (np : Int) := by rw [HNPP.out, List.length_cons]; omega
                            have HPV2 := HPV.out x (by simp)
                            have hx1 := HQ1.out
                            have hx2 := HQ2.out
                            rw [← List.length_map (f := fun p : It => p.id), List.map_cons] at hx1 hx2
                            obtain ⟨g1, of1, rfl, hg1, hv1⟩ := IdR.first hx1
                            obtain ⟨g2, of2, rfl, hg2, hv2⟩ := IdR.first hx2
                            have hnp : 0 < np := by omega
                            have hnq : (0 : Int) < (nr : Int) := by
                              have h := beq_eq_false_iff_ne.1 hqn
                              have : (0 : Int) ≤ (nr : Int) := Int.natCast_nonneg _
                              omega
                            have hnq2 : 0 < nr := by omega
                            obtain ⟨e0, e1, e2, e3, -, -, -, -, -⟩ := cells4 HNE.out
                            have f1 := cell_regrown hv1
                            have f2 := cell_regrown hv2
                            have f3 := cell_regrown e0
                            have f4 := cell_regrown e1
                            have f5 := cell_regrown e2
                            have f6 := cell_regrown e3
                            have lx := fun d os => HLE.out x HPV2 _ (below_regrown wE d os)
                            have ly := fun d os => HLE.out y HQV2 _ (below_regrown wE d os)
                            have cx := fun d os => Calls.regrown_of (HFAR.out x HPV2 (Go.Sort.grow (redrawn wE d) os))
                            have cy := fun d os => Calls.regrown_of (HFAR.out y HQV2 (Go.Sort.grow (redrawn wE d) os))
                            generalize far ⟨b0, b1, b2, b3⟩ x.b = dx at hl2 cx
                            generalize far ⟨b0, b1, b2, b3⟩ y.b = dy at hl2 cy
                            have CX := Lib.hid cx
                            have CY := Lib.hid cy
                            clear hx1 hx2 hv1 hv2 e0 e1 e2 e3 cx cy
                            refine wp_region_quiet_below (by kernel_rfl) (by kernel_rfl) ?_
                            iterate 14 (go_big_quiet_step (fail))
                            go_big_quiet_step (exact CX.out _ _)
                            iterate 6 (go_big_quiet_step (fail))
                            go_big_quiet_step (exact CY.out _ _)
                            iterate 3 (go_big_quiet_step (fail))
                            refine wpQuiet_nil ?_
                            intro _ hw'
                            obtain ⟨⟨dq, osq⟩, hw''⟩ := hw'
                            subst hw''
                            go_wp2_with fail
                            go_meet
                            exact ⟨by rw [hl2], below_regrown wE dq osq⟩
                        --]
                      case rest =>
                        obtain ⟨rfl, hbF⟩ := hcut
                        have hdr : V.drop i = p :: V.drop (i + 1) := by
                          obtain ⟨h, e⟩ := List.getElem?_eq_some_iff.1 HPE.out
                          rw [← e]; exact List.drop_eq_getElem_cons h
                        have hso : ((V.drop i).map (fun p => far ⟨b0, b1, b2, b3⟩ p.b)).Pairwise (· ≤ ·) := by rw [List.map_drop]; exact HSH.out.s1.sublist (List.drop_sublist _ _)
                        have hpm := HPM.out
                        rw [hdr, List.map_cons] at hso hpm
                        have HSO := Lib.hid hso
                        have HPM2 := Lib.hid hpm
                        clear hdr hso hpm
                        cases lb with
                        | true =>
                          obtain ⟨x, P', hP, hxd, hpm2⟩ := pick_left HLB.out.symm HPM2.out HSO.out HO1.out HO2.out
                          subst hP
                          have hx1 := HQ1.out.below hbF
                          rw [← List.length_map (f := fun p : It => p.id), List.map_cons] at hx1
                          have hnx := IdR.next hx1
                          have hkj : P'.length + 1 ≤ j1 := by obtain ⟨A', k', e, hk, hs⟩ := hx1; injection e with e1 e2 e3; rw [← e3, List.length_cons, List.length_map] at hk; exact hk
                          obtain ⟨g1, of1, hB1, hg1, hv1⟩ := IdR.first hx1
                          obtain ⟨m', hm'⟩ : ∃ m', m' = np - 1 := ⟨_, rfl⟩
                          have hN1 : np = P'.length + 1 := HNPP.out
                          have hnp : 0 < np := by omega
                          have hnp2 : (0 : Int) < (np : Int) := by omega
                          have hmP : P'.length = m' := by omega
                          obtain ⟨j', hj'⟩ : ∃ j', j' = j1 - 1 := ⟨_, rfl⟩
                          have hrt := fun W => run_tail (P := Tryd.prog) Tryd.underlying36 hiZ hzZ1 B1 np j1 (by omega) (by omega) W
                          obtain ⟨BT, hBT⟩ : ∃ BT, BT = (if j1 = 1 then B1 else B1.map (·.add 1)) := ⟨_, rfl⟩
                          simp only [← hBT, ← hm', ← hj'] at hrt hnx
                          rw [List.length_map, hmP] at hnx
                          have HNX := Lib.hid hnx
                          have HPM3 := Lib.hid hpm2
                          have HMP := Lib.hid hmP
                          have hPVx := HPV.out x (by simp)
                          have HPVR := Lib.hid (fun p hp => HPV.out p (List.mem_cons_of_mem _ hp))
                          have HOR := Lib.hid ((List.pairwise_cons.1 (show List.Pairwise _ (_ :: _) from HO1.out)).2)
                          obtain ⟨e0, e1, e2, e3, -, -, -, -, -⟩ := cells4 (HNE.out.below hbF HNE.out.lt)
                          have f1 := cell_regrown hv1
                          have f3 := cell_regrown e0
                          have f4 := cell_regrown e1
                          have f5 := cell_regrown e2
                          have f6 := cell_regrown e3
                          have lx := fun d os => HLE.out x hPVx _ (hbF.trans ((below_regrown wc d os).mono hbF.size))
                          have cx := fun d os => Calls.regrown_of (HFAR.out x hPVx (Go.Sort.grow (redrawn wc d) os))
                          rw [hxd, ← HDI.out] at cx
                          have CX := Lib.hid cx
                          have HBF := Lib.hid hbF
                          subst hB1
                          clear hx1 hv1 e0 e1 e2 e3 cx hnx hpm2 hxd hmP hBT hm' hj' hN1 hkj hPVx hbF
                          go_wp2_with fail
                          refine wp_region_quiet_below (by kernel_rfl) (by kernel_rfl) ?_
                          iterate 6 (go_big_quiet_step (fail))
                          go_big_quiet_step (exact CX.out _ _)
                          iterate 2 (go_big_quiet_step (fail))
                          refine wpQuiet_nil ?_
                          intro _ hw'
                          obtain ⟨⟨dq, osq⟩, hw''⟩ := hw'
                          subst hw''
                          clear lx f1 f3 f4 f5 f6
                          go_wp2_with fail
                          go_roundg (V.length - (i + 1))
                          case measure => have := HIL.out; omega
                          case rel => exact ⟨i + 1, P', Q, BT, B2, j', j2, by omega, by go_num, by rw [HMP.out], by rw [HNRQ.out], by rw [HMP.out]; exact HNX.out.below (below_regrown wc dq osq), HQ2.out.below ((HBF.out.trans ((below_regrown wc dq osq).mono HBF.out.size))), HPM3.out, HOR.out, HO2.out, HPVR.out, HQV.out, HBJ.out.trans ((HBE.out.trans ((HBF.out.trans ((below_regrown wc dq osq).mono HBF.out.size)).mono HBE.out.size)).mono HBJ.out.size)⟩
                        | false =>
                          obtain ⟨x, P', hP, hxd, hpm2⟩ := pick_right HLB.out.symm HPM2.out HSO.out HO1.out HO2.out
                          subst hP
                          have hx1 := HQ2.out.below hbF
                          rw [← List.length_map (f := fun p : It => p.id), List.map_cons] at hx1
                          have hnx := IdR.next hx1
                          have hkj : P'.length + 1 ≤ j2 := by obtain ⟨A', k', e, hk, hs⟩ := hx1; injection e with e1 e2 e3; rw [← e3, List.length_cons, List.length_map] at hk; exact hk
                          obtain ⟨g1, of1, hB1, hg1, hv1⟩ := IdR.first hx1
                          obtain ⟨m', hm'⟩ : ∃ m', m' = nr - 1 := ⟨_, rfl⟩
                          have hN1 : nr = P'.length + 1 := HNRQ.out
                          have hnp : 0 < nr := by omega
                          have hnp2 : (0 : Int) < (nr : Int) := by omega
                          have hmP : P'.length = m' := by omega
                          obtain ⟨j', hj'⟩ : ∃ j', j' = j2 - 1 := ⟨_, rfl⟩
                          have hrt := fun W => run_tail (P := Tryd.prog) Tryd.underlying36 hiZ hzZ1 B2 nr j2 (by omega) (by omega) W
                          obtain ⟨BT, hBT⟩ : ∃ BT, BT = (if j2 = 1 then B2 else B2.map (·.add 1)) := ⟨_, rfl⟩
                          simp only [← hBT, ← hm', ← hj'] at hrt hnx
                          rw [List.length_map, hmP] at hnx
                          have HNX := Lib.hid hnx
                          have HPM3 := Lib.hid hpm2
                          have HMP := Lib.hid hmP
                          have hPVx := HQV.out x (by simp)
                          have HPVR := Lib.hid (fun p hp => HQV.out p (List.mem_cons_of_mem _ hp))
                          have HOR := Lib.hid ((List.pairwise_cons.1 (show List.Pairwise _ (_ :: _) from HO2.out)).2)
                          obtain ⟨e0, e1, e2, e3, -, -, -, -, -⟩ := cells4 (HNE.out.below hbF HNE.out.lt)
                          have f1 := cell_regrown hv1
                          have f3 := cell_regrown e0
                          have f4 := cell_regrown e1
                          have f5 := cell_regrown e2
                          have f6 := cell_regrown e3
                          have lx := fun d os => HLE.out x hPVx _ (hbF.trans ((below_regrown wc d os).mono hbF.size))
                          have cx := fun d os => Calls.regrown_of (HFAR.out x hPVx (Go.Sort.grow (redrawn wc d) os))
                          rw [hxd, ← HDI.out] at cx
                          have CX := Lib.hid cx
                          have HBF := Lib.hid hbF
                          subst hB1
                          clear hx1 hv1 e0 e1 e2 e3 cx hnx hpm2 hxd hmP hBT hm' hj' hN1 hkj hPVx hbF
                          go_wp2_with fail
                          refine wp_region_quiet_below (by kernel_rfl) (by kernel_rfl) ?_
                          iterate 6 (go_big_quiet_step (fail))
                          go_big_quiet_step (exact CX.out _ _)
                          iterate 2 (go_big_quiet_step (fail))
                          refine wpQuiet_nil ?_
                          intro _ hw'
                          obtain ⟨⟨dq, osq⟩, hw''⟩ := hw'
                          subst hw''
                          clear lx f1 f3 f4 f5 f6
                          go_wp2_with fail
                          go_roundg (V.length - (i + 1))
                          case measure => have := HIL.out; omega
                          case rel => exact ⟨i + 1, P, P', B1, BT, j1, j', by omega, by go_num, by rw [HNPP.out], by rw [HMP.out], HQ1.out.below ((HBF.out.trans ((below_regrown wc dq osq).mono HBF.out.size))), by rw [HMP.out]; exact HNX.out.below (below_regrown wc dq osq), HPM3.out, HO1.out, HOR.out, HPV.out, HPVR.out, HBJ.out.trans ((HBE.out.trans ((HBF.out.trans ((below_regrown wc dq osq).mono HBF.out.size)).mono HBE.out.size)).mono HBJ.out.size)⟩
                    · have hltI : (V.length : Int) ≤ (i : Int) := by omega
                      have HBF := Lib.hid (HBD.out.trans (HBJ.out.mono HBD.out.size))
                      go_wp2_with fail
                      exact bodyPost_ret (v := .bool true) (by simp [results, go_sem]) rfl ⟨rfl, HBF.out⟩
end Go.Proofs.YtflaklceejokhaaDoor.tree
