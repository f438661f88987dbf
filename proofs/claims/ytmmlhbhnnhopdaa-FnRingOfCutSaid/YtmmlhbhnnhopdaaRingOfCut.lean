/-
  A ring that is cut into lines anywhere is put together as it was; from another line on it is the same ring, begun there. No condition.
-/
import Derived.Test.YtmmlhbhnnhopdaaRing24
import Derived.Deep.DeepCutAuto
namespace Go.Proofs.Ytmmlhbhnnhopdaa.ring
open Go.ChangeShapes Go.WideShapes Go.ChangeAt Go.RowKit
open Go.Proofs.Ytmmlhbhnnhopdaa.mem
set_option linter.unusedVariables false
set_option linter.unusedSimpArgs false

theorem sl_take {w : World} {B n : Nat} {A : Option Addr} {xs : List Nat} (h : Sl w B A n 1 (FL xs)) {m : Nat} (hm : m ≤ n) : Sl w B A m 1 (FL (xs.take m)) := by
  have hl : xs.length = n := by have := h.1; rw [FL_len] at this; omega
  refine ⟨by rw [FL_len, List.length_take]; omega, Nat.le_trans hm h.2.1, fun hp => ?_⟩
  obtain ⟨b, off, e, hb, hc⟩ := h.2.2 (by omega)
  refine ⟨b, off, e, hb, fun j u hu => hc j u ?_⟩
  rw [show FL (xs.take m) = (FL xs).take m by simp [FL], List.getElem?_take] at hu
  split at hu
  · exact hu
  · cases hu

set_option maxRecDepth 100000 in
set_option maxHeartbeats 8000000 in
theorem walk (A KA CA : Option Addr) (n c kk kc m cc : Nat) (kd dm : Int) (xs : List Nat) (zs : List Int) (w : World) (hA : Sl w w.heap.size A n 1 (FL xs)) (hC : Ints .i64 w w.heap.size CA m zs) (hcap : n ≤ c) :
    Calls Try.prog 3 #[.agg #[.int .i64 kd, .int .i64 dm, .slice A n c, .slice KA kk kc], .slice CA m cc] w fun e w' => e = .returned (.bool true) ∧ Below w.heap.size w w' := by
  obtain ⟨wA, hwA⟩ : ∃ wA, wA = w.alloc (.cells #[.int .i64 kd, .int .i64 dm, .slice A n c, .slice KA kk kc] 25) := ⟨_, rfl⟩
  have hbl : Below w.heap.size w wA := by rw [hwA]; exact (Below.refl _ _).alloc (Nat.le_refl _) _
  have hD : Blk wA w.heap.size 25 #[.int .i64 kd, .int .i64 dm, .slice A n c, .slice KA kk kc] := by rw [hwA]; exact Blk.new _ _ _
  obtain ⟨c0, c1, c2, c3, -, -, -, -, cl⟩ := cells4 hD
  have HA := Lib.hid (hA.up hbl)
  have HC := Lib.hid (hC.up hbl)
  have HD := Lib.hid hD
  have HBL := Lib.hid hbl
  have HWA := Lib.hid hwA
  clear hA hC hD hbl hwA
  go_enter Try.func3, Try.ntmps3
  go_wp2_with fail
  rw [← HWA.out]
  go_wp2_with fail
  refine (fits_calls A KA n c kk kc kd dm _).mono ?_
  rintro e w1 ⟨t, rfl, ht, hb1⟩
  have HT := Lib.hid ht
  have HB1 := Lib.hid (HBL.out.trans (hb1.mono HBL.out.size))
  have hA1 := HA.out.up hb1
  have hD1 := HD.out.below hb1 HD.out.lt
  have HC1 := Lib.hid (HC.out.up hb1)
  have HA1 := Lib.hid hA1
  have HD1 := Lib.hid hD1
  obtain ⟨d0, d1, d2, d3, -, -, -, -, dl⟩ := cells4 hD1
  clear ht hb1 hA1 hD1 c0 c1 c2 c3 cl
  cases t
  · go_wp2_with fail
    go_ret
    exact ⟨rfl, HB1.out⟩
  have hn : n ≤ 2147483647 := HT.out rfl
  by_cases hm : 2147483647 < m
  · go_wp2_with fail
    go_ret
    exact ⟨rfl, HB1.out⟩
  have hD1' := HD1.out
  obtain ⟨n2, hn2⟩ : ∃ n2, n2 = min n 100 := ⟨_, rfl⟩
  have hn2n : n2 ≤ n := by omega
  have hn2c : n2 ≤ 100 := by omega
  have HN2 := Lib.hid hn2
  have hmin : (if (100 : Int) < (n : Int) then (100 : Int) else (n : Int)) = (n2 : Int) := by split <;> omega
  have icap : (n2 : Int) ≤ (c : Int) := by omega
  have i0n : (0 : Int) ≤ (n2 : Int) := Int.natCast_nonneg _
  clear hn2 hD1'
  go_wp2_with fail
  go_still_tail 14, (by kernel_rfl)
  change wpList _ _ _ _ _ w1.drew
  have hbd : Below w1.heap.size w1 (w1.drew.alloc (.cells #[.int .i64 kd, .int .i64 dm, .slice A n2 c, .slice KA kk kc] 25)) := (Below.refl w1.heap.size w1).drew.alloc (Nat.le_refl _) _
  have HLC := Lib.hid (lines_calls A KA w1.heap.size n2 c kk kc kd dm (xs.take n2) (by omega) (w1.drew.alloc (.cells #[.int .i64 kd, .int .i64 dm, .slice A n2 c, .slice KA kk kc] 25)) ((sl_take HA1.out hn2n).up hbd) (Blk.new w1.drew _ _))
  have HBD := Lib.hid hbd
  clear hbd
  go_wp2_with fail
  refine HLC.out.mono ?_
  rintro e w2 ⟨t, rfl, ht, hb2⟩
  have hb12 := HBD.out.trans (hb2.mono HBD.out.size)
  have HT2 := Lib.hid ht
  have HB2 := Lib.hid (HB1.out.trans (hb12.mono HB1.out.size))
  have HA2 := Lib.hid (HA1.out.up hb12)
  have HC2 := Lib.hid (HC1.out.up hb12)
  have hD2 := HD1.out.below hb12 HD1.out.lt
  have HD2 := Lib.hid hD2
  clear ht hb12 hb2 d0 d1 d2 d3 dl hmin
  obtain ⟨d0, d1, d2, d3, -, -, -, -, dl⟩ := cells4 hD2
  clear hD2 HLC HBD HA1 HC1 HB1 HD1 HWA HD HA HC HBL
  cases t
  · go_wp2_with fail
    go_ret
    exact ⟨rfl, HB2.out⟩
  by_cases h100 : 100 < n
  · go_wp2_with fail
    go_ret
    exact ⟨rfl, HB2.out⟩
  by_cases h18 : 18 < m
  · go_wp2_with fail
    go_ret
    exact ⟨rfl, HB2.out⟩
  have hnn : n2 = n := by have := HN2.out; omega
  obtain ⟨e1, e2, e4, e100, ev, ek, hnum, ho0, ho1⟩ := HT2.out rfl
  have HE1 := Lib.hid e1
  have HE2 := Lib.hid e2
  rw [hnn] at e4 e100 ev hnum ho0 ho1
  have hxl : xs.length = n := by have := HA2.out.1; rw [FL_len] at this; omega
  rw [List.take_of_length_le (by omega)] at hnum ho0 ho1
  have hNum : Nums xs := fun j hj => hnum j (by omega)
  have HNUM := Lib.hid hNum
  have HO0 := Lib.hid ho0
  have HO1 := Lib.hid ho1
  have HXL := Lib.hid hxl
  have HEV := Lib.hid ev
  clear hNum hnum ho0 ho1 hxl ek e1 e2 ev hnn HN2 HT2 icap i0n hn2n hn2c
  obtain ⟨b, off, rfl, hb, hx⟩ := HA2.out.2.2 (by omega)
  have HX := Lib.hid hx
  clear hx
  have hmm := @run_makeMap Try.prog
  have hq0 : (n : Int).tdiv 2 = ((n / 2 : Nat) : Int) := by
    rw [Int.tdiv_eq_ediv_of_nonneg (by omega)]; omega
  have hwz : (Lit.int .i64 0).wf = true := by decide
  go_wp2_with (refine wpList_put_bm (o := ⟨none, .insert _ _ _ _, _, _, _, _⟩) _ rfl _ _ _ 29 (.inr rfl) Try.underlying29 w2.heap.size 0 _ rfl (BM.made w2) 0 rfl hwz true rfl (by unfold maxLen; omega) ?_; intro w3 hm3 hg3
               have HM3 := Lib.hid hm3
               have HB3 := Lib.hid (((Below.refl w2.heap.size w2).alloc (Nat.le_refl _) (.map #[] 0)).grown hg3 (by simp) (fun q hq => by cases hq; exact Nat.le_refl _))
               clear hm3 hg3)
  have HA3 := Lib.hid (HA2.out.keep HB3.out)
  have HC3 := Lib.hid (HC2.out.keep HB3.out)
  have HD3 := Lib.hid (HD2.out.below HB3.out HD2.out.lt)
  have HB03 := Lib.hid (HB2.out.trans (HB3.out.mono HB2.out.size))
  have hmb : w2.heap.size < w3.heap.size := HM3.out.lt
  have hbx : w.heap.size < w2.heap.size := HD2.out.lt
  clear HA2 HC2 HD2 HB2 HB3 d0 d1 d2 d3 dl hmm
  go_loopg [62] m (fun q cc wr => ∃ i f, i + q = m ∧ cc = .int .i64 i ∧ BM wr w2.heap.size (1 + i) f ∧ Below w2.heap.size w3 wr)
  case atStart => exact ⟨0, _, by omega, by go_num, HM3.out, Below.refl _ _⟩
  case round =>
    obtain ⟨i, f, hi', rfl, hm, hb⟩ := hrel
    have HI := Lib.hid hi'
    have HM := Lib.hid hm
    have HB := Lib.hid hb
    have hin : i ≤ m := by omega
    clear hi' hm hb
    by_cases hlt : i < m
    · skip
      --[
      obtain ⟨hzl, hzm, hzw, hzc⟩ := HC3.out
      obtain ⟨bc, oc, rfl, hbc, hcc⟩ := hzc (by omega)
      have hz := (HB.out.cell (p := ⟨bc, oc + i, none⟩) hbc).trans (hcc i hlt)
      have hwf : (Lit.int .i64 (ix zs i)).wf = true := by
        unfold ix
        rw [List.getD_eq_getElem?_getD, List.getElem?_eq_getElem (by omega)]
        exact hzw _ (List.getElem_mem _)
      have HWF := Lib.hid hwf
      have HCC := Lib.hid hcc
      have hzb := i64_bounds hwf
      obtain ⟨z, hzz⟩ : ∃ z, z = ix zs i := ⟨_, rfl⟩
      rw [← hzz] at HWF hz hzb
      clear hzl hzm hzw hzc hcc hwf hzz
      by_cases z1 : 0 < z
      · by_cases z2 : z < (n : Int) / 2 - 1
        · go_wp2_with (refine wpList_put_bm (o := ⟨none, .mapUpdate _ _ _ _, _, _, _, _⟩) _ rfl _ _ _ 29 (.inl rfl) Try.underlying29 w2.heap.size (1 + i) f rfl HM.out z rfl HWF.out true rfl (by unfold maxLen; omega) ?_; intro w4 hm4 hg4
                       have HM4 := Lib.hid hm4
                       have HB4 := Lib.hid (HB.out.grown hg4 (by have := HM.out.lt; omega) (fun q hq => by cases hq; exact Nat.le_refl _))
                       clear hm4 hg4)
          go_roundg (m - (i + 1))
          case measure => have := HI.out; omega
          case rel => exact ⟨i + 1, _, by omega, by go_num, HM4.out.more (by omega), HB4.out⟩
        · go_wp2_with fail
          go_roundg (m - (i + 1))
          case measure => have := HI.out; omega
          case rel => exact ⟨i + 1, _, by omega, by go_num, HM.out.more (by omega), HB.out⟩
      · go_wp2_with fail
        go_roundg (m - (i + 1))
        case measure => have := HI.out; omega
        case rel => exact ⟨i + 1, _, by omega, by go_num, HM.out.more (by omega), HB.out⟩
      --]
    · obtain rfl : i = m := by omega
      go_wp2_with fail
      obtain ⟨wo, hwo⟩ : ∃ wo : World, wo = wr := ⟨_, rfl⟩
      subst hwo
      have hszo : w3.heap.size ≤ wo.heap.size := HB.out.size
      have HAO := Lib.hid ((HA3.out.keep HB.out).more (show w2.heap.size ≤ wo.heap.size by omega))
      have HDO := Lib.hid (HD3.out.below HB.out hbx)
      have HBO := Lib.hid (HB03.out.trans (HB.out.mono (by omega)))
      obtain ⟨i0, hi0, hz0, hz1, hz2⟩ := info_parts infoGeom
      clear HA3 HC3 HD3 HB03 HM3
      go_loopg [9, 10, 11] (n / 2 - 1) (fun q v vf vi wr => ∃ (j fr : Nat) (P : List (Option Addr × Nat × List Nat)), 1 ≤ j ∧ j + q = n / 2 ∧ vi = .int .i64 j ∧ vf = .int .i64 fr ∧ fr < j ∧ (j = n / 2 → fr = n / 2 - 1) ∧
        wr.ownsRow wo.heap.size 25 4 v P.length (P.flatMap lineC) ∧ Lined wo xs fr P ∧ Below wo.heap.size wo wr)
      case atStart => exact ⟨1, 0, [], by omega, by omega, by go_num, by go_num, by omega, by omega, World.ownsRow_nil _ _ _ _, Lined.start _ _, Below.refl _ _⟩
      case round =>
        obtain ⟨j, fr, P, hj1, hj', rfl, rfl, hfj, hfe, ho, hL, hb⟩ := hrel
        have HJ := Lib.hid hj'
        have HFE := Lib.hid hfe
        have HO := Lib.hid ho
        have HL := Lib.hid hL
        have HBj := Lib.hid hb
        have hjn : j ≤ n / 2 := by omega
        have HMj := Lib.hid (HM.out.below hb)
        have HDj := Lib.hid (HDO.out.below hb HDO.out.lt)
        clear hj' hfe ho hL hb
        by_cases hlt2 : j < n / 2
        · skip
          --[
          obtain ⟨d0, d1, d2, d3, -, -, -, -, dl⟩ := cells4 HDj.out
          obtain ⟨t, ht⟩ : ∃ t, t = f (j : Int) := ⟨_, rfl⟩
          have HT := Lib.hid ht
          have hwj : (Lit.int .i64 (j : Int)).wf = true := by
            simp [Lit.wf, IntKind.min, IntKind.max, IntKind.signed, IntKind.bits]; omega
          have HWJ := Lib.hid hwj
          clear ht hwj
          obtain ⟨A0, k0, rfl⟩ := own_slice HO.out
          have s1 : 2 * (fr : Int) ≤ 2 * (j : Int) + 2 := by omega
          have s2 : 2 * (j : Int) + 2 ≤ (c : Int) := by omega
          have s3 : ¬ c = 2 * fr := by omega
          have HN := Lib.hid (cells_new wr [.int .i64 2, .int .i64 0, .slice (some ⟨b, off + 2 * fr, none⟩) (2 * j + 2 - 2 * fr) (c - 2 * fr), .slice none 0 0] 25)
          have hone : ∀ u ∈ [Value.int .i64 2, .int .i64 0, .slice (some ⟨b, off + 2 * fr, none⟩) (2 * j + 2 - 2 * fr) (c - 2 * fr), .slice none 0 0], u.oneCell' = true := by
            intro u hu; simp at hu; rcases hu with rfl | rfl | rfl | rfl <;> rfl
          have HONE := Lib.hid hone
          have hbase : wo.heap.size ≤ (wr.alloc (.cells #[.int .i64 2, .int .i64 0, .slice (some ⟨b, off + 2 * fr, none⟩) (2 * j + 2 - 2 * fr) (c - 2 * fr), .slice none 0 0] 25)).heap.size := by simp; have := HBj.out.size; omega
          have HBASE := Lib.hid hbase
          have hpl : P.length ≤ fr := HL.out.2.2.2.2.1
          clear hone hbase
          rcases (by cases t <;> by_cases h : (j : Int) = (n : Int) / 2 - 1 <;> simp [h] : (t = false ∧ ¬ (j : Int) = (n : Int) / 2 - 1) ∨ (t = true) ∨ (t = false ∧ ((j : Int) == (n : Int) / 2 - 1) = true)) with ⟨rfl, hje⟩ | rfl | ⟨rfl, hje⟩
          · go_wp2_with (at_lookup; refine wpList_get_bm _ rfl _ _ 29 rfl Try.underlying29 w2.heap.size (1 + i) f rfl HMj.out (j : Int) rfl HWJ.out ?_; rw [← HT.out])
            go_roundg (n / 2 - (j + 1))
            case measure => have := HJ.out; omega
            case rel => exact ⟨j + 1, fr, P, by omega, by omega, by go_num, rfl, by omega, by omega, HO.out, HL.out, HBj.out⟩
          all_goals
            go_wp2_with (first
              | (at_lookup; refine wpList_get_bm _ rfl _ _ 29 rfl Try.underlying29 w2.heap.size (1 + i) f rfl HMj.out (j : Int) rfl HWJ.out ?_; rw [← HT.out])
              | (at_builtin; refine wpList_append_lies _ rfl (.tmp 91) (.tmp 101) 23 rfl wo.heap.size 25 i0 _ 4 64 Try.underlying23 hi0 hz0 hz1 hz2 rfl (by decide) _ P.length _ rfl (HO.out.alloc _) ⟨wr.heap.size, 0, none⟩ 1 1 [.int .i64 2, .int .i64 0, .slice (some ⟨b, off + 2 * fr, none⟩) (2 * j + 2 - 2 * fr) (c - 2 * fr), .slice none 0 0] rfl rfl HN.out HONE.out (by omega) (by unfold maxLen; omega) (by omega) HBASE.out _ rfl ?_; intro gg cap w4 hown hgrow hat hlt4
                 have HO4 := Lib.hid hown
                 have HG4 := Lib.hid hgrow
                 clear hown hgrow hat))
            have hL2 := Lined.step (c := c - 2 * fr) HL.out HXL.out e100 HAO.out hfj (show 2 * j + 2 ≤ n by omega)
            have hln : ((xs.drop (2 * fr)).take (2 * j + 2 - 2 * fr)).length = 2 * j + 2 - 2 * fr := by rw [List.length_take, List.length_drop, HXL.out]; omega
            have HL2 := Lib.hid hL2
            have HLN := Lib.hid hln
            clear hL2 hln
            go_roundg (n / 2 - (j + 1))
            case measure => have := HJ.out; omega
            case rel =>
              refine ⟨j + 1, j, _, by omega, by omega, by go_num, rfl, by omega, by omega, ?_, HL2.out, ?_⟩
              · rw [List.length_append, List.length_singleton, List.flatMap_append]
                simp only [List.flatMap_cons, List.flatMap_nil, List.append_nil, lineC, HLN.out]
                exact HO4.out
              · exact (HBj.out.alloc HBj.out.size _).grown HG4.out HBASE.out (fun q hq => (HO.out.lt q hq).1)
          --]
        · obtain rfl : j = n / 2 := by omega
          go_wp2_with fail
          have hL2 := HL.out
          have hfr : fr = n / 2 - 1 := HFE.out (by first | trivial | rfl)
          obtain ⟨m1, m2, m3, m4, m5, m6⟩ := hL2
          have hPne : P ≠ [] := fun e => by have := m2 e; omega
          have hkpos : 1 ≤ P.length := List.length_pos_iff.2 hPne
          have hk49 : P.length ≤ 49 := by omega
          rw [hfr, show 2 * (n / 2 - 1) = n - 2 by have := HEV.out; omega] at m1
          obtain ⟨A0, k0, rfl⟩ := own_slice HO.out
          have hyl : (xs.take (n - 2)).length = n - 2 := by rw [List.length_take, HXL.out]; omega
          have HYL := Lib.hid hyl
          have M1 := Lib.hid m1
          have M3 := Lib.hid (m3 hPne)
          have M4 := Lib.hid m4
          have M6 := Lib.hid (fun p hp => (m6 p hp).up HBj.out)
          have HPNE := Lib.hid hPne
          obtain ⟨k, hk⟩ : ∃ k, k = P.length := ⟨_, rfl⟩
          have HK := Lib.hid hk
          have HO' := HO.out
          rw [← hk] at HO' hkpos hk49 ⊢
          have hkc : k ≤ k0 := by rcases HO'.2 with ⟨_, h0⟩ | ⟨g, cap, cur, hv, _, _, h1, _⟩ <;> first | omega | (injection hv; omega)
          have HOk := Lib.hid HO'
          have HS := Lib.hid (Sl.of_own HO')
          clear hyl m1 m2 m3 m4 m5 m6 hfr hPne hk HO'
          refine (ringOf_calls A0 k k0 P (by omega) M4.out wr HS.out M6.out).mono ?_
          rintro e w4 ⟨Q, A4, c4, hql, hqe, rfl, hs4, hb4, -⟩
          obtain ⟨r1, r2⟩ := ring_told hql HK.out.symm hqe M4.out M1.out
          rw [HYL.out, show n - 2 + 2 = n by omega] at r1
          rw [r1, r2] at hs4
          rw [r1]
          have HS4 := Lib.hid hs4
          have HB4 := Lib.hid hb4
          have HFL := Lib.hid (first_law HXL.out e4 HNUM.out HO0.out HO1.out)
          clear hql hqe hs4 hb4 r1 r2
          have HD4 := Lib.hid (HDj.out.below HB4.out HDj.out.lt)
          obtain ⟨d0, d1, d2, d3, -, -, -, -, dl⟩ := cells4 HD4.out
          go_wp2_with fail
          obtain ⟨wB, hwB⟩ : ∃ wB, wB = w4.alloc (.cells #[.int .i64 2, .int .i64 0, .slice A4 n c4, .slice none 0 0] 25) := ⟨_, rfl⟩
          have hbB : Below w4.heap.size w4 wB := by rw [hwB]; exact (Below.refl _ _).alloc (Nat.le_refl _) _
          rw [← hwB]
          have hb4B : Below wo.heap.size wo wB := HBj.out.trans ((HB4.out.trans (hbB.mono HB4.out.size)).mono HBj.out.size)
          have HAB := Lib.hid (HAO.out.up hb4B)
          have HSB := Lib.hid (HS.out.up (HB4.out.trans (hbB.mono HB4.out.size)))
          have HMB := Lib.hid (fun p hp => (M6.out p hp).up (HB4.out.trans (hbB.mono HB4.out.size)))
          have HDB := Lib.hid (HD4.out.below hbB HD4.out.lt)
          have HBB := Lib.hid (HBO.out.trans (hb4B.mono HBO.out.size))
          have HS4B := Lib.hid (HS4.out.up hbB)
          clear hwB hbB hb4B d0 d1 d2 d3 dl HB4 HS4 HS M6 HD4 HBj HAO HOk HO HDj HDO HMj HL
          refine (equal_calls A4 _ n c4 c _ xs (by omega) (by omega) HFL.out wB HS4B.out HAB.out).mono ?_
          rintro e w5 ⟨rfl, hw5⟩
          replace hw5 := hw5.symm
          subst hw5
          obtain ⟨d0, d1, d2, d3, -, -, -, -, dl⟩ := cells4 HDB.out
          go_upto_region 24 with fail
          obtain ⟨gl, ol, rfl, hgl, l0, l1, l2, l3⟩ := sl_line HSB.out (show 0 < k by omega)
          rw [Nat.zero_mul, Nat.add_zero] at l0 l1 l2 l3
          obtain ⟨p0, P', hPP⟩ : ∃ p0 P', P = p0 :: P' := by
            cases P with
            | nil => exact absurd rfl HPNE.out
            | cons p0 P' => exact ⟨p0, P', rfl⟩
          have HPP := Lib.hid hPP
          have hlx : lx P 0 = p0 := by rw [hPP]; rfl
          rw [hlx] at l2
          have hst := HSB.out
          rw [hPP, List.flatMap_cons] at hst
          have hst2 := Sl.tail hst rfl hkpos hkc
          have hrt := fun W => run_tail (P := Try.prog) Try.underlying23 hi0 hz1 (some ⟨gl, ol, none⟩) k k0 hkpos hkc W
          obtain ⟨A1, hA1⟩ : ∃ A1, A1 = (if k0 = 1 then (some ⟨gl, ol, none⟩ : Option Addr) else (some (⟨gl, ol, none⟩ : Addr)).map (·.add 4)) := ⟨_, rfl⟩
          rw [← hA1] at hst2 hrt
          have HST := Lib.hid hst2
          clear hst hst2 hA1 hPP hlx
          obtain ⟨p1, q1, v1⟩ := p0
          have ik0 : (0 : Int) < (k : Int) := by omega
          have ik1 : 0 < k := by omega
          have HGOOD : GoodP (P' ++ [(p1, q1, v1)]) := by
            intro p hp
            refine M4.out p ?_
            rw [HPP.out]
            rcases List.mem_append.1 hp with h | h
            · exact List.mem_cons_of_mem _ h
            · rw [List.mem_singleton.1 h]; exact List.mem_cons_self ..
          have HGD := Lib.hid HGOOD
          have HSEG := Lib.hid (fun (p : Option Addr × Nat × List Nat) (hp : p ∈ P' ++ [(p1, q1, v1)]) => HMB.out p (by
            rw [HPP.out]
            rcases List.mem_append.1 hp with h | h
            · exact List.mem_cons_of_mem _ h
            · rw [List.mem_singleton.1 h]; exact List.mem_cons_self ..))
          have hone2 : ∀ u ∈ P'.flatMap lineC, u.oneCell' = true := by
            intro u hu
            obtain ⟨q, _, hq⟩ := List.mem_flatMap.1 hu
            simp [lineC] at hq
            rcases hq with rfl | rfl | rfl | rfl <;> rfl
          have hone3 : ∀ u ∈ lineC (p1, q1, v1), u.oneCell' = true := by
            intro u hq
            simp [lineC] at hq
            rcases hq with rfl | rfl | rfl | rfl <;> rfl
          have HON2 := Lib.hid hone2
          have HON3 := Lib.hid hone3
          clear HGOOD hone2 hone3
          have hkl : P'.length + 1 = k := by rw [HK.out, HPP.out]; rfl
          have HKL := Lib.hid hkl
          obtain ⟨m0, hm0⟩ : ∃ m0, m0 = v1.length := ⟨_, rfl⟩
          have HM0 := Lib.hid hm0
          rw [← hm0] at l2
          have hgood0 : 4 ≤ m0 ∧ m0 ≤ 200 ∧ m0 % 2 = 0 := by
            have := M4.out (p1, q1, v1) (by rw [HPP.out]; exact List.mem_cons_self ..)
            rw [hm0]; exact this
          have hv1 : v1 = xs.take m0 := by
            have := M3.out
            rw [HPP.out] at this
            rw [hm0]; exact this
          have hacc : accP (P' ++ [(p1, q1, v1)]) = (xs.take (n - 2)).drop (m0 - 2) ++ xs.take (m0 - 2) := by
            have h1 := M1.out
            rw [HPP.out] at h1
            have h2 : cut v1 ++ accP P' = xs.take (n - 2) := h1
            have hc : cut v1 = xs.take (m0 - 2) := by unfold cut; rw [← hm0, hv1, List.take_take, Nat.min_eq_left (by omega)]
            have hcl : (cut v1).length = m0 - 2 := by unfold cut; rw [List.length_take, ← hm0]; omega
            unfold accP
            rw [List.flatMap_append]
            simp only [List.flatMap_cons, List.flatMap_nil, List.append_nil]
            rw [← h2, List.drop_append_of_le_length (by omega), ← hcl, List.drop_length, List.nil_append, hcl, hc]
            rfl
          have HACC := Lib.hid hacc
          have hmn : m0 ≤ n := by
            have h1 := M1.out
            rw [HPP.out] at h1
            have h2 : cut v1 ++ accP P' = xs.take (n - 2) := h1
            have h3 := congrArg List.length h2
            have h4 : (cut v1).length = m0 - 2 := by unfold cut; rw [List.length_take, ← hm0]; omega
            rw [List.length_append, HYL.out, h4] at h3
            omega
          clear hm0 hv1 hacc hkl
          obtain ⟨k1, rfl⟩ : ∃ k1, k = k1 + 1 := ⟨k - 1, by omega⟩
          simp only [Nat.add_sub_cancel] at HST hrt
          go_cut [14, 15] (fun v14 v15 wx => ∃ (h : Nat) (A9 : Option Addr) (c9 : Nat) (L : List Nat), v14 = .pointer (some ⟨h, 0, none⟩) ∧ v15 = .bool true ∧ Blk wx h 25 #[.int .i64 2, .int .i64 0, .slice A9 n c9, .slice none 0 0] ∧
            L = ((xs.take (n - 2)).drop (m0 - 2) ++ xs.take (m0 - 2)) ++ ((xs.take (n - 2)).drop (m0 - 2) ++ xs.take (m0 - 2)).take 2 ∧ Sl wx wx.heap.size A9 n 1 (FL L) ∧ Below wB.heap.size wB wx)
          case first =>
            have hyl2 : ((xs.take (n - 2)).drop (m0 - 2) ++ xs.take (m0 - 2)).length + 2 = n := by
              rw [List.length_append, List.length_drop, HYL.out, List.length_take, HXL.out]; omega
            refine reg24 wB gl ol k1 k0 n (k0 - 1) m0 q1 A1 p1 (P'.flatMap lineC) (((xs.take (n - 2)).drop (m0 - 2) ++ xs.take (m0 - 2)) ++ ((xs.take (n - 2)).drop (m0 - 2) ++ xs.take (m0 - 2)).take 2) (by omega) hkc hgl hrt l0 l1 l2 l3 HST.out HON2.out ?_ _ _ _ _ _ _ _ _ _ _ _ _ _ _ _ _ _ _ _ _ _ _ _ _ _ _ _ _ _ _ _ _ _ _ _ _ _ _ _ _ _ _ _ _ _ _ _ _ _ _ _ _ _ _ _ _ _ _ _ _ _ _ _ _ _ _ _ _ _ _ _ _ _ _ _ _ _ _ _ _ _ _ _ _ _ _ _ _ _ _ _ _ _ _ _ _ _ _ _ _ _ _ _ _ _ _ _ _ _ _ _ _ _ _ _ _ _ _ _ _ _ _ _ _ _ _ _ _ _ _ _ _ _ _ _ _ _ _ _ _ _ _ _ _ _ _ _ _ _ _ _ _ _ _ _ _ _ _ _ _ _ ?_
            · intro A c w hb hown
              have hsl := Sl.of_own hown
              rw [show P'.flatMap lineC ++ lineL p1 q1 m0 = (P' ++ [(p1, q1, v1)]).flatMap lineC by
                rw [List.flatMap_append]
                simp only [List.flatMap_cons, List.flatMap_nil, List.append_nil, lineC, lineL, HM0.out]] at hsl
              refine (ringOf_calls A (k1 + 1) c (P' ++ [(p1, q1, v1)]) (by omega) HGD.out w hsl (fun p hp => (HSEG.out p hp).up hb)).mono ?_
              rintro e w' ⟨Q, A9, c9, hql, hqe, rfl, hs9, hb9, hf9⟩
              obtain ⟨r1, r2⟩ := ring_told hql (by rw [List.length_append, List.length_singleton]; exact HKL.out) hqe HGD.out HACC.out
              rw [hyl2] at r1
              rw [r1, r2] at hs9
              exact ⟨A9, c9, by rw [r1], hs9, hb9, hf9⟩
            · intro u119 u120 u121 u122 u123 u124 u125 u126 u127 u128 u129 u130 u131 h wx hrel
              obtain ⟨A9, c9, hb9, hs9, hbx⟩ := hrel
              go_wp2_with fail
              go_meet
              exact ⟨h, A9, c9, _, rfl, rfl, hb9, rfl, hs9, hbx⟩
          case rest =>
            skip
            --[
            obtain ⟨h, A9, c9, L, rfl, rfl, hb9, hL, hs9, hbx9⟩ := hcut
            have HL9 := Lib.hid hL
            have HS9 := Lib.hid hs9
            have HB9 := Lib.hid hb9
            have HBX9 := Lib.hid hbx9
            have g0 := (hbx9.cell (p := ⟨gl, ol, none⟩) hgl).trans l0
            have g1 := (hbx9.cell (p := ⟨gl, ol + 1, none⟩) hgl).trans l1
            have g2 := (hbx9.cell (p := ⟨gl, ol + 2, none⟩) hgl).trans l2
            have g3 := (hbx9.cell (p := ⟨gl, ol + 3, none⟩) hgl).trans l3
            have hD9 := HDB.out.below hbx9 HDB.out.lt
            have HAX := Lib.hid (HAB.out.up hbx9)
            have HD9 := Lib.hid hD9
            have ik0 : (0 : Int) < (k1 : Int) + 1 := by omega
            have ik1 : 0 < k1 + 1 := by omega
            clear hb9 hL hs9 hbx9 l0 l1 l2 l3 d0 d1 d2 d3 dl hD9 HACC hrt HDB HAB HSEG HGD HST
            obtain ⟨d0, d1, d2, d3, -, -, -, -, dl⟩ := cells4 HD9.out
            obtain ⟨m1, hm1⟩ : ∃ m1, m1 = m0 - 2 := ⟨_, rfl⟩
            have HM1 := Lib.hid hm1
            obtain ⟨n1, hn1⟩ : ∃ n1, n1 = n - 2 := ⟨_, rfl⟩
            have HN1 := Lib.hid hn1
            have y1 : IntKind.i64.wrap ((m0 : Int) - 2) = (m1 : Int) := by
              rw [show (m0 : Int) - 2 = (m1 : Int) by omega]; exact IntWalk.i64_in _ (by omega)
            have y2 : IntKind.i64.wrap ((n : Int) - 2) = (n1 : Int) := by
              rw [show (n : Int) - 2 = (n1 : Int) by omega]; exact IntWalk.i64_in _ (by omega)
            have y3 : (m0 : Int) - 2 = (m1 : Int) := by omega
            have y4 : IntKind.i64.wrap ((m1 : Int) + 2) = (m0 : Int) := by
              rw [show (m1 : Int) + 2 = (m0 : Int) by omega]; exact IntWalk.i64_in _ (by omega)
            have y5 : (0 : Int) ≤ (m1 : Int) := Int.natCast_nonneg _
            have y6 : (m1 : Int) ≤ (n1 : Int) := by omega
            have y7 : (n1 : Int) ≤ (c : Int) := by omega
            have y8 : (m0 : Int) ≤ (c : Int) := by omega
            have y9 : ¬ c = m1 := by omega
            have y10 : (0 : Int) ≤ (m0 : Int) := Int.natCast_nonneg _
            have y11 : n1 ≤ 100 := by omega
            have y12 : w.heap.size ≠ wc.heap.size := Nat.ne_of_lt HD9.out.lt
            have y13 : some w.heap.size ≠ some wc.heap.size := fun h => y12 (Option.some.inj h)
            have z1 := sl_sub (lo := m1) (m := n1 - m1) HAX.out (by omega)
            have z2 := sl_take HAX.out hmn
            have Z1 := Lib.hid z1
            have Z2 := Lib.hid z2
            obtain ⟨j0, hj0, jz0, jz1, jz2⟩ := info_parts infoF
            clear hm1 hn1 z1 z2
            go_wp2_with fail
            go_region_held3 (fun w' => w'.cell? ⟨w.heap.size, 2, none⟩ = some (.slice (some ⟨b, off, none⟩) n c))
              (first
                | go_keep
                | exact (hb8.cell (p := ⟨w.heap.size, 2, none⟩) HD9.out.lt).trans d2
                | exact (hb7.cell (p := ⟨w.heap.size, 2, none⟩) HD9.out.lt).trans d2)
              (first
                | ((refine step_append_sl _ (by rfl) _ _ _ (by rfl) wc.heap.size 34 j0 _ 1 8 Try.underlying22 hj0 jz0 jz1 jz2 rfl (by omega) (.slice (some ⟨wc.heap.size, 0, none⟩) 0 0) 0 [] (by rfl) (emptyOwn (heap_alloc_new wc _) (by omega)) wc.heap.size (some ⟨b, off + m1, none⟩) (n1 - m1) (c - m1) _ (by rfl) (Z1.out.keep ((Below.refl _ _).alloc (Nat.le_refl _) _).drew) (FL_one _) (by unfold maxLen; omega) (by omega) (by simp) ?_; intro A7 c7 w7 hown7 hgrow7 hat7
                    have hb7 : Below wc.heap.size wc w7 := ((Below.refl _ _).alloc (Nat.le_refl _) _).drew.grown hgrow7 (by simp) (fun q hq => by cases hq; exact Nat.le_refl _)))
                | ((refine step_append_sl _ (by rfl) _ _ _ (by rfl) wc.heap.size 34 j0 _ 1 8 Try.underlying22 hj0 jz0 jz1 jz2 rfl (by omega) _ (0 + (n1 - m1)) _ (by rfl) hown7 wc.heap.size (some ⟨b, off, none⟩) m0 c _ (by rfl) (Z2.out.keep hb7) (FL_one _) (by unfold maxLen; omega) (by omega) (by have := hb7.size; omega) ?_; intro A8 c8 w8 hown8 hgrow8 hat8
                    have hb8 : Below wc.heap.size wc w8 := hb7.grown hgrow8 hb7.size (fun q hq => (hown7.lt q hq).1))))
            have HOWN8 := Lib.hid hown8
            have HB8 := Lib.hid hb8
            have hs8 := Sl.of_own hown8
            have e8 : 0 + (n1 - m1) + m0 = n := by have h1 := HN1.out; have h2 := HM1.out; omega
            have e8' : n1 - m1 + m0 = n := by omega
            have e9 : [] ++ FL ((xs.drop m1).take (n1 - m1)) ++ FL (xs.take m0) = FL ((xs.take (n - 2)).drop (m0 - 2) ++ xs.take (m0 - 2 + 2)) := by
              rw [← HN1.out, ← HM1.out, show m1 + 2 = m0 by have := HM1.out; omega, List.drop_take]
              simp [FL]
            rw [e8, e9] at hs8
            have HS8 := Lib.hid hs8
            have hbk8 := HB9.out.below hb8 HB9.out.lt
            have HA8 := Lib.hid (HS9.out.up hb8)
            have HLAW := Lib.hid (second_law HXL.out e4 (m := m0 - 2) (by omega) (by omega) (by omega) HEV.out HNUM.out HO0.out HO1.out)
            rw [← HL9.out] at HLAW
            have HE8 := Lib.hid e8'
            obtain ⟨f0, f1, f2, f3, -, -, -, -, fl⟩ := cells4 hbk8
            clear hown7 hgrow7 hat7 hown8 hgrow8 hat8 hb7 hb8 hs8 e8 e8' e9 hbk8 y1 y2 y3 y4 y5 y6 y7 y8 y9 y10 y11
            go_wp2_with fail
            rw [HE8.out]
            refine (equal_calls A9 A8 n c9 c8 L _ (by omega) (by omega) HLAW.out w8 HA8.out HS8.out).mono ?_
            rintro e w9 ⟨rfl, hw9⟩
            replace hw9 := hw9.symm
            subst hw9
            go_wp2_with fail
            go_ret
            exact ⟨rfl, HBB.out.trans ((HBX9.out.trans (HB8.out.mono HBX9.out.size)).mono HBB.out.size)⟩
            --]
end Go.Proofs.Ytmmlhbhnnhopdaa.ring
