/-
  Contracts: a sequence forced to another type of coordinates.
-/
import Derived.Test.YtbacakdpfiiblaaGreatGeoC
namespace Go.Proofs.YtbacakdpfiiblaaGreat.geo
open Go.ChangeShapes Go.WideShapes Go.ChangeAt Go.RowKit
open Go.Proofs.YtbacakdpfiiblaaGreat.mem
set_option linter.unusedVariables false
set_option linter.unusedSimpArgs false

theorem plc_take (d d' : Nat) (ns : List Nat) {i : Nat} (h : i < ns.length / wd d) : ((plc d ns).take (i + 1)).flatMap (emit d') = ((plc d ns).take i).flatMap (emit d') ++ emit d' (plAt d ns i) := by
  have he : (plc d ns)[i]? = some (plAt d ns i) := by
    unfold plc
    rw [List.getElem?_map, List.getElem?_range h]; rfl
  rw [List.take_add_one, he, List.flatMap_append]
  simp


set_option maxHeartbeats 16000000 in
set_option maxRecDepth 100000 in
theorem seqForce0 (d : Nat) (A : Option Addr) (c : Nat) (ns : List Nat) (S : Nat → Prop) (w : World) (h : (MG.ln d A c ns).In S w) (hne : d ≠ 0) (hpos : 0 < ns.length) :
    Calls Tryz.prog 160 #[.agg #[.int .u8 d, .slice A ns.length c], .int .u8 0] w (LnPost S w 0 (frcN d 0 ns)) := by
  obtain ⟨hlen, hbig⟩ := MG.ln_len h
  rw [MG.In] at h
  obtain ⟨hd4, hmod, hp4, hA, hAS⟩ := h
  obtain ⟨i0, hi, hz0, hz1, hz2⟩ := info_parts infoF
  obtain ⟨p, hp⟩ : ∃ p, p = ns.length / wd d := ⟨_, rfl⟩
  have hpn : p * wd d = ns.length := by rw [hp]; exact hlen.symm
  rw [← hp] at hp4
  have hLEN := length_calls A ns.length c d hd4 hbig
  rw [← hp] at hLEN
  have hLEN := Lib.hid hLEN
  have hGET := Lib.hid (fun (i : Nat) (w' : World) (hi : i < p) (hA : Sl w' w'.heap.size A ns.length 1 (FL ns)) => get_calls (c := c) hd4 hA hbig (show (i + 1) * wd d ≤ ns.length by rw [← hpn]; exact Nat.mul_le_mul_right _ hi))
  obtain ⟨wA, hwA⟩ : ∃ wA, wA = (w.alloc (.cells #[.int .u8 d, .slice A ns.length c] 81)).alloc (.cells #[.int .u8 0, .slice none 0 0] 81) := ⟨_, rfl⟩
  have hbl : Below w.heap.size w wA := by rw [hwA]; exact ((Below.refl _ _).alloc (Nat.le_refl _) _).alloc (by simp) _
  have hB : Blk wA w.heap.size 81 #[.int .u8 d, .slice A ns.length c] := by rw [hwA]; exact (Blk.new _ _ _).alloc _
  have hD : Blk wA (w.heap.size + 1) 81 #[.int .u8 0, .slice none 0 0] := by
    rw [hwA]
    have := Blk.new (w.alloc (.cells #[.int .u8 d, .slice A ns.length c] 81)) 81 #[.int .u8 0, .slice none 0 0]
    simpa using this
  obtain ⟨c0, c1, -, -, cl⟩ := cells2 hB
  have hAA := hA.up hbl
  have hne2 : ((d : Int) == 0) = false := beq_eq_false_iff_ne.2 (by omega)
  have hne3 : ((ns.length : Int) == 0) = false := beq_eq_false_iff_ne.2 (by omega)
  have HA := Lib.hid hAA
  have HB := Lib.hid hB
  have HD := Lib.hid hD
  have HBL := Lib.hid hbl
  have HWA := Lib.hid hwA
  have HPE := Lib.hid hp
  unfold big at hp4 hbig
  have hd := dim0
  have hb48 : i0.bytes * (2 * p) ≤ 281474976710656 := by rw [hz2]; omega
  clear hA hlen hmod hpn hp hwA hB hD hbl hAA
  go_enter Tryz.func160, Tryz.ntmps160
  go_wp2_with fail
  rw [← HWA.out]
  refine (hLEN.out _).mono ?_
  rintro e w1 ⟨rfl, hb1⟩
  have HA1 := Lib.hid (HA.out.up hb1)
  have HB1 := Lib.hid (HB.out.below hb1 HB.out.lt)
  have HD1 := Lib.hid (HD.out.below hb1 HD.out.lt)
  have HBL1 := Lib.hid (HBL.out.trans (hb1.mono HBL.out.size))
  clear hb1 c0 c1 cl
  go_wp2_with fail
  refine (hd _).mono ?_
  rintro e w9 ⟨rfl, hw9⟩
  replace hw9 := hw9.symm
  subst hw9
  go_wp2_with (at_make; refine wpList_make_full _ rfl (.tmp 27) (.tmp 27) 22 rfl w1.heap.size 31 i0 _ 1 Tryz.underlying22 hi hz0 hz1 .i64 .i64 _ _ (2 * p) rfl rfl (by rw [Int.natCast_mul]; rfl) (by rw [Int.natCast_mul]; rfl) hb48 (by unfold maxLen; omega) (Nat.le_refl _) ?_; intro w2 hown hgrow
               obtain ⟨hrow2, hxl⟩ := make_row hown
               have HROW := Lib.hid hrow2
               have HXL := Lib.hid hxl
               have HB2 := Lib.hid ((Below.refl w1.heap.size w1).grown hgrow (Nat.le_refl _) (fun q hq => by cases hq))
               clear hown hgrow hrow2 hxl)
  go_loopg [8] p (fun q ci wr => ∃ i : Nat, i + q = p ∧ ci = .int .i64 (i : Nat) ∧ (∃ R, Row wr w1.heap.size 31 (FL (((plc d ns).take i).flatMap (emit 0)) ++ R) ∧ R.length = (p - i) * 2) ∧ Below w1.heap.size w1 wr)
  case atStart => exact ⟨0, by omega, by go_num, ⟨_, HROW.out, by rw [HXL.out]; omega⟩, HB2.out⟩
  case round =>
    obtain ⟨i, hi', rfl, ⟨R, hrow, hrl⟩, hbl⟩ := hrel
    have HIL := Lib.hid hi'
    have HRW0 := Lib.hid hrow
    have HRL := Lib.hid hrl
    have HBL2 := Lib.hid hbl
    have hin : i ≤ p := by omega
    have hlw := hrow.lt
    have sr := hbl.size
    clear hi' hrow hbl hrl
    by_cases hlt : i < p

    · obtain ⟨r0, r1, R2, rfl, hr2⟩ := cut2 (n := (p - (i + 1)) * 2) (show R.length = _ by rw [HRL.out]; omega)
      have HR2 := Lib.hid hr2
      have hdl : (FL (((plc d ns).take i).flatMap (emit 0))).length = 2 * i := by
        rw [FL_len, flat_len (by decide), List.length_take, plc_len, ← HPE.out, Nat.min_eq_left hin, Nat.mul_comm]; rfl
      have HDL := Lib.hid hdl
      have hBr := HB1.out.below HBL2.out HB1.out.lt
      obtain ⟨c0, c1, -, -, cl⟩ := cells2 hBr
      have HG := Lib.hid (hGET.out i wr hlt (HA1.out.up HBL2.out))
      have hltI : (i : Int) < (p : Int) := by omega
      clear hr2 hdl hBr
      go_wp2_with fail
      refine HG.out.mono ?_
      rintro e w3 ⟨rfl, hb3⟩
      obtain ⟨q, hq⟩ : ∃ q, q = plAt d ns i := ⟨_, rfl⟩
      rw [← hq]
      have HQ := Lib.hid hq
      have HROW3 := Lib.hid (HRW0.out.below hb3)
      have HBL3 := Lib.hid (HBL2.out.trans (hb3.mono HBL2.out.size))
      have f0 := HROW3.out.frozen_at HDL.out 0 (by simp)
      have g0 := HROW3.out.some_at HDL.out 0 (by simp)
      have t0 : (2 * (i : Int)).toNat = 2 * i := by omega
      have b0 : 0 ≤ 2 * (i : Int) := by omega
      have d0 : 2 * (i : Int) < 2 * (p : Int) := by omega
      have f1 := HROW3.out.frozen_at HDL.out 1 (by simp)
      have g1 := HROW3.out.some_at HDL.out 1 (by simp)
      have t1 : (2 * (i : Int) + 1).toNat = 2 * i + 1 := by omega
      have b1 : 0 ≤ 2 * (i : Int) + 1 := by omega
      have d1 : 2 * (i : Int) + 1 < 2 * (p : Int) := by omega
      simp only [List.getElem_cons_zero, List.getElem_cons_succ, Nat.add_zero] at f0 g0 f1 g1
      have hl3 := hb3.size
      have hlr := HROW3.out.lt
      clear hb3 hq c0 c1 cl
      go_wp2_with fail
      go_roundg (p - (i + 1))
      case measure => have := HIL.out; omega
      case rel =>
        have hpt := plc_take d 0 ns (show i < ns.length / wd d by rw [← HPE.out]; exact hlt)
        rw [← HQ.out] at hpt
        refine ⟨i + 1, by omega, by go_num, ⟨R2, ?_, HR2.out⟩, ?_⟩
        · rw [hpt, FL_app]
          exact (HROW3.out.put2 HDL.out (.float .f64 q.x) (.float .f64 q.y)).alloc _
        · exact (((HBL3.out.setCell (Nat.le_refl _) _).setCell (Nat.le_refl _) _)).alloc (by simp; omega) _
    · obtain rfl : i = p := by omega
      have hD := HD1.out.below HBL2.out HD1.out.lt
      have hB := HB1.out.below HBL2.out HB1.out.lt
      obtain ⟨z0, z1, y0, y1, zl⟩ := cells2 hD
      obtain ⟨c0, c1, -, -, cl⟩ := cells2 hB
      have hfl : (frcN d 0 ns).length = 2 * i := by rw [frcN_len (by decide), ← HPE.out, Nat.mul_comm]; rfl
      have hR0 : R = [] := List.eq_nil_of_length_eq_zero (by rw [HRL.out]; omega)
      have hrow := HRW0.out
      rw [hR0, List.append_nil, List.take_of_length_le (by rw [plc_len, ← HPE.out]; exact Nat.le_refl _)] at hrow
      have HFL := Lib.hid hfl
      have HRW := Lib.hid (show Row wr w1.heap.size 31 (FL (frcN d 0 ns)) from hrow)
      have hs1 := HD1.out.lt
      clear hD hB hfl hR0 hrow
      go_wp2_with fail
      refine bodyPost_ret (v := .agg #[.int .u8 0, .slice (some ⟨w1.heap.size, 0, none⟩) (2 * i) (2 * i)]) ?_ rfl ⟨some ⟨w1.heap.size, 0, none⟩, 2 * i, by rw [HFL.out]; rfl, ?_, ?_⟩
      · simp [results, Tryz.results160, go_sem, z0, z1, zl]
      · rw [MG.In]
        refine ⟨by decide, ?_, ?_, ?_⟩
        · rw [frcN_len (by decide)]; exact mul_mod_wd _ _
        · rw [frcN_len (by decide), Nat.mul_div_cancel _ (by decide), ← HPE.out]; unfold big; omega
        · have := ((HRW.out.far (p := ⟨w.heap.size + 1, 0, none⟩) (show w1.heap.size ≠ w.heap.size + 1 by omega) (.int .u8 0)).far (p := ⟨w.heap.size + 1, 1, none⟩) (show w1.heap.size ≠ w.heap.size + 1 by omega) (.slice (some ⟨w1.heap.size, 0, none⟩) (2 * i) (2 * i)))
          exact ⟨this.sl (by rw [FL_len, Nat.mul_one]) (by rw [HFL.out]; unfold maxLen; omega), fun _ a ha => by have := Option.some.inj ha; subst this; exact .inr HBL1.out.size⟩
      · exact ((HBL1.out.trans (HBL2.out.mono HBL1.out.size)).setCell (by simp) _).setCell (by simp) _

set_option maxHeartbeats 16000000 in
set_option maxRecDepth 100000 in
theorem seqForce1 (d : Nat) (A : Option Addr) (c : Nat) (ns : List Nat) (S : Nat → Prop) (w : World) (h : (MG.ln d A c ns).In S w) (hne : d ≠ 1) (hpos : 0 < ns.length) :
    Calls Tryz.prog 160 #[.agg #[.int .u8 d, .slice A ns.length c], .int .u8 1] w (LnPost S w 1 (frcN d 1 ns)) := by
  obtain ⟨hlen, hbig⟩ := MG.ln_len h
  rw [MG.In] at h
  obtain ⟨hd4, hmod, hp4, hA, hAS⟩ := h
  obtain ⟨i0, hi, hz0, hz1, hz2⟩ := info_parts infoF
  obtain ⟨p, hp⟩ : ∃ p, p = ns.length / wd d := ⟨_, rfl⟩
  have hpn : p * wd d = ns.length := by rw [hp]; exact hlen.symm
  rw [← hp] at hp4
  have hLEN := length_calls A ns.length c d hd4 hbig
  rw [← hp] at hLEN
  have hLEN := Lib.hid hLEN
  have hGET := Lib.hid (fun (i : Nat) (w' : World) (hi : i < p) (hA : Sl w' w'.heap.size A ns.length 1 (FL ns)) => get_calls (c := c) hd4 hA hbig (show (i + 1) * wd d ≤ ns.length by rw [← hpn]; exact Nat.mul_le_mul_right _ hi))
  obtain ⟨wA, hwA⟩ : ∃ wA, wA = (w.alloc (.cells #[.int .u8 d, .slice A ns.length c] 81)).alloc (.cells #[.int .u8 0, .slice none 0 0] 81) := ⟨_, rfl⟩
  have hbl : Below w.heap.size w wA := by rw [hwA]; exact ((Below.refl _ _).alloc (Nat.le_refl _) _).alloc (by simp) _
  have hB : Blk wA w.heap.size 81 #[.int .u8 d, .slice A ns.length c] := by rw [hwA]; exact (Blk.new _ _ _).alloc _
  have hD : Blk wA (w.heap.size + 1) 81 #[.int .u8 0, .slice none 0 0] := by
    rw [hwA]
    have := Blk.new (w.alloc (.cells #[.int .u8 d, .slice A ns.length c] 81)) 81 #[.int .u8 0, .slice none 0 0]
    simpa using this
  obtain ⟨c0, c1, -, -, cl⟩ := cells2 hB
  have hAA := hA.up hbl
  have hne2 : ((d : Int) == 1) = false := beq_eq_false_iff_ne.2 (by omega)
  have hne3 : ((ns.length : Int) == 0) = false := beq_eq_false_iff_ne.2 (by omega)
  have HA := Lib.hid hAA
  have HB := Lib.hid hB
  have HD := Lib.hid hD
  have HBL := Lib.hid hbl
  have HWA := Lib.hid hwA
  have HPE := Lib.hid hp
  unfold big at hp4 hbig
  have hd := dim1
  have hb48 : i0.bytes * (3 * p) ≤ 281474976710656 := by rw [hz2]; omega
  clear hA hlen hmod hpn hp hwA hB hD hbl hAA
  go_enter Tryz.func160, Tryz.ntmps160
  go_wp2_with fail
  rw [← HWA.out]
  refine (hLEN.out _).mono ?_
  rintro e w1 ⟨rfl, hb1⟩
  have HA1 := Lib.hid (HA.out.up hb1)
  have HB1 := Lib.hid (HB.out.below hb1 HB.out.lt)
  have HD1 := Lib.hid (HD.out.below hb1 HD.out.lt)
  have HBL1 := Lib.hid (HBL.out.trans (hb1.mono HBL.out.size))
  clear hb1 c0 c1 cl
  go_wp2_with fail
  refine (hd _).mono ?_
  rintro e w9 ⟨rfl, hw9⟩
  replace hw9 := hw9.symm
  subst hw9
  go_wp2_with (at_make; refine wpList_make_full _ rfl (.tmp 27) (.tmp 27) 22 rfl w1.heap.size 31 i0 _ 1 Tryz.underlying22 hi hz0 hz1 .i64 .i64 _ _ (3 * p) rfl rfl (by rw [Int.natCast_mul]; rfl) (by rw [Int.natCast_mul]; rfl) hb48 (by unfold maxLen; omega) (Nat.le_refl _) ?_; intro w2 hown hgrow
               obtain ⟨hrow2, hxl⟩ := make_row hown
               have HROW := Lib.hid hrow2
               have HXL := Lib.hid hxl
               have HB2 := Lib.hid ((Below.refl w1.heap.size w1).grown hgrow (Nat.le_refl _) (fun q hq => by cases hq))
               clear hown hgrow hrow2 hxl)
  go_loopg [8] p (fun q ci wr => ∃ i : Nat, i + q = p ∧ ci = .int .i64 (i : Nat) ∧ (∃ R, Row wr w1.heap.size 31 (FL (((plc d ns).take i).flatMap (emit 1)) ++ R) ∧ R.length = (p - i) * 3) ∧ Below w1.heap.size w1 wr)
  case atStart => exact ⟨0, by omega, by go_num, ⟨_, HROW.out, by rw [HXL.out]; omega⟩, HB2.out⟩
  case round =>
    obtain ⟨i, hi', rfl, ⟨R, hrow, hrl⟩, hbl⟩ := hrel
    have HIL := Lib.hid hi'
    have HRW0 := Lib.hid hrow
    have HRL := Lib.hid hrl
    have HBL2 := Lib.hid hbl
    have hin : i ≤ p := by omega
    have hlw := hrow.lt
    have sr := hbl.size
    clear hi' hrow hbl hrl
    by_cases hlt : i < p

    · obtain ⟨r0, r1, r2, R2, rfl, hr2⟩ := cut3 (n := (p - (i + 1)) * 3) (show R.length = _ by rw [HRL.out]; omega)
      have HR2 := Lib.hid hr2
      have hdl : (FL (((plc d ns).take i).flatMap (emit 1))).length = 3 * i := by
        rw [FL_len, flat_len (by decide), List.length_take, plc_len, ← HPE.out, Nat.min_eq_left hin, Nat.mul_comm]; rfl
      have HDL := Lib.hid hdl
      have hBr := HB1.out.below HBL2.out HB1.out.lt
      obtain ⟨c0, c1, -, -, cl⟩ := cells2 hBr
      have HG := Lib.hid (hGET.out i wr hlt (HA1.out.up HBL2.out))
      have hltI : (i : Int) < (p : Int) := by omega
      clear hr2 hdl hBr
      go_wp2_with fail
      refine HG.out.mono ?_
      rintro e w3 ⟨rfl, hb3⟩
      obtain ⟨q, hq⟩ : ∃ q, q = plAt d ns i := ⟨_, rfl⟩
      rw [← hq]
      have HQ := Lib.hid hq
      have HROW3 := Lib.hid (HRW0.out.below hb3)
      have HBL3 := Lib.hid (HBL2.out.trans (hb3.mono HBL2.out.size))
      have f0 := HROW3.out.frozen_at HDL.out 0 (by simp)
      have g0 := HROW3.out.some_at HDL.out 0 (by simp)
      have t0 : (3 * (i : Int)).toNat = 3 * i := by omega
      have b0 : 0 ≤ 3 * (i : Int) := by omega
      have d0 : 3 * (i : Int) < 3 * (p : Int) := by omega
      have f1 := HROW3.out.frozen_at HDL.out 1 (by simp)
      have g1 := HROW3.out.some_at HDL.out 1 (by simp)
      have t1 : (3 * (i : Int) + 1).toNat = 3 * i + 1 := by omega
      have b1 : 0 ≤ 3 * (i : Int) + 1 := by omega
      have d1 : 3 * (i : Int) + 1 < 3 * (p : Int) := by omega
      have f2 := HROW3.out.frozen_at HDL.out 2 (by simp)
      have g2 := HROW3.out.some_at HDL.out 2 (by simp)
      have t2 : (3 * (i : Int) + 2).toNat = 3 * i + 2 := by omega
      have b2 : 0 ≤ 3 * (i : Int) + 2 := by omega
      have d2 : 3 * (i : Int) + 2 < 3 * (p : Int) := by omega
      simp only [List.getElem_cons_zero, List.getElem_cons_succ, Nat.add_zero] at f0 g0 f1 g1 f2 g2
      have hl3 := hb3.size
      have hlr := HROW3.out.lt
      clear hb3 hq c0 c1 cl
      go_wp2_with fail
      go_roundg (p - (i + 1))
      case measure => have := HIL.out; omega
      case rel =>
        have hpt := plc_take d 1 ns (show i < ns.length / wd d by rw [← HPE.out]; exact hlt)
        rw [← HQ.out] at hpt
        refine ⟨i + 1, by omega, by go_num, ⟨R2, ?_, HR2.out⟩, ?_⟩
        · rw [hpt, FL_app]
          exact (HROW3.out.put3 HDL.out (.float .f64 q.x) (.float .f64 q.y) (.float .f64 q.z)).alloc _
        · exact ((((HBL3.out.setCell (Nat.le_refl _) _).setCell (Nat.le_refl _) _).setCell (Nat.le_refl _) _)).alloc (by simp; omega) _
    · obtain rfl : i = p := by omega
      have hD := HD1.out.below HBL2.out HD1.out.lt
      have hB := HB1.out.below HBL2.out HB1.out.lt
      obtain ⟨z0, z1, y0, y1, zl⟩ := cells2 hD
      obtain ⟨c0, c1, -, -, cl⟩ := cells2 hB
      have hfl : (frcN d 1 ns).length = 3 * i := by rw [frcN_len (by decide), ← HPE.out, Nat.mul_comm]; rfl
      have hR0 : R = [] := List.eq_nil_of_length_eq_zero (by rw [HRL.out]; omega)
      have hrow := HRW0.out
      rw [hR0, List.append_nil, List.take_of_length_le (by rw [plc_len, ← HPE.out]; exact Nat.le_refl _)] at hrow
      have HFL := Lib.hid hfl
      have HRW := Lib.hid (show Row wr w1.heap.size 31 (FL (frcN d 1 ns)) from hrow)
      have hs1 := HD1.out.lt
      clear hD hB hfl hR0 hrow
      go_wp2_with fail
      refine bodyPost_ret (v := .agg #[.int .u8 1, .slice (some ⟨w1.heap.size, 0, none⟩) (3 * i) (3 * i)]) ?_ rfl ⟨some ⟨w1.heap.size, 0, none⟩, 3 * i, by rw [HFL.out]; rfl, ?_, ?_⟩
      · simp [results, Tryz.results160, go_sem, z0, z1, zl]
      · rw [MG.In]
        refine ⟨by decide, ?_, ?_, ?_⟩
        · rw [frcN_len (by decide)]; exact mul_mod_wd _ _
        · rw [frcN_len (by decide), Nat.mul_div_cancel _ (by decide), ← HPE.out]; unfold big; omega
        · have := ((HRW.out.far (p := ⟨w.heap.size + 1, 0, none⟩) (show w1.heap.size ≠ w.heap.size + 1 by omega) (.int .u8 1)).far (p := ⟨w.heap.size + 1, 1, none⟩) (show w1.heap.size ≠ w.heap.size + 1 by omega) (.slice (some ⟨w1.heap.size, 0, none⟩) (3 * i) (3 * i)))
          exact ⟨this.sl (by rw [FL_len, Nat.mul_one]) (by rw [HFL.out]; unfold maxLen; omega), fun _ a ha => by have := Option.some.inj ha; subst this; exact .inr HBL1.out.size⟩
      · exact ((HBL1.out.trans (HBL2.out.mono HBL1.out.size)).setCell (by simp) _).setCell (by simp) _

set_option maxHeartbeats 16000000 in
set_option maxRecDepth 100000 in
theorem seqForce2 (d : Nat) (A : Option Addr) (c : Nat) (ns : List Nat) (S : Nat → Prop) (w : World) (h : (MG.ln d A c ns).In S w) (hne : d ≠ 2) (hpos : 0 < ns.length) :
    Calls Tryz.prog 160 #[.agg #[.int .u8 d, .slice A ns.length c], .int .u8 2] w (LnPost S w 2 (frcN d 2 ns)) := by
  obtain ⟨hlen, hbig⟩ := MG.ln_len h
  rw [MG.In] at h
  obtain ⟨hd4, hmod, hp4, hA, hAS⟩ := h
  obtain ⟨i0, hi, hz0, hz1, hz2⟩ := info_parts infoF
  obtain ⟨p, hp⟩ : ∃ p, p = ns.length / wd d := ⟨_, rfl⟩
  have hpn : p * wd d = ns.length := by rw [hp]; exact hlen.symm
  rw [← hp] at hp4
  have hLEN := length_calls A ns.length c d hd4 hbig
  rw [← hp] at hLEN
  have hLEN := Lib.hid hLEN
  have hGET := Lib.hid (fun (i : Nat) (w' : World) (hi : i < p) (hA : Sl w' w'.heap.size A ns.length 1 (FL ns)) => get_calls (c := c) hd4 hA hbig (show (i + 1) * wd d ≤ ns.length by rw [← hpn]; exact Nat.mul_le_mul_right _ hi))
  obtain ⟨wA, hwA⟩ : ∃ wA, wA = (w.alloc (.cells #[.int .u8 d, .slice A ns.length c] 81)).alloc (.cells #[.int .u8 0, .slice none 0 0] 81) := ⟨_, rfl⟩
  have hbl : Below w.heap.size w wA := by rw [hwA]; exact ((Below.refl _ _).alloc (Nat.le_refl _) _).alloc (by simp) _
  have hB : Blk wA w.heap.size 81 #[.int .u8 d, .slice A ns.length c] := by rw [hwA]; exact (Blk.new _ _ _).alloc _
  have hD : Blk wA (w.heap.size + 1) 81 #[.int .u8 0, .slice none 0 0] := by
    rw [hwA]
    have := Blk.new (w.alloc (.cells #[.int .u8 d, .slice A ns.length c] 81)) 81 #[.int .u8 0, .slice none 0 0]
    simpa using this
  obtain ⟨c0, c1, -, -, cl⟩ := cells2 hB
  have hAA := hA.up hbl
  have hne2 : ((d : Int) == 2) = false := beq_eq_false_iff_ne.2 (by omega)
  have hne3 : ((ns.length : Int) == 0) = false := beq_eq_false_iff_ne.2 (by omega)
  have HA := Lib.hid hAA
  have HB := Lib.hid hB
  have HD := Lib.hid hD
  have HBL := Lib.hid hbl
  have HWA := Lib.hid hwA
  have HPE := Lib.hid hp
  unfold big at hp4 hbig
  have hd := dim2
  have hb48 : i0.bytes * (3 * p) ≤ 281474976710656 := by rw [hz2]; omega
  clear hA hlen hmod hpn hp hwA hB hD hbl hAA
  go_enter Tryz.func160, Tryz.ntmps160
  go_wp2_with fail
  rw [← HWA.out]
  refine (hLEN.out _).mono ?_
  rintro e w1 ⟨rfl, hb1⟩
  have HA1 := Lib.hid (HA.out.up hb1)
  have HB1 := Lib.hid (HB.out.below hb1 HB.out.lt)
  have HD1 := Lib.hid (HD.out.below hb1 HD.out.lt)
  have HBL1 := Lib.hid (HBL.out.trans (hb1.mono HBL.out.size))
  clear hb1 c0 c1 cl
  go_wp2_with fail
  refine (hd _).mono ?_
  rintro e w9 ⟨rfl, hw9⟩
  replace hw9 := hw9.symm
  subst hw9
  go_wp2_with (at_make; refine wpList_make_full _ rfl (.tmp 27) (.tmp 27) 22 rfl w1.heap.size 31 i0 _ 1 Tryz.underlying22 hi hz0 hz1 .i64 .i64 _ _ (3 * p) rfl rfl (by rw [Int.natCast_mul]; rfl) (by rw [Int.natCast_mul]; rfl) hb48 (by unfold maxLen; omega) (Nat.le_refl _) ?_; intro w2 hown hgrow
               obtain ⟨hrow2, hxl⟩ := make_row hown
               have HROW := Lib.hid hrow2
               have HXL := Lib.hid hxl
               have HB2 := Lib.hid ((Below.refl w1.heap.size w1).grown hgrow (Nat.le_refl _) (fun q hq => by cases hq))
               clear hown hgrow hrow2 hxl)
  go_loopg [8] p (fun q ci wr => ∃ i : Nat, i + q = p ∧ ci = .int .i64 (i : Nat) ∧ (∃ R, Row wr w1.heap.size 31 (FL (((plc d ns).take i).flatMap (emit 2)) ++ R) ∧ R.length = (p - i) * 3) ∧ Below w1.heap.size w1 wr)
  case atStart => exact ⟨0, by omega, by go_num, ⟨_, HROW.out, by rw [HXL.out]; omega⟩, HB2.out⟩
  case round =>
    obtain ⟨i, hi', rfl, ⟨R, hrow, hrl⟩, hbl⟩ := hrel
    have HIL := Lib.hid hi'
    have HRW0 := Lib.hid hrow
    have HRL := Lib.hid hrl
    have HBL2 := Lib.hid hbl
    have hin : i ≤ p := by omega
    have hlw := hrow.lt
    have sr := hbl.size
    clear hi' hrow hbl hrl
    by_cases hlt : i < p

    · obtain ⟨r0, r1, r2, R2, rfl, hr2⟩ := cut3 (n := (p - (i + 1)) * 3) (show R.length = _ by rw [HRL.out]; omega)
      have HR2 := Lib.hid hr2
      have hdl : (FL (((plc d ns).take i).flatMap (emit 2))).length = 3 * i := by
        rw [FL_len, flat_len (by decide), List.length_take, plc_len, ← HPE.out, Nat.min_eq_left hin, Nat.mul_comm]; rfl
      have HDL := Lib.hid hdl
      have hBr := HB1.out.below HBL2.out HB1.out.lt
      obtain ⟨c0, c1, -, -, cl⟩ := cells2 hBr
      have HG := Lib.hid (hGET.out i wr hlt (HA1.out.up HBL2.out))
      have hltI : (i : Int) < (p : Int) := by omega
      clear hr2 hdl hBr
      go_wp2_with fail
      refine HG.out.mono ?_
      rintro e w3 ⟨rfl, hb3⟩
      obtain ⟨q, hq⟩ : ∃ q, q = plAt d ns i := ⟨_, rfl⟩
      rw [← hq]
      have HQ := Lib.hid hq
      have HROW3 := Lib.hid (HRW0.out.below hb3)
      have HBL3 := Lib.hid (HBL2.out.trans (hb3.mono HBL2.out.size))
      have f0 := HROW3.out.frozen_at HDL.out 0 (by simp)
      have g0 := HROW3.out.some_at HDL.out 0 (by simp)
      have t0 : (3 * (i : Int)).toNat = 3 * i := by omega
      have b0 : 0 ≤ 3 * (i : Int) := by omega
      have d0 : 3 * (i : Int) < 3 * (p : Int) := by omega
      have f1 := HROW3.out.frozen_at HDL.out 1 (by simp)
      have g1 := HROW3.out.some_at HDL.out 1 (by simp)
      have t1 : (3 * (i : Int) + 1).toNat = 3 * i + 1 := by omega
      have b1 : 0 ≤ 3 * (i : Int) + 1 := by omega
      have d1 : 3 * (i : Int) + 1 < 3 * (p : Int) := by omega
      have f2 := HROW3.out.frozen_at HDL.out 2 (by simp)
      have g2 := HROW3.out.some_at HDL.out 2 (by simp)
      have t2 : (3 * (i : Int) + 2).toNat = 3 * i + 2 := by omega
      have b2 : 0 ≤ 3 * (i : Int) + 2 := by omega
      have d2 : 3 * (i : Int) + 2 < 3 * (p : Int) := by omega
      simp only [List.getElem_cons_zero, List.getElem_cons_succ, Nat.add_zero] at f0 g0 f1 g1 f2 g2
      have hl3 := hb3.size
      have hlr := HROW3.out.lt
      clear hb3 hq c0 c1 cl
      go_wp2_with fail
      go_roundg (p - (i + 1))
      case measure => have := HIL.out; omega
      case rel =>
        have hpt := plc_take d 2 ns (show i < ns.length / wd d by rw [← HPE.out]; exact hlt)
        rw [← HQ.out] at hpt
        refine ⟨i + 1, by omega, by go_num, ⟨R2, ?_, HR2.out⟩, ?_⟩
        · rw [hpt, FL_app]
          exact (HROW3.out.put3 HDL.out (.float .f64 q.x) (.float .f64 q.y) (.float .f64 q.m)).alloc _
        · exact ((((HBL3.out.setCell (Nat.le_refl _) _).setCell (Nat.le_refl _) _).setCell (Nat.le_refl _) _)).alloc (by simp; omega) _
    · obtain rfl : i = p := by omega
      have hD := HD1.out.below HBL2.out HD1.out.lt
      have hB := HB1.out.below HBL2.out HB1.out.lt
      obtain ⟨z0, z1, y0, y1, zl⟩ := cells2 hD
      obtain ⟨c0, c1, -, -, cl⟩ := cells2 hB
      have hfl : (frcN d 2 ns).length = 3 * i := by rw [frcN_len (by decide), ← HPE.out, Nat.mul_comm]; rfl
      have hR0 : R = [] := List.eq_nil_of_length_eq_zero (by rw [HRL.out]; omega)
      have hrow := HRW0.out
      rw [hR0, List.append_nil, List.take_of_length_le (by rw [plc_len, ← HPE.out]; exact Nat.le_refl _)] at hrow
      have HFL := Lib.hid hfl
      have HRW := Lib.hid (show Row wr w1.heap.size 31 (FL (frcN d 2 ns)) from hrow)
      have hs1 := HD1.out.lt
      clear hD hB hfl hR0 hrow
      go_wp2_with fail
      refine bodyPost_ret (v := .agg #[.int .u8 2, .slice (some ⟨w1.heap.size, 0, none⟩) (3 * i) (3 * i)]) ?_ rfl ⟨some ⟨w1.heap.size, 0, none⟩, 3 * i, by rw [HFL.out]; rfl, ?_, ?_⟩
      · simp [results, Tryz.results160, go_sem, z0, z1, zl]
      · rw [MG.In]
        refine ⟨by decide, ?_, ?_, ?_⟩
        · rw [frcN_len (by decide)]; exact mul_mod_wd _ _
        · rw [frcN_len (by decide), Nat.mul_div_cancel _ (by decide), ← HPE.out]; unfold big; omega
        · have := ((HRW.out.far (p := ⟨w.heap.size + 1, 0, none⟩) (show w1.heap.size ≠ w.heap.size + 1 by omega) (.int .u8 2)).far (p := ⟨w.heap.size + 1, 1, none⟩) (show w1.heap.size ≠ w.heap.size + 1 by omega) (.slice (some ⟨w1.heap.size, 0, none⟩) (3 * i) (3 * i)))
          exact ⟨this.sl (by rw [FL_len, Nat.mul_one]) (by rw [HFL.out]; unfold maxLen; omega), fun _ a ha => by have := Option.some.inj ha; subst this; exact .inr HBL1.out.size⟩
      · exact ((HBL1.out.trans (HBL2.out.mono HBL1.out.size)).setCell (by simp) _).setCell (by simp) _

set_option maxHeartbeats 16000000 in
set_option maxRecDepth 100000 in
theorem seqForce3 (d : Nat) (A : Option Addr) (c : Nat) (ns : List Nat) (S : Nat → Prop) (w : World) (h : (MG.ln d A c ns).In S w) (hne : d ≠ 3) (hpos : 0 < ns.length) :
    Calls Tryz.prog 160 #[.agg #[.int .u8 d, .slice A ns.length c], .int .u8 3] w (LnPost S w 3 (frcN d 3 ns)) := by
  obtain ⟨hlen, hbig⟩ := MG.ln_len h
  rw [MG.In] at h
  obtain ⟨hd4, hmod, hp4, hA, hAS⟩ := h
  obtain ⟨i0, hi, hz0, hz1, hz2⟩ := info_parts infoF
  obtain ⟨p, hp⟩ : ∃ p, p = ns.length / wd d := ⟨_, rfl⟩
  have hpn : p * wd d = ns.length := by rw [hp]; exact hlen.symm
  rw [← hp] at hp4
  have hLEN := length_calls A ns.length c d hd4 hbig
  rw [← hp] at hLEN
  have hLEN := Lib.hid hLEN
  have hGET := Lib.hid (fun (i : Nat) (w' : World) (hi : i < p) (hA : Sl w' w'.heap.size A ns.length 1 (FL ns)) => get_calls (c := c) hd4 hA hbig (show (i + 1) * wd d ≤ ns.length by rw [← hpn]; exact Nat.mul_le_mul_right _ hi))
  obtain ⟨wA, hwA⟩ : ∃ wA, wA = (w.alloc (.cells #[.int .u8 d, .slice A ns.length c] 81)).alloc (.cells #[.int .u8 0, .slice none 0 0] 81) := ⟨_, rfl⟩
  have hbl : Below w.heap.size w wA := by rw [hwA]; exact ((Below.refl _ _).alloc (Nat.le_refl _) _).alloc (by simp) _
  have hB : Blk wA w.heap.size 81 #[.int .u8 d, .slice A ns.length c] := by rw [hwA]; exact (Blk.new _ _ _).alloc _
  have hD : Blk wA (w.heap.size + 1) 81 #[.int .u8 0, .slice none 0 0] := by
    rw [hwA]
    have := Blk.new (w.alloc (.cells #[.int .u8 d, .slice A ns.length c] 81)) 81 #[.int .u8 0, .slice none 0 0]
    simpa using this
  obtain ⟨c0, c1, -, -, cl⟩ := cells2 hB
  have hAA := hA.up hbl
  have hne2 : ((d : Int) == 3) = false := beq_eq_false_iff_ne.2 (by omega)
  have hne3 : ((ns.length : Int) == 0) = false := beq_eq_false_iff_ne.2 (by omega)
  have HA := Lib.hid hAA
  have HB := Lib.hid hB
  have HD := Lib.hid hD
  have HBL := Lib.hid hbl
  have HWA := Lib.hid hwA
  have HPE := Lib.hid hp
  unfold big at hp4 hbig
  have hd := dim3
  have hb48 : i0.bytes * (4 * p) ≤ 281474976710656 := by rw [hz2]; omega
  clear hA hlen hmod hpn hp hwA hB hD hbl hAA
  go_enter Tryz.func160, Tryz.ntmps160
  go_wp2_with fail
  rw [← HWA.out]
  refine (hLEN.out _).mono ?_
  rintro e w1 ⟨rfl, hb1⟩
  have HA1 := Lib.hid (HA.out.up hb1)
  have HB1 := Lib.hid (HB.out.below hb1 HB.out.lt)
  have HD1 := Lib.hid (HD.out.below hb1 HD.out.lt)
  have HBL1 := Lib.hid (HBL.out.trans (hb1.mono HBL.out.size))
  clear hb1 c0 c1 cl
  go_wp2_with fail
  refine (hd _).mono ?_
  rintro e w9 ⟨rfl, hw9⟩
  replace hw9 := hw9.symm
  subst hw9
  go_wp2_with (at_make; refine wpList_make_full _ rfl (.tmp 27) (.tmp 27) 22 rfl w1.heap.size 31 i0 _ 1 Tryz.underlying22 hi hz0 hz1 .i64 .i64 _ _ (4 * p) rfl rfl (by rw [Int.natCast_mul]; rfl) (by rw [Int.natCast_mul]; rfl) hb48 (by unfold maxLen; omega) (Nat.le_refl _) ?_; intro w2 hown hgrow
               obtain ⟨hrow2, hxl⟩ := make_row hown
               have HROW := Lib.hid hrow2
               have HXL := Lib.hid hxl
               have HB2 := Lib.hid ((Below.refl w1.heap.size w1).grown hgrow (Nat.le_refl _) (fun q hq => by cases hq))
               clear hown hgrow hrow2 hxl)
  go_loopg [8] p (fun q ci wr => ∃ i : Nat, i + q = p ∧ ci = .int .i64 (i : Nat) ∧ (∃ R, Row wr w1.heap.size 31 (FL (((plc d ns).take i).flatMap (emit 3)) ++ R) ∧ R.length = (p - i) * 4) ∧ Below w1.heap.size w1 wr)
  case atStart => exact ⟨0, by omega, by go_num, ⟨_, HROW.out, by rw [HXL.out]; omega⟩, HB2.out⟩
  case round =>
    obtain ⟨i, hi', rfl, ⟨R, hrow, hrl⟩, hbl⟩ := hrel
    have HIL := Lib.hid hi'
    have HRW0 := Lib.hid hrow
    have HRL := Lib.hid hrl
    have HBL2 := Lib.hid hbl
    have hin : i ≤ p := by omega
    have hlw := hrow.lt
    have sr := hbl.size
    clear hi' hrow hbl hrl
    by_cases hlt : i < p

    · obtain ⟨r0, r1, r2, r3, R2, rfl, hr2⟩ := cut4 (n := (p - (i + 1)) * 4) (show R.length = _ by rw [HRL.out]; omega)
      have HR2 := Lib.hid hr2
      have hdl : (FL (((plc d ns).take i).flatMap (emit 3))).length = 4 * i := by
        rw [FL_len, flat_len (by decide), List.length_take, plc_len, ← HPE.out, Nat.min_eq_left hin, Nat.mul_comm]; rfl
      have HDL := Lib.hid hdl
      have hBr := HB1.out.below HBL2.out HB1.out.lt
      obtain ⟨c0, c1, -, -, cl⟩ := cells2 hBr
      have HG := Lib.hid (hGET.out i wr hlt (HA1.out.up HBL2.out))
      have hltI : (i : Int) < (p : Int) := by omega
      clear hr2 hdl hBr
      go_wp2_with fail
      refine HG.out.mono ?_
      rintro e w3 ⟨rfl, hb3⟩
      obtain ⟨q, hq⟩ : ∃ q, q = plAt d ns i := ⟨_, rfl⟩
      rw [← hq]
      have HQ := Lib.hid hq
      have HROW3 := Lib.hid (HRW0.out.below hb3)
      have HBL3 := Lib.hid (HBL2.out.trans (hb3.mono HBL2.out.size))
      have f0 := HROW3.out.frozen_at HDL.out 0 (by simp)
      have g0 := HROW3.out.some_at HDL.out 0 (by simp)
      have t0 : (4 * (i : Int)).toNat = 4 * i := by omega
      have b0 : 0 ≤ 4 * (i : Int) := by omega
      have d0 : 4 * (i : Int) < 4 * (p : Int) := by omega
      have f1 := HROW3.out.frozen_at HDL.out 1 (by simp)
      have g1 := HROW3.out.some_at HDL.out 1 (by simp)
      have t1 : (4 * (i : Int) + 1).toNat = 4 * i + 1 := by omega
      have b1 : 0 ≤ 4 * (i : Int) + 1 := by omega
      have d1 : 4 * (i : Int) + 1 < 4 * (p : Int) := by omega
      have f2 := HROW3.out.frozen_at HDL.out 2 (by simp)
      have g2 := HROW3.out.some_at HDL.out 2 (by simp)
      have t2 : (4 * (i : Int) + 2).toNat = 4 * i + 2 := by omega
      have b2 : 0 ≤ 4 * (i : Int) + 2 := by omega
      have d2 : 4 * (i : Int) + 2 < 4 * (p : Int) := by omega
      have f3 := HROW3.out.frozen_at HDL.out 3 (by simp)
      have g3 := HROW3.out.some_at HDL.out 3 (by simp)
      have t3 : (4 * (i : Int) + 3).toNat = 4 * i + 3 := by omega
      have b3 : 0 ≤ 4 * (i : Int) + 3 := by omega
      have d3 : 4 * (i : Int) + 3 < 4 * (p : Int) := by omega
      simp only [List.getElem_cons_zero, List.getElem_cons_succ, Nat.add_zero] at f0 g0 f1 g1 f2 g2 f3 g3
      have hl3 := hb3.size
      have hlr := HROW3.out.lt
      clear hb3 hq c0 c1 cl
      go_wp2_with fail
      go_roundg (p - (i + 1))
      case measure => have := HIL.out; omega
      case rel =>
        have hpt := plc_take d 3 ns (show i < ns.length / wd d by rw [← HPE.out]; exact hlt)
        rw [← HQ.out] at hpt
        refine ⟨i + 1, by omega, by go_num, ⟨R2, ?_, HR2.out⟩, ?_⟩
        · rw [hpt, FL_app]
          exact (HROW3.out.put4 HDL.out (.float .f64 q.x) (.float .f64 q.y) (.float .f64 q.z) (.float .f64 q.m)).alloc _
        · exact (((((HBL3.out.setCell (Nat.le_refl _) _).setCell (Nat.le_refl _) _).setCell (Nat.le_refl _) _).setCell (Nat.le_refl _) _)).alloc (by simp; omega) _
    · obtain rfl : i = p := by omega
      have hD := HD1.out.below HBL2.out HD1.out.lt
      have hB := HB1.out.below HBL2.out HB1.out.lt
      obtain ⟨z0, z1, y0, y1, zl⟩ := cells2 hD
      obtain ⟨c0, c1, -, -, cl⟩ := cells2 hB
      have hfl : (frcN d 3 ns).length = 4 * i := by rw [frcN_len (by decide), ← HPE.out, Nat.mul_comm]; rfl
      have hR0 : R = [] := List.eq_nil_of_length_eq_zero (by rw [HRL.out]; omega)
      have hrow := HRW0.out
      rw [hR0, List.append_nil, List.take_of_length_le (by rw [plc_len, ← HPE.out]; exact Nat.le_refl _)] at hrow
      have HFL := Lib.hid hfl
      have HRW := Lib.hid (show Row wr w1.heap.size 31 (FL (frcN d 3 ns)) from hrow)
      have hs1 := HD1.out.lt
      clear hD hB hfl hR0 hrow
      go_wp2_with fail
      refine bodyPost_ret (v := .agg #[.int .u8 3, .slice (some ⟨w1.heap.size, 0, none⟩) (4 * i) (4 * i)]) ?_ rfl ⟨some ⟨w1.heap.size, 0, none⟩, 4 * i, by rw [HFL.out]; rfl, ?_, ?_⟩
      · simp [results, Tryz.results160, go_sem, z0, z1, zl]
      · rw [MG.In]
        refine ⟨by decide, ?_, ?_, ?_⟩
        · rw [frcN_len (by decide)]; exact mul_mod_wd _ _
        · rw [frcN_len (by decide), Nat.mul_div_cancel _ (by decide), ← HPE.out]; unfold big; omega
        · have := ((HRW.out.far (p := ⟨w.heap.size + 1, 0, none⟩) (show w1.heap.size ≠ w.heap.size + 1 by omega) (.int .u8 3)).far (p := ⟨w.heap.size + 1, 1, none⟩) (show w1.heap.size ≠ w.heap.size + 1 by omega) (.slice (some ⟨w1.heap.size, 0, none⟩) (4 * i) (4 * i)))
          exact ⟨this.sl (by rw [FL_len, Nat.mul_one]) (by rw [HFL.out]; unfold maxLen; omega), fun _ a ha => by have := Option.some.inj ha; subst this; exact .inr HBL1.out.size⟩
      · exact ((HBL1.out.trans (HBL2.out.mono HBL1.out.size)).setCell (by simp) _).setCell (by simp) _

set_option maxHeartbeats 8000000 in
theorem seqForce_calls {d d' : Nat} (hd' : d' < 4) {A : Option Addr} {c : Nat} {ns : List Nat} {S : Nat → Prop} {w : World} (h : (MG.ln d A c ns).In S w) :
    Calls Tryz.prog 160 #[.agg #[.int .u8 d, .slice A ns.length c], .int .u8 d'] w (LnPost S w d' (frcN d d' ns)) := by
  have h0 := h
  rw [MG.In] at h
  obtain ⟨hd4, hmod, hp4, hA⟩ := h
  have hb2 : ∀ o1 o2, Below w.heap.size w ((w.alloc o1).alloc o2) := fun o1 o2 => ((Below.refl _ _).alloc (Nat.le_refl _) _).alloc (by simp) _
  by_cases e : d = d'
  · subst e
    have HP := Lib.hid (show ∀ o1 o2, LnPost S w d (frcN d d ns) (.returned (.agg #[.int .u8 d, .slice A ns.length c])) ((w.alloc o1).alloc o2) from fun o1 o2 => by
      rw [frcN_same hd4 hmod]
      exact ⟨A, c, rfl, MG.less (fun b hb => .inl hb) (MG.up (hb2 o1 o2) h0), hb2 o1 o2⟩)
    clear h0 hmod hp4 hA hb2
    go_enter Tryz.func160, Tryz.ntmps160
    go_wp2_with fail
    exact bodyPost_ret (v := .agg #[.int .u8 d, .slice A ns.length c]) (by simp [results, Tryz.results160, go_sem]) rfl (HP.out _ _)
  · by_cases e0 : ns.length = 0
    · obtain rfl : ns = [] := List.eq_nil_of_length_eq_zero e0
      have HP := Lib.hid (show ∀ o1 o2, LnPost S w d' (frcN d d' []) (.returned (.agg #[.int .u8 d', .slice none 0 0])) ((w.alloc o1).alloc o2) from fun o1 o2 => by
        refine ⟨none, 0, by rw [frcN_nil]; rfl, ?_, hb2 o1 o2⟩
        rw [frcN_nil, MG.In]
        exact ⟨hd', by simp, by simp, ⟨by simp [FL], by simp, fun h => absurd h (by simp)⟩, fun _ a ha => by cases ha⟩)
      have hne : ((d : Int) == (d' : Int)) = false := beq_eq_false_iff_ne.2 (by omega)
      clear h0 hmod hp4 hA hb2 e e0
      go_enter Tryz.func160, Tryz.ntmps160
      go_wp2_with fail
      exact bodyPost_ret (v := .agg #[.int .u8 d', .slice none 0 0]) (by simp [results, Tryz.results160, go_sem]) rfl (HP.out _ _)
    · have hpos : 0 < ns.length := by omega
      obtain rfl | rfl | rfl | rfl := four hd'
      · exact seqForce0 d A c ns S w h0 e hpos
      · exact seqForce1 d A c ns S w h0 e hpos
      · exact seqForce2 d A c ns S w h0 e hpos
      · exact seqForce3 d A c ns S w h0 e hpos
end Go.Proofs.YtbacakdpfiiblaaGreat.geo
