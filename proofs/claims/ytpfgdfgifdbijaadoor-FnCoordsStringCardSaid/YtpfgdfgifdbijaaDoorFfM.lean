/-
  Contract: a double as a text, as bytes behind others.
-/
import Derived.Test.YtpfgdfgifdbijaaDoorFfK
namespace Go.Proofs.YtpfgdfgifdbijaaDoor.ff
open Go.ChangeShapes Go.WideShapes Go.ChangeAt Go.RowKit
open Go.Proofs.YtpfgdfgifdbijaaDoor.mem
set_option linter.unusedVariables false
set_option linter.unusedSimpArgs false

set_option maxHeartbeats 8000000 in
set_option maxRecDepth 100000 in
theorem ftoaF0 (T : Nat → Int) (x : Nat) (neg : Bool) (ex mt : Int) (hneg : ((x : Int) / 9223372036854775808 != 0) = neg) (hex : wrap64 ((x : Int) / 4503599627370496) % 2048 = ex) (hmt : bits .and .u64 (x : Int) 4503599627370495 = mt) (hxb : 0 ≤ ex ∧ ex < 2048) (hmb : 0 ≤ mt ∧ mt ≤ 18446744073709551615) (hE : ex = 0) (hZ : mt ≠ 0) : ∃ out : List Nat, (out.length ≤ 1000 ∧ ∀ b ∈ out, b < 256) ∧ ∀ (w : World) (base c : Nat) (A : Option Addr), Tab T w → P10 w → 3 < base → 2 < base → base ≤ w.heap.size → w.ownsRow base 5 1 (.slice A 0 c) 0 [] →
    Calls Tryd.prog 30 #[.slice A 0 c, .float .f64 x, .int .u8 102, .int .i64 (-1)] w (FEPost base w out) := by
  have hfb := run_fbits
  have hm := i64_and2047
  subst hE
  obtain ⟨n, hn, hlen⟩ := len64_calls mt hmb.1 hmb.2
  obtain ⟨d0, p, hdp, hsf⟩ := short_calls T (IntKind.u64.wrap (mt * 2 ^ (64 - n))) (-1022 - (64 - (n : Int)) - 52) (by omega)
  obtain ⟨d, rfl⟩ : ∃ d : Nat, d0 = (d : Int) := ⟨d0.toNat, by omega⟩
  have hd64 : d < 18446744073709551616 := by omega
  have hN20 := ND_le d hd64
  have htl := trimZ_le (dgt d) (ND d)
  have hpb : -400 ≤ p ∧ p ≤ 400 := by omega
  obtain ⟨dp, hdpe⟩ : ∃ dp : Int, dp = (ND d : Int) + p := ⟨_, rfl⟩
  have hdb : -450 ≤ dp ∧ dp ≤ 450 := by omega
  obtain ⟨nz, hnz⟩ : ∃ nz, nz = trimZ (dgt d) (ND d) := ⟨_, rfl⟩
  have hnzb : nz ≤ 20 := by omega
  have HLEN := Lib.hid hlen
  have HSF := Lib.hid hsf
  have HDPE := Lib.hid hdpe
  have HNZ := Lib.hid hnz
  have q1 : wrap64 ((nz : Int) - dp) = (nz : Int) - dp := by rw [wrap64]; omega
  refine ⟨sgL neg ++ (ipL (digS d) dp ++ fpL (digS d) dp), txt_ok neg d dp (by rw [digS_len]; omega) hdb, ?_⟩
  clear hlen hsf hdpe hnz htl hdp
  intro w base c A hT hP h1 h2 h3 hown
  have HT := Lib.hid hT
  have HP := Lib.hid hP
  have HO := Lib.hid hown
  clear hT hP hown
  go_enter Tryd.func30, Tryd.ntmps30
  go_upto_region 14 with fail
  go_quiet (fail)
  obtain ⟨w0, hw0⟩ : ∃ w0, w0 = w.drewN nq := ⟨_, rfl⟩
  have HB0 := Lib.hid (show Below w.heap.size w w0 by rw [hw0]; exact drewN_below _ _ _)
  have HS0 := Lib.hid (show w0.heap.size = w.heap.size by rw [hw0]; rfl)
  have HO0 := Lib.hid (show w0.ownsRow base 5 1 (.slice A 0 c) 0 [] by rw [hw0]; exact HO.out)
  try dsimp only
  rw [← hw0]
  clear hw0
  obtain ⟨w1, hw1⟩ : ∃ w1, w1 = w0.alloc (.cells zeros32 78) := ⟨_, rfl⟩
  have hb01 : Below w0.heap.size w0 w1 := by rw [hw1]; exact (Below.refl _ _).alloc (Nat.le_refl _) _
  have hb1 : Below w.heap.size w w1 := HB0.out.trans (hb01.mono (Nat.le_of_eq HS0.out.symm))
  have hs1 : w1.heap.size = w0.heap.size + 1 := by rw [hw1]; simp
  have hZ1 : Blk w1 w0.heap.size 78 zeros32 := by rw [hw1]; exact Blk.new _ _ _
  have HFI1 := Lib.hid (show FI base w0.heap.size w1 A c [] w1 from fi_buf (by rw [hw1]; exact HO0.out.alloc _) HO0.out hs1 (by rw [HS0.out]; exact h3))
  have HW1 := Lib.hid hw1
  have HB1 := Lib.hid hb1
  have HZ1 := Lib.hid hZ1
  have HS1 := Lib.hid hs1
  have HT1 := Lib.hid (HT.out.below hb1 HT.out.lt)
  clear hw1 hb01 hb1 hs1 hZ1
  go_upto_region 34 with fail
  rw [show w0.alloc (.cells zeros32 78) = w1 from HW1.out.symm]
  go_wp2_with fail
  refine (HLEN.out _).mono ?_
  rintro e w9 ⟨rfl, h9⟩
  obtain rfl := h9.symm
  clear h9
  go_wp2_with fail
  refine (HSF.out _ HT1.out).mono ?_
  rintro e w2 ⟨rfl, hb2⟩
  have HB12 := Lib.hid hb2
  have HZ2 := Lib.hid (HZ1.out.below hb2 HZ1.out.lt)
  have HZ2D := Lib.hid (show Blk w2.drew w0.heap.size 78 zeros32 from HZ2.out.below (Below.refl w2.heap.size w2).drew HZ2.out.lt)
  have HP2 := Lib.hid (show P10 w2 from p10_below HP.out (HB1.out.trans (hb2.mono HB1.out.size)))
  clear hb2
  go_upto_region 38 with fail
  go_region_law (first
    | (go_simp; go_at_call 41; (first | refine (ndig_calls d hd64 w2.drew HP2.out).mono ?_ | refine (ndig_calls d hd64 w2 HP2.out).mono ?_)
       rintro e5 w5 ⟨rfl, hw5⟩
       obtain rfl := hw5.symm
       clear hw5)
    | (go_simp; go_at_call 40; (first | refine (setd2 hd64 hpb HNZ.out HDPE.out HZ2D.out).mono ?_ | refine (setd2 hd64 hpb HNZ.out HDPE.out HZ2.out).mono ?_)
       rintro e6 w6 ⟨rfl, hc6, hb6, hl6⟩
       have HC6 := Lib.hid hc6
       have HB6 := Lib.hid (show Below w0.heap.size w2 w6 from by first | exact hb6 | exact (show Below w0.heap.size w2 w2.drew from (Below.refl w0.heap.size w2).drew).trans hb6)
       have HL6 := Lib.hid hl6
       clear hc6 hb6 hl6))
  all_goals
    have hB16 : Below w0.heap.size w1 w6 := (HB12.out.mono (by rw [HS1.out]; exact Nat.le_succ _)).trans HB6.out
    have HFI6 := Lib.hid (fi_again HFI1.out HS1.out hB16 HL6.out)
    have HB06 := Lib.hid (show Below base w w6 from (HB1.out.mono h3).trans (hB16.mono (by rw [HS0.out]; exact h3)))
    clear hB16
    go_wp2_with fail
    refine (fmt_calls (S := digS d) (n := nz) (dp := dp) (by rw [digS_len]; exact HNZ.out) hnzb hdb rfl HFI6.out (fun j hj => by rw [digS_at d j (by rw [← HNZ.out]; exact hj)]; exact HC6.out j (by have := trimZ_le (dgt d) (ND d); rw [← HNZ.out] at this; omega))).mono ?_
    rintro e w8 ⟨A8, c8, rfl, ho8, hb8⟩
    have HO8 := Lib.hid ho8
    have HB8 := Lib.hid hb8
    clear ho8 hb8
    go_wp2_with fail
    exact bodyPost_ret (v := .slice A8 _ c8) (by simp [results, go_sem]) rfl ⟨A8, c8, rfl, HO8.out, HB06.out.trans HB8.out⟩
set_option maxHeartbeats 8000000 in
set_option maxRecDepth 100000 in
theorem ftoaF1 (T : Nat → Int) (x : Nat) (neg : Bool) (ex mt : Int) (hneg : ((x : Int) / 9223372036854775808 != 0) = neg) (hex : wrap64 ((x : Int) / 4503599627370496) % 2048 = ex) (hmt : bits .and .u64 (x : Int) 4503599627370495 = mt) (hxb : 0 ≤ ex ∧ ex < 2048) (hmb : 0 ≤ mt ∧ mt ≤ 18446744073709551615) (hE0 : ex ≠ 0) (hE : ex ≠ 2047) (m1 : Int) (hm1 : bits .or .u64 mt 4503599627370496 = m1) (hm1b : 0 ≤ m1 ∧ m1 ≤ 18446744073709551615) (hZ : m1 ≠ 0) : ∃ out : List Nat, (out.length ≤ 1000 ∧ ∀ b ∈ out, b < 256) ∧ ∀ (w : World) (base c : Nat) (A : Option Addr), Tab T w → P10 w → 3 < base → 2 < base → base ≤ w.heap.size → w.ownsRow base 5 1 (.slice A 0 c) 0 [] →
    Calls Tryd.prog 30 #[.slice A 0 c, .float .f64 x, .int .u8 102, .int .i64 (-1)] w (FEPost base w out) := by
  have hfb := run_fbits
  have hm := i64_and2047
  obtain ⟨n, hn, hlen⟩ := len64_calls m1 hm1b.1 hm1b.2
  obtain ⟨d0, p, hdp, hsf⟩ := short_calls T (IntKind.u64.wrap (m1 * 2 ^ (64 - n))) (ex + -1023 - (64 - (n : Int)) - 52) (by omega)
  obtain ⟨d, rfl⟩ : ∃ d : Nat, d0 = (d : Int) := ⟨d0.toNat, by omega⟩
  have hd64 : d < 18446744073709551616 := by omega
  have hN20 := ND_le d hd64
  have htl := trimZ_le (dgt d) (ND d)
  have hpb : -400 ≤ p ∧ p ≤ 400 := by omega
  obtain ⟨dp, hdpe⟩ : ∃ dp : Int, dp = (ND d : Int) + p := ⟨_, rfl⟩
  have hdb : -450 ≤ dp ∧ dp ≤ 450 := by omega
  obtain ⟨nz, hnz⟩ : ∃ nz, nz = trimZ (dgt d) (ND d) := ⟨_, rfl⟩
  have hnzb : nz ≤ 20 := by omega
  have HLEN := Lib.hid hlen
  have HSF := Lib.hid hsf
  have HDPE := Lib.hid hdpe
  have HNZ := Lib.hid hnz
  have q1 : wrap64 ((nz : Int) - dp) = (nz : Int) - dp := by rw [wrap64]; omega
  refine ⟨sgL neg ++ (ipL (digS d) dp ++ fpL (digS d) dp), txt_ok neg d dp (by rw [digS_len]; omega) hdb, ?_⟩
  clear hlen hsf hdpe hnz htl hdp
  intro w base c A hT hP h1 h2 h3 hown
  have HT := Lib.hid hT
  have HP := Lib.hid hP
  have HO := Lib.hid hown
  clear hT hP hown
  go_enter Tryd.func30, Tryd.ntmps30
  go_upto_region 14 with fail
  go_quiet (fail)
  obtain ⟨w0, hw0⟩ : ∃ w0, w0 = w.drewN nq := ⟨_, rfl⟩
  have HB0 := Lib.hid (show Below w.heap.size w w0 by rw [hw0]; exact drewN_below _ _ _)
  have HS0 := Lib.hid (show w0.heap.size = w.heap.size by rw [hw0]; rfl)
  have HO0 := Lib.hid (show w0.ownsRow base 5 1 (.slice A 0 c) 0 [] by rw [hw0]; exact HO.out)
  try dsimp only
  rw [← hw0]
  clear hw0
  obtain ⟨w1, hw1⟩ : ∃ w1, w1 = w0.alloc (.cells zeros32 78) := ⟨_, rfl⟩
  have hb01 : Below w0.heap.size w0 w1 := by rw [hw1]; exact (Below.refl _ _).alloc (Nat.le_refl _) _
  have hb1 : Below w.heap.size w w1 := HB0.out.trans (hb01.mono (Nat.le_of_eq HS0.out.symm))
  have hs1 : w1.heap.size = w0.heap.size + 1 := by rw [hw1]; simp
  have hZ1 : Blk w1 w0.heap.size 78 zeros32 := by rw [hw1]; exact Blk.new _ _ _
  have HFI1 := Lib.hid (show FI base w0.heap.size w1 A c [] w1 from fi_buf (by rw [hw1]; exact HO0.out.alloc _) HO0.out hs1 (by rw [HS0.out]; exact h3))
  have HW1 := Lib.hid hw1
  have HB1 := Lib.hid hb1
  have HZ1 := Lib.hid hZ1
  have HS1 := Lib.hid hs1
  have HT1 := Lib.hid (HT.out.below hb1 HT.out.lt)
  clear hw1 hb01 hb1 hs1 hZ1
  go_upto_region 34 with fail
  rw [show w0.alloc (.cells zeros32 78) = w1 from HW1.out.symm]
  go_wp2_with fail
  refine (HLEN.out _).mono ?_
  rintro e w9 ⟨rfl, h9⟩
  obtain rfl := h9.symm
  clear h9
  go_wp2_with fail
  refine (HSF.out _ HT1.out).mono ?_
  rintro e w2 ⟨rfl, hb2⟩
  have HB12 := Lib.hid hb2
  have HZ2 := Lib.hid (HZ1.out.below hb2 HZ1.out.lt)
  have HZ2D := Lib.hid (show Blk w2.drew w0.heap.size 78 zeros32 from HZ2.out.below (Below.refl w2.heap.size w2).drew HZ2.out.lt)
  have HP2 := Lib.hid (show P10 w2 from p10_below HP.out (HB1.out.trans (hb2.mono HB1.out.size)))
  clear hb2
  go_upto_region 38 with fail
  go_region_law (first
    | (go_simp; go_at_call 41; (first | refine (ndig_calls d hd64 w2.drew HP2.out).mono ?_ | refine (ndig_calls d hd64 w2 HP2.out).mono ?_)
       rintro e5 w5 ⟨rfl, hw5⟩
       obtain rfl := hw5.symm
       clear hw5)
    | (go_simp; go_at_call 40; (first | refine (setd2 hd64 hpb HNZ.out HDPE.out HZ2D.out).mono ?_ | refine (setd2 hd64 hpb HNZ.out HDPE.out HZ2.out).mono ?_)
       rintro e6 w6 ⟨rfl, hc6, hb6, hl6⟩
       have HC6 := Lib.hid hc6
       have HB6 := Lib.hid (show Below w0.heap.size w2 w6 from by first | exact hb6 | exact (show Below w0.heap.size w2 w2.drew from (Below.refl w0.heap.size w2).drew).trans hb6)
       have HL6 := Lib.hid hl6
       clear hc6 hb6 hl6))
  all_goals
    have hB16 : Below w0.heap.size w1 w6 := (HB12.out.mono (by rw [HS1.out]; exact Nat.le_succ _)).trans HB6.out
    have HFI6 := Lib.hid (fi_again HFI1.out HS1.out hB16 HL6.out)
    have HB06 := Lib.hid (show Below base w w6 from (HB1.out.mono h3).trans (hB16.mono (by rw [HS0.out]; exact h3)))
    clear hB16
    go_wp2_with fail
    refine (fmt_calls (S := digS d) (n := nz) (dp := dp) (by rw [digS_len]; exact HNZ.out) hnzb hdb rfl HFI6.out (fun j hj => by rw [digS_at d j (by rw [← HNZ.out]; exact hj)]; exact HC6.out j (by have := trimZ_le (dgt d) (ND d); rw [← HNZ.out] at this; omega))).mono ?_
    rintro e w8 ⟨A8, c8, rfl, ho8, hb8⟩
    have HO8 := Lib.hid ho8
    have HB8 := Lib.hid hb8
    clear ho8 hb8
    go_wp2_with fail
    exact bodyPost_ret (v := .slice A8 _ c8) (by simp [results, go_sem]) rfl ⟨A8, c8, rfl, HO8.out, HB06.out.trans HB8.out⟩
/-- A double as a text. -/
theorem ftoa_calls (T : Nat → Int) (x : Nat) : ∃ out : List Nat, (out.length ≤ 1000 ∧ ∀ b ∈ out, b < 256) ∧ ∀ (w : World) (base c : Nat) (A : Option Addr), Tab T w → P10 w → 3 < base → 2 < base → base ≤ w.heap.size → w.ownsRow base 5 1 (.slice A 0 c) 0 [] →
    Calls Tryd.prog 30 #[.slice A 0 c, .float .f64 x, .int .u8 102, .int .i64 (-1)] w (FEPost base w out) := by
  obtain ⟨neg, hneg⟩ : ∃ neg, ((x : Int) / 9223372036854775808 != 0) = neg := ⟨_, rfl⟩
  obtain ⟨ex, hex⟩ : ∃ ex, wrap64 ((x : Int) / 4503599627370496) % 2048 = ex := ⟨_, rfl⟩
  obtain ⟨mt, hmt⟩ : ∃ mt, bits .and .u64 (x : Int) 4503599627370495 = mt := ⟨_, rfl⟩
  have hxb : 0 ≤ ex ∧ ex < 2048 := by rw [← hex]; constructor <;> omega
  have hmb : 0 ≤ mt ∧ mt ≤ 18446744073709551615 := by rw [← hmt]; exact and_range _ _
  by_cases h1 : ex = 2047
  · by_cases h2 : mt = 0
    · cases neg with
      | true => exact ftoaM T x true ex mt hneg hex hmt hxb hmb h1 h2 rfl
      | false => exact ftoaP T x false ex mt hneg hex hmt hxb hmb h1 h2 rfl
    · exact ftoaN T x neg ex mt hneg hex hmt hxb hmb h1 h2
  · by_cases h0 : ex = 0
    · by_cases h2 : mt = 0
      · exact ftoaZ0 T x neg ex mt hneg hex hmt hxb hmb h0 h2
      · exact ftoaF0 T x neg ex mt hneg hex hmt hxb hmb h0 h2
    · obtain ⟨m1, hm1⟩ : ∃ m1, bits .or .u64 mt 4503599627370496 = m1 := ⟨_, rfl⟩
      have hm1b : 0 ≤ m1 ∧ m1 ≤ 18446744073709551615 := by rw [← hm1]; exact or_range _ _
      by_cases h2 : m1 = 0
      · exact ftoaZ1 T x neg ex mt hneg hex hmt hxb hmb h0 h1 m1 hm1 hm1b h2
      · exact ftoaF1 T x neg ex mt hneg hex hmt hxb hmb h0 h1 m1 hm1 hm1b h2
end Go.Proofs.YtpfgdfgifdbijaaDoor.ff
