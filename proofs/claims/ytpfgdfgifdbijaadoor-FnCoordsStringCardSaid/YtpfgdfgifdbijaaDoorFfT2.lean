/-
  Contract: a place as a text.
-/
import Derived.Test.YtpfgdfgifdbijaaDoorFfT
namespace Go.Proofs.YtpfgdfgifdbijaaDoor.ff
open Go.ChangeShapes Go.WideShapes Go.ChangeAt Go.RowKit
open Go.Proofs.YtpfgdfgifdbijaaDoor.mem
set_option linter.unusedVariables false
set_option linter.unusedSimpArgs false

set_option maxHeartbeats 8000000 in
set_option maxRecDepth 100000 in
theorem cstr2_calls {T : Nat → Int} {FT : Nat → List Nat} (hFT : ∀ x, (FT x).length ≤ 1000 ∧ ∀ b ∈ FT x, b < 256) (hff : ∀ (x : Nat) (w : World), Tab T w → P10 w → Calls Tryd.prog 10 #[.float .f64 x, .int .u8 102, .int .i64 (-1), .int .i64 64] w (fun e w' => e = .returned (.string (strN (FT x))) ∧ Below w.heap.size w w'))
    (x y z m : Nat) (w : World) (hT : Tab T w) (hP : P10 w) : Calls Tryd.prog 12 #[.agg #[.float .f64 x, .float .f64 y, .float .f64 z, .float .f64 m, .int .u8 2]] w (fun e w' => e = .returned (.string ⟨(cS FT 2 x y z m).toArray⟩) ∧ Below w.heap.size w w') := by
  obtain ⟨w0, hw0⟩ : ∃ w0, w0 = w.alloc (.cells #[.float .f64 x, .float .f64 y, .float .f64 z, .float .f64 m, .int .u8 2] 41) := ⟨_, rfl⟩
  have hs0 : w0.heap.size = w.heap.size + 1 := by rw [hw0]; simp
  have hX0 : Blk w0 w.heap.size 41 #[.float .f64 x, .float .f64 y, .float .f64 z, .float .f64 m, .int .u8 2] := by rw [hw0]; exact Blk.new _ _ _
  obtain ⟨w1, hw1⟩ : ∃ w1, w1 = w0.alloc (.cells #[.pointer none, .slice none 0 0] 54) := ⟨_, rfl⟩
  obtain ⟨B, hBe⟩ : ∃ B, B = w0.heap.size := ⟨_, rfl⟩
  have hI : IsB B B (Lib.byteCells ([] : List UInt8)) w1 := by rw [hw1, hBe]; exact Lib.fresh_isBuilder _ _ w0
  have hb01 : Below w.heap.size w w1 := by rw [hw1, hw0]; exact ((Below.refl _ _).alloc (Nat.le_refl _) _).alloc (by simp) _
  have hX1 : Blk w1 w.heap.size 41 #[.float .f64 x, .float .f64 y, .float .f64 z, .float .f64 m, .int .u8 2] := by rw [hw1]; exact hX0.alloc _
  have hB1 : B = w.heap.size + 1 := by rw [hBe, hs0]
  have hsz1 : w1.heap.size = B + 1 := by rw [hw1, hBe]; simp
  have HI := Lib.hid hI
  have HX := Lib.hid hX1
  have HBL := Lib.hid (Below.refl B w1)
  have HSZ := Lib.hid (show B ≤ w1.heap.size by omega)
  have HB01 := Lib.hid hb01
  have HTB := Lib.hid (show ∀ w', Below B w1 w' → Tab T w' ∧ P10 w' from fun w' hb => by
    have h1 : Below w.heap.size w w' := hb01.trans (hb.mono (by omega))
    exact ⟨hT.below h1 hT.lt, p10_below hP h1⟩)
  have HFF := Lib.hid hff
  have hfx := fun x => by have := (hFT x).1; rw [← strN_size] at this; exact this
  have HFX := Lib.hid hfx
  obtain ⟨l0, hl0⟩ : ∃ l0 : List UInt8, l0 = [] := ⟨_, rfl⟩
  have hn0 : l0.length ≤ 0 := by rw [hl0]; exact Nat.le_refl _
  rw [← hl0] at HI
  have HL0 := Lib.hid hl0
  obtain ⟨x0, x1, x2, x3, x4⟩ := cells5 hX1
  have HW0 := Lib.hid hw0
  have HW1 := Lib.hid hw1
  have HS0 := Lib.hid hs0
  have HB1 := Lib.hid hB1
  have HBE := Lib.hid hBe
  have hwB : w.heap.size < B := by omega
  clear hB1 hsz1 hBe hs0 hw0 hX0 hw1 hI hb01 hX1 hff hl0 hT hP hfx hFT
  go_enter Tryd.func12, Tryd.ntmps12
  go_upto_region 1 with fail
  rw [← HW0.out]
  go_upto_region 2 with fail
  rw [← HW1.out, ← HBE.out]
  go_wp2_with fail
  refine (ws_calls (s := (⟨#[67, 111, 111, 114, 100, 105, 110, 97, 116, 101, 115, 91]⟩ : ByteArray)) HI.out (by rw [byteCells_len]; have := (show (⟨#[67, 111, 111, 114, 100, 105, 110, 97, 116, 101, 115, 91]⟩ : ByteArray).size ≤ 12 by decide); omega) HSZ.out).mono ?_
  rintro e w1 ⟨rfl, hI, hb, hs⟩
  rw [cells_app] at hI
  obtain ⟨l1, hl1⟩ : ∃ l, l = l0 ++ ((⟨#[67, 111, 111, 114, 100, 105, 110, 97, 116, 101, 115, 91]⟩ : ByteArray)).data.toList := ⟨_, rfl⟩
  have hn1 : l1.length ≤ 1000 := by rw [hl1, List.length_append]; have := (show (⟨#[67, 111, 111, 114, 100, 105, 110, 97, 116, 101, 115, 91]⟩ : ByteArray).size ≤ 12 by decide); have h2 := lenS ((⟨#[67, 111, 111, 114, 100, 105, 110, 97, 116, 101, 115, 91]⟩ : ByteArray)); omega
  rw [← hl1] at hI
  have HL1 := Lib.hid hl1
  have HI := Lib.hid hI
  have HBL := Lib.hid (HBL.out.trans hb)
  have HSZ := Lib.hid hs
  obtain ⟨x0, x1, x2, x3, x4⟩ := cells5 (HX.out.below HBL.out (by omega))
  clear hI hb hs hl1
  go_wp2_with fail
  refine (tyS2_calls _).mono ?_
  rintro e wS ⟨rfl, h9⟩
  obtain rfl := h9.symm
  clear h9
  go_wp2_with fail
  refine (ws_calls (s := tyS 2) HI.out (by rw [byteCells_len]; have := tyS_size 2; omega) HSZ.out).mono ?_
  rintro e w2 ⟨rfl, hI, hb, hs⟩
  rw [cells_app] at hI
  obtain ⟨l2, hl2⟩ : ∃ l, l = l1 ++ (tyS 2).data.toList := ⟨_, rfl⟩
  have hn2 : l2.length ≤ 2000 := by rw [hl2, List.length_append]; have := tyS_size 2; have h2 := lenS (tyS 2); omega
  rw [← hl2] at hI
  have HL2 := Lib.hid hl2
  have HI := Lib.hid hI
  have HBL := Lib.hid (HBL.out.trans hb)
  have HSZ := Lib.hid hs
  obtain ⟨x0, x1, x2, x3, x4⟩ := cells5 (HX.out.below HBL.out (by omega))
  clear hI hb hs hl2
  go_wp2_with fail
  refine (ws_calls (s := (⟨#[93, 32]⟩ : ByteArray)) HI.out (by rw [byteCells_len]; have := (show (⟨#[93, 32]⟩ : ByteArray).size ≤ 2 by decide); omega) HSZ.out).mono ?_
  rintro e w3 ⟨rfl, hI, hb, hs⟩
  rw [cells_app] at hI
  obtain ⟨l3, hl3⟩ : ∃ l, l = l2 ++ ((⟨#[93, 32]⟩ : ByteArray)).data.toList := ⟨_, rfl⟩
  have hn3 : l3.length ≤ 3000 := by rw [hl3, List.length_append]; have := (show (⟨#[93, 32]⟩ : ByteArray).size ≤ 2 by decide); have h2 := lenS ((⟨#[93, 32]⟩ : ByteArray)); omega
  rw [← hl3] at hI
  have HL3 := Lib.hid hl3
  have HI := Lib.hid hI
  have HBL := Lib.hid (HBL.out.trans hb)
  have HSZ := Lib.hid hs
  obtain ⟨x0, x1, x2, x3, x4⟩ := cells5 (HX.out.below HBL.out (by omega))
  clear hI hb hs hl3
  go_wp2_with fail
  refine (HFF.out x _ (HTB.out _ HBL.out).1 (HTB.out _ HBL.out).2).mono ?_
  rintro e w103 ⟨rfl, hb⟩
  have HI := Lib.hid (HI.out.keep hb)
  have HBL := Lib.hid (HBL.out.trans (hb.mono HSZ.out))
  have HSZ := Lib.hid (Nat.le_trans HSZ.out hb.size)
  obtain ⟨x0, x1, x2, x3, x4⟩ := cells5 (HX.out.below HBL.out (by omega))
  clear hb
  go_wp2_with fail
  refine (ws_calls (s := strN (FT x)) HI.out (by rw [byteCells_len]; have := HFX.out x; omega) HSZ.out).mono ?_
  rintro e w4 ⟨rfl, hI, hb, hs⟩
  rw [cells_app] at hI
  obtain ⟨l4, hl4⟩ : ∃ l, l = l3 ++ (strN (FT x)).data.toList := ⟨_, rfl⟩
  have hn4 : l4.length ≤ 4000 := by rw [hl4, List.length_append]; have := HFX.out x; have h2 := lenS (strN (FT x)); omega
  rw [← hl4] at hI
  have HL4 := Lib.hid hl4
  have HI := Lib.hid hI
  have HBL := Lib.hid (HBL.out.trans hb)
  have HSZ := Lib.hid hs
  obtain ⟨x0, x1, x2, x3, x4⟩ := cells5 (HX.out.below HBL.out (by omega))
  clear hI hb hs hl4
  go_wp2_with fail
  refine (wr_calls HI.out (by rw [byteCells_len]; omega) HSZ.out).mono ?_
  rintro e w5 ⟨v, rfl, hI, hb, hs⟩
  rw [cells_one] at hI
  obtain ⟨l5, hl5⟩ : ∃ l, l = l4 ++ [32] := ⟨_, rfl⟩
  have hn5 : l5.length ≤ 4001 := by rw [hl5, List.length_append]; simp; omega
  rw [← hl5] at hI
  have HL5 := Lib.hid hl5
  have HI := Lib.hid hI
  have HBL := Lib.hid (HBL.out.trans hb)
  have HSZ := Lib.hid hs
  obtain ⟨x0, x1, x2, x3, x4⟩ := cells5 (HX.out.below HBL.out (by omega))
  clear hI hb hs hl5
  go_wp2_with fail
  refine (HFF.out y _ (HTB.out _ HBL.out).1 (HTB.out _ HBL.out).2).mono ?_
  rintro e w105 ⟨rfl, hb⟩
  have HI := Lib.hid (HI.out.keep hb)
  have HBL := Lib.hid (HBL.out.trans (hb.mono HSZ.out))
  have HSZ := Lib.hid (Nat.le_trans HSZ.out hb.size)
  obtain ⟨x0, x1, x2, x3, x4⟩ := cells5 (HX.out.below HBL.out (by omega))
  clear hb
  go_wp2_with fail
  refine (ws_calls (s := strN (FT y)) HI.out (by rw [byteCells_len]; have := HFX.out y; omega) HSZ.out).mono ?_
  rintro e w6 ⟨rfl, hI, hb, hs⟩
  rw [cells_app] at hI
  obtain ⟨l6, hl6⟩ : ∃ l, l = l5 ++ (strN (FT y)).data.toList := ⟨_, rfl⟩
  have hn6 : l6.length ≤ 5001 := by rw [hl6, List.length_append]; have := HFX.out y; have h2 := lenS (strN (FT y)); omega
  rw [← hl6] at hI
  have HL6 := Lib.hid hl6
  have HI := Lib.hid hI
  have HBL := Lib.hid (HBL.out.trans hb)
  have HSZ := Lib.hid hs
  obtain ⟨x0, x1, x2, x3, x4⟩ := cells5 (HX.out.below HBL.out (by omega))
  clear hI hb hs hl6
  go_wp2_with fail
  refine (is3D2_calls _).mono ?_
  rintro e wS ⟨rfl, h9⟩
  obtain rfl := h9.symm
  clear h9
  go_wp2_with fail
  refine (isM2_calls _).mono ?_
  rintro e wS ⟨rfl, h9⟩
  obtain rfl := h9.symm
  clear h9
  go_wp2_with fail
  refine (wr_calls HI.out (by rw [byteCells_len]; omega) HSZ.out).mono ?_
  rintro e w7 ⟨v, rfl, hI, hb, hs⟩
  rw [cells_one] at hI
  obtain ⟨l7, hl7⟩ : ∃ l, l = l6 ++ [32] := ⟨_, rfl⟩
  have hn7 : l7.length ≤ 5002 := by rw [hl7, List.length_append]; simp; omega
  rw [← hl7] at hI
  have HL7 := Lib.hid hl7
  have HI := Lib.hid hI
  have HBL := Lib.hid (HBL.out.trans hb)
  have HSZ := Lib.hid hs
  obtain ⟨x0, x1, x2, x3, x4⟩ := cells5 (HX.out.below HBL.out (by omega))
  clear hI hb hs hl7
  go_wp2_with fail
  refine (HFF.out m _ (HTB.out _ HBL.out).1 (HTB.out _ HBL.out).2).mono ?_
  rintro e w107 ⟨rfl, hb⟩
  have HI := Lib.hid (HI.out.keep hb)
  have HBL := Lib.hid (HBL.out.trans (hb.mono HSZ.out))
  have HSZ := Lib.hid (Nat.le_trans HSZ.out hb.size)
  obtain ⟨x0, x1, x2, x3, x4⟩ := cells5 (HX.out.below HBL.out (by omega))
  clear hb
  go_wp2_with fail
  refine (ws_calls (s := strN (FT m)) HI.out (by rw [byteCells_len]; have := HFX.out m; omega) HSZ.out).mono ?_
  rintro e w8 ⟨rfl, hI, hb, hs⟩
  rw [cells_app] at hI
  obtain ⟨l8, hl8⟩ : ∃ l, l = l7 ++ (strN (FT m)).data.toList := ⟨_, rfl⟩
  have hn8 : l8.length ≤ 6002 := by rw [hl8, List.length_append]; have := HFX.out m; have h2 := lenS (strN (FT m)); omega
  rw [← hl8] at hI
  have HL8 := Lib.hid hl8
  have HI := Lib.hid hI
  have HBL := Lib.hid (HBL.out.trans hb)
  have HSZ := Lib.hid hs
  obtain ⟨x0, x1, x2, x3, x4⟩ := cells5 (HX.out.below HBL.out (by omega))
  clear hI hb hs hl8
  go_wp2_with fail
  refine (Tryd.Builder_String_any B B l8 _ HI.out HSZ.out).mono ?_
  rintro e w9 ⟨rfl, hb⟩
  have HB9 := Lib.hid (HB01.out.trans ((HBL.out.trans hb).mono (by omega)))
  have hfin : cS FT 2 x y z m = l8 := by
    rw [HL8.out, HL7.out, HL6.out, HL5.out, HL4.out, HL3.out, HL2.out, HL1.out, HL0.out]
    simp [cS]
  clear hb
  go_wp2_with fail
  exact bodyPost_ret (v := .string ⟨l8.toArray⟩) (by simp [results, go_sem]) rfl ⟨by rw [hfin], HB9.out⟩
end Go.Proofs.YtpfgdfgifdbijaaDoor.ff
