/-
  Contracts: the same numbers, and points of the same numbers, are found the same.
-/
import Derived.Test.YtpfgdfgifdbijaaDoorFfU
import Derived.BigQuiet
import Derived.Deep.Cut
namespace Go.Proofs.YtpfgdfgifdbijaaDoor.pt
open Go.ChangeShapes Go.WideShapes Go.ChangeAt Go.RowKit
open Go.Proofs.YtpfgdfgifdbijaaDoor.mem Go.Proofs.YtpfgdfgifdbijaaDoor.geo
set_option linter.unusedVariables false
set_option linter.unusedSimpArgs false

set_option maxHeartbeats 16000000 in
set_option maxRecDepth 100000 in
theorem sameNums_same (A B : Option Addr) (n ca cb : Nat) (ns : List Nat) (w : World) (hA : Sl w w.heap.size A n 1 (FL ns)) (hB : Sl w w.heap.size B n 1 (FL ns)) :
    Calls Tryd.prog 13 #[.slice A n ca, .slice B n cb] w (Gives w (.bool true)) := by
  have hl : ns.length = n := by have := hA.1; rw [FL_len] at this; omega
  have hn : n ≤ 9223372036854775807 := hA.2.1
  have HL := Lib.hid hl
  have HA := Lib.hid hA
  have HB := Lib.hid hB
  have htb := run_tobits
  clear hl hA hB
  go_enter Tryd.func13, Tryd.ntmps13
  go_wp2_with fail
  go_loopg [14] n (fun q cc wr => ∃ i, i + q = n ∧ cc = .int .i64 (i : Nat) ∧ Below w.heap.size w wr)
  case atStart => exact ⟨0, by omega, by go_num, Below.refl _ _⟩
  case round =>
    obtain ⟨i, hi', rfl, hbl⟩ := hrel
    have HI := Lib.hid hi'
    have HBL := Lib.hid hbl
    have hin : i ≤ n := by omega
    clear hi' hbl
    by_cases hlt : i < n
    · obtain ⟨b, off, hAe, hbo, hcell⟩ := HA.out.2.2 (by omega)
      obtain ⟨b2, off2, hBe, hbo2, hcell2⟩ := HB.out.2.2 (by omega)
      subst hAe hBe
      have hln : i < ns.length := by rw [HL.out]; exact hlt
      have d0 := (HBL.out.cell (p := ⟨b, off + i, none⟩) hbo).trans (hcell i _ (FL_get hln))
      have d1 := (HBL.out.cell (p := ⟨b2, off2 + i, none⟩) hbo2).trans (hcell2 i _ (FL_get hln))
      have hltI : (i : Int) < (n : Int) := by omega
      obtain ⟨x, hx⟩ : ∃ x, x = ns.getD i 0 := ⟨_, rfl⟩
      rw [← hx] at d0 d1
      clear hcell hcell2 hx hln
      go_upto_region 6 with fail
      go_quiet (fail)
      go_wp2_with fail
      go_roundg (n - (i + 1))
      case measure => have := HI.out; omega
      case rel => exact ⟨i + 1, by omega, by go_num, HBL.out.trans (drewN_below _ _ _)⟩
    · obtain rfl : i = n := by omega
      have hltI : (i : Int) ≤ (i : Int) := Int.le_refl _
      go_wp2_with fail
      exact bodyPost_ret (v := .bool true) (by simp [results, go_sem]) rfl ⟨rfl, HBL.out⟩
theorem noGeoms_calls (w : World) : Calls Tryd.prog 14 #[.slice none 0 0, .slice none 0 0] w (Gives w (.bool true)) := by
  go_enter Tryd.func14, Tryd.ntmps14
  go_wp2_with fail
  go_loopg [14] 0 (fun q ci wr => q = 0 ∧ ci = .int .i64 0 ∧ Below w.heap.size w wr)
  case atStart => exact ⟨rfl, rfl, Below.refl _ _⟩
  case round =>
    obtain ⟨rfl, rfl, hbl⟩ := hrel
    have HBL := Lib.hid hbl
    clear hbl
    go_wp2_with fail
    exact bodyPost_ret (v := .bool true) (by simp [results, go_sem]) rfl ⟨rfl, HBL.out⟩
set_option maxHeartbeats 16000000 in
set_option maxRecDepth 100000 in
theorem samePt_calls (d : Nat) (A A' : Option Addr) (n ca ca' : Nat) (ns : List Nat) (w : World) (hA : Sl w w.heap.size A n 1 (FL ns)) (hA' : Sl w w.heap.size A' n 1 (FL ns)) :
    Calls Tryd.prog 8 #[.agg #[.int .i64 1, .int .i64 d, .slice A n ca, .slice none 0 0], .agg #[.int .i64 1, .int .i64 d, .slice A' n ca', .slice none 0 0]] w (Gives w (.bool true)) := by
  obtain ⟨w1, hw1⟩ : ∃ w1, w1 = (w.alloc (.cells #[.int .i64 1, .int .i64 d, .slice A n ca, .slice none 0 0] 34)).alloc (.cells #[.int .i64 1, .int .i64 d, .slice A' n ca', .slice none 0 0] 34) := ⟨_, rfl⟩
  have hb1 : Below w.heap.size w w1 := by rw [hw1]; exact ((Below.refl _ _).alloc (Nat.le_refl _) _).alloc (by simp) _
  have hX : Blk w1 w.heap.size 34 #[.int .i64 1, .int .i64 d, .slice A n ca, .slice none 0 0] := by rw [hw1]; exact (Blk.new _ _ _).alloc _
  have hY : Blk w1 (w.heap.size + 1) 34 #[.int .i64 1, .int .i64 d, .slice A' n ca', .slice none 0 0] := by
    rw [hw1]
    have := Blk.new (w.alloc (.cells #[.int .i64 1, .int .i64 d, .slice A n ca, .slice none 0 0] 34)) 34 #[.int .i64 1, .int .i64 d, .slice A' n ca', .slice none 0 0]
    simpa using this
  have HEN := Lib.hid (sameNums_same A A' n ca ca' ns w1 (hA.up hb1) (hA'.up hb1))
  have HX := Lib.hid hX
  have HY := Lib.hid hY
  have HB1 := Lib.hid hb1
  have HW1 := Lib.hid hw1
  obtain ⟨x0, x1, x2, x3, -, -, -, -, xl⟩ := cells4 hX
  obtain ⟨y0, y1, y2, y3, -, -, -, -, yl⟩ := cells4 hY
  clear hw1 hb1 hX hY hA hA'
  go_enter Tryd.func8, Tryd.ntmps8
  go_upto_region 1 with fail
  rw [← HW1.out]
  go_wp2_with fail
  refine HEN.out.mono ?_
  rintro e9 w9 ⟨rfl, hb9⟩
  obtain ⟨-, -, -, u3, -, -, -, -, ul⟩ := cells4 (HX.out.below hb9 HX.out.lt)
  obtain ⟨-, -, -, v3, -, -, -, -, vl⟩ := cells4 (HY.out.below hb9 HY.out.lt)
  have HB9 := Lib.hid (HB1.out.trans (hb9.mono HB1.out.size))
  clear hb9 x0 x1 x2 x3 y0 y1 y2 y3 HEN
  go_wp2_with fail
  refine (noGeoms_calls _).mono ?_
  rintro e8 w8 ⟨rfl, hb8⟩
  have HB8 := Lib.hid (HB9.out.trans (hb8.mono HB9.out.size))
  clear hb8 u3 v3
  go_wp2_with fail
  exact bodyPost_ret (v := .bool true) (by simp [results, go_sem]) rfl ⟨rfl, HB8.out⟩
end Go.Proofs.YtpfgdfgifdbijaaDoor.pt
