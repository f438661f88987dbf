/-
  Contracts: numbers that are the same are found equal.
-/
import Derived.Test.YtplphaaeibeheaaGreatGeoW
namespace Go.Proofs.YtplphaaeibeheaaGreat.geo
open Go.ChangeShapes Go.WideShapes Go.ChangeAt Go.RowKit
open Go.Proofs.YtplphaaeibeheaaGreat.mem
set_option linter.unusedVariables false
set_option linter.unusedSimpArgs false

set_option maxHeartbeats 8000000 in
set_option maxRecDepth 100000 in
theorem equalNums_same (A B : Option Addr) (n ca cb : Nat) (ns : List Nat) (hn : n ≤ 4194308) (hnum : ∀ x ∈ ns, isNum x) (w : World) (hA : Sl w w.heap.size A n 1 (FL ns)) (hB : Sl w w.heap.size B n 1 (FL ns)) :
    Calls Tryz.prog 30 #[.slice A n ca, .slice B n cb] w (fun e w' => e = .returned (.bool true) ∧ w' = w) := by
  have hl : ns.length = n := by have := hA.1; rw [FL_len] at this; omega
  have HL := Lib.hid hl
  have HNUM := Lib.hid hnum
  have HA := Lib.hid hA
  have HB := Lib.hid hB
  clear hl hnum hA hB
  go_enter Tryz.func30, Tryz.ntmps30
  go_wp2_with fail
  go_loopg [14] n (fun q cc wr => ∃ i, i + q = n ∧ cc = .int .i64 (i : Nat) ∧ wr = w)
  case atStart => exact ⟨0, by omega, by go_num, rfl⟩
  case round =>
    obtain ⟨i, hi', rfl, rfl⟩ := hrel
    have HI := Lib.hid hi'
    have hin : i ≤ n := by omega
    clear hi'
    by_cases hlt : i < n
    · obtain ⟨b, off, hAe, hbo, hcell⟩ := HA.out.2.2 (by omega)
      obtain ⟨b2, off2, hBe, hbo2, hcell2⟩ := HB.out.2.2 (by omega)
      subst hAe hBe
      have hln : i < ns.length := by rw [HL.out]; exact hlt
      have d0 := hcell i _ (FL_get hln)
      have d1 := hcell2 i _ (FL_get hln)
      have hx0 : isNum (ns.getD i 0) := HNUM.out _ (by rw [List.getD_eq_getElem?_getD, List.getElem?_eq_getElem hln]; exact List.getElem_mem _)
      have hltI : (i : Int) < (n : Int) := by omega
      obtain ⟨x, hx⟩ : ∃ x, x = ns.getD i 0 := ⟨_, rfl⟩
      rw [← hx] at d0 d1 hx0
      have o : FloatKind.f64.format.order x x = some .eq := hx0
      clear hcell hcell2 hx hx0 hln
      go_wp2_with fail
      go_roundg (n - (i + 1))
      case measure => have := HI.out; omega
      case rel => exact ⟨i + 1, by omega, by go_num, rfl⟩
    · obtain rfl : i = n := by omega
      have hltI : (i : Int) ≤ (i : Int) := Int.le_refl _
      go_wp2_with fail
      exact bodyPost_ret (v := .bool true) (by simp [results, go_sem]) rfl ⟨rfl, rfl⟩
end Go.Proofs.YtplphaaeibeheaaGreat.geo
