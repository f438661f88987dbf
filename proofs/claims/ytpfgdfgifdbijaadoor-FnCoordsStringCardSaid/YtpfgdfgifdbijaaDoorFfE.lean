/-
  Contracts: the digits of a number in a buffer.
-/
import Derived.Test.YtpfgdfgifdbijaaDoorFfA
import Derived.Test.YtpfgdfgifdbijaaDoorFfS
import Derived.Deep.DeepCutAuto
namespace Go.Proofs.YtpfgdfgifdbijaaDoor.ff
open Go.ChangeShapes Go.WideShapes Go.ChangeAt Go.RowKit
open Go.Proofs.YtpfgdfgifdbijaaDoor.mem
set_option linter.unusedVariables false
set_option linter.unusedSimpArgs false

/-- The table of powers of ten, as the library lays it. -/
abbrev P10 (w : World) : Prop := Lib.TabIs Tryd.prog w "internal/strconv.uint64pow10" .u64 Lib.pow10Tab
theorem P10.cell {w : World} (h : P10 w) (i : Nat) (hi : i < 20) : w.cell? ⟨2, i, none⟩ = some (.int .u64 ((10 ^ i : Nat) : Int)) := by
  have hg : Tryd.prog.globalNamed "internal/strconv.uint64pow10" = some 2 := by kernel_rfl
  have h1 := World.var?_cell hg h i
  rw [h1]
  have h2 := Lib.pow10Tab_at i hi
  have hl : i < Lib.pow10Tab.length := by rw [Lib.pow10Tab_length]; exact hi
  rw [List.getElem?_toArray, List.getElem?_map, List.getElem?_eq_getElem hl]
  rw [List.getD_eq_getElem?_getD, List.getElem?_eq_getElem hl, Option.getD_some] at h2
  rw [Option.map_some, h2]
theorem P10.lt {w : World} (h : P10 w) : 2 < w.heap.size := World.block_lt_of_cell? _ _ (h.cell 0 (by decide))
/-- How many digits are written. -/
def ND (u : Nat) : Nat := if u = 0 then 0 else Lib.nDigits u
theorem ND_pow (u : Nat) : u < 10 ^ ND u := by
  unfold ND
  split
  · rename_i h; subst h; decide
  · exact Lib.lt_pow_nDigits u
theorem ND_le (u : Nat) (h : u < 18446744073709551616) : ND u ≤ 20 := by
  unfold ND
  split
  · omega
  · rename_i h0
    have h1 := Lib.numDigits_eq u (by omega) h
    have h2 := h1.1
    split at h2 <;> omega
set_option maxRecDepth 100000 in
theorem ndig_calls (u : Nat) (h2 : u < 18446744073709551616) (w : World) (ht : P10 w) : Calls Tryd.prog 41 #[.int .u64 u] w (Same w (.int .i64 (ND u))) := by
  by_cases h : u = 0
  · subst h
    have d0 := ht.cell 0 (by decide)
    have HT := Lib.hid ht
    clear ht
    go_enter Tryd.func41, Tryd.ntmps41
    go_wp2_with fail
    refine (Tryd.bits_Len64 0 w (by decide) (by decide)).mono ?_
    rintro e w1 ⟨rfl, h9⟩
    obtain rfl := h9.symm
    clear h9
    rw [show Lib.bitLen (Int.toNat 0) = 0 from rfl]
    go_wp2_with fail
    refine (log10_calls 0 (by decide) _).mono ?_
    rintro e w1 ⟨rfl, h9⟩
    obtain rfl := h9.symm
    clear h9
    go_wp2_with fail
    refine (bool2i_calls _ _).mono ?_
    rintro e w1 ⟨rfl, h9⟩
    obtain rfl := h9.symm
    clear h9
    go_wp2_with fail
    exact bodyPost_ret (v := .int .i64 0) (by simp [results, go_sem]) rfl ⟨rfl, rfl⟩
  · unfold ND
    rw [if_neg h]
    exact Tryd.internal_strconv_numDigits u (by omega) h2 w ht
end Go.Proofs.YtpfgdfgifdbijaaDoor.ff
