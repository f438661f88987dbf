/-
  Contracts: a text that is built: strings and characters are written.
-/
import Derived.Test.YtpfgdfgifdbijaaDoorFfP
import Derived.Lib.Builder
namespace Go.Proofs.YtpfgdfgifdbijaaDoor.ff
open Go.ChangeShapes Go.WideShapes Go.ChangeAt Go.RowKit
open Go.Proofs.YtpfgdfgifdbijaaDoor.mem
set_option linter.unusedVariables false
set_option linter.unusedSimpArgs false

/-- A builder that holds bytes, fresh or used. -/
abbrev IsB (B b : Nat) (bs : List Value) (w : World) : Prop := Lib.IsBuilder 54 5 B b bs w
theorem infoSB : ∃ j : TypeInfo, Tryd.prog.info? 54 = some j ∧ j.size = 2 := by
  have h0 : (Tryd.prog.info? 54).map (·.size) = some 2 := by kernel_rfl
  cases hh : Tryd.prog.info? 54 with
  | none => rw [hh] at h0; cases h0
  | some i => rw [hh] at h0; exact ⟨i, rfl, Option.some.inj h0⟩
theorem run_noesc (x : Value) (w : World) : (callFunc 48 #[x]).run Tryd.prog w = .ok (.value x) w := by
  refine (run_callFunc_extern (P := Tryd.prog) (f := 48) Tryd.func48 (by kernel_rfl) (by kernel_rfl) (by kernel_rfl) (e := Extern.AbiNoEscape.same) (by kernel_rfl) _ w).trans ?_
  rfl
theorem lies : liesAt Tryd.prog Tryd.prog.depth 54 (2 / Tryd.prog.cellsOf 54) 0 54 1 = true := by kernel_rfl
set_option maxHeartbeats 1000000 in
set_option maxRecDepth 100000 in
theorem copy_calls {B b : Nat} {bs : List Value} {w : World} (h : IsB B b bs w) : Calls Tryd.prog 31 #[.pointer (some ⟨b, 0, none⟩)] w (fun e w' => e = .returned (.tuple #[]) ∧ Lib.BuilderAt 54 5 B b (.pointer (some ⟨b, 0, none⟩)) bs w' ∧ Below b w w') := by
  obtain ⟨j, hj, hjs⟩ := infoSB
  rcases h with h | h
  · have h0 := h.cell0
    have hsh := h.shape
    have hfz := h.frozen0
    have HB := Lib.hid (h.used (.pointer (some ⟨b, 0, none⟩)))
    have hne := run_noesc
    have e1 := Lib.run_to_unsafe (P := Tryd.prog) w ⟨b, 0, none⟩ Tryd.underlying51 Tryd.underlying93 hj (by rw [hjs]; decide) hsh (Nat.zero_lt_succ 1)
    have e2 := Lib.run_from_unsafe (P := Tryd.prog) w ⟨b, 0, none⟩ Tryd.underlying93 Tryd.underlying51 hj hsh lies
    clear h
    go_enter Tryd.func31, Tryd.ntmps31
    go_wp2_with fail
    refine bodyPost_end (v := .tuple #[]) (by simp [results, go_sem]) rfl ⟨rfl, HB.out, ?_⟩
    exact ⟨rfl, rfl, rfl, by simp, fun k hk => Below.heap_setCell _ ⟨b, 0, none⟩ _ k (show k ≠ b by omega)⟩
  · have h0 := h.cell0
    have e1 := Lib.run_neq_ptr_same (P := Tryd.prog) w ⟨b, 0, none⟩ Tryd.underlying51 hj
    have HB := Lib.hid h
    clear h
    go_enter Tryd.func31, Tryd.ntmps31
    go_wp2_with fail
    refine bodyPost_end (v := .tuple #[]) (by simp [results, go_sem]) rfl ⟨rfl, HB.out, Below.refl _ _⟩
end Go.Proofs.YtpfgdfgifdbijaaDoor.ff
