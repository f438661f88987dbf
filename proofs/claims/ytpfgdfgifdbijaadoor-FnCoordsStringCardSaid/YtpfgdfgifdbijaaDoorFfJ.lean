/-
  Contracts: zero as a text; a double's bits.
-/
import Derived.Test.YtpfgdfgifdbijaaDoorFfI
import Derived.Test.YtpfgdfgifdbijaaDoorFfD
import Derived.Test.YtpfgdfgifdbijaaDoorFfB
import Derived.Lib.AppendStr
import Derived.Laws.Bits64b
namespace Go.Proofs.YtpfgdfgifdbijaaDoor.ff
open Go.ChangeShapes Go.WideShapes Go.ChangeAt Go.RowKit
open Go.Proofs.YtpfgdfgifdbijaaDoor.mem
set_option linter.unusedVariables false
set_option linter.unusedSimpArgs false

theorem run_fbits (x : Nat) (w : World) : (callFunc 34 #[.float .f64 x]).run Tryd.prog w = .ok (.value (.int .u64 x)) w := by
  refine (run_callFunc_extern (P := Tryd.prog) (f := 34) Tryd.func34 (by kernel_rfl) (by kernel_rfl) (by kernel_rfl) (e := Extern.MathFloatBits.float64bits) (by kernel_rfl) _ w).trans ?_
  rfl
set_option maxHeartbeats 8000000 in
set_option maxRecDepth 100000 in
theorem fmtz_calls {base B : Nat} {w : World} {A : Option Addr} {c : Nat} {neg : Bool} (h : FI base B w A c [] w) :
    Calls Tryd.prog 37 #[.slice A 0 c, .bool neg, .slice none 0 0, .int .i64 0, .int .i64 0, .int .i64 (-1), .int .u8 102, .bool true] w (FEPost base w (sgL neg ++ [48])) := by
  obtain ⟨i1, hi1, hz11, hz12, hz13⟩ := infoU
  have HF := Lib.hid h
  have hl0 : ([] : List Nat).length ≤ 1000 := by decide
  clear h
  go_enter Tryd.func37, Tryd.ntmps37
  go_upto_if 178 with fail
  go_cut [0] (fun v wx => ∃ A c, v = .slice A (sgL neg).length c ∧ FI base B w A c (sgL neg) wx)
  case first =>
    cases neg with
    | false =>
      go_wp2_with fail
      go_meet
      exact ⟨A, c, rfl, HF.out⟩
    | true =>
      have HF := Lib.hid (show FI base B w A c ([] : List Nat) w from HF.out)
      go_wp2_with (at_builtin; refine wpList_append_sl _ rfl (.tmp 179) (.tmp 180) 52 rfl base 5 i1 _ 1 1 Tryd.underlying52 hi1 hz11 hz12 hz13 rfl (by decide) (.slice A ([] : List Nat).length c) ([] : List Nat).length (BY ([] : List Nat)) rfl (HF.out.own.alloc (.cells #[.int .u8 45] 5)) (w.alloc (.cells #[.int .u8 45] 5)).heap.size (some ⟨w.heap.size, 0, none⟩) 1 1 [.int .u8 45] rfl (slBlk (n := 1) (c := 1) (heap_alloc_new w _) rfl (by unfold maxLen; omega)) (one_cell _) (by unfold maxLen; omega) (by omega) (by have h1 := HF.out.bel.size; have h2 := HF.out.low; simp; omega) ?_; intro A8 c8 w8 ho8 hg8 ha8
                   have hFI := HF.out.next ho8 hg8 ha8
                   have HFI := Lib.hid hFI
                   clear ho8 hg8 ha8 hFI)
      go_meet
      exact ⟨A8, c8, rfl, HFI.out⟩
  case rest =>
    obtain ⟨A1, c1, rfl, hF1⟩ := hcut
    rename World => w1
    obtain ⟨l1, hl1⟩ : ∃ l1, l1 = sgL neg := ⟨_, rfl⟩
    have hll1 : l1.length ≤ 10 := by rw [hl1]; unfold sgL; split <;> simp
    rw [← hl1] at hF1 ⊢
    have HF1 := Lib.hid hF1
    have HL1 := Lib.hid hl1
    clear hF1 hl1 HF
    go_wp2_with (at_builtin; refine wpList_append_sl _ rfl (.tmp 209) (.tmp 210) 52 rfl base 5 i1 _ 1 1 Tryd.underlying52 hi1 hz11 hz12 hz13 rfl (by decide) (.slice A1 l1.length c1) l1.length (BY l1) rfl (HF1.out.own.alloc (.cells #[.int .u8 48] 5)) (w1.alloc (.cells #[.int .u8 48] 5)).heap.size (some ⟨w1.heap.size, 0, none⟩) 1 1 [.int .u8 48] rfl (slBlk (n := 1) (c := 1) (heap_alloc_new w1 _) rfl (by unfold maxLen; omega)) (one_cell _) (by unfold maxLen; omega) (by omega) (by have h1 := HF1.out.bel.size; have h2 := HF1.out.low; simp; omega) ?_; intro A8 c8 w8 ho8 hg8 ha8
                 have hFI := HF1.out.next ho8 hg8 ha8
                 have HFI := Lib.hid hFI
                 clear ho8 hg8 ha8 hFI)
    refine bodyPost_ret (v := .slice A8 (l1.length + 1) c8) (by simp [results, go_sem]) rfl ?_
    rw [← HL1.out]
    exact ⟨A8, c8, by rw [List.length_append]; rfl, HFI.out.own, HFI.out.bel⟩
end Go.Proofs.YtpfgdfgifdbijaaDoor.ff
