/-
  Contracts: small functions of numbers.
-/
import Derived.Test.YtpfgdfgifdbijaaDoorApp
import Derived.Laws.Shifts
namespace Go.Proofs.YtpfgdfgifdbijaaDoor.ff
open Go.ChangeShapes Go.WideShapes Go.ChangeAt Go.RowKit
open Go.Proofs.YtpfgdfgifdbijaaDoor.mem
set_option linter.unusedVariables false
set_option linter.unusedSimpArgs false

/-- A call gives a value and leaves the world as it was. -/
def Same (w : World) (v : Value) (e : Ending) (w' : World) : Prop := e = .returned v ∧ w' = w
theorem bool2i_calls (b : Bool) (w : World) : Calls Tryd.prog 62 #[.bool b] w (Same w (.int .i64 (if b then 1 else 0))) := by
  cases b with
  | true =>
    go_enter Tryd.func62, Tryd.ntmps62
    go_wp2_with fail
    exact bodyPost_ret (v := .int .i64 1) (by simp [results, go_sem]) rfl ⟨rfl, rfl⟩
  | false =>
    go_enter Tryd.func62, Tryd.ntmps62
    go_wp2_with fail
    exact bodyPost_ret (v := .int .i64 0) (by simp [results, go_sem]) rfl ⟨rfl, rfl⟩
theorem bool2u_calls (b : Bool) (w : World) : Calls Tryd.prog 74 #[.bool b] w (Same w (.int .u64 (if b then 1 else 0))) := by
  cases b with
  | true =>
    go_enter Tryd.func74, Tryd.ntmps74
    go_wp2_with fail
    exact bodyPost_ret (v := .int .u64 1) (by simp [results, go_sem]) rfl ⟨rfl, rfl⟩
  | false =>
    go_enter Tryd.func74, Tryd.ntmps74
    go_wp2_with fail
    exact bodyPost_ret (v := .int .u64 0) (by simp [results, go_sem]) rfl ⟨rfl, rfl⟩
theorem log10_calls (x : Int) (h : -100000 ≤ x ∧ x ≤ 100000) (w : World) : Calls Tryd.prog 42 #[.int .i64 x] w (Same w (.int .i64 (x * 78913 / 262144))) := by
  have e1 : IntKind.i64.wrap (x * 78913) = x * 78913 := by rw [IntKind.wrap_i64]; omega
  have e2 : wrap64 (x * 78913) = x * 78913 := by rw [wrap64]; omega
  go_enter Tryd.func42, Tryd.ntmps42
  go_wp2_with fail
  exact bodyPost_ret (v := .int .i64 (x * 78913 / 262144)) (by simp [results, go_sem]) rfl ⟨rfl, rfl⟩
theorem log2_calls (x : Int) (h : -100000 ≤ x ∧ x ≤ 100000) (w : World) : Calls Tryd.prog 55 #[.int .i64 x] w (Same w (.int .i64 (x * 108853 / 32768))) := by
  have e1 : IntKind.i64.wrap (x * 108853) = x * 108853 := by rw [IntKind.wrap_i64]; omega
  have e2 : wrap64 (x * 108853) = x * 108853 := by rw [wrap64]; omega
  go_enter Tryd.func55, Tryd.ntmps55
  go_wp2_with fail
  exact bodyPost_ret (v := .int .i64 (x * 108853 / 32768)) (by simp [results, go_sem]) rfl ⟨rfl, rfl⟩
theorem skewed_calls (x : Int) (h : -100000 ≤ x ∧ x ≤ 100000) (w : World) : Calls Tryd.prog 53 #[.int .i64 x] w (Same w (.int .i64 ((x * 631305 - 261663) / 2097152))) := by
  have e1 : IntKind.i64.wrap (x * 631305) = x * 631305 := by rw [IntKind.wrap_i64]; omega
  have e2 : wrap64 (x * 631305) = x * 631305 := by rw [wrap64]; omega
  have e3 : IntKind.i64.wrap (x * 631305 - 261663) = x * 631305 - 261663 := by rw [IntKind.wrap_i64]; omega
  have e4 : wrap64 (x * 631305 - 261663) = x * 631305 - 261663 := by rw [wrap64]; omega
  go_enter Tryd.func53, Tryd.ntmps53
  go_wp2_with fail
  exact bodyPost_ret (v := .int .i64 ((x * 631305 - 261663) / 2097152)) (by simp [results, go_sem]) rfl ⟨rfl, rfl⟩
theorem ceil_calls (u : Int) (w : World) : Calls Tryd.prog 58 #[.int .u64 u] w (Same w (.int .u64 (IntKind.u64.wrap (u + 3) / 4))) := by
  go_enter Tryd.func58, Tryd.ntmps58
  go_wp2_with fail
  exact bodyPost_ret (v := .int .u64 (IntKind.u64.wrap (u + 3) / 4)) (by simp [results, go_sem]) rfl ⟨rfl, rfl⟩
theorem floor_calls (u : Int) (w : World) : Calls Tryd.prog 59 #[.int .u64 u] w (Same w (.int .u64 (IntKind.u64.wrap u / 4))) := by
  go_enter Tryd.func59, Tryd.ntmps59
  go_wp2_with fail
  exact bodyPost_ret (v := .int .u64 (IntKind.u64.wrap u / 4)) (by simp [results, go_sem]) rfl ⟨rfl, rfl⟩
theorem round_calls (u : Int) : ∃ z : Int, ∀ w, Calls Tryd.prog 60 #[.int .u64 u] w (Same w (.int .u64 (IntKind.u64.wrap z / 4))) := by
  apply Exists.intro
  intro w
  go_enter Tryd.func60, Tryd.ntmps60
  go_wp2_with fail
  refine bodyPost_ret (v := .int .u64 (IntKind.u64.wrap _ / 4)) (by simp [results, go_sem]; rfl) rfl ⟨rfl, rfl⟩
theorem nudge_calls (u n : Int) : ∃ z : Int, ∀ w, Calls Tryd.prog 57 #[.int .u64 u, .int .i64 n] w (Same w (.int .u64 z)) := by
  apply Exists.intro
  intro w
  go_enter Tryd.func57, Tryd.ntmps57
  go_wp2_with fail
  refine bodyPost_ret (v := .int .u64 _) (by simp [results, go_sem]; rfl) rfl ⟨rfl, rfl⟩
theorem mul64_calls (x y : Int) : ∃ a b : Int, ∀ w, Calls Tryd.prog 73 #[.int .u64 x, .int .u64 y] w (Same w (.tuple #[.int .u64 a, .int .u64 b])) := by
  apply Exists.intro
  apply Exists.intro
  intro w
  go_enter Tryd.func73, Tryd.ntmps73
  go_wp2_with fail
  refine bodyPost_ret (v := .tuple #[.int .u64 _, .int .u64 _]) (by simp [results, go_sem]; exact ⟨rfl, rfl⟩) rfl ⟨rfl, rfl⟩
end Go.Proofs.YtpfgdfgifdbijaaDoor.ff
