/-
  Contracts: what an overlay takes (doorOp, DoorSelect, impl.Selects, laws.iTaken). For ops 0 to 3.
-/
import Derived.Test.YtlnjnecjmnfiaaaLift
import Derived.Recover
import Derived.Defers
import Derived.WalkLawsBesides
import Derived.WalkSpells
namespace Go.Proofs.Ytlnjnecjmnfiaaa.sel
open Go.ChangeShapes Go.WideShapes Go.ChangeAt Go.RowKit
set_option linter.unusedVariables false

/-- What an overlay takes. -/
def taken (op : Nat) (a b : Bool) : Bool := match op with
  | 0 => a || b
  | 1 => a && b
  | 2 => a != b
  | _ => a && !b

theorem catch_idle (p q : Addr) (w : World) :
    CallsD Try.prog 18 #[.pointer (some p), .pointer (some q)] .returning w fun e u' w' => e = .returned (.tuple #[]) ∧ u' = .returning ∧ w = w' := by
  refine callsD_of_wpS Try.func18 rfl fun c₀ cs hu => ?_
  apply wpS_seq
  apply wpS_region
  simp [wpOpsS, go_sem, recoverD, hu, Try.ntmps18, Exit.thenS]
  refine wpS_cond (t := false) (by simp [Act.eval, Array.replicate]) ?_
  simp only [Bool.false_eq_true, if_false]
  refine wpS_of_wp (wp_skip ?_)
  cases c₀
  simp_all [bodyPostS, results, Try.results18]

set_option maxHeartbeats 4000000 in
theorem iTaken_any (op : Nat) (hop : op ≤ 3) (a b : Bool) (w : World) :
    Calls Try.prog 9 #[.int .i64 op, .bool a, .bool b] w fun e w' => e = .returned (.bool (taken op a b)) ∧ w = w' := by
  rcases (by omega : op = 0 ∨ op = 1 ∨ op = 2 ∨ op = 3) with rfl | rfl | rfl | rfl <;> cases a <;> cases b
  all_goals
    go_enter Try.func9, Try.ntmps9
    go_wp2
    go_ret
    exact ⟨rfl, rfl⟩

def opFn (op : Nat) : Nat := match op with
  | 0 => 39
  | 1 => 40
  | 2 => 41
  | _ => 42

set_option maxHeartbeats 4000000 in
theorem doorOp_any (op : Nat) (hop : op ≤ 3) (w : World) :
    Calls Try.prog 28 #[.int .i64 op] w fun e w' => e = .returned (.func (.func (opFn op)) #[] #[]) ∧ Below w.heap.size w w' := by
  rcases (by omega : op = 0 ∨ op = 1 ∨ op = 2 ∨ op = 3) with rfl | rfl | rfl | rfl
  all_goals
    go_enter Try.func28, Try.ntmps28
    go_wp2
    go_ret
    exact ⟨rfl, by repeat (first | exact Below.refl _ _ | refine Below.alloc ?_ (by simp; try omega) _)⟩

set_option maxHeartbeats 4000000 in
theorem op_any (op : Nat) (hop : op ≤ 3) (a b : Bool) (w : World) :
    Calls Try.prog (opFn op) #[.agg #[.bool a, .bool b]] w fun e w' => e = .returned (.bool (taken op a b)) ∧ Below w.heap.size w w' := by
  rcases (by omega : op = 0 ∨ op = 1 ∨ op = 2 ∨ op = 3) with rfl | rfl | rfl | rfl <;> cases a <;> cases b
  iterate 4
    show Calls Try.prog 39 _ _ _
    go_enter Try.func39, Try.ntmps39
    go_wp2
    go_ret
    exact ⟨rfl, by repeat (first | exact Below.refl _ _ | refine Below.alloc ?_ (by simp; try omega) _)⟩
  iterate 4
    show Calls Try.prog 40 _ _ _
    go_enter Try.func40, Try.ntmps40
    go_wp2
    go_ret
    exact ⟨rfl, by repeat (first | exact Below.refl _ _ | refine Below.alloc ?_ (by simp; try omega) _)⟩
  iterate 4
    show Calls Try.prog 41 _ _ _
    go_enter Try.func41, Try.ntmps41
    go_wp2
    go_ret
    exact ⟨rfl, by repeat (first | exact Below.refl _ _ | refine Below.alloc ?_ (by simp; try omega) _)⟩
  iterate 4
    show Calls Try.prog 42 _ _ _
    go_enter Try.func42, Try.ntmps42
    go_wp2
    go_ret
    exact ⟨rfl, by repeat (first | exact Below.refl _ _ | refine Below.alloc ?_ (by simp; try omega) _)⟩

theorem callFunc_op (op : Nat) (hop : op ≤ 3) (args : Array Value) (w : World) : (callFunc (opFn op) args).run Try.prog w = .ok (.enter (opFn op) args) w := by
  rcases (by omega : op = 0 ∨ op = 1 ∨ op = 2 ∨ op = 3) with rfl | rfl | rfl | rfl <;> simp [go_sem, opFn]

set_option maxHeartbeats 4000000 in
theorem doorSelect_any (op : Nat) (hop : op ≤ 3) (a b : Bool) (w : World) :
    Calls Try.prog 19 #[.int .i64 op, .bool a, .bool b] w fun e w' => e = .returned (.bool (taken op a b)) ∧ Below w.heap.size w w' := by
  have hcf := callFunc_op op hop
  go_enter Try.func19, Try.ntmps19
  go_wp2_with fail
  refine (doorOp_any op hop _).mono ?_; rintro e w1 ⟨rfl, h1⟩
  go_wp2_with fail
  refine (op_any op hop a b _).mono ?_; rintro e w2 ⟨rfl, h2⟩
  go_wp2_with fail
  go_ret
  exact ⟨rfl, h1.trans (h2.mono h1.size)⟩

set_option maxHeartbeats 4000000 in
theorem selects_any (op : Nat) (hop : op ≤ 3) (a b : Bool) (w : World) :
    Calls Try.prog 8 #[.int .i64 op, .bool a, .bool b] w fun e w' => e = .returned (.tuple #[.bool (taken op a b), .bool true]) ∧ Below w.heap.size w w' := by
  have hmf : ∀ (fn : Fn) (first cap : Array Value) (w : World), (Instr.makeFunc fn first cap).run Try.prog w = .ok (.func fn first cap) w := fun _ _ _ _ => rfl
  go_enter_defers Try.func8, Try.ntmps8
  go_wp2_with fail
  refine (doorSelect_any op hop a b _).mono ?_; rintro e w1 ⟨rfl, h1⟩
  have hz : w.heap.size + 1 < w1.heap.size := by have := h1.size; simp at this; omega
  have hc := fun b o (h : b < w.heap.size + 2) => h1.cell (p := ⟨b, o, none⟩) (by simpa using h)
  have hf := fun b o (h : b < w.heap.size + 2) => h1.frozen (p := ⟨b, o, none⟩) (by simpa using h)
  go_wp2_with fail
  refine leaves_cons (f := 18) (args := #[.pointer (some ⟨w.heap.size, 0, none⟩), .pointer (some ⟨w.heap.size + 1, 0, none⟩)]) (by simp) (by simp [go_sem]) ?_
  refine (catch_idle _ _ _).mono ?_
  rintro e u' w'' ⟨rfl, rfl, rfl⟩
  have hb : Below w.heap.size w ((w1.setCell { block := w.heap.size, off := 0 } (Value.bool (taken op a b))).setCell { block := w.heap.size + 1, off := 0 } (Value.bool true)) :=
    ((((((Below.refl _ _).alloc (Nat.le_refl _) _).alloc (by simp) _).trans (h1.mono (by simp; omega))).setCell (by simp) _).setCell (by simp) _)
  simp [Leaves, settle, results, Try.results8, go_sem, hc]
  exact hb

end Go.Proofs.Ytlnjnecjmnfiaaa.sel
