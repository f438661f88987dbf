/-
  Proved: the law FnEdgeIs: for all three bools the call returns true, and the arguments read as they did. No condition.
-/
import Derived.Test.YtlnjnecjmnfiaaaLift
namespace Go.Proofs.Ytlnjnecjmnfiaaa.fnEdgeIs
open Go.ChangeShapes Go.WideShapes Go.ChangeAt Go.RowKit
set_option linter.unusedVariables false

theorem own : ownKnob Try.prog.godebug = none := by kernel_rfl
theorem laidOut : laidOutB Try.prog = true := by kernel_rfl

def edge (a0 a1 a2 : Bool) : Int := if a0 && a1 then 0 else if a0 || a1 then 1 else if a2 then 0 else 2

set_option maxHeartbeats 4000000 in
theorem edgeIs_any (a0 a1 a2 : Bool) (w : World) :
    Calls Try.prog 13 #[.bool a0, .bool a1, .bool a2] w fun e w' => e = .returned (.int .i64 (edge a0 a1 a2)) ∧ Below w.heap.size w w' := by
  cases a0 <;> cases a1 <;> cases a2
  all_goals
    go_enter Try.func13, Try.ntmps13
    go_wp2
    go_ret
    exact ⟨rfl, by repeat (first | exact Below.refl _ _ | refine Below.alloc ?_ (by simp; try omega) _)⟩

set_option maxHeartbeats 4000000 in
theorem iEdge_any (a0 a1 a2 : Bool) (w : World) :
    Calls Try.prog 14 #[.bool a0, .bool a1, .bool a2] w fun e w' => e = .returned (.int .i64 (edge a0 a1 a2)) ∧ w = w' := by
  cases a0 <;> cases a1 <;> cases a2
  all_goals
    go_enter Try.func14, Try.ntmps14
    go_wp2
    go_ret
    exact ⟨rfl, rfl⟩

set_option maxHeartbeats 4000000 in
theorem walk (a0 : Bool) (a1 : Bool) (a2 : Bool) (w : World) :
    Calls Try.prog 5 #[.bool a0, .bool a1, .bool a2] w fun e w' => e = .returned (.bool true) ∧ Below w.heap.size w w' := by
  go_enter Try.func5, Try.ntmps5
  go_wp2_with fail
  refine (edgeIs_any _ _ _ _).mono ?_; rintro e w1 ⟨rfl, hg1⟩
  go_wp2_with fail
  refine (iEdge_any _ _ _ _).mono ?_; rintro e w2 ⟨rfl, rfl⟩
  have hb : (edge a0 a1 a2 == edge a0 a1 a2) = true := by simp
  go_wp2_with fail
  refine (edgeIs_any _ _ _ _).mono ?_; rintro e w3 ⟨rfl, hg2⟩
  have hc : (edge true false false == 1) = true := by decide
  go_wp2_with fail
  go_ret
  exact ⟨rfl, hg1.trans (hg2.mono hg1.size)⟩

theorem proved : Rows.FnEdgeIsSaid :=
  OpenClaim.holds_of_wide 5 Try.f5 rfl rfl rfl rfl rfl rfl rfl ⟨rfl, rfl, rfl, rfl, rfl⟩ rfl rfl rfl rfl rfl (by kernel_rfl) Try.func5 (by kernel_rfl)
    (of_decide_eq_true (by kernel_rfl)) (by unfold Func.isWrapper; first | (rw [if_pos (by decide +kernel)]; kernel_rfl) | (rw [if_neg (by decide +kernel)]; exact ⟨rfl, rfl⟩))
    (fun os started H enc _ => lift.handed (C := Try.checked) (s := Rows.fnEdgeIsSpec) own started (by kernel_rfl) Try.func5 laidOut (tb := 4) rfl Try.underlying4 rfl
      (fun t ht => of_decide_eq_true (List.all_eq_true.1 (show (Try.f5.params.toList.all fun t => decide (Try.prog.readableRec t = true ∧ t < Try.prog.types.size)) = true by kernel_rfl) t ht))
      (fun ds h => by match ds, h with | [_, _, _], _ => rfl)
      (ChangeSpec.witness6 (enc := enc) (C := Try.checked) false ⟨#[], #[.bool false, .bool false, .bool false], []⟩ 8 (by kernel_rfl) (by kernel_rfl) (by kernel_rfl) (by kernel_rfl))
      (fun W args ds ⟨⟨base, hval0⟩, ⟨p, hA0⟩⟩ => by
        have hval : ∀ (j : Nat) t v, Try.f5.params[j]? = some t → args[j]? = some v → Value.okWide Try.prog W .any base t v := hval0
        have hA : DataW.TrodAll enc Try.prog W 0 (fun _ => true) true Try.f5.params.toList args.toList ds p := hA0
        rw [Try.params5] at hA hval
        obtain ⟨v0, v1, v2, d0, d1, d2, p0, p1, p2, rfl, rfl, rfl, h0, h1, h2⟩ := trodAll_three hA
        obtain ⟨a0, rfl, rfl, rfl⟩ := open_bool Try.underlying4 (hval 0 _ v0 rfl rfl) h0
        obtain ⟨a1, rfl, rfl, rfl⟩ := open_bool Try.underlying4 (hval 1 _ v1 rfl rfl) h1
        obtain ⟨a2, rfl, rfl, rfl⟩ := open_bool Try.underlying4 (hval 2 _ v2 rfl rfl) h2
        exact walk a0 a1 a2 W))
#print axioms proved
end Go.Proofs.Ytlnjnecjmnfiaaa.fnEdgeIs
