/-
  Proved: the law FnSelects: for every int and two bools the call returns true, and the arguments read as they did. No condition.
-/
import Derived.Test.YtlnjnecjmnfiaaaSel
namespace Go.Proofs.Ytlnjnecjmnfiaaa.fnSelects
open Go.ChangeShapes Go.WideShapes Go.ChangeAt Go.RowKit
open Go.Proofs.Ytlnjnecjmnfiaaa.sel
set_option linter.unusedVariables false

theorem own : ownKnob Try.prog.godebug = none := by kernel_rfl
theorem laidOut : laidOutB Try.prog = true := by kernel_rfl

set_option maxHeartbeats 4000000 in
theorem walk (n : Int) (a b : Bool) (w : World) :
    Calls Try.prog 3 #[.int .i64 n, .bool a, .bool b] w fun e w' => e = .returned (.bool true) ∧ Below w.heap.size w w' := by
  by_cases h0 : n < 0
  · go_enter Try.func3, Try.ntmps3
    go_wp2_with fail
    go_ret
    exact ⟨rfl, Below.refl _ _⟩
  · by_cases h3 : 3 < n
    · go_enter Try.func3, Try.ntmps3
      go_wp2_with fail
      go_ret
      exact ⟨rfl, Below.refl _ _⟩
    · obtain ⟨op, rfl⟩ := Int.eq_ofNat_of_zero_le (show 0 ≤ n by omega)
      have hop : op ≤ 3 := by omega
      go_enter Try.func3, Try.ntmps3
      go_wp2_with fail
      refine (selects_any op hop a b _).mono ?_; rintro e w1 ⟨rfl, h1⟩
      go_wp2_with fail
      refine (iTaken_any op hop a b _).mono ?_; rintro e w2 ⟨rfl, rfl⟩
      have hb : (taken op a b == taken op a b) = true := by simp
      go_wp2_with fail
      go_ret
      exact ⟨rfl, h1⟩

theorem proved : Rows.FnSelectsSaid :=
  OpenClaim.holds_of_wide 3 Try.f3 rfl rfl rfl rfl rfl rfl rfl ⟨rfl, rfl, rfl, rfl, rfl⟩ rfl rfl rfl rfl rfl (by kernel_rfl) Try.func3 (by kernel_rfl)
    (of_decide_eq_true (by kernel_rfl)) (by unfold Func.isWrapper; first | (rw [if_pos (by decide +kernel)]; kernel_rfl) | (rw [if_neg (by decide +kernel)]; exact ⟨rfl, rfl⟩))
    (fun os started H enc _ => lift.handed (C := Try.checked) (s := Rows.fnSelectsSpec) own started (by kernel_rfl) Try.func3 laidOut (tb := 4) rfl Try.underlying4 rfl
      (fun t ht => of_decide_eq_true (List.all_eq_true.1 (show (Try.f3.params.toList.all fun t => decide (Try.prog.readableRec t = true ∧ t < Try.prog.types.size)) = true by kernel_rfl) t ht))
      (fun ds h => by match ds, h with | [_, _, _], _ => rfl)
      (ChangeSpec.witness6 (enc := enc) (C := Try.checked) false ⟨#[], #[.int .i64 0, .bool false, .bool false], []⟩ 8 (by kernel_rfl) (by kernel_rfl) (by kernel_rfl) (by kernel_rfl))
      (fun W args ds ⟨⟨base, hval0⟩, ⟨p, hA0⟩⟩ => by
        have hval : ∀ (j : Nat) t v, Try.f3.params[j]? = some t → args[j]? = some v → Value.okWide Try.prog W .any base t v := hval0
        have hA : DataW.TrodAll enc Try.prog W 0 (fun _ => true) true Try.f3.params.toList args.toList ds p := hA0
        rw [Try.params3] at hA hval
        obtain ⟨v0, v1, v2, d0, d1, d2, p0, p1, p2, rfl, rfl, rfl, h0, h1, h2⟩ := trodAll_three hA
        obtain ⟨a0, rfl, rfl, rfl, w0⟩ := open_int Try.underlying3 (hval 0 _ v0 rfl rfl) h0
        obtain ⟨a1, rfl, rfl, rfl⟩ := open_bool Try.underlying4 (hval 1 _ v1 rfl rfl) h1
        obtain ⟨a2, rfl, rfl, rfl⟩ := open_bool Try.underlying4 (hval 2 _ v2 rfl rfl) h2
        exact walk a0 a1 a2 W))
#print axioms proved
end Go.Proofs.Ytlnjnecjmnfiaaa.fnSelects
