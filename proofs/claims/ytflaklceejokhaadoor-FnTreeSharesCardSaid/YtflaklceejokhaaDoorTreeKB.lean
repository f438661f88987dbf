/-
  The laws' own conditions: kBox.
-/
import Derived.Test.YtflaklceejokhaaDoorTreeKA
namespace Go.Proofs.YtflaklceejokhaaDoor.tree
open Go.ChangeShapes Go.WideShapes Go.ChangeAt Go.RowKit
open Go.Proofs.YtflaklceejokhaaDoor.mem Go.Proofs.YtflaklceejokhaaDoor.flt Ieee
set_option linter.unusedVariables false
set_option linter.unusedSimpArgs false

set_option maxRecDepth 100000 in
set_option maxHeartbeats 8000000 in
theorem kBox_calls (b : Bx) (w : World) : Calls Tryd.prog 10 #[.agg (bxA b)] w fun e w' => ∃ t, e = .returned (.bool t) ∧ (t = true → Gd b) ∧ Below w.heap.size w w' := by
  obtain ⟨x0, y0, x1, y1⟩ := b
  unfold bxA
  simp only
  have hb : Below w.heap.size w (w.alloc (.cells #[.float .f64 x0, .float .f64 y0, .float .f64 x1, .float .f64 y1] 32)) := (Below.refl _ _).alloc (Nat.le_refl _) _
  have HB := Lib.hid hb
  clear hb
  go_enter Tryd.func10, Tryd.ntmps10
  go_wp2_with fail
  refine (kWhole_calls x0 _).mono ?_
  rintro e w1 ⟨t1, rfl, h1, rfl⟩
  cases t1 with
  | false =>
    go_wp2_with fail
    exact bodyPost_ret (v := .bool false) (by simp [results, go_sem]) rfl ⟨_, rfl, (fun h => by cases h), HB.out⟩
  | true =>
    obtain ⟨z1, hz1⟩ := h1 rfl
    have HZ1 := Lib.hid hz1
    clear h1 hz1
    go_wp2_with fail
    refine (kWhole_calls y0 _).mono ?_
    rintro e w1 ⟨t1, rfl, h1, rfl⟩
    cases t1 with
    | false =>
      go_wp2_with fail
      exact bodyPost_ret (v := .bool false) (by simp [results, go_sem]) rfl ⟨_, rfl, (fun h => by cases h), HB.out⟩
    | true =>
      obtain ⟨z2, hz2⟩ := h1 rfl
      have HZ2 := Lib.hid hz2
      clear h1 hz2
      go_wp2_with fail
      refine (kWhole_calls x1 _).mono ?_
      rintro e w1 ⟨t1, rfl, h1, rfl⟩
      cases t1 with
      | false =>
        go_wp2_with fail
        exact bodyPost_ret (v := .bool false) (by simp [results, go_sem]) rfl ⟨_, rfl, (fun h => by cases h), HB.out⟩
      | true =>
        obtain ⟨z3, hz3⟩ := h1 rfl
        have HZ3 := Lib.hid hz3
        clear h1 hz3
        go_wp2_with fail
        refine (kWhole_calls y1 _).mono ?_
        rintro e w1 ⟨t1, rfl, h1, rfl⟩
        cases t1 with
        | false =>
          go_wp2_with fail
          exact bodyPost_ret (v := .bool false) (by simp [results, go_sem]) rfl ⟨_, rfl, (fun h => by cases h), HB.out⟩
        | true =>
          obtain ⟨z4, hz4⟩ := h1 rfl
          have o1 := HZ1.out.order HZ3.out
          have o2 := HZ2.out.order hz4
          have HG : Hid (Gd ⟨x0, y0, x1, y1⟩) := Lib.hid ⟨⟨z1, z2, z3, z4⟩, HZ1.out, HZ2.out, HZ3.out, hz4⟩
          clear h1 hz4
          go_wp2_with fail
          · exact bodyPost_ret (v := .bool ((compare z1 z3 == Ordering.lt || compare z1 z3 == Ordering.eq) && (compare z2 z4 == Ordering.lt || compare z2 z4 == Ordering.eq))) (by simp [results, go_sem]) rfl ⟨_, rfl, fun _ => HG.out, HB.out⟩
          · exact bodyPost_ret (v := .bool false) (by simp [results, go_sem]) rfl ⟨_, rfl, fun _ => HG.out, HB.out⟩
end Go.Proofs.YtflaklceejokhaaDoor.tree
