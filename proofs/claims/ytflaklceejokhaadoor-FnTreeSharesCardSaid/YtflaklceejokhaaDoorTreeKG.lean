/-
  What the answers are like, plainly.
-/
import Derived.Test.YtflaklceejokhaaDoorTreeKF
namespace Go.Proofs.YtflaklceejokhaaDoor.tree
open Go.ChangeShapes Go.WideShapes Go.ChangeAt Go.RowKit
open Go.Proofs.YtflaklceejokhaaDoor.mem Go.Proofs.YtflaklceejokhaaDoor.flt Ieee
set_option linter.unusedVariables false
set_option linter.unusedSimpArgs false

theorem psQ_len (o : Bx) (ans : List Int → Er) : ∀ (u n : Nat) (f : Nat → Q) (l : List Int), (psQ o ans u n f l).1.length ≤ l.length + u
  | 0, n, f, l => Nat.le_refl _
  | u + 1, n, f, l => by
    unfold psQ
    split
    · show l.length ≤ _; omega
    · split
      · split
        · refine Nat.le_trans (psQ_len o ans u _ _ _) ?_
          rw [List.length_append, List.length_singleton]; omega
        · rw [List.length_append, List.length_singleton]; omega
      · exact Nat.le_trans (psQ_len o ans u _ _ l) (by omega)
theorem psF_len {n : Nat} {f : Nat → It} (hn : n ≤ 400) (ans : List Int → Er) (o : Bx) : (psF n (bq n n f) ans o).1.length ≤ 10000 := by
  unfold psF
  split
  · exact Nat.zero_le _
  · have h := psQ_len o ans (sumF (fun i => ((bq n n f).2 i).rounds) (bq n n f).1) (bq n n f).1 (pushN (nearQ o) 0 (fun _ => .sub 0 (bq n n f).2) (bq n n f).2 (bq n n f).1) []
    have := rounds_ok n f hn
    rw [List.length_nil, Nat.zero_add] at h
    exact Nat.le_trans h this
theorem rsF_len {n : Nat} {f : Nat → It} (hn : n ≤ 400) (ans : List Int → Er) (b : Bx) : (rsF n (bq n n f) ans b).1.length ≤ 10000 := by
  unfold rsF
  split
  · exact Nat.zero_le _
  · have h := loopV_len (vs := fun i => visit ans b ((bq n n f).2 i)) (c := fun i => ((bq n n f).2 i).cnt) (fun i l => visit_len ans b _ l) (bq n n f).1 0 []
    have e := bq_cnt n n f (by omega) (Nat.le_refl _)
    rw [Q.cnt_sub] at e
    rw [Nat.zero_add, e, List.length_nil] at h
    have : cntF (fun i => ((bq n n f).2 i).cnt) 0 = 0 := rfl
    omega
theorem exF_eq {n : Nat} {f : Nat → It} (hG : ∀ i, i < n → Gd (f i).b) : EqB (exF n (bq n n f)) := by
  unfold exF
  split
  · exact EqB.zero
  · exact EqB.of_gd (Q.Ok.bx _ (bq_ok n n f (by omega) (Nat.le_refl _) hG))
theorem ans_ok {n : Nat} {f : Nat → It} (hn : n ≤ 400) (hG : ∀ i, i < n → Gd (f i).b) (a : Ask) : OkAn (ansOf n (bq n n f) a) := by
  unfold ansOf
  split
  · exact ⟨EqB.zero, Nat.le_trans (rsF_len hn _ _) (by omega)⟩
  · split
    · exact ⟨EqB.zero, Nat.le_trans (psF_len hn _ _) (by omega)⟩
    · split
      · exact ⟨EqB.zero, Nat.zero_le _⟩
      · split
        · exact ⟨exF_eq hG, Nat.zero_le _⟩
        · exact ⟨EqB.zero, Nat.zero_le _⟩
end Go.Proofs.YtflaklceejokhaaDoor.tree
