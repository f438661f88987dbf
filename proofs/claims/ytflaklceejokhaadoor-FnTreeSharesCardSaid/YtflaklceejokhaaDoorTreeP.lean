/-
  The partial sort is a permutation. No condition.
-/
import Derived.Test.YtflaklceejokhaaDoorTreeG
namespace Go.Proofs.YtflaklceejokhaaDoor.tree
set_option linter.unusedVariables false
set_option linter.unusedSimpArgs false

theorem ls_T2 (h : Bool) (f : Nat → It) {l n : Nat} (hl : l + 2 < n) : (ls (T2 h f l) n).Perm (ls f n) := by
  unfold T2
  split
  · split
    · exact (ls_swap (by omega) (by omega)).trans (ls_swap (by omega) (by omega))
    · exact ls_swap (by omega) (by omega)
  · exact List.Perm.refl _

theorem ls_three (h : Bool) (f : Nat → It) {l n : Nat} (hl : l + 2 < n) : (ls (three h f l) n).Perm (ls f n) := by
  rw [three_T2]
  refine (ls_T2 h _ hl).trans ?_
  split
  · exact ls_swap (by omega) (by omega)
  · exact List.Perm.refl _

theorem qp1_perm (h : Bool) (f : Nat → It) {l r s n : Nat} (hl : l ≤ r) (hr : r < n) : (ls (qp1 h f l r s).1 n).Perm (ls f n) := by
  unfold qp1
  refine (ls_parts h (r - l) _ l l (Nat.le_refl _) (by omega)).trans ?_
  have := pick_lt s (r - l + 1) (by omega)
  split
  · exact List.Perm.refl _
  · exact ls_swap (by omega) hr

theorem ls_qp (h : Bool) {n : Nat} : ∀ (u : Nat) (f : Nat → It) (l r k s : Nat), l ≤ r → r < n → k ≤ r - l → (ls (qp h u f l r k s) n).Perm (ls f n)
  | 0, f, _, _, _, _, _, _, _ => List.Perm.refl _
  | u + 1, f, l, r, k, s, hl, hr, hk => by
    unfold qp
    have hj := parts_j h r (r - l) (if l + pick s (r - l + 1) = r then f else swapF f (l + pick s (r - l + 1)) r) l l (Nat.le_refl _)
    have hj1 : l ≤ (qp1 h f l r s).2 := hj.1
    have hj2 : (qp1 h f l r s).2 ≤ l + (r - l) := hj.2
    have hs : (ls (swapF (qp1 h f l r s).1 r (qp1 h f l r s).2) n).Perm (ls f n) := (ls_swap hr (by omega)).trans (qp1_perm h f hl hr)
    split
    · split
      · exact ls_swap hr (by omega)
      · exact List.Perm.refl _
    · split
      · exact ls_three h f (by omega)
      · split
        · exact (ls_qp h u _ _ _ _ _ (by omega) hr (by omega)).trans hs
        · split
          · exact (ls_qp h u _ _ _ _ _ (by omega) (by omega) (by omega)).trans hs
          · exact hs

theorem ls_quick (h : Bool) (f : Nat → It) {n k : Nat} (hk : k < n) : (ls (quick h n f k) n).Perm (ls f n) := ls_qp h _ f 0 (n - 1) k 0 (by omega) (by omega) (by omega)
end Go.Proofs.YtflaklceejokhaaDoor.tree
