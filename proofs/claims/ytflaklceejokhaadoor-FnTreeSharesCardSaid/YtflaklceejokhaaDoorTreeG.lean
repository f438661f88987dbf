/-
  The partial sort, plainly: what it makes of a row of items; it is a permutation. No condition.
-/
import Derived.Test.YtflaklceejokhaaDoorTreeF
namespace Go.Proofs.YtflaklceejokhaaDoor.tree
open Go.ChangeShapes Go.WideShapes Go.ChangeAt Go.RowKit
open Go.Proofs.YtflaklceejokhaaDoor.mem Go.Proofs.YtflaklceejokhaaDoor.flt Ieee
set_option linter.unusedVariables false
set_option linter.unusedSimpArgs false

/-- The inner loop: from place i on, d places; j places are less. -/
def parts (h : Bool) (r : Nat) : Nat → (Nat → It) → Nat → Nat → (Nat → It) × Nat
  | 0, f, _, j => (f, j)
  | d + 1, f, i, j => if lessB h (f i) (f r) = true then parts h r d (swapF f i j) (i + 1) (j + 1) else parts h r d f (i + 1) j

theorem parts_j (h : Bool) (r : Nat) : ∀ (d : Nat) (f : Nat → It) (i j : Nat), j ≤ i → j ≤ (parts h r d f i j).2 ∧ (parts h r d f i j).2 ≤ i + d
  | 0, f, i, j, hj => ⟨Nat.le_refl _, by show j ≤ _; omega⟩
  | d + 1, f, i, j, hj => by
    unfold parts
    split
    · have := parts_j h r d (swapF f i j) (i + 1) (j + 1) (by omega); omega
    · have := parts_j h r d f (i + 1) j (by omega); omega

/-- Three places sorted. -/
def three (h : Bool) (f : Nat → It) (l : Nat) : Nat → It :=
  if lessB h ((if lessB h (f (l + 1)) (f l) = true then swapF f (l + 1) l else f) (l + 2)) ((if lessB h (f (l + 1)) (f l) = true then swapF f (l + 1) l else f) (l + 1)) = true then
    if lessB h (swapF (if lessB h (f (l + 1)) (f l) = true then swapF f (l + 1) l else f) (l + 2) (l + 1) (l + 1)) (swapF (if lessB h (f (l + 1)) (f l) = true then swapF f (l + 1) l else f) (l + 2) (l + 1) l) = true then
      swapF (swapF (if lessB h (f (l + 1)) (f l) = true then swapF f (l + 1) l else f) (l + 2) (l + 1)) (l + 1) l
    else swapF (if lessB h (f (l + 1)) (f l) = true then swapF f (l + 1) l else f) (l + 2) (l + 1)
  else if lessB h (f (l + 1)) (f l) = true then swapF f (l + 1) l else f

def T2 (h : Bool) (f : Nat → It) (l : Nat) : Nat → It :=
  if lessB h (f (l + 2)) (f (l + 1)) = true then
    if lessB h (swapF f (l + 2) (l + 1) (l + 1)) (swapF f (l + 2) (l + 1) l) = true then swapF (swapF f (l + 2) (l + 1)) (l + 1) l else swapF f (l + 2) (l + 1)
  else f
theorem three_T2 (h : Bool) (f : Nat → It) (l : Nat) : three h f l = T2 h (if lessB h (f (l + 1)) (f l) = true then swapF f (l + 1) l else f) l := rfl

def qp1 (h : Bool) (f : Nat → It) (l r s : Nat) : (Nat → It) × Nat := parts h r (r - l) (if l + pick s (r - l + 1) = r then f else swapF f (l + pick s (r - l + 1)) r) l l

/-- The outer loop. -/
def qp (h : Bool) : Nat → (Nat → It) → Nat → Nat → Nat → Nat → (Nat → It)
  | 0, f, _, _, _, _ => f
  | u + 1, f, l, r, k, s =>
    if r - l = 1 then (if lessB h (f r) (f l) = true then swapF f r l else f)
    else if r - l = 2 then three h f l
    else if (qp1 h f l r s).2 - l < k then qp h u (swapF (qp1 h f l r s).1 r (qp1 h f l r s).2) ((qp1 h f l r s).2 + 1) r (k - ((qp1 h f l r s).2 - l + 1)) (nxt s)
    else if k < (qp1 h f l r s).2 - l then qp h u (swapF (qp1 h f l r s).1 r (qp1 h f l r s).2) l ((qp1 h f l r s).2 - 1) k (nxt s)
    else swapF (qp1 h f l r s).1 r (qp1 h f l r s).2

/-- What quickPartition makes of n items with k. -/
def quick (h : Bool) (n : Nat) (f : Nat → It) (k : Nat) : Nat → It := qp h (n + 1) f 0 (n - 1) k 0

/-! ### permutations -/
def ls (f : Nat → It) (n : Nat) : List It := (List.range n).map f

theorem ls_swap {f : Nat → It} {n i j : Nat} (hi : i < n) (hj : j < n) : (ls (swapF f i j) n).Perm (ls f n) := by
  have key : swapF f i j = fun k => f (if k = j then i else if k = i then j else k) := by
    funext k
    unfold swapF
    by_cases e1 : k = j
    · rw [if_pos e1, if_pos e1]
    · rw [if_neg e1, if_neg e1]
      by_cases e2 : k = i
      · rw [if_pos e2, if_pos e2]
      · rw [if_neg e2, if_neg e2]
  rw [key]
  unfold ls
  rw [show (List.range n).map (fun k => f (if k = j then i else if k = i then j else k)) = ((List.range n).map (fun k => if k = j then i else if k = i then j else k)).map f by rw [List.map_map]; rfl]
  refine List.Perm.map _ ?_
  refine (List.perm_ext_iff_of_nodup ?_ List.nodup_range).2 ?_
  · refine List.Pairwise.map _ (fun a b hab => ?_) List.nodup_range
    intro hh
    repeat' split at hh
    all_goals omega
  · intro a
    simp only [List.mem_map, List.mem_range]
    constructor
    · rintro ⟨k, hk, rfl⟩
      split
      · exact hi
      · split
        · exact hj
        · exact hk
    · intro ha
      by_cases a1 : a = i
      · exact ⟨j, hj, by simp [a1]⟩
      · by_cases a2 : a = j
        · subst a2
          refine ⟨i, hi, ?_⟩
          by_cases e : i = a
          · exact absurd e.symm a1
          · simp [e]
        · exact ⟨a, ha, by simp [a1, a2]⟩

theorem ls_parts (h : Bool) {r n : Nat} : ∀ (d : Nat) (f : Nat → It) (i j : Nat), j ≤ i → i + d ≤ n → (ls (parts h r d f i j).1 n).Perm (ls f n)
  | 0, f, i, j, _, _ => List.Perm.refl _
  | d + 1, f, i, j, hj, hn => by
    unfold parts
    split
    · exact (ls_parts h d (swapF f i j) (i + 1) (j + 1) (by omega) (by omega)).trans (ls_swap (by omega) (by omega))
    · exact ls_parts h d f (i + 1) j (by omega) (by omega)

theorem ls_if {f g : Nat → It} {n : Nat} {p : Prop} [Decidable p] (h1 : (ls f n).Perm (ls g n)) : (ls (if p then f else g) n).Perm (ls g n) := by
  split
  · exact h1
  · exact List.Perm.refl _
end Go.Proofs.YtflaklceejokhaaDoor.tree
