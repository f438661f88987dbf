/-
  A search by distance, plainly: what it notes; what does not turn. No condition.
-/
import Derived.Test.YtflaklceejokhaaDoorTreeV
import Derived.Test.YtflaklceejokhaaDoorTreeX
namespace Go.Proofs.YtflaklceejokhaaDoor.tree
set_option linter.unusedVariables false
set_option linter.unusedSimpArgs false

section
variable {α β : Type}
/-! ### only what is compared matters -/
theorem swapG_map (π : α → β) (f : Nat → α) (i j : Nat) : (fun k => π (swapG f i j k)) = swapG (fun k => π (f k)) i j := by
  funext k; unfold swapG; split
  · rfl
  · split <;> rfl
theorem updG_map (π : α → β) (f : Nat → α) (i : Nat) (p : α) : (fun k => π (updG f i p k)) = updG (fun k => π (f k)) i (π p) := by
  funext k; unfold updG; split <;> rfl
variable (π : α → β) {lt : α → α → Bool} {lt' : β → β → Bool} (h : ∀ a b, lt a b = lt' (π a) (π b))
include h
theorem upG_map : ∀ (u : Nat) (f : Nat → α) (j : Nat), (fun k => π (upG lt u f j k)) = upG lt' u (fun k => π (f k)) j
  | 0, f, j => rfl
  | u + 1, f, j => by
    unfold upG
    rw [h]
    split
    · rfl
    · split
      · rw [upG_map u _ _, swapG_map]
      · rfl
theorem kid_map (n : Nat) (f : Nat → α) (i : Nat) : kid lt n f i = kid lt' n (fun k => π (f k)) i := by
  unfold kid; rw [h]
theorem downG_map (n : Nat) : ∀ (u : Nat) (f : Nat → α) (i : Nat), (fun k => π (downG lt n u f i k)) = downG lt' n u (fun k => π (f k)) i
  | 0, f, i => rfl
  | u + 1, f, i => by
    unfold downG
    rw [h, kid_map π h]
    split
    · rfl
    · split
      · rw [downG_map n u _ _, swapG_map]
      · rfl
theorem pushG_map (n : Nat) (f : Nat → α) (e : α) : (fun k => π (pushG lt n f e k)) = pushG lt' n (fun k => π (f k)) (π e) := by
  unfold pushG; rw [upG_map π h, updG_map]
theorem popG_map (n : Nat) (f : Nat → α) : (fun k => π (popG lt n f k)) = popG lt' n (fun k => π (f k)) := by
  unfold popG; rw [downG_map π h, swapG_map]
theorem pushN_map (n : Nat) (f : Nat → α) (e : Nat → α) : ∀ i, (fun k => π (pushN lt n f e i k)) = pushN lt' n (fun k => π (f k)) (fun k => π (e k)) i
  | 0 => rfl
  | i + 1 => by unfold pushN; rw [pushG_map π h, pushN_map n f e i]
end

/-! ### sums -/
section
variable {α : Type} (s : α → Nat)
def sumF (g : Nat → Nat) : Nat → Nat
  | 0 => 0
  | n + 1 => sumF g n + g n
theorem sumF_congr {g h : Nat → Nat} : ∀ (n : Nat), (∀ i, i < n → g i = h i) → sumF g n = sumF h n
  | 0, _ => rfl
  | n + 1, e => by show sumF g n + g n = sumF h n + h n; rw [sumF_congr n (fun i hi => e i (by omega)), e n (by omega)]
theorem sumF_upd (g : Nat → Nat) (i x : Nat) : ∀ (n : Nat), i < n → sumF (fun k => if k = i then x else g k) n + g i = sumF g n + x
  | 0, h => absurd h (by omega)
  | n + 1, h => by
    show sumF _ n + (if n = i then x else g n) + g i = sumF g n + g n + x
    by_cases e : n = i
    · subst e
      rw [if_pos rfl, sumF_congr (g := fun k => if k = n then x else g k) (h := g) n (fun k hk => if_neg (by omega))]
      omega
    · rw [if_neg e]
      have := sumF_upd g i x n (by omega)
      omega
theorem sumF_swap (f : Nat → α) {i j n : Nat} (hi : i < n) (hj : j < n) : sumF (fun k => s (swapG f i j k)) n = sumF (fun k => s (f k)) n := by
  have e : (fun k => s (swapG f i j k)) = (fun k => if k = j then s (f i) else (if k = i then s (f j) else s (f k))) := by
    funext k; unfold swapG; split
    · rfl
    · split <;> rfl
  rw [e]
  have h1 := sumF_upd (fun k => if k = i then s (f j) else s (f k)) j (s (f i)) n hj
  have h2 := sumF_upd (fun k => s (f k)) i (s (f j)) n hi
  by_cases e2 : j = i
  · subst e2
    rw [if_pos rfl] at h1
    omega
  · rw [if_neg e2] at h1
    omega
theorem sumF_up (lt : α → α → Bool) {n : Nat} : ∀ (u : Nat) (f : Nat → α) (j : Nat), j < n → sumF (fun k => s (upG lt u f j k)) n = sumF (fun k => s (f k)) n
  | 0, f, j, _ => rfl
  | u + 1, f, j, hj => by
    unfold upG
    split
    · rfl
    · split
      · rw [sumF_up lt u _ _ (by omega), sumF_swap s f (by omega) hj]
      · rfl
theorem kid_lt (lt : α → α → Bool) (n : Nat) (f : Nat → α) (i : Nat) (h : ¬ n ≤ 2 * i + 1) : kid lt n f i < n ∧ i < kid lt n f i := by
  unfold kid
  split <;> omega
theorem sumF_down (lt : α → α → Bool) {m n : Nat} (hm : m ≤ n) : ∀ (u : Nat) (f : Nat → α) (i : Nat), sumF (fun k => s (downG lt m u f i k)) n = sumF (fun k => s (f k)) n
  | 0, f, i => rfl
  | u + 1, f, i => by
    unfold downG
    split
    · rfl
    · rename_i hk
      have := kid_lt lt m f i hk
      split
      · rw [sumF_down lt hm u _ _, sumF_swap s f (by omega) (by omega)]
      · rfl
theorem sumF_push (lt : α → α → Bool) (n : Nat) (f : Nat → α) (e : α) : sumF (fun k => s (pushG lt n f e k)) (n + 1) = sumF (fun k => s (f k)) n + s e := by
  unfold pushG
  rw [sumF_up s lt _ _ _ (by omega)]
  show sumF _ n + s (updG f n e n) = _
  rw [sumF_congr (h := fun k => s (f k)) n (fun k hk => by show s (updG f n e k) = _; unfold updG; rw [if_neg (by omega)])]
  unfold updG
  rw [if_pos rfl]
theorem sumF_pop (lt : α → α → Bool) (n : Nat) (f : Nat → α) : sumF (fun k => s (popG lt (n + 1) f k)) n + s (popG lt (n + 1) f n) = sumF (fun k => s (f k)) (n + 1) := by
  show sumF (fun k => s (popG lt (n + 1) f k)) (n + 1) = _
  unfold popG
  rw [sumF_down s lt (by omega), sumF_swap s f (by omega) (by omega)]
theorem sumF_pushN (lt : α → α → Bool) (n : Nat) (f : Nat → α) (e : Nat → α) : ∀ i, sumF (fun k => s (pushN lt n f e i k)) (n + i) = sumF (fun k => s (f k)) n + sumF (fun k => s (e k)) i
  | 0 => by show sumF (fun k => s (f k)) n = sumF (fun k => s (f k)) n + 0; rfl
  | i + 1 => by
    unfold pushN
    rw [show n + (i + 1) = n + i + 1 by omega, sumF_push, sumF_pushN lt n f e i]
    show _ = _ + (sumF _ i + s (e i))
    omega
theorem sumF_pos {g : Nat → Nat} (h : ∀ i, 1 ≤ g i) : ∀ n, n ≤ sumF g n
  | 0 => Nat.zero_le _
  | n + 1 => by have := sumF_pos h n; have := h n; show _ ≤ sumF g n + g n; omega
end

/-! ### a search by distance -/
/-- How many rounds an entry costs. -/
def Q.rounds : Q → Nat
  | .item _ => 1
  | .sub k e => 1 + sumF (fun i => (e i).rounds) k
theorem Q.rounds_pos (q : Q) : 1 ≤ q.rounds := by
  cases q
  · exact Nat.le_refl _
  · unfold Q.rounds; omega
/-- What is noted, and the error. -/
def psQ (o : Bx) (ans : List Int → Er) : Nat → Nat → (Nat → Q) → List Int → List Int × Er
  | 0, _, _, l => (l, .none)
  | u + 1, n, f, l =>
    if n = 0 then (l, .none)
    else match popG (nearQ o) n f (n - 1) with
      | .item p => if (ans (l ++ [p.id])).isNone = true then psQ o ans u (n - 1) (popG (nearQ o) n f) (l ++ [p.id]) else (l ++ [p.id], if (ans (l ++ [p.id])).isStop = true then .none else ans (l ++ [p.id]))
      | .sub k e => psQ o ans u (n - 1 + k) (pushN (nearQ o) (n - 1) (popG (nearQ o) n f) e k) l
/-- A search by distance in a tree. -/
def psF (n : Nat) (K : Nat × (Nat → Q)) (ans : List Int → Er) (o : Bx) : List Int × Er :=
  if n = 0 then ([], .none) else psQ o ans (sumF (fun i => (K.2 i).rounds) K.1) K.1 (pushN (nearQ o) 0 (fun _ => .sub 0 K.2) K.2 K.1) []
theorem psQ_zero (o : Bx) (ans : List Int → Er) (u : Nat) (f : Nat → Q) (l : List Int) : psQ o ans u 0 f l = (l, .none) := by
  cases u
  · rfl
  · unfold psQ; rw [if_pos rfl]
end Go.Proofs.YtflaklceejokhaaDoor.tree
