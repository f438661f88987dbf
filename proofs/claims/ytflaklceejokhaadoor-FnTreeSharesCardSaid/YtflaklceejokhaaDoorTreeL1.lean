/-
  What bulk loading makes, plainly: the items are there, each once; how much there is. No condition.
-/
import Derived.Test.YtflaklceejokhaaDoorTreeN
import Derived.Test.YtflaklceejokhaaDoorTreeP
import Derived.Test.YtflaklceejokhaaDoorTreeS2
namespace Go.Proofs.YtflaklceejokhaaDoor.tree
set_option linter.unusedVariables false
set_option linter.unusedSimpArgs false

theorem ls_congr {f g : Nat → It} {n : Nat} (h : ∀ i, i < n → f i = g i) : ls f n = ls g n := by
  unfold ls
  exact List.map_congr_left fun i hi => h i (List.mem_range.1 hi)
theorem ls_add (f : Nat → It) (a : Nat) : ∀ b, ls f (a + b) = ls f a ++ ls (fun j => f (a + j)) b
  | 0 => by simp [ls]
  | b + 1 => by
    have h := ls_add f a b
    have e : ∀ (g : Nat → It) (k : Nat), ls g (k + 1) = ls g k ++ [g k] := fun g k => by unfold ls; rw [List.range_succ, List.map_append]; rfl
    rw [show a + (b + 1) = a + b + 1 by omega, e, h, e, List.append_assoc]
theorem ls_split (f : Nat → It) {a n : Nat} (h : a ≤ n) : ls f n = ls f a ++ ls (fun j => f (a + j)) (n - a) := by
  have := ls_add f a (n - a)
  rw [show a + (n - a) = n by omega] at this
  exact this
theorem ls_splitF {n : Nat} (f : Nat → It) (hn : 2 ≤ n) : (ls (splitF n f) n).Perm (ls f n) := ls_quick _ f (by omega)

theorem ls_preF {n : Nat} (f : Nat → It) (hn : 5 ≤ n) : (ls (preF n f) n).Perm (ls f n) := by
  unfold preF
  by_cases h8 : n ≤ 8
  · rw [if_pos h8]; exact ls_splitF f (by omega)
  · rw [if_neg h8]
    refine List.Perm.trans ?_ (ls_splitF f (by omega))
    rw [ls_split _ (show n / 2 ≤ n by omega), ls_split (splitF n f) (show n / 2 ≤ n by omega)]
    refine List.Perm.append ?_ ?_
    · rw [ls_congr (g := splitF (n / 2) (splitF n f)) fun i hi => by simp [hi]]
      exact ls_splitF _ (by omega)
    · rw [ls_congr (g := splitF (n - n / 2) (fun j => splitF n f (n / 2 + j))) fun i hi => by
        have : ¬ n / 2 + i < n / 2 := by omega
        simp only [this, if_false]
        rw [Nat.add_sub_cancel_left]]
      exact ls_splitF _ (by omega)

def catF {α : Type} (g : Nat → List α) : Nat → List α
  | 0 => []
  | k + 1 => catF g k ++ g k
def Q.its : Q → List It
  | .item p => [p]
  | .sub k e => catF (fun i => (e i).its) k
theorem Q.its_sub (k : Nat) (e : Nat → Q) : (Q.sub k e).its = catF (fun i => (e i).its) k := by rw [Q.its]
theorem Q.cnt_sub (k : Nat) (e : Nat → Q) : (Q.sub k e).cnt = cntF (fun i => (e i).cnt) k := by rw [Q.cnt]
theorem Q.rounds_sub (k : Nat) (e : Nat → Q) : (Q.sub k e).rounds = 1 + sumF (fun i => (e i).rounds) k := by rw [Q.rounds]
theorem catF_len {α : Type} {g : Nat → List α} {c : Nat → Nat} : ∀ k, (∀ i, i < k → (g i).length = c i) → (catF g k).length = cntF c k
  | 0, _ => rfl
  | k + 1, h => by show (catF g k ++ g k).length = cntF c k + c k; rw [List.length_append, catF_len k (fun i hi => h i (by omega)), h k (by omega)]
theorem Q.its_len : ∀ q : Q, q.its.length = q.cnt
  | .item p => by unfold Q.its Q.cnt; rfl
  | .sub k e => by
    rw [Q.its_sub, Q.cnt_sub]
    exact catF_len k fun i _ => Q.its_len (e i)
theorem catF_perm {α : Type} {g h : Nat → List α} : ∀ k, (∀ i, i < k → (g i).Perm (h i)) → (catF g k).Perm (catF h k)
  | 0, _ => List.Perm.refl _
  | k + 1, e => List.Perm.append (catF_perm k fun i hi => e i (by omega)) (e k (by omega))

theorem ls_parts2 (G : Nat → It) {n : Nat} (hn : 5 ≤ n) : catF (fun j => ls (fun x => G (offP n j + x)) (nsP n j)) (cntP n) = ls G n := by
  by_cases h8 : n ≤ 8
  · rw [show cntP n = 2 by unfold cntP; rw [if_pos h8]]
    simp only [catF, List.nil_append]
    rw [ls_split G (show n / 2 ≤ n by omega)]
    simp [offP, nsP, h8]
  · rw [show cntP n = 4 by unfold cntP; rw [if_neg h8]]
    simp only [catF, List.nil_append]
    rw [ls_split G (show n / 2 + (n - n / 2) / 2 ≤ n by omega), ls_split G (show n / 2 ≤ n / 2 + (n - n / 2) / 2 by omega), ls_split G (show n / 2 / 2 ≤ n / 2 by omega)]
    simp [offP, nsP, h8]

theorem bq_its : ∀ (u n : Nat) (f : Nat → It), 1 ≤ n → n ≤ u → (Q.sub (bq u n f).1 (bq u n f).2).its.Perm (ls f n)
  | 0, n, f, h1, h2 => by omega
  | u + 1, n, f, h1, h2 => by
    unfold bq
    by_cases h4 : n ≤ 4
    · rw [if_pos h4, Q.its_sub]
      refine List.Perm.of_eq ?_
      clear h1 h2 h4
      induction n with
      | zero => simp [catF, ls]
      | succ n ih =>
        show catF (fun i => (Q.item (f i)).its) n ++ (Q.item (f n)).its = ls f (n + 1)
        rw [ls_add f n 1]
        have e : (Q.item (f n)).its = [f n] := by unfold Q.its; rfl
        rw [e]
        have ih' : catF (fun i => (Q.item (f i)).its) n = ls f n := ih
        rw [ih']
        simp [ls]
    · rw [if_neg h4, Q.its_sub]
      refine List.Perm.trans ?_ (ls_preF f (by omega))
      rw [← ls_parts2 (preF n f) (by omega)]
      refine catF_perm _ fun j hj => ?_
      have hf := offP_fit n (by omega) hj
      exact bq_its u (nsP n j) _ hf.2.1 (by omega)

theorem gd_perm {f g : Nat → It} {n : Nat} (h : (ls g n).Perm (ls f n)) (hf : ∀ i, i < n → Gd (f i).b) : ∀ i, i < n → Gd (g i).b := by
  intro i hi
  have h1 : g i ∈ ls g n := List.mem_map.2 ⟨i, List.mem_range.2 hi, rfl⟩
  obtain ⟨j, hj, e⟩ := List.mem_map.1 (h.mem_iff.1 h1)
  rw [← e]
  exact hf j (List.mem_range.1 hj)

theorem bq_ok : ∀ (u n : Nat) (f : Nat → It), 1 ≤ n → n ≤ u → (∀ i, i < n → Gd (f i).b) → (Q.sub (bq u n f).1 (bq u n f).2).Ok
  | 0, n, f, h1, h2, _ => by omega
  | u + 1, n, f, h1, h2, h3 => by
    unfold bq
    by_cases h4 : n ≤ 4
    · rw [if_pos h4]
      exact ⟨h1, h4, fun i hi => h3 i hi⟩
    · rw [if_neg h4]
      refine ⟨by unfold cntP; split <;> omega, by unfold cntP; split <;> omega, fun j hj => ?_⟩
      have hf := offP_fit n (by omega) (a := j) hj
      have hg := gd_perm (ls_preF f (by omega)) h3
      exact bq_ok u (nsP n j) _ hf.2.1 (by omega) fun x hx => hg _ (by omega)

theorem bq_cnt (u n : Nat) (f : Nat → It) (h1 : 1 ≤ n) (h2 : n ≤ u) : (Q.sub (bq u n f).1 (bq u n f).2).cnt = n := by
  rw [← Q.its_len, (bq_its u n f h1 h2).length_eq]
  simp [ls]

theorem sumF_le {g h : Nat → Nat} : ∀ k, (∀ i, i < k → g i ≤ h i) → sumF g k ≤ sumF h k
  | 0, _ => Nat.le_refl _
  | k + 1, e => Nat.add_le_add (sumF_le k fun i hi => e i (by omega)) (e k (by omega))
theorem ns_sum (n : Nat) (hn : 5 ≤ n) : sumF (fun j => 1 + (3 * nsP n j - 2)) (cntP n) ≤ 3 * n - 2 := by
  by_cases h8 : n ≤ 8
  · rw [show cntP n = 2 by unfold cntP; rw [if_pos h8]]
    simp [sumF, offP, nsP, h8]
    omega
  · rw [show cntP n = 4 by unfold cntP; rw [if_neg h8]]
    simp [sumF, offP, nsP, h8]
    omega
theorem bq_rounds : ∀ (u n : Nat) (f : Nat → It), 1 ≤ n → n ≤ u → sumF (fun i => ((bq u n f).2 i).rounds) (bq u n f).1 ≤ 3 * n - 2
  | 0, n, f, h1, h2 => by omega
  | u + 1, n, f, h1, h2 => by
    unfold bq
    by_cases h4 : n ≤ 4
    · rw [if_pos h4]
      have : ∀ k, sumF (fun i => (Q.item (f i)).rounds) k = k := by
        intro k
        induction k with
        | zero => rfl
        | succ k ih => show sumF _ k + (Q.item (f k)).rounds = k + 1; rw [ih]; unfold Q.rounds; rfl
      show sumF (fun i => (Q.item (f i)).rounds) n ≤ _
      rw [this n]; omega
    · rw [if_neg h4]
      refine Nat.le_trans (sumF_le _ fun j hj => ?_) (ns_sum n (by omega))
      have hf := offP_fit n (by omega) (a := j) hj
      show (Q.sub _ _).rounds ≤ _
      rw [Q.rounds_sub]
      exact Nat.add_le_add_left (bq_rounds u (nsP n j) _ hf.2.1 (by omega)) 1
end Go.Proofs.YtflaklceejokhaaDoor.tree
