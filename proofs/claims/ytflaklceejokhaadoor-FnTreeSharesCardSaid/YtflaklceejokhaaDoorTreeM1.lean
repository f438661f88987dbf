/-
  A search through a box, plainly: the items that overlap it, in the tree's order. The heap, plainly: what Push and Pop make of it. A search by distance, plainly: all items, the nearest first. The law FnTreeShares, plainly: what a tree finds, what two trees find that share its items. The laws' own distance: kFar. The law's own maps: from ids to boxes; a set of ids.
-/
import Derived.Test.YtflaklceejokhaaDoorTreeKG
import Derived.Test.YtflaklceejokhaaDoorTreeS2
import Derived.Test.YtflaklceejokhaaDoorTreeKD
import Derived.Test.YtflaklceejokhaaDoorTreeKA
import Derived.Test.YtflaklceejokhaaDoorMap
namespace Go.Proofs.YtflaklceejokhaaDoor.tree
open Go.ChangeShapes Go.WideShapes Go.ChangeAt Go.RowKit
open Go.Proofs.YtflaklceejokhaaDoor.mem Go.Proofs.YtflaklceejokhaaDoor.flt Ieee
set_option linter.unusedVariables false
set_option linter.unusedSimpArgs false

theorem Wz.inj {b : Nat} {x y : Int} {N M : Nat} (h : Wz b x N) (k : Wz b y M) : x = y := by
  have h1 := h.order k
  have h2 := h.order h
  rw [h2] at h1
  have := Option.some.inj h1
  rw [compare_eq, compare_eq, if_neg (by omega), if_pos rfl] at this
  split at this
  · cases this
  · split at this
    · assumption
    · cases this
theorem GB.inj {b : Bx} {P Q : Bz} (h : GB b P) (k : GB b Q) : P = Q := by
  obtain ⟨a1, a2, a3, a4⟩ := P
  obtain ⟨b1, b2, b3, b4⟩ := Q
  have e1 := h.1.inj k.1
  have e2 := h.2.1.inj k.2.1
  have e3 := h.2.2.1.inj k.2.2.1
  have e4 := h.2.2.2.inj k.2.2.2
  simp only at e1 e2 e3 e4
  subst e1 e2 e3 e4
  rfl
theorem fle_whole {a b : Nat} {x y : Int} {N M : Nat} (h : Wz a x N) (k : Wz b y M) : fle a b = true ↔ x ≤ y := by
  unfold fle
  have := h.order k
  rw [show FloatKind.f64.format.order a b = some (compare x y) from this, compare_eq]
  by_cases h1 : x < y
  · simp [h1]; omega
  · by_cases h2 : x = y
    · simp [h2]
    · simp [h1, h2]; omega
theorem fge_whole {a b : Nat} {x y : Int} {N M : Nat} (h : Wz a x N) (k : Wz b y M) : fge a b = true ↔ y ≤ x := by
  unfold fge
  have := h.order k
  rw [show FloatKind.f64.format.order a b = some (compare x y) from this, compare_eq]
  by_cases h1 : x < y
  · simp [h1]
  · by_cases h2 : x = y
    · simp [h2]
    · simp [h1, h2]; omega
theorem ov_whole {p q : Bx} {P Q : Bz} (h : GB p P) (k : GB q Q) : ov p q = true ↔ P.x0 ≤ Q.x1 ∧ Q.x0 ≤ P.x1 ∧ P.y0 ≤ Q.y1 ∧ Q.y0 ≤ P.y1 := by
  unfold ov
  rw [Bool.and_eq_true, Bool.and_eq_true, Bool.and_eq_true, fle_whole h.1 k.2.2.1, fge_whole h.2.2.1 k.1, fle_whole h.2.1 k.2.2.2, fge_whole h.2.2.2 k.2.1]

/-- A box in another. -/
def Bz.In (P Q : Bz) : Prop := Q.x0 ≤ P.x0 ∧ Q.y0 ≤ P.y0 ∧ P.x1 ≤ Q.x1 ∧ P.y1 ≤ Q.y1
theorem hq_in {b : Nat → Bx} {B : Nat → Bz} {n : Nat} (h : ∀ i, i < n → GB (b i) (B i)) : ∀ i, i < n → ∃ H, GB (hq b i) H ∧ ∀ j, j ≤ i → (B j).In H
  | 0, hi => ⟨B 0, h 0 hi, fun j hj => by
      have e : j = 0 := Nat.le_zero.1 hj
      subst e; exact ⟨Int.le_refl _, Int.le_refl _, Int.le_refl _, Int.le_refl _⟩⟩
  | i + 1, hi => by
    obtain ⟨H, h1, h2⟩ := hq_in h i (by omega)
    refine ⟨combZ H (B (i + 1)), h1.comb (h (i + 1) hi), fun j hj => ?_⟩
    by_cases e : j = i + 1
    · subst e; unfold Bz.In combZ; simp only; omega
    · have := h2 j (by omega); unfold Bz.In combZ at *; simp only; omega
theorem Q.its_in : ∀ (q : Q), q.Ok → ∃ B, GB q.bx B ∧ ∀ p ∈ q.its, ∃ P, GB p.b P ∧ P.In B
  | .item p, h => by
    obtain ⟨P, hP⟩ := (show Gd p.b from h)
    refine ⟨P, by unfold Q.bx; exact hP, fun p' hp' => ?_⟩
    unfold Q.its at hp'
    obtain rfl := List.mem_singleton.1 hp'
    exact ⟨P, hP, by unfold Bz.In; omega⟩
  | .sub k e, h => by
    obtain ⟨h1, h2, h3⟩ := (show 1 ≤ k ∧ k ≤ 4 ∧ ∀ i, i < k → (e i).Ok from h)
    have ih : ∀ i, i < k → ∃ B, GB (e i).bx B ∧ ∀ p ∈ (e i).its, ∃ P, GB p.b P ∧ P.In B := fun i hi => Q.its_in (e i) (h3 i hi)
    obtain ⟨B, hB⟩ : ∃ B : Nat → Bz, ∀ i, i < k → GB (e i).bx (B i) ∧ ∀ p ∈ (e i).its, ∃ P, GB p.b P ∧ P.In (B i) := by
      refine ⟨fun i => if hi : i < k then Classical.choose (ih i hi) else ⟨0, 0, 0, 0⟩, fun i hi => ?_⟩
      simp only [hi, dif_pos]
      exact Classical.choose_spec (ih i hi)
    obtain ⟨H, hH, hin⟩ := hq_in (n := k) (fun i hi => (hB i hi).1) (k - 1) (by omega)
    refine ⟨H, by rw [Q.bx_sub]; exact hH, fun p hp => ?_⟩
    rw [Q.its_sub] at hp
    have : ∀ n, n ≤ k → p ∈ catF (fun i => (e i).its) n → ∃ i, i < n ∧ p ∈ (e i).its := by
      intro n
      induction n with
      | zero => intro _ hp; cases hp
      | succ n ihn =>
        intro hn hp
        rcases List.mem_append.1 hp with hp | hp
        · obtain ⟨i, hi, hpi⟩ := ihn (by omega) hp; exact ⟨i, by omega, hpi⟩
        · exact ⟨n, by omega, hp⟩
    obtain ⟨i, hi, hpi⟩ := this k (Nat.le_refl _) hp
    obtain ⟨P, hP, hPB⟩ := (hB i hi).2 p hpi
    exact ⟨P, hP, by have := hin i (by omega); unfold Bz.In at *; omega⟩
theorem ov_up {q : Q} (hq : q.Ok) {b : Bx} (hb : Gd b) {p : It} (hp : p ∈ q.its) (h : ov p.b b = true) : ov q.bx b = true := by
  obtain ⟨O, hO⟩ := hb
  obtain ⟨B, hB, hin⟩ := Q.its_in q hq
  obtain ⟨P, hP, hPB⟩ := hin p hp
  rw [ov_whole hP hO] at h
  rw [ov_whole hB hO]
  unfold Bz.In at hPB
  omega

theorem catF_front {α : Type} (g : Nat → List α) (d : Nat) : catF g (d + 1) = g 0 ++ catF (fun j => g (j + 1)) d := by
  induction d with
  | zero => simp [catF]
  | succ d ih =>
    show catF g (d + 1) ++ g (d + 1) = g 0 ++ (catF (fun j => g (j + 1)) d ++ g (d + 1))
    rw [ih, List.append_assoc]
theorem loopV_none {vs : Nat → List Int → List Int × Er × Bool} {g : Nat → List Int} : ∀ (d i k : Nat) (l : List Int), i + d ≤ k → (∀ j, j < k → ∀ l, vs j l = (l ++ g j, .none, false)) → loopV vs d i l = (l ++ catF (fun j => g (i + j)) d, .none)
  | 0, i, k, l, _, _ => by simp [loopV, catF]
  | d + 1, i, k, l, hk, h => by
    unfold loopV
    rw [h i (by omega) l]
    simp only [Bool.false_eq_true, if_false]
    rw [loopV_none d (i + 1) k _ (by omega) h, catF_front, List.append_assoc]
    simp only [Nat.add_zero]
    rw [show (fun j => g (i + 1 + j)) = (fun j => g (i + (j + 1))) from funext fun j => by rw [show i + 1 + j = i + (j + 1) by omega]]
/-- The ids of the items that overlap. -/
def ovI (b : Bx) (l : List It) : List Int := (l.filter (fun p => ov p.b b)).map (·.id)
theorem ovI_cat (b : Bx) (e : Nat → Q) (k : Nat) : ovI b (catF (fun i => (e i).its) k) = catF (fun i => ovI b (e i).its) k := by
  induction k with
  | zero => rfl
  | succ k ih =>
    show ovI b (catF _ k ++ _) = catF _ k ++ _
    rw [← ih]
    unfold ovI
    rw [List.filter_append, List.map_append]
theorem visit_none {ans : List Int → Er} (hA : ∀ l i, ans (l ++ [i]) = .none) {b : Bx} (hb : Gd b) : ∀ (q : Q), q.Ok → ∀ l, visit ans b q l = (l ++ ovI b q.its, .none, false)
  | .item p, h, l => by
    unfold visit Q.its ovI
    by_cases e : ov p.b b = true
    · simp [e, hA, Er.isStop, Er.isNone]
    · simp [e]
  | .sub k e, h, l => by
    obtain ⟨h1, h2, h3⟩ := (show 1 ≤ k ∧ k ≤ 4 ∧ ∀ i, i < k → (e i).Ok from h)
    have hl := loopV_none (vs := fun i => visit ans b (e i)) (g := fun i => ovI b (e i).its) k 0 k l (by omega) (fun j hj l => visit_none hA hb (e j) (h3 j hj) l)
    simp only [Nat.zero_add] at hl
    rw [← ovI_cat, ← Q.its_sub] at hl
    unfold visit
    by_cases hv : ov (hq (fun i => (e i).bx) (k - 1)) b = true
    · rw [if_pos hv, hl]
      rfl
    · rw [if_neg hv]
      have : ovI b (Q.sub k e).its = [] := by
        unfold ovI
        rw [List.map_eq_nil_iff, List.filter_eq_nil_iff]
        intro p hp ho
        have := ov_up (q := .sub k e) h hb hp ho
        rw [Q.bx_sub] at this
        exact hv this
      rw [this, List.append_nil]

/-- What a search through a box finds, none stopping it. -/
theorem rs_none {ans : List Int → Er} (hA : ∀ l i, ans (l ++ [i]) = .none) {n : Nat} {f : Nat → It} (hG : ∀ i, i < n → Gd (f i).b) {b : Bx} (hb : Gd b) : ∃ l, rsF n (bq n n f) ans b = (l, .none) ∧ l.Perm (ovI b (ls f n)) := by
  unfold rsF
  by_cases hn : n = 0
  · subst hn
    exact ⟨[], by rw [if_pos rfl], List.Perm.refl _⟩
  · rw [if_neg hn]
    have ho := bq_ok n n f (by omega) (Nat.le_refl _) hG
    have hp := bq_its n n f (by omega) (Nat.le_refl _)
    obtain ⟨h1, h2, h3⟩ := (show 1 ≤ (bq n n f).1 ∧ (bq n n f).1 ≤ 4 ∧ ∀ i, i < (bq n n f).1 → ((bq n n f).2 i).Ok from ho)
    have hl := loopV_none (vs := fun i => visit ans b ((bq n n f).2 i)) (g := fun i => ovI b ((bq n n f).2 i).its) (bq n n f).1 0 (bq n n f).1 [] (by omega) (fun j hj l => visit_none hA hb _ (h3 j hj) l)
    simp only [Nat.zero_add, List.nil_append] at hl
    refine ⟨_, hl, ?_⟩
    rw [← ovI_cat, ← Q.its_sub]
    unfold ovI
    exact (hp.filter _).map _
end Go.Proofs.YtflaklceejokhaaDoor.tree

namespace Go.Proofs.YtflaklceejokhaaDoor.tree
set_option linter.unusedVariables false
set_option linter.unusedSimpArgs false

section
variable {α : Type} {lt : α → α → Bool} {key : α → Int} {P : α → Prop}

theorem swap_pres {R : α → Prop} {n : Nat} {f : Nat → α} {i j : Nat} (hi : i < n) (hj : j < n) (h : ∀ k, k < n → R (f k)) : ∀ k, k < n → R (swapG f i j k) := by
  intro k hk
  unfold swapG
  split
  · exact h i hi
  · split
    · exact h j hj
    · exact h k hk
theorem up_pres {R : α → Prop} {n : Nat} : ∀ (u : Nat) (f : Nat → α) (j : Nat), j < n → (∀ k, k < n → R (f k)) → ∀ k, k < n → R (upG lt u f j k)
  | 0, f, j, _, h => h
  | u + 1, f, j, hj, h => by
    unfold upG
    split
    · exact h
    · split
      · exact up_pres u _ _ (by omega) (swap_pres (by omega) hj h)
      · exact h
theorem down_pres {R : α → Prop} {m n : Nat} (hm : m ≤ n) : ∀ (u : Nat) (f : Nat → α) (i : Nat), (∀ k, k < n → R (f k)) → ∀ k, k < n → R (downG lt m u f i k)
  | 0, f, i, h => h
  | u + 1, f, i, h => by
    unfold downG
    split
    · exact h
    · split
      · have hk := kid_lt lt m f i (by assumption)
        exact down_pres hm u _ _ (swap_pres (by omega) (by omega) h)
      · exact h
theorem down_far {m k : Nat} (hk : m ≤ k) : ∀ (u : Nat) (f : Nat → α) (i : Nat), downG lt m u f i k = f k
  | 0, f, i => rfl
  | u + 1, f, i => by
    unfold downG
    split
    · rfl
    · split
      · have hc := kid_lt lt m f i (by assumption)
        rw [down_far hk u]
        unfold swapG
        rw [if_neg (by omega), if_neg (by omega)]
      · rfl
theorem push_pres {R : α → Prop} {n : Nat} {f : Nat → α} {e : α} (h : ∀ k, k < n → R (f k)) (he : R e) : ∀ k, k < n + 1 → R (pushG lt n f e k) := by
  refine up_pres _ _ _ (by omega) fun k hk => ?_
  unfold updG
  split
  · exact he
  · exact h k (by omega)
theorem pop_pres {R : α → Prop} {n : Nat} {f : Nat → α} (h : ∀ k, k < n → R (f k)) : ∀ k, k < n → R (popG lt n f k) := by
  intro k hk
  exact down_pres (by omega) _ _ _ (swap_pres (by omega) (by omega) h) k hk
theorem pushN_pres {R : α → Prop} {n : Nat} {f : Nat → α} {e : Nat → α} (h : ∀ k, k < n → R (f k)) : ∀ i, (∀ j, j < i → R (e j)) → ∀ k, k < n + i → R (pushN lt n f e i k)
  | 0, _ => h
  | i + 1, he => push_pres (pushN_pres h i fun j hj => he j (by omega)) (he i (by omega))
theorem pop_last {n : Nat} {f : Nat → α} : popG lt (n + 1) f n = f 0 := by
  unfold popG
  rw [Nat.add_sub_cancel, down_far (Nat.le_refl _)]
  unfold swapG
  rw [if_pos rfl]

/-- No entry is less than the one above it. -/
def Heap (key : α → Int) (n : Nat) (f : Nat → α) : Prop := ∀ i, 0 < i → i < n → key (f ((i - 1) / 2)) ≤ key (f i)
theorem Heap.least {n : Nat} {f : Nat → α} (h : Heap key n f) : ∀ i, i < n → key (f 0) ≤ key (f i) := by
  intro i
  induction i using Nat.strongRecOn with
  | ind i ih =>
    intro hi
    by_cases h0 : i = 0
    · subst h0; exact Int.le_refl _
    · exact Int.le_trans (ih ((i - 1) / 2) (by omega) (by omega)) (h i (by omega) hi)

theorem up_heap (hlt : ∀ a b, P a → P b → lt a b = decide (key a < key b)) {n : Nat} : ∀ (u : Nat) (f : Nat → α) (j : Nat), j < n → j < u → (∀ k, k < n → P (f k)) →
    (∀ i, 0 < i → i < n → i ≠ j → key (f ((i - 1) / 2)) ≤ key (f i)) → (∀ i, 0 < i → i < n → (i - 1) / 2 = j → 0 < j → key (f ((j - 1) / 2)) ≤ key (f i)) → Heap key n (upG lt u f j)
  | 0, f, j, _, hu, _, _, _ => by omega
  | u + 1, f, j, hj, hu, hP, h1, h2 => by
    unfold upG
    by_cases h0 : (j - 1) / 2 = j
    · rw [if_pos h0]
      intro i hi hn
      exact h1 i hi hn (by omega)
    · rw [if_neg h0, hlt _ _ (hP j hj) (hP _ (by omega))]
      by_cases hl : key (f j) < key (f ((j - 1) / 2))
      · rw [if_pos (by simp [hl])]
        refine up_heap hlt u _ _ (by omega) (by omega) (swap_pres (by omega) hj hP) ?_ ?_
        · intro i hi hn hne
          unfold swapG
          by_cases e1 : i = j
          · subst e1
            rw [if_pos rfl, if_neg (by omega), if_pos rfl]
            omega
          · by_cases e2 : (i - 1) / 2 = j
            · have := h2 i hi hn e2 (by omega)
              simp only [e2, e1, hne, if_true, if_false]
              exact this
            · by_cases e3 : (i - 1) / 2 = (j - 1) / 2
              · have := h1 i hi hn e1
                rw [e3] at this
                simp only [e3, e1, hne, h0, if_true, if_false]
                omega
              · have := h1 i hi hn e1
                simp only [e2, e1, e3, hne, if_false]
                exact this
        · intro i hi hn hp hj0
          have hq := h1 ((j - 1) / 2) (by omega) (by omega) (by omega)
          unfold swapG
          rw [if_neg (show ¬ ((j - 1) / 2 - 1) / 2 = j by omega), if_neg (show ¬ ((j - 1) / 2 - 1) / 2 = (j - 1) / 2 by omega)]
          by_cases e1 : i = j
          · subst e1
            rw [if_pos rfl]
            exact hq
          · have := h1 i hi hn e1
            rw [hp] at this
            rw [if_neg e1, if_neg (by omega)]
            exact Int.le_trans hq this
      · rw [if_neg (by simp [hl])]
        intro i hi hn
        by_cases e : i = j
        · subst e; omega
        · exact h1 i hi hn e

theorem down_heap (hlt : ∀ a b, P a → P b → lt a b = decide (key a < key b)) {n N : Nat} (hN : n ≤ N) : ∀ (u : Nat) (f : Nat → α) (i : Nat), n ≤ i + u → (∀ k, k < N → P (f k)) →
    (∀ k, 0 < k → k < n → (k - 1) / 2 ≠ i → key (f ((k - 1) / 2)) ≤ key (f k)) → (∀ k, 0 < k → k < n → (k - 1) / 2 = i → 0 < i → key (f ((i - 1) / 2)) ≤ key (f k)) → Heap key n (downG lt n u f i)
  | 0, f, i, hu, _, h1, _ => by
    intro k hk hn
    exact h1 k hk hn (by omega)
  | u + 1, f, i, hu, hP, h1, h2 => by
    unfold downG
    by_cases h0 : n ≤ 2 * i + 1
    · rw [if_pos h0]
      intro k hk hn
      exact h1 k hk hn (by omega)
    · rw [if_neg h0]
      have hc := kid_lt lt n f i h0
      have hck : (kid lt n f i - 1) / 2 = i ∧ ∀ k, 0 < k → k < n → (k - 1) / 2 = i → key (f (kid lt n f i)) ≤ key (f k) := by
        unfold kid
        split
        · rename_i hk
          rw [hlt _ _ (hP _ (by omega)) (hP _ (by omega))] at hk
          have hk2 := of_decide_eq_true hk.2
          refine ⟨by omega, fun k k0 kn kp => ?_⟩
          obtain rfl | rfl : k = 2 * i + 1 ∨ k = 2 * i + 2 := by omega
          · omega
          · exact Int.le_refl _
        · rename_i hk
          refine ⟨by omega, fun k k0 kn kp => ?_⟩
          obtain rfl | rfl : k = 2 * i + 1 ∨ k = 2 * i + 2 := by omega
          · exact Int.le_refl _
          · rw [hlt _ _ (hP _ (by omega)) (hP _ (by omega))] at hk
            have : ¬ key (f (2 * i + 2)) < key (f (2 * i + 1)) := fun h => hk ⟨kn, by simp [h]⟩
            omega
      generalize kid lt n f i = c at hc hck
      obtain ⟨hc1, hc2⟩ := hc
      obtain ⟨hc3, hc4⟩ := hck
      rw [hlt _ _ (hP c (by omega)) (hP i (by omega))]
      by_cases hl : key (f c) < key (f i)
      · rw [if_pos (by simp [hl])]
        refine down_heap hlt hN u _ _ (by omega) (swap_pres (by omega) (by omega) hP) ?_ ?_
        · intro k hk hn hne
          unfold swapG
          by_cases e1 : (k - 1) / 2 = i
          · rw [e1]
            rw [if_neg (show ¬ i = c by omega), if_pos rfl]
            by_cases e2 : k = c
            · rw [if_pos e2]; omega
            · rw [if_neg e2, if_neg (by omega)]
              exact hc4 k hk hn e1
          · by_cases e2 : k = i
            · subst e2
              have := h2 c (by omega) hc1 hc3 hk
              rw [if_neg hne, if_neg e1, if_neg (show ¬ k = c by omega), if_pos rfl]
              exact this
            · have hkc : k ≠ c := fun e => e1 (by rw [e]; exact hc3)
              rw [if_neg hne, if_neg e1, if_neg hkc, if_neg e2]
              exact h1 k hk hn e1
        · intro k hk hn hp hc0
          rw [hc3]
          unfold swapG
          rw [if_neg (show ¬ i = c by omega), if_pos rfl, if_neg (show ¬ k = c by omega), if_neg (show ¬ k = i by omega)]
          have := h1 k hk hn (by omega)
          rw [hp] at this
          exact this
      · rw [if_neg (by simp [hl])]
        intro k hk hn
        by_cases e : (k - 1) / 2 = i
        · have := hc4 k hk hn e
          rw [e]; omega
        · exact h1 k hk hn e

theorem push_heap (hlt : ∀ a b, P a → P b → lt a b = decide (key a < key b)) {n : Nat} {f : Nat → α} {e : α} (hP : ∀ k, k < n → P (f k)) (he : P e) (h : Heap key n f) : Heap key (n + 1) (pushG lt n f e) := by
  refine up_heap hlt _ _ _ (by omega) (by omega) (fun k hk => ?_) (fun i hi hn hne => ?_) (fun i hi hn hp _ => by omega)
  · unfold updG
    split
    · exact he
    · exact hP k (by omega)
  · unfold updG
    rw [if_neg (by omega), if_neg hne]
    exact h i hi (by omega)
theorem pop_heap (hlt : ∀ a b, P a → P b → lt a b = decide (key a < key b)) {n : Nat} {f : Nat → α} (hP : ∀ k, k < n + 1 → P (f k)) (h : Heap key (n + 1) f) : Heap key n (popG lt (n + 1) f) := by
  unfold popG
  rw [Nat.add_sub_cancel]
  refine down_heap hlt (N := n + 1) (by omega) _ _ _ (by omega) (swap_pres (by omega) (by omega) hP) (fun k hk hn hne => ?_) (fun k hk hn hp h0 => by omega)
  unfold swapG
  rw [if_neg (by omega), if_neg hne, if_neg (by omega), if_neg (by omega)]
  exact h k hk (by omega)
theorem pushN_heap (hlt : ∀ a b, P a → P b → lt a b = decide (key a < key b)) {n : Nat} {f : Nat → α} {e : Nat → α} (hP : ∀ k, k < n → P (f k)) (h : Heap key n f) : ∀ i, (∀ j, j < i → P (e j)) → Heap key (n + i) (pushN lt n f e i)
  | 0, _ => h
  | i + 1, he => push_heap hlt (pushN_pres hP i fun j hj => he j (by omega)) (he i (by omega)) (pushN_heap hlt hP h i fun j hj => he j (by omega))
end
end Go.Proofs.YtflaklceejokhaaDoor.tree

namespace Go.Proofs.YtflaklceejokhaaDoor.tree
open Go.ChangeShapes Go.WideShapes Go.ChangeAt Go.RowKit
open Go.Proofs.YtflaklceejokhaaDoor.mem Go.Proofs.YtflaklceejokhaaDoor.flt Ieee
set_option linter.unusedVariables false
set_option linter.unusedSimpArgs false

/-- A box's whole numbers, if it has any. -/
noncomputable def bz (b : Bx) : Bz := @dite _ (Gd b) (Classical.propDecidable _) (fun h => Classical.choose h) (fun _ => ⟨0, 0, 0, 0⟩)
theorem bz_gb {b : Bx} (h : Gd b) : GB b (bz b) := by
  unfold bz
  rw [dif_pos h]
  exact Classical.choose_spec h
theorem bz_eq {b : Bx} {P : Bz} (h : GB b P) : bz b = P := (bz_gb ⟨P, h⟩).inj h
/-- How far a box is from another. -/
noncomputable def far (o b : Bx) : Int := sqz (bz b) (bz o)
noncomputable def keyQ (o : Bx) (q : Q) : Int := far o q.bx

theorem near_key {o : Bx} (ho : Gd o) (a b : Q) (ha : a.Ok) (hb : b.Ok) : nearQ o a b = decide (keyQ o a < keyQ o b) := by
  unfold nearQ keyQ far
  have h := (sqd_whole (bz_gb (Q.Ok.bx a ha)) (bz_gb ho)).order (sqd_whole (bz_gb (Q.Ok.bx b hb)) (bz_gb ho))
  rw [h, compare_eq]
  by_cases h1 : sqz (bz a.bx) (bz o) < sqz (bz b.bx) (bz o)
  · simp [h1]
  · by_cases h2 : sqz (bz a.bx) (bz o) = sqz (bz b.bx) (bz o)
    · simp [h1, h2]
    · simp [h1, h2]
theorem sz1_in {a0 a1 c0 c1 b0 b1 : Int} (h0 : c0 ≤ a0) (h1 : a1 ≤ c1) : 0 ≤ sz1 c0 c1 b0 b1 ∧ sz1 c0 c1 b0 b1 ≤ sz1 a0 a1 b0 b1 := by
  unfold sz1
  omega
theorem sq_mono {x y : Int} (h0 : 0 ≤ x) (h : x ≤ y) : x * x ≤ y * y := Int.mul_le_mul h h h0 (by omega)
theorem sqz_in {P C O : Bz} (h : P.In C) : sqz C O ≤ sqz P O := by
  obtain ⟨h1, h2, h3, h4⟩ := h
  have hx := sz1_in (b0 := O.x0) (b1 := O.x1) h1 h3
  have hy := sz1_in (b0 := O.y0) (b1 := O.y1) h2 h4
  unfold sqz
  exact Int.add_le_add (sq_mono hx.1 hx.2) (sq_mono hy.1 hy.2)
theorem far_its {o : Bx} {q : Q} (hq : q.Ok) {p : It} (hp : p ∈ q.its) : keyQ o q ≤ far o p.b := by
  obtain ⟨B, hB, hin⟩ := Q.its_in q hq
  obtain ⟨P, hP, hPB⟩ := hin p hp
  unfold keyQ far
  rw [bz_eq hB, bz_eq hP]
  exact sqz_in hPB
theorem far_sub {o : Bx} {k : Nat} {e : Nat → Q} (hq : (Q.sub k e).Ok) {i : Nat} (hi : i < k) : keyQ o (.sub k e) ≤ keyQ o (e i) := by
  obtain ⟨h1, h2, h3⟩ := (show 1 ≤ k ∧ k ≤ 4 ∧ ∀ i, i < k → (e i).Ok from hq)
  obtain ⟨H, hH, hin⟩ := hq_in (b := fun i => (e i).bx) (B := fun i => bz (e i).bx) (n := k) (fun i hi => bz_gb (Q.Ok.bx _ (h3 i hi))) (k - 1) (by omega)
  unfold keyQ far
  rw [bz_eq (show GB (Q.sub k e).bx H by rw [Q.bx_sub]; exact hH)]
  exact sqz_in (hin i (by omega))

/-- A sum over a list. -/
def sumL (s : It → Nat) (l : List It) : Nat := (l.map s).sum
theorem sumL_append (s : It → Nat) (a b : List It) : sumL s (a ++ b) = sumL s a + sumL s b := by unfold sumL; rw [List.map_append, List.sum_append]
theorem sumL_cat (s : It → Nat) (g : Nat → List It) : ∀ n, sumL s (catF g n) = sumF (fun i => sumL s (g i)) n
  | 0 => rfl
  | n + 1 => by show sumL s (catF g n ++ g n) = _ + _; rw [sumL_append, sumL_cat s g n]
theorem sumL_count {a : It} (dec : DecidableEq It) (l : List It) : sumL (fun p => if p = a then 1 else 0) l = l.count a := by
  induction l with
  | nil => rfl
  | cons x l ih =>
    show (if x = a then 1 else 0) + sumL _ l = _
    rw [ih, List.count_cons]
    by_cases h : x = a
    · simp [h]; omega
    · simp [h]
theorem perm_of_sums {l m : List It} (h : ∀ s, sumL s l = sumL s m) : l.Perm m := by
  have dec : DecidableEq It := fun a b => Classical.propDecidable (a = b)
  rw [List.perm_iff_count]
  intro a
  rw [← sumL_count dec, ← sumL_count dec]
  exact h _

theorem ps_sorted {ans : List Int → Er} (hA : ∀ l i, ans (l ++ [i]) = .none) {o : Bx} (ho : Gd o) : ∀ (u n : Nat) (f : Nat → Q) (l : List Int), (∀ i, i < n → (f i).Ok) → Heap (keyQ o) n f → sumF (fun i => (f i).rounds) n ≤ u →
    ∃ out : List It, psQ o ans u n f l = (l ++ out.map (·.id), .none) ∧ (∀ s, sumL s out = sumF (fun i => sumL s (f i).its) n) ∧ out.Pairwise (fun a b => far o a.b ≤ far o b.b) ∧
      ∀ m : Int, (∀ i, i < n → m ≤ keyQ o (f i)) → ∀ p ∈ out, m ≤ far o p.b
  | u, 0, f, l, _, _, _ => ⟨[], by rw [psQ_zero]; simp, fun s => rfl, List.Pairwise.nil, fun m _ p hp => by cases hp⟩
  | 0, n + 1, f, l, _, _, hs => by
    have := sumF_pos (fun i => Q.rounds_pos (f i)) (n + 1)
    omega
  | u + 1, n + 1, f, l, hO, hH, hs => by
    have hlt := fun a b => near_key ho a b
    have hl := pop_last (lt := nearQ o) (n := n) (f := f)
    have hO' : ∀ i, i < n + 1 → (popG (nearQ o) (n + 1) f i).Ok := pop_pres hO
    have hH' := pop_heap (P := Q.Ok) hlt hO hH
    have hr := sumF_pop (fun q : Q => q.rounds) (nearQ o) n f
    have h0 := hH.least
    have hmin : ∀ i, i < n + 1 → keyQ o (f 0) ≤ keyQ o (popG (nearQ o) (n + 1) f i) := pop_pres (R := fun q => keyQ o (f 0) ≤ keyQ o q) h0
    have hof := hO 0 (by omega)
    unfold psQ
    rw [if_neg (by omega), Nat.add_sub_cancel]
    cases hq : popG (nearQ o) (n + 1) f n with
    | item p =>
      rw [hq] at hl hr
      simp only [hA, Er.isNone, if_true]
      have hpr : (Q.item p).rounds = 1 := by unfold Q.rounds; rfl
      rw [hpr] at hr
      obtain ⟨out, e1, e2, e3, e4⟩ := ps_sorted hA ho u n (popG (nearQ o) (n + 1) f) (l ++ [p.id]) (fun i hi => hO' i (by omega)) hH' (by omega)
      have hk : keyQ o (f 0) = far o p.b := by rw [← hl]; unfold keyQ Q.bx; rfl
      refine ⟨p :: out, by rw [e1]; simp, fun s => ?_, List.Pairwise.cons (fun q hq => ?_) e3, fun m hm q hq => ?_⟩
      · have := sumF_pop (fun q : Q => sumL s q.its) (nearQ o) n f
        rw [hq] at this
        have hit : (Q.item p).its = [p] := by unfold Q.its; rfl
        rw [hit] at this
        show s p + sumL s out = _
        rw [e2 s, ← this]
        show s p + _ = _ + (s p + 0)
        omega
      · rw [← hk]
        exact e4 _ (fun i hi => hmin i (by omega)) q hq
      · rcases List.mem_cons.1 hq with rfl | hq
        · rw [← hk]; exact hm 0 (by omega)
        · exact e4 m (fun i hi => Int.le_trans (hm 0 (by omega)) (hmin i (by omega))) q hq
    | sub k e =>
      rw [hq] at hl hr
      have hsub : (Q.sub k e).Ok := by rw [hl]; exact hof
      obtain ⟨h1, h2, h3⟩ := (show 1 ≤ k ∧ k ≤ 4 ∧ ∀ i, i < k → (e i).Ok from hsub)
      have hpr := Q.rounds_sub k e
      rw [hpr] at hr
      have hrn := sumF_pushN (fun q : Q => q.rounds) (nearQ o) n (popG (nearQ o) (n + 1) f) e k
      obtain ⟨out, e1, e2, e3, e4⟩ := ps_sorted hA ho u (n + k) (pushN (nearQ o) n (popG (nearQ o) (n + 1) f) e k) l
        (pushN_pres (fun i hi => hO' i (by omega)) k h3) (pushN_heap (P := Q.Ok) hlt (fun i hi => hO' i (by omega)) hH' k h3) (by omega)
      have hk : keyQ o (f 0) = keyQ o (.sub k e) := by rw [← hl]
      refine ⟨out, e1, fun s => ?_, e3, fun m hm q hq => ?_⟩
      · have h5 := sumF_pop (fun q : Q => sumL s q.its) (nearQ o) n f
        rw [hq] at h5
        rw [e2 s, sumF_pushN (fun q : Q => sumL s q.its) (nearQ o) n, ← h5, Q.its_sub, sumL_cat]
      · refine e4 m (pushN_pres (R := fun q => m ≤ keyQ o q) (fun i hi => Int.le_trans (hm 0 (by omega)) (hmin i (by omega))) k fun j hj => ?_) q hq
        have h6 := far_sub (o := o) hsub hj
        have h7 := hm 0 (by omega)
        omega

/-- What a search by distance finds, none stopping it. -/
theorem psF_none {ans : List Int → Er} (hA : ∀ l i, ans (l ++ [i]) = .none) {n : Nat} {f : Nat → It} (hG : ∀ i, i < n → Gd (f i).b) {o : Bx} (ho : Gd o) : ∃ out : List It, psF n (bq n n f) ans o = (out.map (·.id), .none) ∧ out.Perm (ls f n) ∧ out.Pairwise (fun a b => far o a.b ≤ far o b.b) := by
  unfold psF
  by_cases hn : n = 0
  · subst hn
    exact ⟨[], by rw [if_pos rfl]; rfl, List.Perm.refl _, List.Pairwise.nil⟩
  · rw [if_neg hn]
    have hok := bq_ok n n f (by omega) (Nat.le_refl _) hG
    have hp := bq_its n n f (by omega) (Nat.le_refl _)
    obtain ⟨h1, h2, h3⟩ := (show 1 ≤ (bq n n f).1 ∧ (bq n n f).1 ≤ 4 ∧ ∀ i, i < (bq n n f).1 → ((bq n n f).2 i).Ok from hok)
    have hr := sumF_pushN (fun q : Q => q.rounds) (nearQ o) 0 (fun _ => .sub 0 (bq n n f).2) (bq n n f).2 (bq n n f).1
    rw [Nat.zero_add] at hr
    have hz : ∀ g : Nat → Nat, sumF g 0 = 0 := fun g => rfl
    rw [hz, Nat.zero_add] at hr
    have hpp := pushN_pres (R := Q.Ok) (lt := nearQ o) (n := 0) (f := fun _ => .sub 0 (bq n n f).2) (e := (bq n n f).2) (fun k hk => absurd hk (by omega)) (bq n n f).1 h3
    have hph := pushN_heap (P := Q.Ok) (lt := nearQ o) (key := keyQ o) (fun a b => near_key ho a b) (n := 0) (f := fun _ => .sub 0 (bq n n f).2) (e := (bq n n f).2) (fun k hk => absurd hk (by omega)) (fun i _ hi => absurd hi (by omega)) (bq n n f).1 h3
    rw [Nat.zero_add] at hpp hph
    obtain ⟨out, e1, e2, e3, e4⟩ := ps_sorted hA ho (sumF (fun i => ((bq n n f).2 i).rounds) (bq n n f).1) (bq n n f).1 _ [] hpp hph (by rw [hr]; exact Nat.le_refl _)
    refine ⟨out, by rw [e1]; simp, ?_, e3⟩
    refine (perm_of_sums fun s => ?_).trans hp
    rw [e2 s, Q.its_sub, sumL_cat]
    have hw := sumF_pushN (fun q : Q => sumL s q.its) (nearQ o) 0 (fun _ => .sub 0 (bq n n f).2) (bq n n f).2 (bq n n f).1
    rw [Nat.zero_add, hz, Nat.zero_add] at hw
    exact hw
end Go.Proofs.YtflaklceejokhaaDoor.tree

namespace Go.Proofs.YtflaklceejokhaaDoor.tree
open Go.ChangeShapes Go.WideShapes Go.ChangeAt Go.RowKit
open Go.Proofs.YtflaklceejokhaaDoor.mem Go.Proofs.YtflaklceejokhaaDoor.flt
set_option linter.unusedVariables false
set_option linter.unusedSimpArgs false

/-! ### two sorted rows, merged -/
theorem merge_left {D L R : List Int} {d x : Int} (hs : (d :: D).Pairwise (· ≤ ·)) (hL : (x :: L).Pairwise (· ≤ ·)) (hR : R.Pairwise (· ≤ ·)) (hp : (d :: D).Perm ((x :: L) ++ R)) (hx : ∀ y R', R = y :: R' → x ≤ y) : x = d ∧ D.Perm (L ++ R) := by
  have h1 : d ≤ x := by
    have : x ∈ d :: D := hp.mem_iff.2 (by simp)
    rcases List.mem_cons.1 this with e | e
    · omega
    · exact List.rel_of_pairwise_cons hs e
  have h2 : x ≤ d := by
    have : d ∈ (x :: L) ++ R := hp.mem_iff.1 (by simp)
    rcases List.mem_append.1 this with e | e
    · rcases List.mem_cons.1 e with e | e
      · omega
      · exact List.rel_of_pairwise_cons hL e
    · cases R with
      | nil => cases e
      | cons y R' =>
        have hy := hx y R' rfl
        rcases List.mem_cons.1 e with e | e
        · omega
        · exact Int.le_trans hy (List.rel_of_pairwise_cons hR e)
  have e : x = d := by omega
  subst e
  exact ⟨rfl, (List.perm_cons _).1 hp⟩
theorem merge_right {D L R : List Int} {d y : Int} (hs : (d :: D).Pairwise (· ≤ ·)) (hL : L.Pairwise (· ≤ ·)) (hR : (y :: R).Pairwise (· ≤ ·)) (hp : (d :: D).Perm (L ++ y :: R)) (hy : ∀ x L', L = x :: L' → y ≤ x) : y = d ∧ D.Perm (L ++ R) := by
  obtain ⟨h1, h2⟩ := merge_left hs hR hL (hp.trans List.perm_append_comm) hy
  exact ⟨h1, h2.trans List.perm_append_comm⟩

/-- Whether the next one is taken from the first row. -/
def leftB (dd : It → Int) : List It → List It → Bool
  | _, [] => true
  | [], _ :: _ => false
  | x :: _, y :: _ => decide (dd x ≤ dd y)
theorem pick_left {dd : It → Int} {X Y : List It} {D : List Int} {d : Int} (h : leftB dd X Y = true) (hp : (d :: D).Perm (X.map dd ++ Y.map dd)) (hD : (d :: D).Pairwise (· ≤ ·)) (hX : (X.map dd).Pairwise (· ≤ ·)) (hY : (Y.map dd).Pairwise (· ≤ ·)) :
    ∃ x X', X = x :: X' ∧ dd x = d ∧ D.Perm (X'.map dd ++ Y.map dd) := by
  cases X with
  | nil =>
    cases Y with
    | nil => have := hp.length_eq; simp at this
    | cons y Y => cases h
  | cons x X =>
    refine ⟨x, X, rfl, ?_⟩
    refine merge_left hD hX hY hp fun z R' e => ?_
    cases Y with
    | nil => cases e
    | cons y Y =>
      have h2 : dd x ≤ dd y := of_decide_eq_true h
      rw [List.map_cons] at e
      injection e with e1 e2
      omega
theorem pick_right {dd : It → Int} {X Y : List It} {D : List Int} {d : Int} (h : leftB dd X Y = false) (hp : (d :: D).Perm (X.map dd ++ Y.map dd)) (hD : (d :: D).Pairwise (· ≤ ·)) (hX : (X.map dd).Pairwise (· ≤ ·)) (hY : (Y.map dd).Pairwise (· ≤ ·)) :
    ∃ y Y', Y = y :: Y' ∧ dd y = d ∧ D.Perm (X.map dd ++ Y'.map dd) := by
  cases Y with
  | nil => cases X <;> cases h
  | cons y Y =>
    refine ⟨y, Y, rfl, ?_⟩
    refine merge_right hD hX hY hp fun z L' e => ?_
    cases X with
    | nil => cases e
    | cons x X =>
      have h2 : ¬ dd x ≤ dd y := fun hc => by
        have : leftB dd (x :: X) (y :: Y) = true := decide_eq_true hc
        rw [h] at this
        cases this
      rw [List.map_cons] at e
      injection e with e1 e2
      omega

theorem ls_mem {f : Nat → It} {n : Nat} {p : It} : p ∈ ls f n ↔ ∃ j, j < n ∧ f j = p := by
  unfold ls
  rw [List.mem_map]
  exact ⟨fun ⟨j, h1, h2⟩ => ⟨j, List.mem_range.1 h1, h2⟩, fun ⟨j, h1, h2⟩ => ⟨j, List.mem_range.2 h1, h2⟩⟩
theorem ls_ids {n : Nat} {f : Nat → It} (h : GoodIts n f) : ((ls f n).map (·.id)).Nodup := by
  unfold ls
  rw [List.map_map, List.Nodup, List.pairwise_map]
  refine List.Pairwise.imp_of_mem ?_ List.pairwise_lt_range
  intro i j hi hj hij
  exact h.ids i j hij (List.mem_range.1 hj)

/-- The three questions. -/
def q3 (b : Bx) (i : Nat) : Ask := if i = 0 then ⟨0, b, 0, 0⟩ else if i = 1 then ⟨1, b, 0, 0⟩ else ⟨4, b, 0, 0⟩
theorem ansT_none (l : List Int) (i : Int) : ansT 0 0 (l ++ [i]) = Er.none := by
  unfold ansT
  rw [if_neg (by rw [List.length_append, List.length_singleton]; omega)]
theorem q3_good {b : Bx} (hb : Gd b) (i : Nat) : GoodAsk (q3 b i) := by
  unfold q3
  split
  · exact ⟨by simp, by simp, hb⟩
  · split
    · exact ⟨by simp, by simp, hb⟩
    · exact ⟨by simp, by simp, hb⟩
def an0 (l : List Int) (cnt : Int) : An := ⟨l, false, false, false, 0, ⟨0, 0, 0, 0⟩, cnt⟩
theorem ans3 (n : Nat) (f : Nat → It) (b : Bx) (hG : ∀ i, i < n → Gd (f i).b) (hb : Gd b) :
    ∃ (W : List Int) (V : List It), ansOf n (bq n n f) (q3 b 0) = an0 W 0 ∧ ansOf n (bq n n f) (q3 b 1) = an0 (V.map (·.id)) 0 ∧ ansOf n (bq n n f) (q3 b 2) = an0 [] n ∧
      W.Perm (ovI b (ls f n)) ∧ V.Perm (ls f n) ∧ V.Pairwise (fun p q => far b p.b ≤ far b q.b) := by
  obtain ⟨W, h1, h2⟩ := rs_none ansT_none hG hb
  obtain ⟨V, h3, h4, h5⟩ := psF_none ansT_none hG hb
  refine ⟨W, V, ?_, ?_, rfl, h2, h4, h5⟩
  · show anR (rsF n (bq n n f) (ansT 0 0) b) = _
    rw [h1]; rfl
  · show anR (psF n (bq n n f) (ansT 0 0) b) = _
    rw [h3]; rfl

theorem ovI_append (b : Bx) (l m : List It) : ovI b (l ++ m) = ovI b l ++ ovI b m := by unfold ovI; rw [List.filter_append, List.map_append]
theorem ovI_mem {b : Bx} {l : List It} {i : Int} (h : i ∈ ovI b l) : i ∈ l.map (·.id) := by
  unfold ovI at h
  obtain ⟨p, hp, e⟩ := List.mem_map.1 h
  exact List.mem_map.2 ⟨p, (List.mem_filter.1 hp).1, e⟩
theorem ovI_nodup {b : Bx} {l : List It} (h : (l.map (·.id)).Nodup) : (ovI b l).Nodup := by
  unfold ovI
  exact h.sublist (List.filter_sublist.map _)

/-- What is known of the three trees' answers. -/
structure Shared (n : Nat) (f : Nat → It) (b : Bx) (W L R : List Int) (V X Y : List It) : Prop where
  nodup : W.Nodup
  perm : W.Perm (L ++ R)
  ids : ∀ i ∈ W, ∃ j, j < n ∧ (f j).id = i
  all : V.Perm (X ++ Y)
  its : ∀ p ∈ V, ∃ j, j < n ∧ f j = p
  s1 : (V.map (fun p => far b p.b)).Pairwise (· ≤ ·)
  s2 : (X.map (fun p => far b p.b)).Pairwise (· ≤ ·)
  s3 : (Y.map (fun p => far b p.b)).Pairwise (· ≤ ·)
  few : W.length ≤ 400 ∧ V.length ≤ 400
theorem shared {n k : Nat} {f : Nat → It} {b : Bx} (h : GoodIts n f) (hb : Gd b) (hk : k ≤ n) {W L R : List Int} {V X Y : List It}
    (w1 : W.Perm (ovI b (ls f n))) (l1 : L.Perm (ovI b (ls f k))) (r1 : R.Perm (ovI b (ls (fun j => f (k + j)) (n - k)))) (w2 : V.Perm (ls f n)) (l2 : X.Perm (ls f k)) (r2 : Y.Perm (ls (fun j => f (k + j)) (n - k)))
    (w3 : V.Pairwise (fun p q => far b p.b ≤ far b q.b)) (l3 : X.Pairwise (fun p q => far b p.b ≤ far b q.b)) (r3 : Y.Pairwise (fun p q => far b p.b ≤ far b q.b)) : Shared n f b W L R V X Y := by
  have hs := ls_split f hk
  have hlen : (ls f n).length = n := by simp [ls]
  refine ⟨w1.nodup_iff.2 (ovI_nodup (ls_ids h)), ?_, fun i hi => ?_, ?_, fun p hp => ls_mem.1 (w2.mem_iff.1 hp), by rw [List.pairwise_map]; exact w3, by rw [List.pairwise_map]; exact l3, by rw [List.pairwise_map]; exact r3, ?_, ?_⟩
  · refine w1.trans ?_
    rw [hs, ovI_append]
    exact (l1.append r1).symm
  · obtain ⟨p, hp, e⟩ := List.mem_map.1 (ovI_mem (w1.mem_iff.1 hi))
    obtain ⟨j, hj, e2⟩ := ls_mem.1 hp
    exact ⟨j, hj, by rw [e2]; exact e⟩
  · refine w2.trans ?_
    rw [hs]
    exact (l2.append r2).symm
  · rw [w1.length_eq]
    unfold ovI
    rw [List.length_map]
    have := List.length_filter_le (fun p => ov p.b b) (ls f n)
    have := h.few
    omega
  · rw [w2.length_eq, hlen]; exact h.few
end Go.Proofs.YtflaklceejokhaaDoor.tree

namespace Go.Proofs.YtflaklceejokhaaDoor.tree
open Go.ChangeShapes Go.WideShapes Go.ChangeAt Go.RowKit
open Go.Proofs.YtflaklceejokhaaDoor.mem Go.Proofs.YtflaklceejokhaaDoor.flt Ieee
set_option linter.unusedVariables false
set_option linter.unusedSimpArgs false

theorem cut_exact (s : Bool) (m d M : Nat) (h : m = M * 2 ^ d) : Toward.zero.cut s m d = M := by
  unfold Toward.cut
  have h1 : m / 1 <<< min d (m.log2 + 2) = M := by
    rw [Nat.one_shiftLeft]
    by_cases hd : d ≤ m.log2 + 2
    · rw [Nat.min_eq_left hd, h, Nat.mul_div_cancel _ (Nat.two_pow_pos _)]
    · rw [Nat.min_eq_right (by omega)]
      rw [Nat.div_eq_of_lt (Nat.lt_of_lt_of_le Nat.lt_log2_self (Nat.pow_le_pow_right (by decide) (by omega)))]
      rcases Nat.eq_zero_or_pos M with h0 | h0
      · exact h0.symm
      · have h3 : 2 ^ d ≤ m := by rw [h]; exact Nat.le_mul_of_pos_left _ h0
        have h4 : m < 2 ^ (m.log2 + 1) := Nat.lt_log2_self
        have h5 : 2 ^ (m.log2 + 1) ≤ 2 ^ d := Nat.pow_le_pow_right (by decide) (by omega)
        omega
  simp only [Bool.toNat_false]
  omega
/-- A whole number's double, cut to an int. -/
theorem Wz.toInt {b : Nat} {z : Int} {N : Nat} (h : Wz b z N) (hN : N ≤ 4398046511104) : floatToIntVal .f64 b .i64 = some z := by
  obtain ⟨⟨s, m, p, hr, e⟩, hz⟩ := h
  have hK : Toward.zero.cut s (m <<< ((p : Int) - 1074).toNat) (-((p : Int) - 1074)).toNat = z.natAbs := by
    have e1 : z.natAbs * 2 ^ E1074 = m * 2 ^ p := by
      have := congrArg Int.natAbs e
      rw [sg_natAbs, Int.natAbs_mul, Int.natAbs_pow, show (2 : Int).natAbs = 2 from rfl] at this
      exact this
    apply cut_exact
    rw [Nat.shiftLeft_eq]
    by_cases hp : 1074 ≤ p
    · rw [show ((p : Int) - 1074).toNat = p - E1074 by rw [E_eq]; omega, show (-((p : Int) - 1074)).toNat = 0 by omega, Nat.pow_zero, Nat.mul_one]
      rw [pow_split' E1074 p (by rw [E_eq]; exact hp), ← Nat.mul_assoc] at e1
      exact (Nat.eq_of_mul_eq_mul_right (Nat.two_pow_pos _) e1).symm
    · rw [show ((p : Int) - 1074).toNat = 0 by omega, show (-((p : Int) - 1074)).toNat = E1074 - p by rw [E_eq]; omega, Nat.pow_zero, Nat.mul_one]
      rw [pow_split' p E1074 (by rw [E_eq]; omega), ← Nat.mul_assoc] at e1
      exact (Nat.eq_of_mul_eq_mul_right (Nat.two_pow_pos _) e1).symm
  have hzs : sg s z.natAbs = z := by
    have hm : sg s (m * 2 ^ p) = z * 2 ^ E1074 := e.symm
    rcases Int.le_total 0 z with h0 | h0
    · unfold sg
      cases s
      · simp; omega
      · have hp : (0 : Int) ≤ z * 2 ^ E1074 := Int.mul_nonneg h0 (Int.pow_nonneg (by decide))
        unfold sg at hm
        simp only [if_true] at hm ⊢
        have hz0 : z * 2 ^ E1074 = 0 := by omega
        rcases Int.mul_eq_zero.1 hz0 with h | h
        · omega
        · exact absurd h (Int.ne_of_gt (Int.pow_pos (by decide)))
    · unfold sg
      cases s
      · have hp : z * 2 ^ E1074 ≤ 0 := Int.mul_nonpos_of_nonpos_of_nonneg h0 (Int.pow_nonneg (by decide))
        unfold sg at hm
        simp only [Bool.false_eq_true, if_false] at hm ⊢
        have hz0 : z * 2 ^ E1074 = 0 := by omega
        rcases Int.mul_eq_zero.1 hz0 with h | h
        · omega
        · exact absurd h (Int.ne_of_gt (Int.pow_pos (by decide)))
      · simp; omega
  unfold floatToIntVal
  have hd : FloatKind.f64.decode b = double.read b := rfl
  rw [hd, hr]
  simp only [Datum.toInt, Datum.integral]
  rw [signed_eq, Nat.pow_zero, Nat.mul_one, hK, hzs]
  rw [if_pos (by show (-9223372036854775808 : Int) ≤ z ∧ z ≤ 9223372036854775807; omega)]

/-- The greater one, as the builtin has it. -/
def mx2 (a b : Nat) : Nat := match FloatKind.f64.format.order a b with
  | some .lt => b
  | some .gt => a
  | _ => if (FloatKind.f64.decode a).neg then b else a
theorem mx2_whole {a b : Nat} {x y : Int} {N : Nat} (ha : Wz a x N) (hb : Wz b y N) : Wz (mx2 a b) (max x y) N := by
  unfold mx2
  rw [ha.order hb, compare_eq]
  by_cases h : x < y
  · rw [if_pos h, Int.max_eq_right (by omega)]; exact hb
  · rw [if_neg h]
    by_cases e : x = y
    · rw [if_pos e]
      subst e
      rw [Int.max_self]
      show Wz (if _ then b else a) _ _
      split
      · exact hb
      · exact ha
    · rw [if_neg e, Int.max_eq_left (by omega)]; exact ha
theorem mx2_run {a b : Nat} {x y : Int} {N M : Nat} (ha : Wz a x N) (hb : Wz b y M) (w : World) : (Builtin.max2 (.float .f64 a) (.float .f64 b)).run Tryd.prog w = .ok (.float .f64 (mx2 a b)) w := by
  unfold mx2 Builtin.max2
  have h := ha.order hb
  simp only [h, compare_eq]
  by_cases h : x < y
  · simp [h]
  · by_cases e : x = y
    · simp [e]
    · simp [h, e]
theorem max3_run {a b : Nat} {x y : Int} (ha : Wz a x 2097152) (hb : Wz b y 2097152) (ts : Array TypeId) (t : TypeId) (w : World) :
    (Builtin.max_ ts t #[.float .f64 0, .float .f64 a, .float .f64 b]).run Tryd.prog w = .ok (.float .f64 (mx2 (mx2 0 a) b)) w := by
  have h1 := mx2_run (Wz.zero.more (Nat.zero_le 2097152)) ha w
  have h2 := mx2_run (mx2_whole (Wz.zero.more (Nat.zero_le 2097152)) ha) hb w
  unfold Builtin.max_
  simp [h1, h2, Result.andThen]

theorem sz1_nonneg (a0 a1 b0 b1 : Int) : 0 ≤ sz1 a0 a1 b0 b1 := by unfold sz1; omega
theorem far_small {o b : Bx} (ho : Gd o) (hb : Gd b) : 0 ≤ far o b ∧ far o b ≤ 8796093022208 := by
  have h := (sqd_whole (bz_gb hb) (bz_gb ho)).2
  unfold far
  have h1 := sz1_nonneg (bz b).x0 (bz b).x1 (bz o).x0 (bz o).x1
  have h2 := sz1_nonneg (bz b).y0 (bz b).y1 (bz o).y0 (bz o).y1
  have h3 : 0 ≤ sqz (bz b) (bz o) := by
    unfold sqz
    exact Int.add_nonneg (Int.mul_nonneg h1 h1) (Int.mul_nonneg h2 h2)
  omega

theorem sz1_bits {a0 a1 b0 b1 : Nat} {x0 x1 y0 y1 : Int} (h0 : Wz a0 x0 1048576) (h1 : Wz a1 x1 1048576) (k0 : Wz b0 y0 1048576) (k1 : Wz b1 y1 1048576) :
    double.sub a0 b1 = some (fsub a0 b1) ∧ double.sub b0 a1 = some (fsub b0 a1) ∧ (∀ ts t w, (Builtin.max_ ts t #[.float .f64 0, .float .f64 (fsub a0 b1), .float .f64 (fsub b0 a1)]).run Tryd.prog w = .ok (.float .f64 (mx2 (mx2 0 (fsub a0 b1)) (fsub b0 a1))) w) ∧
      (∀ w, (convert 30 3 (.float .f64 (mx2 (mx2 0 (fsub a0 b1)) (fsub b0 a1)))).run Tryd.prog w = .ok (.int .i64 (sz1 x0 x1 y0 y1)) w) ∧ 0 ≤ sz1 x0 x1 y0 y1 ∧ sz1 x0 x1 y0 y1 ≤ 2097152 := by
  have s1 := fsub_whole h0 k1
  have s2 := fsub_whole k0 h1
  have hm := mx2_whole (mx2_whole (Wz.zero.more (Nat.zero_le 2097152)) s1.2) s2.2
  have e : max (max 0 (x0 - y1)) (y0 - x1) = sz1 x0 x1 y0 y1 := by unfold sz1; omega
  rw [e] at hm
  have hs := sz1_nonneg x0 x1 y0 y1
  refine ⟨s1.1, s2.1, fun ts t w => max3_run s1.2 s2.2 ts t w, fun w => run_convert_float_int (P := Tryd.prog) (w := w) 30 3 .f64 .i64 _ _ (by kernel_rfl) Tryd.underlying3 (hm.toInt (by decide)), hs, ?_⟩
  have := hm.2
  omega

set_option maxRecDepth 100000 in
set_option maxHeartbeats 8000000 in
theorem kFar_calls (p q : Bx) (hp : Gd p) (hq : Gd q) (w : World) : Calls Tryd.prog 11 #[.agg (bxA p), .agg (bxA q)] w fun e w' => e = .returned (.int .i64 (far q p)) ∧ Below w.heap.size w w' := by
  have hP := bz_gb hp
  have hQ := bz_gb hq
  unfold far sqz
  generalize bz p = P at hP ⊢
  generalize bz q = O at hQ ⊢
  obtain ⟨a1, a2, a3, a4, a5, a6⟩ := sz1_bits hP.1 hP.2.2.1 hQ.1 hQ.2.2.1
  obtain ⟨b1, b2, b3, b4, b5, b6⟩ := sz1_bits hP.2.1 hP.2.2.2 hQ.2.1 hQ.2.2.2
  obtain ⟨p0, p1, p2, p3⟩ := p
  obtain ⟨q0, q1, q2, q3⟩ := q
  obtain ⟨X, hX⟩ : ∃ X, X = sz1 P.x0 P.x1 O.x0 O.x1 := ⟨_, rfl⟩
  obtain ⟨Y, hY⟩ : ∃ Y, Y = sz1 P.y0 P.y1 O.y0 O.y1 := ⟨_, rfl⟩
  rw [← hX] at a4 a5 a6 ⊢
  rw [← hY] at b4 b5 b6 ⊢
  have hb : Below w.heap.size w ((w.alloc (.cells #[.float .f64 p0, .float .f64 p1, .float .f64 p2, .float .f64 p3] 32)).alloc (.cells #[.float .f64 q0, .float .f64 q1, .float .f64 q2, .float .f64 q3] 32)) :=
    ((Below.refl _ _).alloc (Nat.le_refl _) _).alloc (by simp) _
  have HB := Lib.hid hb
  have xx : 0 ≤ X * X ∧ X * X ≤ 4398046511104 := ⟨Int.mul_nonneg a5 a5, Int.mul_le_mul a6 a6 a5 (by decide)⟩
  have yy : 0 ≤ Y * Y ∧ Y * Y ≤ 4398046511104 := ⟨Int.mul_nonneg b5 b5, Int.mul_le_mul b6 b6 b5 (by decide)⟩
  have v1 : IntKind.i64.wrap (X * X) = X * X := IntWalk.i64_in _ (by omega)
  have v2 : IntKind.i64.wrap (Y * Y) = Y * Y := IntWalk.i64_in _ (by omega)
  have v3 : IntKind.i64.wrap (X * X + Y * Y) = X * X + Y * Y := IntWalk.i64_in _ (by omega)
  have r1 := fun w => run_float_arith (P := Tryd.prog) w .sub 30 .f64 _ _ _ a1
  have r2 := fun w => run_float_arith (P := Tryd.prog) w .sub 30 .f64 _ _ _ a2
  have r3 := fun w => run_float_arith (P := Tryd.prog) w .sub 30 .f64 _ _ _ b1
  have r4 := fun w => run_float_arith (P := Tryd.prog) w .sub 30 .f64 _ _ _ b2
  simp only at r1 r2 r3 r4 a3 a4 b3 b4
  unfold bxA
  simp only
  clear a1 a2 b1 b2
  clear hb hP hQ hX hY hp hq xx yy a5 a6 b5 b6
  go_enter Tryd.func11, Tryd.ntmps11
  go_wp2_with fail
  exact bodyPost_ret (v := .int .i64 (X * X + Y * Y)) (by simp [results, go_sem]) rfl ⟨rfl, HB.out⟩
end Go.Proofs.YtflaklceejokhaaDoor.tree

namespace Go.Proofs.YtflaklceejokhaaDoor.tree
open Go.ChangeShapes Go.WideShapes Go.ChangeAt Go.RowKit Go.Maps
open Go.Proofs.YtflaklceejokhaaDoor.mem Go.Proofs.YtflaklceejokhaaDoor.flt
set_option linter.unusedVariables false
set_option linter.unusedSimpArgs false
set_option maxRecDepth 100000

def boxD (b : Bx) : DataW Unit := .agg [.lit (.int .i64 b.x0), .lit (.int .i64 b.y0), .lit (.int .i64 b.x1), .lit (.int .i64 b.y1)]
theorem boxD_inj {a b : Bx} (h : boxD a = boxD b) : a = b := by
  obtain ⟨a0, a1, a2, a3⟩ := a
  obtain ⟨b0, b1, b2, b3⟩ := b
  simp [boxD] at h
  obtain ⟨h0, h1, h2, h3⟩ := h
  rw [Int.ofNat.inj h0, Int.ofNat.inj h1, Int.ofNat.inj h2, Int.ofNat.inj h3]
/-- How a box in a map reads. -/
def boxElem : Value → Option (DataW Unit × List MemPlace)
  | .agg ⟨[.float .f64 a, .float .f64 b, .float .f64 c, .float .f64 d]⟩ => some (boxD ⟨a, b, c, d⟩, [])
  | _ => none
theorem boxElem_mk (b : Bx) : boxElem (.agg (bxA b)) = some (boxD b, []) := rfl
theorem boxElem_inv {v : Value} {z : DataW Unit × List MemPlace} (h : boxElem v = some z) : ∃ b, v = .agg (bxA b) ∧ z = (boxD b, []) := by
  unfold boxElem at h
  split at h
  · cases h; exact ⟨_, rfl, rfl⟩
  · cases h
theorem zeroBox (w : World) : (zeroValue 32).run Tryd.prog w = .ok (.agg (bxA ⟨0, 0, 0, 0⟩)) w := by kernel_rfl

/-- Block b is a map that tells g i at each whole number i of which it has heard. -/
def XM (w : World) (b n : Nat) (g : Int → Option Bx) : Prop := ∃ D : DataW Unit, w.ownsMap Tryd.prog 3 boxElem b n D ∧ ∀ i x, g i = some x → ∀ z, D.atKey (.int .i64 i) z = boxD x
section
variable {w w' : World} {b n : Nat} {g : Int → Option Bx}
theorem XM.made (w : World) : XM (w.alloc (.map #[] 0)) w.heap.size 0 (fun _ => none) := ⟨_, World.ownsMap_made _ _ _ _, fun i x h => by cases h⟩
theorem XM.lt (h : XM w b n g) : b < w.heap.size := by obtain ⟨D, h, _⟩ := h; exact h.lt
theorem XM.kept {row : Option Nat} (h : XM w b n g) (hg : w.grownBy w' row) (hne : some b ≠ row) : XM w' b n g := by obtain ⟨D, h, hf⟩ := h; exact ⟨D, h.kept hg hne, hf⟩
theorem XM.below (h : XM w b n g) (hb : Below w.heap.size w w') : XM w' b n g := h.kept (grown_below (row := none) hb) (by simp)
theorem XM.lookup (h : XM w b n g) {t : TypeId} (ht : Tryd.prog.underlying t = some (.map 3 32)) (i : Int) (hi : (Lit.int .i64 i).wf = true) {x : Bx} (hx : g i = some x) :
    (Instr.lookup t (.map (some b)) (.int .i64 i) false).run Tryd.prog w = .ok (.agg (bxA x)) w := by
  obtain ⟨D, h, hf⟩ := h
  obtain ⟨v, ps, hrun, hv⟩ := h.lookup keyInt ht (zeroBox w) (boxElem_mk _) (keyOf_int_mk Tryd.underlying3 hi)
  rw [hf i x hx] at hv
  obtain ⟨a, rfl, ha⟩ := boxElem_inv hv
  simp only [Prod.mk.injEq] at ha
  rw [hrun, boxD_inj ha.1]
theorem XM.update (h : XM w b n g) {t : TypeId} (ht : Tryd.prog.underlying t = some (.map 3 32)) (i : Int) (hi : (Lit.int .i64 i).wf = true) (x : Bx) (hn : n < maxLen) :
    ∃ w', (Instr.mapUpdate t (.map (some b)) (.int .i64 i) (.agg (bxA x))).run Tryd.prog w = .ok () w' ∧ XM w' b (n + 1) (fun j => if j = i then some x else g j) ∧ w.grownBy w' (some b) := by
  obtain ⟨D, h, hf⟩ := h
  obtain ⟨w', hrun, h2, hg⟩ := h.update keyInt ht hn (keyOf_int_mk Tryd.underlying3 hi) (boxElem_mk x)
  refine ⟨w', hrun, ⟨_, h2, fun j y hy z => ?_⟩, hg⟩
  simp only at hy
  by_cases e : j = i
  · subst e
    rw [if_pos rfl] at hy
    rw [atKey_put_same (k := .int .i64 j) h.isMap (show WideAt.IsKeyLit (.int .i64 j) from trivial), Option.some.inj hy]
  · rw [if_neg e] at hy
    rw [atKey_put_other (fun h => e (by simpa using h)), hf j y hy]
end
theorem wpList_put_xm (w : World) {ops : Array Oper} {rest : List Oper} {o : Oper} {a : Act} {Q : Exit → Act → World → Prop}
    (hg : o.guard = none) (m x v : Operand) (t : TypeId) (hop : o.op = Op.mapUpdate t m x v) (ht : Tryd.prog.underlying t = some (.map 3 32)) (b n : Nat) (f : Int → Option Bx)
    (hm : a.eval m = .map (some b)) (h : XM w b n f) (i : Int) (hx : a.eval x = .int .i64 i) (hi : (Lit.int .i64 i).wf = true) (y : Bx) (hv : a.eval v = .agg (bxA y)) (hn : n < maxLen)
    (hK : ∀ w', XM w' b (n + 1) (fun j => if j = i then some y else f j) → w.grownBy w' (some b) → wpList Tryd.prog ops Q rest (a.put o.dst undef) w') : wpList Tryd.prog ops Q (o :: rest) a w := by
  refine wpList_plain hg fun K' hK' => ?_
  obtain ⟨w', hrun, r1, r2⟩ := h.update ht i hi y hn
  unfold Oper.wp
  simp [execOp, hop, hm, hx, hv, hrun, Result.andThen]
  exact hK' _ _ (hK w' r1 r2)

/-- Block b is a set of the whole numbers l. -/
def SM (w : World) (b n : Nat) (l : List Int) : Prop :=
  ∃ D : DataW Unit, w.ownsMap Tryd.prog 3 (plainElem Tryd.prog 4) b n D ∧ Maps.size D = l.length ∧ ∀ i, Maps.has D (.int .i64 i) = decide (i ∈ l) ∧ D.atKey (.int .i64 i) (.lit (.bool false)) = .lit (.bool (decide (i ∈ l)))
section
variable {w w' : World} {b n : Nat} {l : List Int}
theorem SM.made (w : World) : SM (w.alloc (.map #[] 0)) w.heap.size 0 [] := ⟨_, World.ownsMap_made _ _ _ _, rfl, fun i => ⟨rfl, rfl⟩⟩
theorem SM.lt (h : SM w b n l) : b < w.heap.size := by obtain ⟨D, h, _⟩ := h; exact h.lt
theorem SM.kept {row : Option Nat} (h : SM w b n l) (hg : w.grownBy w' row) (hne : some b ≠ row) : SM w' b n l := by obtain ⟨D, h, hf⟩ := h; exact ⟨D, h.kept hg hne, hf⟩
theorem SM.below (h : SM w b n l) (hb : Below w.heap.size w w') : SM w' b n l := h.kept (grown_below (row := none) hb) (by simp)
theorem SM.lookup (h : SM w b n l) {t : TypeId} (ht : Tryd.prog.underlying t = some (.map 3 4)) (i : Int) (hi : (Lit.int .i64 i).wf = true) :
    (Instr.lookup t (.map (some b)) (.int .i64 i) false).run Tryd.prog w = .ok (.bool (decide (i ∈ l))) w := by
  obtain ⟨D, h, hs, hf⟩ := h
  obtain ⟨v, ps, hrun, hv⟩ := h.lookup keyInt ht (zeroBool w) (plainElem_bool Tryd.underlying4 false) (keyOf_int_mk Tryd.underlying3 hi)
  rw [(hf i).2] at hv
  obtain ⟨a, rfl, ha⟩ := plainElem_bool_inv Tryd.underlying4 hv
  simp only [Prod.mk.injEq, DataW.lit.injEq, Lit.bool.injEq] at ha
  rw [hrun, ha.1]
theorem SM.update (h : SM w b n l) {t : TypeId} (ht : Tryd.prog.underlying t = some (.map 3 4)) (i : Int) (hi : (Lit.int .i64 i).wf = true) (hn : n < maxLen) (hnew : i ∉ l) :
    ∃ w', (Instr.mapUpdate t (.map (some b)) (.int .i64 i) (.bool true)).run Tryd.prog w = .ok () w' ∧ SM w' b (n + 1) (l ++ [i]) ∧ w.grownBy w' (some b) := by
  obtain ⟨D, h, hs, hf⟩ := h
  obtain ⟨w', hrun, h2, hg⟩ := h.update keyInt ht hn (keyOf_int_mk Tryd.underlying3 hi) (plainElem_bool (H := Unit) Tryd.underlying4 true)
  refine ⟨w', hrun, ⟨_, h2, ?_, fun j => ?_⟩, hg⟩
  · rw [size_put (h.tidy keyInt), (hf i).1, hs]
    simp [hnew]
  · by_cases e : j = i
    · subst e
      rw [has_put_same h.isMap (show WideAt.IsKeyLit (.int .i64 j) from trivial), atKey_put_same (k := .int .i64 j) h.isMap (show WideAt.IsKeyLit (.int .i64 j) from trivial)]
      simp
    · rw [has_put_other (fun h => e (by simpa using h)), atKey_put_other (fun h => e (by simpa using h)), (hf j).1, (hf j).2]
      simp [e]
theorem SM.drop (h : SM w b n l) {t : TypeId} (ht : Tryd.prog.underlying t = some (.map 3 4)) (i : Int) (hi : (Lit.int .i64 i).wf = true) (hnd : l.Nodup) (hin : i ∈ l) (ty : TypeId) :
    ∃ w', (Builtin.delete_ #[t, 3] ty #[.map (some b), .int .i64 i]).run Tryd.prog w = .ok (.tuple #[]) w' ∧ SM w' b n (l.erase i) ∧ w.grownBy w' (some b) := by
  obtain ⟨D, h, hs, hf⟩ := h
  obtain ⟨w', hrun, h2, hg⟩ := h.drop keyInt ht (keyOf_int_mk Tryd.underlying3 hi) ty
  refine ⟨w', hrun, ⟨_, h2, ?_, fun j => ?_⟩, hg.grown⟩
  · have := size_del (k := .int .i64 i) (h.tidy keyInt)
    rw [(hf i).1, hs] at this
    simp [hin] at this
    rw [List.length_erase_of_mem hin]
    omega
  · by_cases e : j = i
    · subst e
      rw [has_del_same, atKey_del_same]
      simp [hnd.mem_erase_iff]
    · rw [has_del_other (fun h => e (by simpa using h)), atKey_del_other (fun h => e (by simpa using h)), (hf j).1, (hf j).2]
      simp [hnd.mem_erase_iff, e]
theorem SM.len (h : SM w b n l) {t : TypeId} (ht : Tryd.prog.underlying t = some (.map 3 4)) (ty : TypeId) : (Builtin.len_ #[t] ty #[.map (some b)]).run Tryd.prog w = .ok (.int .i64 (l.length : Nat)) w := by
  obtain ⟨D, h, hs, hf⟩ := h
  rw [h.len ht ty, hs]
end
theorem wpList_put_sm (w : World) {ops : Array Oper} {rest : List Oper} {o : Oper} {a : Act} {Q : Exit → Act → World → Prop}
    (hg : o.guard = none) (m x v : Operand) (t : TypeId) (hop : o.op = Op.mapUpdate t m x v) (ht : Tryd.prog.underlying t = some (.map 3 4)) (b n : Nat) (l : List Int)
    (hm : a.eval m = .map (some b)) (h : SM w b n l) (i : Int) (hx : a.eval x = .int .i64 i) (hi : (Lit.int .i64 i).wf = true) (hnew : i ∉ l) (hv : a.eval v = .bool true) (hn : n < maxLen)
    (hK : ∀ w', SM w' b (n + 1) (l ++ [i]) → w.grownBy w' (some b) → wpList Tryd.prog ops Q rest (a.put o.dst undef) w') : wpList Tryd.prog ops Q (o :: rest) a w := by
  refine wpList_plain hg fun K' hK' => ?_
  obtain ⟨w', hrun, r1, r2⟩ := h.update ht i hi hn hnew
  unfold Oper.wp
  simp [execOp, hop, hm, hx, hv, hrun, Result.andThen]
  exact hK' _ _ (hK w' r1 r2)
theorem wpList_del_sm (w : World) {ops : Array Oper} {rest : List Oper} {o : Oper} {a : Act} {Q : Exit → Act → World → Prop}
    (hg : o.guard = none) (m x : Operand) (t : TypeId) (hop : o.op = Op.call { callee := Callee.builtin Builtin.delete, args := #[m, x], argTypes := #[t, 3] }) (ht : Tryd.prog.underlying t = some (.map 3 4)) (b n : Nat) (l : List Int)
    (hm : a.eval m = .map (some b)) (h : SM w b n l) (i : Int) (hx : a.eval x = .int .i64 i) (hi : (Lit.int .i64 i).wf = true) (hnd : l.Nodup) (hin : i ∈ l)
    (hK : ∀ w', SM w' b n (l.erase i) → w.grownBy w' (some b) → wpList Tryd.prog ops Q rest (a.put o.dst (.tuple #[])) w') : wpList Tryd.prog ops Q (o :: rest) a w := by
  refine wpList_plain hg fun K' hK' => ?_
  obtain ⟨w', hrun, r1, r2⟩ := h.drop ht i hi hnd hin o.type
  unfold Oper.wp execOp
  simp only [hop, resolve, invoke, builtin, Sem.run_bind, Sem.run_pure, Result.andThen_ok, List.map_toArray, List.map_cons, List.map_nil, hm, hx, hrun]
  exact hK' _ _ (hK w' r1 r2)
end Go.Proofs.YtflaklceejokhaaDoor.tree
