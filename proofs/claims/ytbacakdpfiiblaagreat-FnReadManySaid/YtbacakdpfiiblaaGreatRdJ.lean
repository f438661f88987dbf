/-
  Plain: what is read of bytes, further: whole numbers of bytes, what is left, kinds; forms one behind another.
-/
import Derived.Test.YtbacakdpfiiblaaGreatRdA
namespace Go.Proofs.YtbacakdpfiiblaaGreat.geo
open Go.ChangeShapes Go.WideShapes Go.ChangeAt Go.RowKit
open Go.Proofs.YtbacakdpfiiblaaGreat.mem
set_option linter.unusedVariables false
set_option linter.unusedSimpArgs false

/-- Numbers of eight bytes each. -/
def numsB (big : Bool) : Nat → List Nat → List Nat
  | 0, _ => []
  | n + 1, l => bV big (l.take 8) :: numsB big n (l.drop 8)
theorem numsB_len (big : Bool) : ∀ (n : Nat) (l : List Nat), (numsB big n l).length = n
  | 0, _ => rfl
  | n + 1, l => by rw [numsB, List.length_cons, numsB_len big n]
theorem numsB_snoc (big : Bool) : ∀ (n : Nat) (l : List Nat), numsB big (n + 1) l = numsB big n l ++ [bV big ((l.drop (8 * n)).take 8)]
  | 0, l => by simp [numsB]
  | n + 1, l => by
    rw [numsB, numsB_snoc big n, numsB, List.drop_drop, List.cons_append, show 8 + 8 * n = 8 * (n + 1) by omega]
theorem rdN_eq (big : Bool) : ∀ (n : Nat) (l : List Nat), rdN big n l = if l.length < 8 * n then none else some (numsB big n l, l.drop (8 * n))
  | 0, l => by simp [rdN, numsB]
  | n + 1, l => by
    rw [rdN, rdU]
    by_cases h : l.length < 8
    · rw [if_pos h, if_pos (by omega)]
    · rw [if_neg h]
      simp only []
      rw [rdN_eq big n, List.length_drop, numsB, List.drop_drop, show 8 + 8 * n = 8 * (n + 1) by omega]
      by_cases h2 : l.length - 8 < 8 * n
      · rw [if_pos h2, if_pos (by omega)]
      · rw [if_neg h2, if_neg (by omega)]
/-- Eights of bytes, each turned. -/
def flips : Nat → List Nat → List Nat
  | 0, _ => []
  | n + 1, l => (l.take 8).reverse ++ flips n (l.drop 8)
theorem flips_len : ∀ (n : Nat) (l : List Nat), 8 * n ≤ l.length → (flips n l).length = 8 * n
  | 0, _, _ => rfl
  | n + 1, l, h => by
    rw [flips, List.length_append, List.length_reverse, List.length_take, flips_len n _ (by rw [List.length_drop]; omega)]
    omega
theorem flips_nums : ∀ (n : Nat) (l : List Nat), 8 * n ≤ l.length → numsB false n (flips n l) = numsB true n l
  | 0, _, _ => rfl
  | n + 1, l, h => by
    have h8 : (l.take 8).reverse.length = 8 := by rw [List.length_reverse, List.length_take]; omega
    rw [flips, numsB, numsB, List.take_left' h8, List.drop_left' h8, flips_nums n _ (by rw [List.length_drop]; omega)]
    congr 1
    show leV _ = beV _
    exact leV_rev _
theorem flips_snoc : ∀ (n : Nat) (l : List Nat), flips (n + 1) l = flips n l ++ ((l.drop (8 * n)).take 8).reverse
  | 0, l => by simp [flips]
  | n + 1, l => by
    rw [flips, flips_snoc n, flips, List.drop_drop, List.append_assoc, show 8 + 8 * n = 8 * (n + 1) by omega]
theorem numsB_take (big : Bool) : ∀ (n : Nat) (l : List Nat), numsB big n (l.take (8 * n)) = numsB big n l
  | 0, _ => rfl
  | n + 1, l => by
    rw [numsB, numsB, List.take_take, show min 8 (8 * (n + 1)) = 8 by omega, List.drop_take, show 8 * (n + 1) - 8 = 8 * n by omega, numsB_take big n]
theorem Byt.sfx {l r : List Nat} (h : Byt l) (hs : r <:+ l) : Byt r := fun b hb => h b (hs.subset hb)
theorem rdU_sfx {n : Nat} {big : Bool} {bs r : List Nat} {x : Nat} (h : rdU n big bs = some (x, r)) : r <:+ bs := by
  rw [(rdU_len h).2.1]
  exact List.drop_suffix _ _
theorem rdC_len {big : Bool} {bs r : List Nat} {x : Nat} (h : rdC big bs = some (x, r)) : r <:+ bs ∧ r.length + 4 = bs.length ∧ x ≤ 4096 := by
  unfold rdC at h
  cases hu : rdU 4 big bs with
  | none => rw [hu] at h; cases h
  | some p =>
    obtain ⟨n, r2⟩ := p
    rw [hu] at h
    simp only at h
    split at h
    · cases h
    · obtain ⟨rfl, rfl⟩ := Prod.mk.inj (Option.some.inj h)
      exact ⟨rdU_sfx hu, (rdU_len hu).1, by omega⟩
theorem rdN_len {big : Bool} {n : Nat} {bs ns r : List Nat} (h : rdN big n bs = some (ns, r)) : r <:+ bs ∧ r.length + 8 * n = bs.length ∧ ns.length = n := by
  rw [rdN_eq] at h
  split at h
  · cases h
  · obtain ⟨rfl, rfl⟩ := Prod.mk.inj (Option.some.inj h)
    exact ⟨List.drop_suffix _ _, by rw [List.length_drop]; omega, numsB_len _ _ _⟩
theorem rdL_len {d : Nat} {big : Bool} {bs ns r : List Nat} (h : rdL d big bs = some (ns, r)) : r <:+ bs ∧ r.length + 4 ≤ bs.length ∧ ns.length % wd d = 0 ∧ ns.length ≤ bs.length := by
  unfold rdL at h
  cases hu : rdC big bs with
  | none => rw [hu] at h; cases h
  | some p =>
    obtain ⟨n, r2⟩ := p
    rw [hu] at h
    have h1 := rdC_len hu
    have h2 := rdN_len h
    exact ⟨h2.1.trans h1.1, by omega, by rw [h2.2.2]; exact mul_mod_wd _ _, by omega⟩
theorem rdR_len {d : Nat} {big : Bool} : ∀ {n : Nat} {bs r : List Nat} {l : List PG}, rdR d big n bs = some (l, r) → r <:+ bs ∧ r.length ≤ bs.length ∧ l.length = n ∧ ∀ g ∈ l, ∃ ns, g = .mk 2 d ns [] ∧ ns.length % wd d = 0
  | 0, bs, r, l, h => by
    obtain ⟨rfl, rfl⟩ := Prod.mk.inj (Option.some.inj h)
    exact ⟨List.suffix_refl _, Nat.le_refl _, rfl, fun g hg => by cases hg⟩
  | n + 1, bs, r, l, h => by
    rw [rdR] at h
    cases hu : rdL d big bs with
    | none => rw [hu] at h; cases h
    | some p =>
      obtain ⟨ns, r2⟩ := p
      rw [hu] at h
      simp only at h
      cases hv : rdR d big n r2 with
      | none => rw [hv] at h; cases h
      | some p =>
        obtain ⟨l2, r3⟩ := p
        rw [hv] at h
        obtain ⟨rfl, rfl⟩ := Prod.mk.inj (Option.some.inj h)
        have h1 := rdL_len hu
        have h2 := rdR_len hv
        refine ⟨h2.1.trans h1.1, by omega, by simp [h2.2.2.1], fun g hg => ?_⟩
        rcases List.mem_cons.1 hg with rfl | hg
        · exact ⟨ns, rfl, h1.2.2.1⟩
        · exact h2.2.2.2 g hg
theorem rdK_len {f : List Nat → Option (PG × List Nat)} {Q : PG → Prop} (hf : ∀ bs g r, f bs = some (g, r) → r <:+ bs ∧ Q g) : ∀ {n : Nat} {bs r : List Nat} {l : List PG}, rdK f n bs = some (l, r) → r <:+ bs ∧ l.length = n ∧ ∀ g ∈ l, Q g
  | 0, bs, r, l, h => by
    obtain ⟨rfl, rfl⟩ := Prod.mk.inj (Option.some.inj h)
    exact ⟨List.suffix_refl _, rfl, fun g hg => by cases hg⟩
  | n + 1, bs, r, l, h => by
    rw [rdK] at h
    cases hu : f bs with
    | none => rw [hu] at h; cases h
    | some p =>
      obtain ⟨g0, r2⟩ := p
      rw [hu] at h
      simp only at h
      cases hv : rdK f n r2 with
      | none => rw [hv] at h; cases h
      | some p =>
        obtain ⟨l2, r3⟩ := p
        rw [hv] at h
        obtain ⟨rfl, rfl⟩ := Prod.mk.inj (Option.some.inj h)
        have h1 := hf _ _ _ hu
        have h2 := rdK_len hf hv
        refine ⟨h2.1.trans h1.1, by simp [h2.2.1], fun g hg => ?_⟩
        rcases List.mem_cons.1 hg with rfl | hg
        · exact h1.2
        · exact h2.2.2 g hg
/-- What a head says: byte order, kind, type. -/
def rdH (any : Bool) (kind : Int) (bs : List Nat) : Option ((Bool × Nat × Nat) × List Nat) := match rdU 1 false bs with
  | none => none
  | some (o, r) => if 1 < o then none else match rdU 4 (o == 0) r with
    | none => none
    | some (c, r2) => if c % 1000 < 1 ∨ 7 < c % 1000 ∨ 3 < c / 1000 then none
        else if 0 ≤ kind ∧ (kdOf (c % 1000) : Int) ≠ kind ∧ any = false then none else some ((o == 0, kdOf (c % 1000), c / 1000), r2)
theorem rdG_eq (any : Bool) (f : Nat) (kind : Int) (bs : List Nat) : rdG any (f + 1) kind bs = match rdH any kind bs with
    | none => none
    | some ((big, k, d), r) => rdB (rdG any f) any big k d r := by
  rw [rdG]
  unfold rdH
  cases rdU 1 false bs with
  | none => rfl
  | some p =>
    obtain ⟨o, r⟩ := p
    simp only
    by_cases ho : 1 < o
    · rw [if_pos ho, if_pos ho]
    rw [if_neg ho, if_neg ho]
    cases rdU 4 (o == 0) r with
    | none => rfl
    | some p =>
      obtain ⟨c, r2⟩ := p
      simp only
      by_cases h1 : c % 1000 < 1 ∨ 7 < c % 1000 ∨ 3 < c / 1000
      · rw [if_pos h1, if_pos h1]
      · rw [if_neg h1, if_neg h1]
        by_cases h2 : 0 ≤ kind ∧ (kdOf (c % 1000) : Int) ≠ kind ∧ any = false
        · rw [if_pos h2, if_pos h2]
        · rw [if_neg h2, if_neg h2]
theorem rdH_len {any : Bool} {kind : Int} {bs r : List Nat} {big : Bool} {k d : Nat} (h : rdH any kind bs = some ((big, k, d), r)) : r <:+ bs ∧ r.length + 5 = bs.length ∧ k < 7 ∧ d < 4 := by
  unfold rdH at h
  cases hu : rdU 1 false bs with
  | none => rw [hu] at h; cases h
  | some p =>
    obtain ⟨o, r1⟩ := p
    rw [hu] at h
    simp only at h
    split at h
    · cases h
    · cases hv : rdU 4 (o == 0) r1 with
      | none => rw [hv] at h; cases h
      | some p =>
        obtain ⟨c, r2⟩ := p
        rw [hv] at h
        simp only at h
        split at h
        · cases h
        · rename_i h1
          split at h
          · cases h
          · obtain ⟨e1, rfl⟩ := Prod.mk.inj (Option.some.inj h)
            obtain ⟨rfl, e2⟩ := Prod.mk.inj e1
            obtain ⟨rfl, rfl⟩ := Prod.mk.inj e2
            have h3 := rdU_len hu
            have h4 := rdU_len hv
            refine ⟨(rdU_sfx hv).trans (rdU_sfx hu), by omega, ?_, by omega⟩
            unfold kdOf
            split <;> omega
/-- Geometries as the reader makes them. -/
theorem rdB_len {f : Int → List Nat → Option (PG × List Nat)} (hf : ∀ k bs g r, f k bs = some (g, r) → r <:+ bs) {any big : Bool} {k d : Nat} {bs r : List Nat} {g : PG} (h : rdB f any big k d bs = some (g, r)) : r <:+ bs ∧ g.k = k ∧ g.d = d := by
  unfold rdB at h
  split at h
  · rename_i hk
    cases hu : rdN big (wd d) bs with
    | none => rw [hu] at h; cases h
    | some p =>
      obtain ⟨ns, r1⟩ := p
      rw [hu] at h
      simp only at h
      have h1 := rdN_len hu
      split at h
      · obtain ⟨rfl, rfl⟩ := Prod.mk.inj (Option.some.inj h)
        exact ⟨h1.1, by rw [hk]; rfl, rfl⟩
      · split at h
        · cases h
        · obtain ⟨rfl, rfl⟩ := Prod.mk.inj (Option.some.inj h)
          exact ⟨h1.1, by rw [hk]; rfl, rfl⟩
  · split at h
    · rename_i hk
      cases hu : rdL d big bs with
      | none => rw [hu] at h; cases h
      | some p =>
        obtain ⟨ns, r1⟩ := p
        rw [hu] at h
        obtain ⟨rfl, rfl⟩ := Prod.mk.inj (Option.some.inj h)
        exact ⟨(rdL_len hu).1, by rw [hk]; rfl, rfl⟩
    · cases hu : rdC big bs with
      | none => rw [hu] at h; cases h
      | some p =>
        obtain ⟨n, r1⟩ := p
        rw [hu] at h
        simp only at h
        have h1 := rdC_len hu
        split at h
        · cases h
        · rename_i l r2 hv
          obtain ⟨rfl, rfl⟩ := Prod.mk.inj (Option.some.inj h)
          refine ⟨?_, rfl, rfl⟩
          split at hv
          · exact (rdR_len hv).1.trans h1.1
          · exact (rdK_len (Q := fun _ => True) (fun bs g r h => ⟨hf _ _ _ _ h, trivial⟩) hv).1.trans h1.1
theorem rdG_len {any : Bool} : ∀ {f : Nat} {kind : Int} {bs r : List Nat} {g : PG}, rdG any f kind bs = some (g, r) → r <:+ bs
  | 0, _, _, _, _, h => by cases h
  | f + 1, kind, bs, r, g, h => by
    rw [rdG_eq] at h
    cases hh : rdH any kind bs with
    | none => rw [hh] at h; cases h
    | some p =>
      obtain ⟨⟨big, k, d⟩, r1⟩ := p
      rw [hh] at h
      exact (rdB_len (fun k bs g r h => rdG_len h) h).1.trans (rdH_len hh).1
theorem rdG_less {any : Bool} {f : Nat} {kind : Int} {bs r : List Nat} {g : PG} (h : rdG any f kind bs = some (g, r)) : r.length + 5 ≤ bs.length := by
  cases f with
  | zero => cases h
  | succ f =>
    rw [rdG_eq] at h
    cases hh : rdH any kind bs with
    | none => rw [hh] at h; cases h
    | some p =>
      obtain ⟨⟨big, k, d⟩, r1⟩ := p
      rw [hh] at h
      have h1 := (rdB_len (fun k bs g r h => rdG_len h) h).1.length_le
      have h2 := rdH_len hh
      omega
/-- A geometry of a kind is one of any kind that is of it. -/
theorem rdG_kind {f : Nat} {kind : Int} {bs : List Nat} : rdG false f kind bs = match rdG false f (-1) bs with
    | none => none
    | some (g, r) => if 0 ≤ kind ∧ g.k ≠ kind then none else some (g, r) := by
  cases f with
  | zero => rfl
  | succ f =>
    rw [rdG_eq, rdG_eq]
    have hH : rdH false kind bs = match rdH false (-1) bs with
      | none => none
      | some ((big, k, d), r) => if 0 ≤ kind ∧ (k : Int) ≠ kind then none else some ((big, k, d), r) := by
      unfold rdH
      cases rdU 1 false bs with
      | none => rfl
      | some p =>
        obtain ⟨o, r⟩ := p
        simp only
        by_cases ho : 1 < o
        · rw [if_pos ho, if_pos ho]
        rw [if_neg ho, if_neg ho]
        cases rdU 4 (o == 0) r with
        | none => rfl
        | some p =>
          obtain ⟨c, r2⟩ := p
          simp only
          by_cases h1 : c % 1000 < 1 ∨ 7 < c % 1000 ∨ 3 < c / 1000
          · rw [if_pos h1, if_pos h1]
          · rw [if_neg h1, if_neg h1, if_neg (show ¬ ((0 : Int) ≤ -1 ∧ (kdOf (c % 1000) : Int) ≠ -1 ∧ True) from fun h => absurd h.1 (by decide))]
            simp only
            by_cases h2 : 0 ≤ kind ∧ (kdOf (c % 1000) : Int) ≠ kind
            · rw [if_pos ⟨h2.1, h2.2, trivial⟩, if_pos h2]
            · rw [if_neg (fun h => h2 ⟨h.1, h.2.1⟩), if_neg h2]
    rw [hH]
    cases rdH false (-1) bs with
    | none => rfl
    | some p =>
      obtain ⟨⟨big, k, d⟩, r⟩ := p
      simp only
      cases hb : rdB (rdG false f) false big k d r with
      | none =>
        by_cases h2 : 0 ≤ kind ∧ (k : Int) ≠ kind
        · rw [if_pos h2]
        · rw [if_neg h2]
          simp only
          exact hb
      | some p =>
        obtain ⟨g, r2⟩ := p
        have h1 := (rdB_len (fun k bs g r h => rdG_len h) hb).2.1
        simp only
        rw [h1]
        by_cases h2 : 0 ≤ kind ∧ (k : Int) ≠ kind
        · rw [if_pos h2, if_pos h2]
        · rw [if_neg h2, if_neg h2]
          simp only
          exact hb
/-- Forms one behind another: the geometries, how many bytes are left. -/
def rdAll : Nat → List Nat → List PG × Nat
  | 0, l => ([], l.length)
  | f + 1, l => if l = [] then ([], 0) else match rdG false (l.length + 1) (-1) l with
    | none => ([], l.length)
    | some (p, r) => (p.new :: (rdAll f r).1, (rdAll f r).2)
end Go.Proofs.YtbacakdpfiiblaaGreat.geo
