/-
  Plain: numbers out of bytes; a geometry's binary form, read as the reference reads it.
-/
import Derived.Test.YtbacakdpfiiblaaGreatGeoM
namespace Go.Proofs.YtbacakdpfiiblaaGreat.geo
open Go.ChangeShapes Go.WideShapes Go.ChangeAt Go.RowKit
open Go.Proofs.YtbacakdpfiiblaaGreat.mem
set_option linter.unusedVariables false
set_option linter.unusedSimpArgs false

/-- The number that bytes spell, the greatest first, the least first. -/
def beV (l : List Nat) : Nat := l.foldl (fun x b => x * 256 + b) 0
def leV : List Nat → Nat
  | [] => 0
  | b :: l => b + 256 * leV l
def bV (big : Bool) (l : List Nat) : Nat := if big then beV l else leV l
theorem beV_snoc (l : List Nat) (b : Nat) : beV (l ++ [b]) = beV l * 256 + b := by simp [beV]
theorem leV_app (l m : List Nat) : leV (l ++ m) = leV l + 256 ^ l.length * leV m := by
  induction l with
  | nil => simp [leV]
  | cons b l ih =>
    rw [List.cons_append, leV, ih, leV, List.length_cons, Nat.pow_succ, Nat.mul_add, ← Nat.mul_assoc, Nat.mul_comm 256 (256 ^ l.length), Nat.add_assoc]
theorem leV_snoc (l : List Nat) (b : Nat) : leV (l ++ [b]) = leV l + 256 ^ l.length * b := by
  rw [leV_app]; simp [leV]
theorem beV_rev (l : List Nat) : beV l.reverse = leV l := by
  induction l with
  | nil => rfl
  | cons b l ih => rw [List.reverse_cons, beV_snoc, ih, leV]; omega
theorem leV_rev (l : List Nat) : leV l.reverse = beV l := by
  have := beV_rev l.reverse
  rw [List.reverse_reverse] at this
  exact this.symm
/-- Bytes. -/
def Byt (l : List Nat) : Prop := ∀ b ∈ l, b < 256
theorem Byt.drop {l : List Nat} (h : Byt l) (n : Nat) : Byt (l.drop n) := fun b hb => h b (List.mem_of_mem_drop hb)
theorem Byt.take {l : List Nat} (h : Byt l) (n : Nat) : Byt (l.take n) := fun b hb => h b (List.mem_of_mem_take hb)
theorem leV_lt : ∀ {l : List Nat}, Byt l → leV l < 256 ^ l.length
  | [], _ => by simp [leV]
  | b :: l, h => by
    have h1 := h b (by simp)
    have h2 := leV_lt (l := l) (fun x hx => h x (by simp [hx]))
    rw [leV, List.length_cons, Nat.pow_succ]
    omega
theorem beV_lt {l : List Nat} (h : Byt l) : beV l < 256 ^ l.length := by
  have := leV_lt (l := l.reverse) (fun b hb => h b (List.mem_reverse.1 hb))
  rw [leV_rev, List.length_reverse] at this
  exact this
theorem bV_lt {big : Bool} {l : List Nat} (h : Byt l) : bV big l < 256 ^ l.length := by
  unfold bV
  split
  · exact beV_lt h
  · exact leV_lt h

/-- A number of n bytes is read. -/
def rdU (n : Nat) (big : Bool) (bs : List Nat) : Option (Nat × List Nat) := if bs.length < n then none else some (bV big (bs.take n), bs.drop n)
/-- A count. -/
def rdC (big : Bool) (bs : List Nat) : Option (Nat × List Nat) := match rdU 4 big bs with
  | none => none
  | some (n, r) => if 4096 < n then none else some (n, r)
/-- Numbers. -/
def rdN (big : Bool) : Nat → List Nat → Option (List Nat × List Nat)
  | 0, bs => some ([], bs)
  | n + 1, bs => match rdU 8 big bs with
    | none => none
    | some (x, r) => match rdN big n r with
      | none => none
      | some (l, r2) => some (x :: l, r2)
/-- A line's numbers. -/
def rdL (d : Nat) (big : Bool) (bs : List Nat) : Option (List Nat × List Nat) := match rdC big bs with
  | none => none
  | some (n, r) => rdN big (n * wd d) r
/-- Rings. -/
def rdR (d : Nat) (big : Bool) : Nat → List Nat → Option (List PG × List Nat)
  | 0, bs => some ([], bs)
  | n + 1, bs => match rdL d big bs with
    | none => none
    | some (ns, r) => match rdR d big n r with
      | none => none
      | some (l, r2) => some (.mk 2 d ns [] :: l, r2)
/-- Several, one behind another. -/
def rdK (f : List Nat → Option (PG × List Nat)) : Nat → List Nat → Option (List PG × List Nat)
  | 0, bs => some ([], bs)
  | n + 1, bs => match f bs with
    | none => none
    | some (g, r) => match rdK f n r with
      | none => none
      | some (l, r2) => some (g :: l, r2)
/-- A double that is no number. -/
def nanB (x : Nat) : Bool := !(FloatKind.f64.format.order x x == some .eq)
/-- What follows a head. -/
def rdB (f : Int → List Nat → Option (PG × List Nat)) (any big : Bool) (k d : Nat) (bs : List Nat) : Option (PG × List Nat) :=
  if k = 1 then match rdN big (wd d) bs with
    | none => none
    | some (ns, r) => if nanB (ns.getD 0 0) && nanB (ns.getD 1 0) then some (.mk 1 d [] [], r) else if (nanB (ns.getD 0 0) || nanB (ns.getD 1 0)) && !any then none else some (.mk 1 d ns [], r)
  else if k = 2 then match rdL d big bs with
    | none => none
    | some (ns, r) => some (.mk 2 d ns [], r)
  else match rdC big bs with
    | none => none
    | some (n, r) => match (if k = 3 then rdR d big n r else rdK (f (kidK k)) n r) with
      | none => none
      | some (l, r2) => some (.mk k d [] l, r2)
/-- A kind's number in the form. -/
def kdOf (c : Nat) : Nat := if c = 7 then 0 else c
/-- A geometry. -/
def rdG (any : Bool) : Nat → Int → List Nat → Option (PG × List Nat)
  | 0, _, _ => none
  | fuel + 1, kind, bs => match rdU 1 false bs with
    | none => none
    | some (o, r) => if 1 < o then none else match rdU 4 (o == 0) r with
      | none => none
      | some (c, r2) =>
        if c % 1000 < 1 ∨ 7 < c % 1000 ∨ 3 < c / 1000 then none
        else if 0 ≤ kind ∧ (kdOf (c % 1000) : Int) ≠ kind ∧ any = false then none
        else rdB (rdG any fuel) any (o == 0) (kdOf (c % 1000)) (c / 1000) r2
theorem rdU_len {n : Nat} {big : Bool} {bs r : List Nat} {x : Nat} (h : rdU n big bs = some (x, r)) : r.length + n = bs.length ∧ r = bs.drop n ∧ x = bV big (bs.take n) := by
  unfold rdU at h
  split at h
  · cases h
  · have := Option.some.inj h
    have h1 := congrArg Prod.fst this
    have h2 := congrArg Prod.snd this
    simp only at h1 h2
    subst h1 h2
    exact ⟨by rw [List.length_drop]; omega, rfl, rfl⟩
end Go.Proofs.YtbacakdpfiiblaaGreat.geo
