/-
  Contracts: sequences put together as a ring.
-/
import Derived.Test.YtmmlhbhnnhopdaaRingD
namespace Go.Proofs.Ytmmlhbhnnhopdaa.ring
open Go.ChangeShapes Go.WideShapes Go.ChangeAt Go.RowKit
open Go.Proofs.Ytmmlhbhnnhopdaa.mem
set_option linter.unusedVariables false
set_option linter.unusedSimpArgs false

/-- A sequence's two cells: its row is a block of its own. -/
def seqC (q : Nat × List Nat) : List Value := [.int .u8 0, .slice (some ⟨q.1, 0, none⟩) q.2.length q.2.length]
theorem seqC_len (q : Nat × List Nat) : (seqC q).length = 2 := rfl
def qx (Q : List (Nat × List Nat)) (i : Nat) : Nat × List Nat := Q.getD i (0, [])
theorem qx_mem {Q : List (Nat × List Nat)} {i : Nat} (h : i < Q.length) : qx Q i ∈ Q := by
  unfold qx
  rw [List.getD_eq_getElem?_getD, List.getElem?_eq_getElem h]
  exact List.getElem_mem h

theorem sl_seq {w : World} {B n : Nat} {A : Option Addr} {Q : List (Nat × List Nat)} (h : Sl w B A n 2 (Q.flatMap seqC)) {k : Nat} (hk : k < n) :
    ∃ b off, A = some ⟨b, off, none⟩ ∧ b < B ∧ w.cell? ⟨b, off + k * 2, none⟩ = some (.int .u8 0) ∧ w.cell? ⟨b, off + k * 2 + 1, none⟩ = some (.slice (some ⟨(qx Q k).1, 0, none⟩) (qx Q k).2.length (qx Q k).2.length) := by
  obtain ⟨b, off, e, hb, hc⟩ := h.2.2 (by omega)
  have hl : k < Q.length := by have := h.1; rw [flatMap_len seqC 2 seqC_len] at this; omega
  have e0 := flatMap_get seqC 2 seqC_len Q k 0 (by omega)
  have e1 := flatMap_get seqC 2 seqC_len Q k 1 (by omega)
  rw [List.getElem?_eq_getElem hl] at e0 e1
  have hq : qx Q k = Q[k] := by unfold qx; rw [List.getD_eq_getElem?_getD, List.getElem?_eq_getElem hl]; rfl
  refine ⟨b, off, e, hb, hc _ _ e0, ?_⟩
  have := hc _ _ e1
  rw [hq]
  rw [show off + k * 2 + 1 = off + (k * 2 + 1) by omega]
  exact this

def tot (Q : List (Nat × List Nat)) : Nat → Nat
  | 0 => 0
  | i + 1 => tot Q i + (qx Q i).2.length

theorem tot_succ (Q : List (Nat × List Nat)) (i : Nat) : tot Q (i + 1) = tot Q i + (qx Q i).2.length := rfl

theorem tot_le {Q : List (Nat × List Nat)} (h : ∀ q ∈ Q, q.2.length ≤ 200) : ∀ i, i ≤ Q.length → tot Q i ≤ i * 200
  | 0, _ => Nat.le_refl _
  | i + 1, hi => by
    have := tot_le h i (by omega)
    have := h _ (qx_mem (Q := Q) (i := i) (by omega))
    unfold tot; omega

theorem tot_ge {Q : List (Nat × List Nat)} (h : ∀ q ∈ Q, 4 ≤ q.2.length) : ∀ i, i ≤ Q.length → i * 4 ≤ tot Q i
  | 0, _ => Nat.zero_le _
  | i + 1, hi => by
    have := tot_ge h i (by omega)
    have := h _ (qx_mem (Q := Q) (i := i) (by omega))
    unfold tot; omega

/-- What stands behind i rounds: each row but its last place. -/
def acc (Q : List (Nat × List Nat)) : Nat → List Nat
  | 0 => []
  | i + 1 => acc Q i ++ (qx Q i).2.take ((qx Q i).2.length - 2)

theorem acc_len {Q : List (Nat × List Nat)} (h : ∀ q ∈ Q, 4 ≤ q.2.length) : ∀ i, i ≤ Q.length → (acc Q i).length = tot Q i - 2 * i
  | 0, _ => rfl
  | i + 1, hi => by
    have h1 := acc_len h i (by omega)
    have h2 := h _ (qx_mem (Q := Q) (i := i) (by omega))
    have h3 := tot_ge h i (by omega)
    unfold acc tot
    rw [List.length_append, h1, List.length_take]
    omega

set_option maxHeartbeats 8000000 in
theorem appendAll_calls (base g s n cap m : Nat) (xs : List Value) (fs : List Nat) (hm : 0 < m) (hfit : n + m ≤ cap) (w : World) (hbase : base ≤ w.heap.size)
    (hown : w.ownsRow base 34 1 (.slice (some ⟨g, 0, none⟩) n cap) n xs) (hS : Sl w w.heap.size (some ⟨s, 0, none⟩) m 1 (FL fs)) :
    Calls Try.prog 34 #[.agg #[.int .u8 0, .slice (some ⟨s, 0, none⟩) m m], .slice (some ⟨g, 0, none⟩) n cap] w fun e w' =>
      e = .returned (.slice (some ⟨g, 0, none⟩) (n + m) cap) ∧ w'.ownsRow base 34 1 (.slice (some ⟨g, 0, none⟩) (n + m) cap) (n + m) (xs ++ FL fs) ∧ w.grownBy w' (some g) := by
  obtain ⟨i0, hi, hz0, hz1, hz2⟩ := info_parts infoF
  obtain ⟨wA, hwA⟩ : ∃ wA, wA = w.alloc (.cells #[.int .u8 0, .slice (some ⟨s, 0, none⟩) m m] 45) := ⟨_, rfl⟩
  have hbA : Below w.heap.size w wA := by rw [hwA]; exact (Below.refl _ _).alloc (Nat.le_refl _) _
  have hB : Blk wA w.heap.size 45 #[.int .u8 0, .slice (some ⟨s, 0, none⟩) m m] := by rw [hwA]; exact Blk.new _ _ _
  obtain ⟨c0, c1, -, -, cl⟩ := cells2 hB
  have HO := Lib.hid (hown.kept (grown_below (row := none) hbA) (own_row _))
  have HS := Lib.hid (hS.up hbA)
  have hl := (hS.1 : (FL fs).length = m * 1)
  have HL := Lib.hid hl
  have hsrc : ∀ j v, (FL fs)[j]? = some v → wA.cell? ((⟨s, 0, none⟩ : Addr).add j) = some v := by
    obtain ⟨ad, had, h⟩ := srcOf HS.out hm (Below.refl _ _)
    cases had
    exact h
  have HSRC := Lib.hid hsrc
  have HBA := Lib.hid hbA
  clear hown hS hl hB hbA hsrc c0 c1 cl
  subst hwA
  go_enter Try.func34, Try.ntmps34
  go_wp2_with (at_builtin; refine wpList_append_fits _ rfl (.tmp 5) (.tmp 7) 22 rfl base 34 i0 1 Try.underlying22 hi hz1 g n cap xs rfl HO.out ⟨s, 0, none⟩ m m (FL fs) rfl HL.out HSRC.out (FL_one fs) hfit ?_; intro w' hown' hgrow
               have HO1 := Lib.hid hown'
               have HG1 := Lib.hid hgrow
               clear hown' hgrow)
  exact bodyPost_ret (by simp [results, go_sem]) rfl ⟨rfl, HO1.out, grown_trans (grown_below HBA.out) HG1.out⟩

def GoodQ (Q : List (Nat × List Nat)) : Prop := ∀ q ∈ Q, 4 ≤ q.2.length ∧ q.2.length ≤ 200 ∧ q.2.length % 2 = 0

end Go.Proofs.Ytmmlhbhnnhopdaa.ring
