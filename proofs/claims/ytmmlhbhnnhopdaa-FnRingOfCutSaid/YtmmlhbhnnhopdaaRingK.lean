/-
  The law on rings that are cut: its small parts, and the plain law. No condition.
-/
import Derived.Test.YtmmlhbhnnhopdaaRingJ
import Derived.Test.YtmmlhbhnnhopdaaMap
namespace Go.Proofs.Ytmmlhbhnnhopdaa.ring
open Go.ChangeShapes Go.WideShapes Go.ChangeAt Go.RowKit
open Go.Proofs.Ytmmlhbhnnhopdaa.mem
set_option linter.unusedVariables false
set_option linter.unusedSimpArgs false

def FitsPost (n : Nat) (w : World) (e : Ending) (w' : World) : Prop := ∃ t, e = .returned (.bool t) ∧ (t = true → n ≤ 2147483647) ∧ Below w.heap.size w w'

set_option maxHeartbeats 4000000 in
theorem fits_calls (A KA : Option Addr) (n c kk kc : Nat) (kd dm : Int) (w : World) :
    Calls Try.prog 5 #[.agg #[.int .i64 kd, .int .i64 dm, .slice A n c, .slice KA kk kc]] w (FitsPost n w) := by
  by_cases h1 : 2147483647 < n
  · go_enter Try.func5, Try.ntmps5
    go_wp2_with fail
    exact bodyPost_ret (v := .bool false) (by simp [results, go_sem]) rfl ⟨_, rfl, (fun h => by cases h), (Below.refl _ _).alloc (Nat.le_refl _) _⟩
  · by_cases h2 : 2147483647 < kk
    · go_enter Try.func5, Try.ntmps5
      go_wp2_with fail
      exact bodyPost_ret (v := .bool false) (by simp [results, go_sem]) rfl ⟨_, rfl, (fun h => by cases h), (Below.refl _ _).alloc (Nat.le_refl _) _⟩
    · have hn := Lib.hid (Nat.le_of_not_lt h1)
      go_enter Try.func5, Try.ntmps5
      go_wp2_with fail
      exact bodyPost_ret (v := .bool true) (by simp [results, go_sem]) rfl ⟨_, rfl, (fun _ => hn.out), (Below.refl _ _).alloc (Nat.le_refl _) _⟩

/-! ### the plain law -/

/-- A row but its last place. -/
def cut (l : List Nat) : List Nat := l.take (l.length - 2)
/-- Lines' rows, each but its last place, one behind another. -/
def accP (P : List (Option Addr × Nat × List Nat)) : List Nat := P.flatMap fun p => cut p.2.2

theorem take_succ_qx (Q : List (Nat × List Nat)) (i : Nat) (h : i < Q.length) : Q.take (i + 1) = Q.take i ++ [qx Q i] := by
  rw [List.take_succ_eq_append_getElem h]
  unfold qx
  rw [List.getD_eq_getElem?_getD, List.getElem?_eq_getElem h]
  rfl

theorem acc_flat (Q : List (Nat × List Nat)) : ∀ i, i ≤ Q.length → acc Q i = (Q.take i).flatMap fun q => cut q.2
  | 0, _ => by simp [acc]
  | i + 1, h => by
    rw [take_succ_qx Q i h, List.flatMap_append, ← acc_flat Q i (by omega)]
    simp [acc, cut]

theorem same_rows {Q : List (Nat × List Nat)} {P : List (Option Addr × Nat × List Nat)} {k : Nat} (hQ : Q.length = k) (hP : P.length = k) (h : ∀ j, j < k → (qx Q j).2 = (lx P j).2.2) : Q.map (·.2) = P.map (·.2.2) := by
  apply List.ext_getElem
  · simp [hQ, hP]
  · intro j h1 h2
    have hj : j < k := by rw [List.length_map, hQ] at h1; exact h1
    have := h j hj
    unfold qx lx at this
    rw [List.getD_eq_getElem?_getD, List.getD_eq_getElem?_getD, List.getElem?_eq_getElem (by omega), List.getElem?_eq_getElem (by omega)] at this
    simpa using this

theorem acc_rows {Q : List (Nat × List Nat)} {P : List (Option Addr × Nat × List Nat)} {k : Nat} (hQ : Q.length = k) (hP : P.length = k) (h : ∀ j, j < k → (qx Q j).2 = (lx P j).2.2) : acc Q k = accP P := by
  rw [acc_flat Q k (by omega), List.take_of_length_le (by omega)]
  have e := same_rows hQ hP h
  have e1 : Q.flatMap (fun q => cut q.2) = (Q.map (·.2)).flatMap cut := by rw [List.flatMap_map]
  have e2 : accP P = (P.map (·.2.2)).flatMap cut := by rw [List.flatMap_map]; rfl
  rw [e1, e2, e]

theorem ring_told {Q : List (Nat × List Nat)} {P : List (Option Addr × Nat × List Nat)} {k : Nat} (hQ : Q.length = k) (hP : P.length = k) (h : ∀ j, j < k → (qx Q j).2 = (lx P j).2.2) (hg : GoodP P) {ys : List Nat} (hy : accP P = ys) :
    tot Q k - 2 * k + 2 = ys.length + 2 ∧ ringL Q k = ys ++ ys.take 2 := by
  have ha := (acc_rows hQ hP h).trans hy
  have hgq : ∀ q ∈ Q, 4 ≤ q.2.length := by
    intro q hq
    obtain ⟨j, hj, rfl⟩ := List.getElem_of_mem hq
    have e : qx Q j = Q[j] := by unfold qx; rw [List.getD_eq_getElem?_getD, List.getElem?_eq_getElem hj]; rfl
    rw [← e, h j (by omega)]
    exact (hg _ (lx_mem (by omega))).1
  have hl := acc_len hgq k (by omega)
  rw [ha] at hl
  exact ⟨by rw [hl], by unfold ringL; rw [ha]⟩

/-- No number is none. -/
def Nums (xs : List Nat) : Prop := ∀ j, j < xs.length → FloatKind.f64.format.order (fx xs j) (fx xs j) = some .eq

theorem fx_get {xs : List Nat} {j : Nat} (h : j < xs.length) : fx xs j = xs[j] := by
  unfold fx; rw [List.getD_eq_getElem?_getD, List.getElem?_eq_getElem h]; rfl
theorem fx_app_l {xs ys : List Nat} {j : Nat} (h : j < xs.length) : fx (xs ++ ys) j = fx xs j := by
  unfold fx; rw [List.getD_eq_getElem?_getD, List.getD_eq_getElem?_getD, List.getElem?_append_left h]
theorem fx_app_r {xs ys : List Nat} {j : Nat} (h : xs.length ≤ j) : fx (xs ++ ys) j = fx ys (j - xs.length) := by
  unfold fx; rw [List.getD_eq_getElem?_getD, List.getD_eq_getElem?_getD, List.getElem?_append_right h]
theorem fx_take {xs : List Nat} {m j : Nat} (h : j < m) : fx (xs.take m) j = fx xs j := by
  unfold fx; rw [List.getD_eq_getElem?_getD, List.getD_eq_getElem?_getD, List.getElem?_take_of_lt h]
theorem fx_drop {xs : List Nat} {m j : Nat} : fx (xs.drop m) j = fx xs (m + j) := by
  unfold fx; rw [List.getD_eq_getElem?_getD, List.getD_eq_getElem?_getD, List.getElem?_drop]

theorem first_law {xs : List Nat} {n : Nat} (hl : xs.length = n) (h4 : 4 ≤ n) (hn : Nums xs) (h0 : FloatKind.f64.format.order (fx xs 0) (fx xs (n - 2)) = some .eq)
    (h1 : FloatKind.f64.format.order (fx xs 1) (fx xs (n - 1)) = some .eq) : AllEq (xs.take (n - 2) ++ (xs.take (n - 2)).take 2) xs := by
  have hla : (xs.take (n - 2)).length = n - 2 := by rw [List.length_take]; omega
  intro j hj
  have hj' : j < n := by rw [List.length_append, hla, List.length_take, hla] at hj; omega
  by_cases h : j < n - 2
  · rw [fx_app_l (by rw [hla]; exact h), fx_take h]
    exact hn j (by omega)
  · rw [fx_app_r (by rw [hla]; omega), hla, fx_take (by omega), fx_take (by omega)]
    by_cases e : j = n - 2
    · subst e; rw [Nat.sub_self]; exact h0
    · have e2 : j = n - 1 := by omega
      subst e2; rw [show n - 1 - (n - 2) = 1 by omega]; exact h1

/-- The ring begun at its second line. -/
theorem second_law {xs : List Nat} {n m : Nat} (hl : xs.length = n) (h4 : 4 ≤ n) (hm : 2 ≤ m) (hmn : m ≤ n - 2) (hev : m % 2 = 0) (hnv : n % 2 = 0) (hn : Nums xs) (h0 : FloatKind.f64.format.order (fx xs 0) (fx xs (n - 2)) = some .eq)
    (h1 : FloatKind.f64.format.order (fx xs 1) (fx xs (n - 1)) = some .eq) :
    AllEq (((xs.take (n - 2)).drop m ++ xs.take m) ++ ((xs.take (n - 2)).drop m ++ xs.take m).take 2) ((xs.take (n - 2)).drop m ++ xs.take (m + 2)) := by
  have hla : ((xs.take (n - 2)).drop m).length = n - 2 - m := by rw [List.length_drop, List.length_take]; omega
  have hlb : (xs.take m).length = m := by rw [List.length_take]; omega
  have hlc : ((xs.take (n - 2)).drop m ++ xs.take m).length = n - 2 := by rw [List.length_append, hla, hlb]; omega
  intro j hj
  have hj' : j < n := by rw [List.length_append, hlc, List.length_take, hlc] at hj; omega
  by_cases a : j < n - 2 - m
  · rw [fx_app_l (by rw [hlc]; omega), fx_app_l (by rw [hla]; exact a), fx_app_l (by rw [hla]; exact a), fx_drop, fx_take (by omega)]
    exact hn _ (by omega)
  · rw [fx_app_r (xs := (xs.take (n - 2)).drop m) (ys := xs.take (m + 2)) (by rw [hla]; omega), hla]
    by_cases b : j < n - 2
    · rw [fx_app_l (by rw [hlc]; omega), fx_app_r (by rw [hla]; omega), hla, fx_take (by omega), fx_take (by omega)]
      exact hn _ (by omega)
    · rw [fx_app_r (by rw [hlc]; omega), hlc, fx_take (by omega), fx_take (by omega)]
      by_cases c : m = n - 2
      · subst c
        rw [show n - 2 - (n - 2) = 0 by omega] at hla
        rw [fx_app_r (by rw [hla]; omega), hla, fx_take (by omega)]
        rw [show n - 2 - (n - 2) = 0 by omega, Nat.sub_zero, Nat.sub_zero]
        by_cases e : j = n - 2
        · subst e; rw [Nat.sub_self]; exact h0
        · have e2 : j = n - 1 := by omega
          subst e2; rw [show n - 1 - (n - 2) = 1 by omega]; exact h1
      · rw [fx_app_l (by rw [hla]; omega), fx_drop, fx_take (by omega)]
        rw [show m + (j - (n - 2)) = j - (n - 2 - m) by omega]
        exact hn _ (by omega)

theorem sl_sub {w : World} {B n b off : Nat} {xs : List Nat} (h : Sl w B (some ⟨b, off, none⟩) n 1 (FL xs)) {lo m : Nat} (hm : lo + m ≤ n) : Sl w B (some ⟨b, off + lo, none⟩) m 1 (FL ((xs.drop lo).take m)) := by
  have hl : xs.length = n := by have := h.1; rw [FL_len] at this; omega
  refine ⟨by rw [FL_len, List.length_take, List.length_drop]; omega, Nat.le_trans (by omega) h.2.1, fun hp => ?_⟩
  obtain ⟨b', off', e, hb, hc⟩ := h.2.2 (by omega)
  simp only [Option.some.injEq, Addr.mk.injEq, and_true] at e
  obtain ⟨rfl, rfl⟩ := e
  refine ⟨_, _, rfl, hb, fun j u hu => ?_⟩
  rw [Nat.add_assoc]
  refine hc (lo + j) u ?_
  rw [show FL ((xs.drop lo).take m) = ((FL xs).drop lo).take m by simp [FL], List.getElem?_take] at hu
  split at hu
  · rw [List.getElem?_drop] at hu; exact hu
  · cases hu

/-- What the lines that were cut off are, up to the place fr. -/
def Lined (w : World) (xs : List Nat) (fr : Nat) (P : List (Option Addr × Nat × List Nat)) : Prop :=
  accP P = xs.take (2 * fr) ∧ (P = [] → fr = 0) ∧ (P ≠ [] → (lx P 0).2.2 = xs.take (lx P 0).2.2.length) ∧ GoodP P ∧ P.length ≤ fr ∧ ∀ p ∈ P, Sl w w.heap.size p.1 p.2.2.length 1 (FL p.2.2)

theorem Lined.start (w : World) (xs : List Nat) : Lined w xs 0 [] :=
  ⟨by simp [accP], fun _ => rfl, fun h => absurd rfl h, fun p hp => absurd hp List.not_mem_nil, Nat.le_refl _, fun p hp => absurd hp List.not_mem_nil⟩

theorem Lined.step {w : World} {xs : List Nat} {fr i n b off c : Nat} {P : List (Option Addr × Nat × List Nat)} (h : Lined w xs fr P) (hl : xs.length = n) (hn : n ≤ 100) (hA : Sl w w.heap.size (some ⟨b, off, none⟩) n 1 (FL xs)) (hf : fr < i) (hi : 2 * i + 2 ≤ n) :
    Lined w xs i (P ++ [(some ⟨b, off + 2 * fr, none⟩, c, (xs.drop (2 * fr)).take (2 * i + 2 - 2 * fr))]) := by
  obtain ⟨h1, h2, h3, h4, h5, h6⟩ := h
  have hln : ((xs.drop (2 * fr)).take (2 * i + 2 - 2 * fr)).length = 2 * i + 2 - 2 * fr := by rw [List.length_take, List.length_drop]; omega
  refine ⟨?_, fun e => absurd e (by simp), fun _ => ?_, ?_, ?_, ?_⟩
  · unfold accP at h1 ⊢
    rw [List.flatMap_append, h1]
    simp only [List.flatMap_cons, List.flatMap_nil, List.append_nil, cut, hln]
    rw [List.take_take, show min (2 * i + 2 - 2 * fr - 2) (2 * i + 2 - 2 * fr) = 2 * i - 2 * fr by omega, show 2 * i = 2 * fr + (2 * i - 2 * fr) by omega, List.take_add]
    rw [show 2 * fr + (2 * i - 2 * fr) - 2 * fr = 2 * i - 2 * fr by omega]
  · by_cases e : P = []
    · subst e
      have := h2 rfl
      subst this
      show (xs.drop (2 * 0)).take (2 * i + 2 - 2 * 0) = xs.take ((xs.drop (2 * 0)).take (2 * i + 2 - 2 * 0)).length
      rw [hln]; simp
    · have hpos : 0 < P.length := List.length_pos_iff.2 e
      have e0 : lx (P ++ [(some ⟨b, off + 2 * fr, none⟩, c, (xs.drop (2 * fr)).take (2 * i + 2 - 2 * fr))]) 0 = lx P 0 := by
        unfold lx
        rw [List.getD_eq_getElem?_getD, List.getD_eq_getElem?_getD, List.getElem?_append_left hpos]
      rw [e0]
      exact h3 e
  · intro p hp
    rcases List.mem_append.1 hp with hp | hp
    · exact h4 p hp
    · obtain rfl := List.mem_singleton.1 hp
      simp only [hln]
      omega
  · rw [List.length_append, List.length_singleton]; omega
  · intro p hp
    rcases List.mem_append.1 hp with hp | hp
    · exact h6 p hp
    · obtain rfl := List.mem_singleton.1 hp
      simp only [hln]
      exact sl_sub hA (by omega)
end Go.Proofs.Ytmmlhbhnnhopdaa.ring
