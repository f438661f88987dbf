/-
  A ring that is cut into lines anywhere is put together as it was; from another line on it is the same ring, begun there: the statement. No condition.
-/
import Derived.Test.YtmmlhbhnnhopdaaRingOfCut
namespace Go.Proofs.Ytmmlhbhnnhopdaa.ring
open Go.ChangeShapes Go.WideShapes Go.ChangeAt Go.RowKit
open Go.Proofs.Ytmmlhbhnnhopdaa.mem
set_option linter.unusedVariables false
set_option linter.unusedSimpArgs false

theorem trod_float {H : Type} {enc : TypeId × Value → H} {W : World} {base fuel : Nat} {spare : Nat → Bool} {held : Bool} {c : Value} {y : DataW H × List MemPlace}
    (h : DataW.trod enc Try.prog W base spare held fuel 34 [c] = some y) : ∃ b, c = .float .f64 b := by
  cases fuel with
  | zero => simp [DataW.trod] at h
  | succ n =>
    simp only [DataW.trod, Try.underlying34] at h
    cases c <;> simp at h
    obtain ⟨⟨rfl, _⟩, _⟩ := h
    exact ⟨_, rfl⟩

theorem flat_FL (l : List Nat) : l.flatMap (fun b => [Value.float .f64 b]) = FL l := by
  induction l with
  | nil => rfl
  | cons a l ih => rw [List.flatMap_cons, ih]; rfl

theorem open_floats {H : Type} {enc : TypeId × Value → H} {W : World} {fuel : Nat} {c : Value} {y : DataW H × List MemPlace} (h : DataW.trod enc Try.prog W 0 (fun _ => true) true fuel 22 [c] = some y) :
    ∃ (A : Option Addr) (n k : Nat) (xs : List Nat), c = .slice A n k ∧ Sl W W.heap.size A n 1 (FL xs) ∧ n ≤ k := by
  obtain ⟨A, n, k, l, hcs, hl, hs, _⟩ := open_list (α := Nat) (fun b => [Value.float .f64 b]) (fun _ => True) Try.underlying22 (show Try.prog.cellsOf 34 = 1 by kernel_rfl) (by omega) (fun _ => rfl) (fun m cs' y hy => by
    have hc1 : cs'.length = 1 := by
      cases m with
      | zero => simp [DataW.trod] at hy
      | succ m =>
        match cs', hy with
        | [a], _ => rfl
        | [], hy => simp [DataW.trod, Try.underlying34] at hy
        | a :: b :: r, hy => simp [DataW.trod, Try.underlying34] at hy
    match cs', hc1 with
    | [a], _ =>
      obtain ⟨b, rfl⟩ := trod_float hy
      exact ⟨b, rfl, trivial⟩) h
  have hcap : n ≤ k := by
    rcases Deep.open_slice Try.underlying22 h with ⟨h1, _⟩ | ⟨ad, len, cap, m, n', D, Pl, h1, _, h2, _⟩
    · rw [hcs] at h1; simp at h1; omega
    · rw [hcs] at h1; simp at h1; omega
  rw [flat_FL] at hs
  simp at hcs
  exact ⟨A, n, k, l, hcs, hs, hcap⟩

theorem open_kids {H : Type} {enc : TypeId × Value → H} {W : World} {fuel : Nat} {c : Value} {y : DataW H × List MemPlace} (h : DataW.trod enc Try.prog W 0 (fun _ => true) true fuel 23 [c] = some y) :
    ∃ (A : Option Addr) (n k : Nat), c = .slice A n k := by
  rcases Deep.open_slice Try.underlying23 h with ⟨h1, _⟩ | ⟨ad, len, cap, m, n', D, Pl, h1, _⟩
  · simp at h1; exact ⟨_, _, _, h1⟩
  · simp at h1; exact ⟨_, _, _, h1⟩

theorem cells4_ : Try.prog.cellsOf 25 = 4 := by kernel_rfl

theorem open_geom {H : Type} {enc : TypeId × Value → H} {W : World} {b0 : Nat} {r : Reach} {v : Value} {d : DataW H} {p : List MemPlace}
    (hv : Value.okWide Try.prog W r b0 25 v) (h : DataW.Trod enc Try.prog W 0 (fun _ => true) true 25 v d p) :
    ∃ (kd dm : Int) (A : Option Addr) (n c : Nat) (xs : List Nat) (KA : Option Addr) (kk kc : Nat), v = .agg #[.int .i64 kd, .int .i64 dm, .slice A n c, .slice KA kk kc] ∧ Sl W W.heap.size A n 1 (FL xs) ∧ n ≤ c := by
  simp only [Value.okWide, Try.underlying25] at hv
  obtain ⟨cs, rfl, hsz, _⟩ := hv
  rw [cells4_] at hsz
  obtain ⟨l⟩ := cs
  match l, hsz with
  | [c0, c1, c2, c3], _ =>
    obtain ⟨fuel, hf⟩ := h
    obtain ⟨ys, m, _, _, _, hl, hi⟩ := DataW.trod_struct Try.underlying25 hf
    have h0 := hi 0 _ rfl
    have h1 := hi 1 _ rfl
    have h2 := hi 2 _ rfl
    have h3 := hi 3 _ rfl
    match ys, hl with
    | [y0, y1, y2, y3], _ =>
      obtain ⟨k, hk, _, _⟩ := DataW.trod_int Try.underlying3 (show DataW.trod enc Try.prog W 0 (fun _ => true) true m 3 [c0] = some y0 from h0)
      obtain ⟨k', hk', _, _⟩ := DataW.trod_int Try.underlying3 (show DataW.trod enc Try.prog W 0 (fun _ => true) true m 3 [c1] = some y1 from h1)
      obtain ⟨A, n, c, xs, rfl, hs, hc⟩ := open_floats (show DataW.trod enc Try.prog W 0 (fun _ => true) true m 22 [c2] = some y2 from h2)
      obtain ⟨KA, kk, kc, rfl⟩ := open_kids (show DataW.trod enc Try.prog W 0 (fun _ => true) true m 23 [c3] = some y3 from h3)
      simp at hk hk'
      subst hk hk'
      exact ⟨_, _, A, n, c, xs, KA, kk, kc, rfl, hs, hc⟩

theorem own : ownKnob Try.prog.godebug = none := by kernel_rfl
theorem laidOut : laidOutB Try.prog = true := by kernel_rfl

theorem proved : Rows.FnRingOfCutSaid :=
  OpenClaim.holds_of_wide 3 Try.f3 rfl rfl rfl rfl rfl rfl rfl ⟨rfl, rfl, rfl, rfl, rfl⟩ rfl rfl rfl rfl rfl (by kernel_rfl) Try.func3 (by kernel_rfl)
    (of_decide_eq_true (by kernel_rfl)) (by unfold Func.isWrapper; first | (rw [if_pos (by decide +kernel)]; kernel_rfl) | (rw [if_neg (by decide +kernel)]; exact ⟨rfl, rfl⟩))
    (fun os started H enc _ => lift.handed (C := Try.checked) (s := Rows.fnRingOfCutSpec) own started (by kernel_rfl) Try.func3 laidOut (tb := 4) rfl Try.underlying4 rfl
      (fun t ht => of_decide_eq_true (List.all_eq_true.1 (show (Try.f3.params.toList.all fun t => decide (Try.prog.readableRec t = true ∧ t < Try.prog.types.size)) = true by kernel_rfl) t ht))
      (fun ds h => by match ds, h with | [_, _], _ => rfl)
      (ChangeSpec.witness6 (enc := enc) (C := Try.checked) false ⟨#[], #[.agg #[.int .i64 0, .int .i64 0, .slice none 0 0, .slice none 0 0], .slice none 0 0], []⟩ 8 (by kernel_rfl) (by kernel_rfl) (by kernel_rfl) (by kernel_rfl))
      (fun W args ds ⟨⟨base, hval0⟩, ⟨p, hA0⟩⟩ => by
        have hval : ∀ (j : Nat) t v, Try.f3.params[j]? = some t → args[j]? = some v → Value.okWide Try.prog W .any base t v := hval0
        have hA : DataW.TrodAll enc Try.prog W 0 (fun _ => true) true Try.f3.params.toList args.toList ds p := hA0
        rw [Try.params3] at hA hval
        obtain ⟨v0, v1, d0, d1, p0, p1, rfl, rfl, rfl, h0, h1⟩ := trodAll_two hA
        obtain ⟨kd, dm, A, n, c, xs, KA, kk, kc, rfl, hs, hc⟩ := open_geom (hval 0 _ v0 rfl rfl) h0
        obtain ⟨CA, m, cc, zs, rfl, hz⟩ := open_nums Try.underlying26 Try.underlying3 (show Try.prog.cellsOf 3 = 1 by kernel_rfl) (hval 1 _ v1 rfl rfl) h1
        exact walk A KA CA n c kk kc m cc kd dm xs zs W hs hz hc))
#print axioms proved
end Go.Proofs.Ytmmlhbhnnhopdaa.ring
