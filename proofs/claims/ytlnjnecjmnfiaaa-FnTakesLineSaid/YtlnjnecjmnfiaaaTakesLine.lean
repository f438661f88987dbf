/-
  Proved: the law FnTakesLine: for every int, three pairs of bools and one bool the call returns true, and the arguments read as they did. No condition.
-/
import Derived.Test.YtlnjnecjmnfiaaaTakes
namespace Go.Proofs.Ytlnjnecjmnfiaaa.fnTakesLine
open Go.ChangeShapes Go.WideShapes Go.ChangeAt Go.RowKit
open Go.Proofs.Ytlnjnecjmnfiaaa.sel Go.Proofs.Ytlnjnecjmnfiaaa.takes
set_option linter.unusedVariables false

theorem own : ownKnob Try.prog.godebug = none := by kernel_rfl
theorem laidOut : laidOutB Try.prog = true := by kernel_rfl
theorem cells2 : Try.prog.cellsOf 34 = 2 := by kernel_rfl
theorem cells1 : Try.prog.cellsOf 4 = 1 := by kernel_rfl

theorem open_pair {H : Type} {enc : TypeId × Value → H} {W : World} {base b0 : Nat} {r : Reach} {spare : Nat → Bool} {held : Bool} {v : Value} {d : DataW H} {p : List MemPlace}
    (hv : Value.okWide Try.prog W r b0 34 v) (h : DataW.Trod enc Try.prog W base spare held 34 v d p) : ∃ a b : Bool, v = .agg #[.bool a, .bool b] := by
  simp only [Value.okWide, Try.underlying34] at hv
  obtain ⟨cs, rfl, hsz, _⟩ := hv
  rw [cells2] at hsz
  obtain ⟨l⟩ := cs
  match l, hsz with
  | [c0, c1], _ =>
    obtain ⟨fuel, hf⟩ := h
    obtain ⟨xs, m, _, _, _, hl, hi⟩ := DataW.trod_array Try.underlying34 hf
    have h0 := hi 0 (by omega)
    have h1 := hi 1 (by omega)
    rw [cells1] at h0 h1
    match xs, hl with
    | [y0, y1], _ =>
      obtain ⟨a, ha, _⟩ := DataW.trod_bool Try.underlying4 (show DataW.trod enc Try.prog W base spare held m 4 [c0] = some y0 by simpa [Value.cells] using h0)
      obtain ⟨b, hb, _⟩ := DataW.trod_bool Try.underlying4 (show DataW.trod enc Try.prog W base spare held m 4 [c1] = some y1 by simpa [Value.cells] using h1)
      simp at ha hb
      subst ha hb
      exact ⟨a, b, rfl⟩

set_option maxHeartbeats 4000000 in
theorem walk (n : Int) (l0 l1 r0 r1 i0 i1 x : Bool) (w : World) :
    Calls Try.prog 6 #[.int .i64 n, .agg #[.bool l0, .bool l1], .agg #[.bool r0, .bool r1], .agg #[.bool i0, .bool i1], .bool x] w fun e w' => e = .returned (.bool true) ∧ Below w.heap.size w w' := by
  by_cases h0 : n < 0
  · go_enter Try.func6, Try.ntmps6
    go_wp2_with fail
    go_ret
    exact ⟨rfl, by repeat (first | exact Below.refl _ _ | refine Below.alloc ?_ (by simp; try omega) _)⟩
  by_cases h3 : 3 < n
  · go_enter Try.func6, Try.ntmps6
    go_wp2_with fail
    go_ret
    exact ⟨rfl, by repeat (first | exact Below.refl _ _ | refine Below.alloc ?_ (by simp; try omega) _)⟩
  obtain ⟨op, rfl⟩ := Int.eq_ofNat_of_zero_le (show 0 ≤ n by omega)
  have hop : op ≤ 3 := by omega
  cases x
  · go_enter Try.func6, Try.ntmps6
    go_wp2_with fail
    refine (implTakes_any op hop l0 l1 r0 r1 i0 i1 false _).mono ?_; rintro e w1 ⟨rfl, h1⟩
    have hz : w.heap.size + 2 < w1.heap.size := by have := h1.size; simp at this; omega
    have hc := fun b o (h : b < w.heap.size + 3) => h1.cell (p := ⟨b, o, none⟩) (by simpa using h)
    have hB : Below w.heap.size w w1 := (((((Below.refl _ _).alloc (Nat.le_refl _) _).alloc (by simp) _).alloc (by simp; omega) _).trans (h1.mono (by simp; omega)))
    clear h1
    cases hI : taken op i0 i1
    · go_wp2_with fail
      refine (iTaken_any op hop i0 i1 _).mono ?_; rintro e w2 ⟨rfl, rfl⟩
      go_wp2_with fail
      go_ret
      exact ⟨rfl, hB⟩
    · go_wp2_with fail
      refine (iTaken_any op hop i0 i1 _).mono ?_; rintro e w2 ⟨rfl, rfl⟩
      cases hL : taken op l0 l1
      · go_wp2_with fail
        refine (iTaken_any op hop l0 l1 _).mono ?_; rintro e w2 ⟨rfl, rfl⟩
        cases hR : taken op r0 r1
        all_goals
          go_wp2_with fail
          refine (iTaken_any op hop r0 r1 _).mono ?_; rintro e w2 ⟨rfl, rfl⟩
          go_wp2_with fail
          go_ret
          exact ⟨by simp, hB⟩
      · go_wp2_with fail
        refine (iTaken_any op hop l0 l1 _).mono ?_; rintro e w2 ⟨rfl, rfl⟩
        go_wp2_with fail
        go_ret
        exact ⟨by simp, hB⟩
  · go_enter Try.func6, Try.ntmps6
    go_wp2_with fail
    refine (implTakes_any op hop l0 l1 r0 r1 i0 i1 true _).mono ?_; rintro e w1 ⟨rfl, h1⟩
    have hB : Below w.heap.size w w1 := (((((Below.refl _ _).alloc (Nat.le_refl _) _).alloc (by simp) _).alloc (by simp; omega) _).trans (h1.mono (by simp; omega)))
    clear h1
    go_wp2_with fail
    go_ret
    exact ⟨rfl, hB⟩

theorem proved : Rows.FnTakesLineSaid :=
  OpenClaim.holds_of_wide 6 Try.f6 rfl rfl rfl rfl rfl rfl rfl ⟨rfl, rfl, rfl, rfl, rfl⟩ rfl rfl rfl rfl rfl (by kernel_rfl) Try.func6 (by kernel_rfl)
    (of_decide_eq_true (by kernel_rfl)) (by unfold Func.isWrapper; first | (rw [if_pos (by decide +kernel)]; kernel_rfl) | (rw [if_neg (by decide +kernel)]; exact ⟨rfl, rfl⟩))
    (fun os started H enc _ => lift.handed (C := Try.checked) (s := Rows.fnTakesLineSpec) own started (by kernel_rfl) Try.func6 laidOut (tb := 4) rfl Try.underlying4 rfl
      (fun t ht => of_decide_eq_true (List.all_eq_true.1 (show (Try.f6.params.toList.all fun t => decide (Try.prog.readableRec t = true ∧ t < Try.prog.types.size)) = true by kernel_rfl) t ht))
      (fun ds h => by match ds, h with | [_, _, _, _, _], _ => rfl)
      (ChangeSpec.witness6 (enc := enc) (C := Try.checked) false ⟨#[], #[.int .i64 0, .agg #[.bool false, .bool false], .agg #[.bool false, .bool false], .agg #[.bool false, .bool false], .bool false], []⟩ 8 (by kernel_rfl) (by kernel_rfl) (by kernel_rfl) (by kernel_rfl))
      (fun W args ds ⟨⟨base, hval0⟩, ⟨p, hA0⟩⟩ => by
        have hval : ∀ (j : Nat) t v, Try.f6.params[j]? = some t → args[j]? = some v → Value.okWide Try.prog W .any base t v := hval0
        have hA : DataW.TrodAll enc Try.prog W 0 (fun _ => true) true Try.f6.params.toList args.toList ds p := hA0
        rw [Try.params6] at hA hval
        obtain ⟨v0, vs0, d0, ds0, p0, q0, hargs, rfl, rfl, h0, r0⟩ := trodAll_cons hA
        obtain ⟨v1, vs1, d1, ds1, p1, q1, rfl, rfl, rfl, h1, r1⟩ := trodAll_cons r0
        obtain ⟨v2, vs2, d2, ds2, p2, q2, rfl, rfl, rfl, h2, r2⟩ := trodAll_cons r1
        obtain ⟨v3, vs3, d3, ds3, p3, q3, rfl, rfl, rfl, h3, r3⟩ := trodAll_cons r2
        obtain ⟨v4, vs4, d4, ds4, p4, q4, rfl, rfl, rfl, h4, r4⟩ := trodAll_cons r3
        obtain ⟨rfl, rfl, rfl⟩ := trodAll_nil r4
        obtain rfl : args = #[v0, v1, v2, v3, v4] := by cases args; simp_all
        obtain ⟨a0, rfl, rfl, rfl, w0⟩ := open_int Try.underlying3 (hval 0 _ v0 rfl rfl) h0
        obtain ⟨l0, l1, rfl⟩ := open_pair (hval 1 _ v1 rfl rfl) h1
        obtain ⟨r0', r1', rfl⟩ := open_pair (hval 2 _ v2 rfl rfl) h2
        obtain ⟨i0, i1, rfl⟩ := open_pair (hval 3 _ v3 rfl rfl) h3
        obtain ⟨x, rfl, rfl, rfl⟩ := open_bool Try.underlying4 (hval 4 _ v4 rfl rfl) h4
        exact walk a0 l0 l1 r0' r1' i0 i1 x W))
#print axioms proved
end Go.Proofs.Ytlnjnecjmnfiaaa.fnTakesLine
