/-
  Proved: the law FnCoordsString: for every place the call returns true, and the argument reads as it did; its card. No condition but the row's own.
-/
import Derived.Test.YtpfgdfgifdbijaaDoorFfZ
import Derived.Test.YtpfgdfgifdbijaaDoorLaid
import Derived.Test.YtpfgdfgifdbijaaDoorCards
import Derived.Test.YtpfgdfgifdbijaaDoorTie
import Derived.SevenTiedAt
namespace Go.Proofs.YtpfgdfgifdbijaaDoor.pt
open Go.ChangeShapes Go.WideShapes Go.ChangeAt Go.RowKit
open Go.Proofs.YtpfgdfgifdbijaaDoor.mem Go.Proofs.YtpfgdfgifdbijaaDoor.geo
set_option linter.unusedVariables false
set_option linter.unusedSimpArgs false
set_option maxRecDepth 100000

theorem own : ownKnob Tryd.prog.godebug = none := by kernel_rfl
theorem laidOut : laidOutB Tryd.prog = true := by kernel_rfl
theorem cells5_ : Tryd.prog.cellsOf 24 = 5 := by kernel_rfl

theorem trod_float {H : Type} {enc : TypeId × Value → H} {W : World} {base fuel : Nat} {spare : Nat → Bool} {held : Bool} {c : Value} {y : DataW H × List MemPlace}
    (h : DataW.trod enc Tryd.prog W base spare held fuel 22 [c] = some y) : ∃ b, c = .float .f64 b := by
  cases fuel with
  | zero => simp [DataW.trod] at h
  | succ n =>
    simp only [DataW.trod, Tryd.underlying22] at h
    cases c <;> simp at h
    obtain ⟨⟨rfl, _⟩, _⟩ := h
    exact ⟨_, rfl⟩

theorem open_coords {H : Type} {enc : TypeId × Value → H} {W : World} {base b0 : Nat} {r : Reach} {spare : Nat → Bool} {held : Bool} {v : Value} {d : DataW H} {p : List MemPlace}
    (hv : Value.okWide Tryd.prog W r b0 24 v) (h : DataW.Trod enc Tryd.prog W base spare held 24 v d p) :
    ∃ (x y z m : Nat) (k : Int), v = .agg #[.float .f64 x, .float .f64 y, .float .f64 z, .float .f64 m, .int .i64 k] := by
  simp only [Value.okWide, Tryd.underlying24] at hv
  obtain ⟨cs, rfl, hsz, _⟩ := hv
  rw [cells5_] at hsz
  obtain ⟨l⟩ := cs
  match l, hsz with
  | [c0, c1, c2, c3, c4], _ =>
    obtain ⟨fuel, hf⟩ := h
    obtain ⟨xs, m, _, _, _, hl, hi⟩ := DataW.trod_struct Tryd.underlying24 hf
    have h0 := hi 0 _ rfl
    have h1 := hi 1 _ rfl
    have h2 := hi 2 _ rfl
    have h3 := hi 3 _ rfl
    have h4 := hi 4 _ rfl
    match xs, hl with
    | [y0, y1, y2, y3, y4], _ =>
      obtain ⟨x, rfl⟩ := trod_float (show DataW.trod enc Tryd.prog W base spare held m 22 [c0] = some y0 from h0)
      obtain ⟨y, rfl⟩ := trod_float (show DataW.trod enc Tryd.prog W base spare held m 22 [c1] = some y1 from h1)
      obtain ⟨z, rfl⟩ := trod_float (show DataW.trod enc Tryd.prog W base spare held m 22 [c2] = some y2 from h2)
      obtain ⟨u, rfl⟩ := trod_float (show DataW.trod enc Tryd.prog W base spare held m 22 [c3] = some y3 from h3)
      obtain ⟨k, hk, _, _⟩ := DataW.trod_int Tryd.underlying3 (show DataW.trod enc Tryd.prog W base spare held m 3 [c4] = some y4 from h4)
      simp at hk
      subst hk
      exact ⟨x, y, z, u, k, rfl⟩

abbrev laidL : List (String × DataW Unit) := Rows.fnCoordsStringRow.laid
theorem p10_of_laid {W : World} (h : laidMet Tryd.prog laidL W) : ff.P10 W :=
  lift.tab_of_laid (g := 2) (t := 109) (e := 61) (n := 20) (by kernel_rfl) (by kernel_rfl) Tryd.underlying109 Tryd.underlying61 (by kernel_rfl) (by kernel_rfl) h
    (by
      show _ ∈ [_, _, _, _, _, _]
      exact .tail _ (.tail _ (.tail _ (.head _))))
theorem tab_of_laid {W : World} (h : laidMet Tryd.prog laidL W) : ∃ T, ff.Tab T W := by
  obtain ⟨ps, hl, _⟩ := h
  obtain ⟨g, t, cs, fuel, p, hg, ht, hvar, hd⟩ := lift.laidVars_mem (n := "internal/strconv.pow10Tab") (d := Rows.laid_internal_strconv_pow10Tab) hl (by
      show _ ∈ [_, _, _, _, _, _]
      exact .tail _ (.tail _ (.tail _ (.tail _ (.tail _ (.head _))))))
  obtain rfl := Option.some.inj ((show Tryd.prog.globalNamed "internal/strconv.pow10Tab" = some 3 by kernel_rfl).symm.trans hg)
  obtain rfl := Option.some.inj ((show (Tryd.prog.globals[3]?).map (·.type) = some 119 by kernel_rfl).symm.trans ht)
  have hr := lift.pairs_of_trod (n := 696) Tryd.underlying119 Tryd.underlying118 rfl rfl rfl rfl rfl rfl Tryd.underlying61 (by kernel_rfl) (by kernel_rfl) (by kernel_rfl) hd
  have h1 : ∀ i : Nat, ∃ z : Int, i < 1392 → cs.toList[i]? = some (.int .u64 z) := fun i => by
    by_cases hi : i < 1392
    · obtain ⟨z, hz⟩ := hr (i / 2) (i % 2) (by omega) (by omega)
      refine ⟨z, fun _ => ?_⟩
      rw [show i / 2 * 2 + i % 2 = i by omega] at hz
      exact hz
    · exact ⟨0, fun h => absurd h hi⟩
  refine ⟨fun i => Classical.choose (h1 i), fun i hi => ?_⟩
  have := Classical.choose_spec (h1 i) hi
  rw [World.var?_cell (show Tryd.prog.globalNamed "internal/strconv.pow10Tab" = some 3 by kernel_rfl) hvar i]
  simpa using this

theorem coords_row : Rows.FnCoordsStringSaid :=
  OpenClaim.holds_of_wide 3 Tryd.f3 rfl rfl rfl rfl rfl rfl rfl ⟨rfl, rfl, rfl, rfl, rfl⟩ rfl rfl rfl rfl rfl (by kernel_rfl) Tryd.func3 (by kernel_rfl)
    (of_decide_eq_true (by kernel_rfl)) (by unfold Func.isWrapper; first | (rw [if_pos (by decide +kernel)]; kernel_rfl) | (rw [if_neg (by decide +kernel)]; exact ⟨rfl, rfl⟩))
    (fun os started H enc _ => lift.handed_laid (C := Tryd.checked) (s := Rows.fnCoordsStringSpec) (laidL := laidL) own started (by kernel_rfl) Tryd.func3 laidOut (tb := 4) rfl Tryd.underlying4 rfl
      (fun t ht => of_decide_eq_true (List.all_eq_true.1 (show (Tryd.f3.params.toList.all fun t => decide (Tryd.prog.readableRec t = true ∧ t < Tryd.prog.types.size)) = true by kernel_rfl) t ht))
      (fun ds h => by match ds, h with | [_], _ => rfl)
      (ChangeSpec.witness_shaped (enc := enc) (C := Tryd.checked) (os := os) (X := fun w _ => laidMet Tryd.prog laidL w) false (World.laidAll Tryd.prog os laidL) #[.agg #[.float .f64 0, .float .f64 0, .float .f64 0, .float .f64 0, .int .i64 0]] 8 (World.laidAll_os _ _ _)
        (World.shaped_of_ZipB (by kernel_rfl) (by kernel_rfl)) (by kernel_rfl) (by kernel_rfl) (by kernel_rfl)
        (laidMet_laidAll _ (by kernel_rfl) (by kernel_rfl)))
      (fun W args ds ⟨⟨base, hval0⟩, ⟨p, hA0⟩⟩ hL _ => by
        have hval : ∀ (j : Nat) t v, Tryd.f3.params[j]? = some t → args[j]? = some v → Value.okWide Tryd.prog W .any base t v := hval0
        have hA : DataW.TrodAll enc Tryd.prog W 0 (fun _ => true) true Tryd.f3.params.toList args.toList ds p := hA0
        rw [Tryd.params3] at hA hval
        obtain ⟨v0, d0, rfl, rfl, h0⟩ := trodAll_one hA
        obtain ⟨x, y, z, m, d, rfl⟩ := open_coords (hval 0 _ v0 rfl rfl) h0
        obtain ⟨T, hT⟩ := tab_of_laid hL
        obtain ⟨FT, hff⟩ := ff.sff_fn T
        exact law_calls (FT := FT) hff ⟨x, y, z, m⟩ d W hT (p10_of_laid hL)))

theorem coords_proved : Rows.FnCoordsStringCardSaid :=
  Claim7.holds_tied_plain_at .later [] [.data, .data, .data, .data, .pinned, .pinned] true (true, "6a502550d99117c23b0aeda8a7c9cedfdeefb258dd75b73b0a72ec9b6f291a9d") false
    coords_row (fun _ h => by cases h) (by kernel_rfl) (fun _ h => by cases h) fnCoordsString_row_tie rfl ⟨rfl, rfl⟩ (by kernel_rfl) rfl
    (fun f fn hf hfn => by
      obtain rfl : f = 3 := Option.some.inj ((show Tryd.prog.funcNamed "pub-eidograph/laws.FnCoordsString" = some 3 by kernel_rfl).symm.trans hf) |>.symm
      obtain rfl : fn = Tryd.f3 := (Option.some.inj (Tryd.func3.symm.trans hfn)).symm
      exact ⟨by kernel_rfl, fun j t ht => by
        rw [Tryd.params3] at ht
        rcases j with _ | j
        · have ht' : t = 24 := by simpa using ht.symm
          subst ht'
          exact (show Tryd.prog.wantsStandIn 24 = false by kernel_rfl)
        · simp at ht⟩)
    (by kernel_rfl)
#print axioms coords_proved
end Go.Proofs.YtpfgdfgifdbijaaDoor.pt
