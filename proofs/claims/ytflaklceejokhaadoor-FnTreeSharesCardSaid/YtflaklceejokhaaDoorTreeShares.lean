/-
  Proved: the law FnTreeShares: for every slice of items, every number and every box that can be read the call returns true, and the arguments read as they did; its card. No condition but the row's own.
-/
import Derived.Test.YtflaklceejokhaaDoorTreeMN
import Derived.Test.YtflaklceejokhaaDoorTreeM2
import Derived.Test.YtflaklceejokhaaDoorCards
import Derived.Test.YtflaklceejokhaaDoorTie
import Derived.SevenTiedAt
namespace Go.Proofs.YtflaklceejokhaaDoor.tree
open Go.ChangeShapes Go.WideShapes Go.ChangeAt Go.RowKit
open Go.Proofs.YtflaklceejokhaaDoor.mem Go.Proofs.YtflaklceejokhaaDoor.flt
set_option linter.unusedVariables false
set_option linter.unusedSimpArgs false
set_option maxRecDepth 100000

theorem shares_row : Rows.FnTreeSharesSaid :=
  OpenClaim.holds_of_wide 4 Tryd.f4 rfl rfl rfl rfl rfl rfl rfl ⟨rfl, rfl, rfl, rfl, rfl⟩ rfl rfl rfl rfl rfl (by kernel_rfl) Tryd.func4 (by kernel_rfl)
    (of_decide_eq_true (by kernel_rfl)) (by unfold Func.isWrapper; first | (rw [if_pos (by decide +kernel)]; kernel_rfl) | (rw [if_neg (by decide +kernel)]; exact ⟨rfl, rfl⟩))
    (fun os started H enc _ => handed_laid (s := Rows.fnTreeSharesSpec) started (by kernel_rfl) Tryd.func4 rfl rfl
      (fun t ht => of_decide_eq_true (List.all_eq_true.1 (show (Tryd.f4.params.toList.all fun t => decide (Tryd.prog.readableRec t = true ∧ t < Tryd.prog.types.size)) = true by kernel_rfl) t ht))
      (fun ds h => by match ds, h with | [_, _, _], _ => rfl)
      (ChangeSpec.witness_at (enc := enc) (C := Tryd.checked) (os := os) (X := fun w _ => laidMet Tryd.prog laidL w) false (laidWorld os) #[.slice none 0 0, .int .i64 0, .agg #[.float .f64 0, .float .f64 0, .float .f64 0, .float .f64 0]] 8 rfl (by kernel_rfl) (by kernel_rfl) (by kernel_rfl) (by kernel_rfl) (by kernel_rfl) (laidWorld_met os _))
      (fun W args ds S ⟨⟨base, hval0⟩, ⟨p, hA0⟩⟩ hgv h00 => by
        have hval : ∀ (j : Nat) t v, Tryd.f4.params[j]? = some t → args[j]? = some v → Value.okWide Tryd.prog W .any base t v := hval0
        have hA : DataW.TrodAll enc Tryd.prog W 0 (fun _ => true) true Tryd.f4.params.toList args.toList ds p := hA0
        rw [Tryd.params4] at hA hval
        obtain ⟨v0, v1, v2, d0, d1, d2, p0, p1, p2, rfl, rfl, rfl, h0, h1, h2⟩ := trodAll_three hA
        obtain ⟨A, n, c, f, rfl, hR, hwf⟩ := open_items (hval 0 _ v0 rfl rfl) h0
        have hcap := open_cap Tryd.underlying22 h0
        obtain ⟨k, rfl, rfl, rfl, wk⟩ := open_int Tryd.underlying3 (hval 1 _ v1 rfl rfl) h1
        obtain ⟨b, rfl⟩ := open_box (hval 2 _ v2 rfl rfl) h2
        exact shares_calls A n c k b f S hcap hwf W hR hgv h00))

theorem shares_proved : Rows.FnTreeSharesCardSaid :=
  Claim7.holds_tied_plain_at .later [] [.sentinel] true (true, "7a6fbb286547562118dfe54c1926d19d40ed5268ea6d85571836f5b993f1e81c") true
    shares_row (fun _ h => by cases h) (by kernel_rfl) (fun _ h => by cases h) fnTreeShares_row_tie rfl ⟨rfl, rfl⟩ (by kernel_rfl) rfl
    (fun f fn hf hfn => by
      obtain rfl : f = 4 := Option.some.inj ((show Tryd.prog.funcNamed "pub-eidograph/laws.FnTreeShares" = some 4 by kernel_rfl).symm.trans hf) |>.symm
      obtain rfl : fn = Tryd.f4 := (Option.some.inj (Tryd.func4.symm.trans hfn)).symm
      exact ⟨by kernel_rfl, fun j t ht => by
        rw [Tryd.params4] at ht
        rcases j with _ | _ | _ | j
        · have ht' : t = 22 := by simpa using ht.symm
          subst ht'
          exact (show Tryd.prog.wantsStandIn 22 = false by kernel_rfl)
        · have ht' : t = 3 := by simpa using ht.symm
          subst ht'
          exact (show Tryd.prog.wantsStandIn 3 = false by kernel_rfl)
        · have ht' : t = 32 := by simpa using ht.symm
          subst ht'
          exact (show Tryd.prog.wantsStandIn 32 = false by kernel_rfl)
        · simp at ht⟩)
    (by kernel_rfl)
#print axioms shares_proved
end Go.Proofs.YtflaklceejokhaaDoor.tree
