/-
  Proved: the law FnTreeAlone: for every slice of items and every slice of questions that can be read the call returns true, and the arguments read as they did; its card. No condition but the row's own.
-/
import Derived.Test.YtflaklceejokhaaDoorTreeKI
import Derived.Test.YtflaklceejokhaaDoorTreeLA
import Derived.Test.YtflaklceejokhaaDoorCards
import Derived.Test.YtflaklceejokhaaDoorTie
import Derived.SevenTiedAt
namespace Go.Proofs.YtflaklceejokhaaDoor.tree
open Go.ChangeShapes Go.WideShapes Go.ChangeAt Go.RowKit
open Go.Proofs.YtflaklceejokhaaDoor.mem Go.Proofs.YtflaklceejokhaaDoor.flt
set_option linter.unusedVariables false
set_option linter.unusedSimpArgs false
set_option maxRecDepth 100000

theorem alone_row : Rows.FnTreeAloneSaid :=
  OpenClaim.holds_of_wide 3 Tryd.f3 rfl rfl rfl rfl rfl rfl rfl ⟨rfl, rfl, rfl, rfl, rfl⟩ rfl rfl rfl rfl rfl (by kernel_rfl) Tryd.func3 (by kernel_rfl)
    (of_decide_eq_true (by kernel_rfl)) (by unfold Func.isWrapper; first | (rw [if_pos (by decide +kernel)]; kernel_rfl) | (rw [if_neg (by decide +kernel)]; exact ⟨rfl, rfl⟩))
    (fun os started H enc _ => handed_laid (s := Rows.fnTreeAloneSpec) started (by kernel_rfl) Tryd.func3 rfl rfl
      (fun t ht => of_decide_eq_true (List.all_eq_true.1 (show (Tryd.f3.params.toList.all fun t => decide (Tryd.prog.readableRec t = true ∧ t < Tryd.prog.types.size)) = true by kernel_rfl) t ht))
      (fun ds h => by match ds, h with | [_, _], _ => rfl)
      (ChangeSpec.witness_at (enc := enc) (C := Tryd.checked) (os := os) (X := fun w _ => laidMet Tryd.prog laidL w) false (laidWorld os) #[.slice none 0 0, .slice none 0 0] 8 rfl (by kernel_rfl) (by kernel_rfl) (by kernel_rfl) (by kernel_rfl) (by kernel_rfl) (laidWorld_met os _))
      (fun W args ds S ⟨⟨base, hval0⟩, ⟨p, hA0⟩⟩ hgv h00 => by
        have hval : ∀ (j : Nat) t v, Tryd.f3.params[j]? = some t → args[j]? = some v → Value.okWide Tryd.prog W .any base t v := hval0
        have hA : DataW.TrodAll enc Tryd.prog W 0 (fun _ => true) true Tryd.f3.params.toList args.toList ds p := hA0
        rw [Tryd.params3] at hA hval
        obtain ⟨v0, v1, d0, d1, p0, p1, rfl, rfl, rfl, h0, h1⟩ := trodAll_two hA
        obtain ⟨A, n, c, f, rfl, hR, hwf⟩ := open_items (hval 0 _ v0 rfl rfl) h0
        obtain ⟨Aq, m, cq, qs, rfl, hQ⟩ := open_asks (hval 1 _ v1 rfl rfl) h1
        exact alone_calls A Aq n c m cq f qs S hwf W hR hQ hgv h00))

theorem alone_proved : Rows.FnTreeAloneCardSaid :=
  Claim7.holds_tied_plain_at .later [] [.sentinel] true (true, "7a6fbb286547562118dfe54c1926d19d40ed5268ea6d85571836f5b993f1e81c") true
    alone_row (fun _ h => by cases h) (by kernel_rfl) (fun _ h => by cases h) fnTreeAlone_row_tie rfl ⟨rfl, rfl⟩ (by kernel_rfl) rfl
    (fun f fn hf hfn => by
      obtain rfl : f = 3 := Option.some.inj ((show Tryd.prog.funcNamed "pub-eidograph/laws.FnTreeAlone" = some 3 by kernel_rfl).symm.trans hf) |>.symm
      obtain rfl : fn = Tryd.f3 := (Option.some.inj (Tryd.func3.symm.trans hfn)).symm
      exact ⟨by kernel_rfl, fun j t ht => by
        rw [Tryd.params3] at ht
        rcases j with _ | _ | j
        · have ht' : t = 22 := by simpa using ht.symm
          subst ht'
          exact (show Tryd.prog.wantsStandIn 22 = false by kernel_rfl)
        · have ht' : t = 23 := by simpa using ht.symm
          subst ht'
          exact (show Tryd.prog.wantsStandIn 23 = false by kernel_rfl)
        · simp at ht⟩)
    (by kernel_rfl)
#print axioms alone_proved
end Go.Proofs.YtflaklceejokhaaDoor.tree
