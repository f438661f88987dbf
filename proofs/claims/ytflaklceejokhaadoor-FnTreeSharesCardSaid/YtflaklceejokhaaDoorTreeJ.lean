/-
  Contract: items split in two halves.
-/
import Derived.Test.YtflaklceejokhaaDoorTreeI
namespace Go.Proofs.YtflaklceejokhaaDoor.tree
open Go.ChangeShapes Go.WideShapes Go.ChangeAt Go.RowKit
open Go.Proofs.YtflaklceejokhaaDoor.mem Go.Proofs.YtflaklceejokhaaDoor.flt Ieee
set_option linter.unusedVariables false
set_option linter.unusedSimpArgs false

theorem Row.drewN {w : World} {g off n : Nat} {f : Nat → It} (h : Row w g off n f) (k : Nat) : Row (w.drewN k) g off n f := h.below (drewN_below _ _ _)
theorem Chg.drewN {g off n : Nat} {a b : World} (h : Chg g off n a b) (k : Nat) : Chg g off n a (b.drewN k) := ⟨⟨h.1.os, h.1.tape, h.1.output, h.1.size, h.1.block⟩, h.2⟩

/-- What a split makes of n items. -/
def splitF (n : Nat) (f : Nat → It) : Nat → It := quick (horiz f n) n f (n / 2)

def SPost (w : World) (g off n c : Nat) (F : Nat → It) (e : Ending) (w' : World) : Prop :=
  e = .returned (.tuple #[.slice (some ⟨g, off, none⟩) (n / 2) c, .slice (some ⟨g, off + n / 2 * 5, none⟩) (n - n / 2) (c - n / 2)]) ∧ Row w' g off n F ∧ (∀ i, i < n → Gd (F i).b) ∧ Chg g off n w w'

set_option maxHeartbeats 4000000 in
theorem split_calls (g off n c : Nat) (f : Nat → It) (hn : 2 ≤ n) (hn2 : n ≤ 400) (hc : n ≤ c) (hG : ∀ i, i < n → Gd (f i).b) (w : World) (hRow : Row w g off n f) :
    Calls Tryd.prog 33 #[.slice (some ⟨g, off, none⟩) n c] w (SPost w g off n c (splitF n f)) := by
  have HROW := Lib.hid hRow
  have HG := Lib.hid hG
  obtain ⟨t, ht⟩ : ∃ t, t = horiz f n := ⟨_, rfl⟩
  have HT := Lib.hid ht
  obtain ⟨F, hF⟩ : ∃ F, F = splitF n f := ⟨_, rfl⟩
  have HF := Lib.hid hF
  rw [← hF]
  unfold SPost
  unfold splitF at hF
  rw [← ht] at hF
  obtain ⟨H, hH⟩ : ∃ H, H = n / 2 := ⟨_, rfl⟩
  rw [← hH] at hF ⊢
  have HF2 := Lib.hid hF
  have hq1 : (n : Int) / 2 = (H : Int) := by omega
  have hHn : H < n := by omega
  have hHc : ¬ c = H := by omega
  have hHc1 : (H : Int) ≤ (n : Int) := by omega
  have hHc2 : (H : Int) ≤ (c : Int) := by omega
  have hHc3 : (0 : Int) ≤ (H : Int) := Int.natCast_nonneg _
  clear hRow hG ht hF hH HF
  go_enter Tryd.func33, Tryd.ntmps33
  go_wp2_with fail
  refine (horiz_calls g off n c f hn hn2 hc HG.out w HROW.out).mono ?_
  rintro e w1 ⟨rfl, hb1⟩
  rw [← HT.out]
  have HB1 := Lib.hid hb1
  clear hb1
  go_wp2_with fail
  refine (quick_calls g off n c H t f (by omega) hn2 hHn HG.out w1 (HROW.out.below HB1.out)).mono ?_
  rintro e w2 ⟨rfl, hr2, hg2, hc2⟩
  rw [← HF2.out] at hr2 hg2
  have HR2 := Lib.hid hr2
  have HG2 := Lib.hid hg2
  have HC2 := Lib.hid ((Chg.of_below HROW.out.1 HB1.out).trans hc2)
  clear hr2 hg2 hc2
  go_wp2_with fail
  go_quiet (fail)
  go_wp2_with fail
  refine bodyPost_ret (results_tmp2 rfl _ _ _) rfl ⟨rfl, HR2.out.drewN nq, HG2.out, HC2.out.drewN nq⟩
end Go.Proofs.YtflaklceejokhaaDoor.tree
