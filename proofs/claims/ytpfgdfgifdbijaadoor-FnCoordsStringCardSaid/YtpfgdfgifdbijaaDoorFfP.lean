/-
  Contracts: a double as a text: the string is the same in every world.
-/
import Derived.Test.YtpfgdfgifdbijaaDoorFfM
import Derived.Laws.BytesArg
namespace Go.Proofs.YtpfgdfgifdbijaaDoor.ff
open Go.ChangeShapes Go.WideShapes Go.ChangeAt Go.RowKit
open Go.Proofs.YtpfgdfgifdbijaaDoor.mem
set_option linter.unusedVariables false
set_option linter.unusedSimpArgs false

/-- The string of some bytes. -/
def strN (l : List Nat) : ByteArray := strOfNums (l.map (fun (b : Nat) => (b : Int)))
set_option maxRecDepth 100000 in
theorem conv_own {w : World} {base c : Nat} {A : Option Addr} {l : List Nat} (h : w.ownsRow base 5 1 (.slice A l.length c) l.length (BY l)) :
    (convert 52 9 (.slice A l.length c)).run Tryd.prog w = .ok (.string (strN l)) w := by
  have hs := Sl.of_own h
  rcases h.2 with ⟨hv, h0⟩ | ⟨g, cap, cur, hv, _⟩
  · have hl : l = [] := List.eq_nil_of_length_eq_zero h0
    subst hl
    injection hv with e1 e2 e3
    subst e1
    exact run_convert_bytes_nil w 52 5 Tryd.underlying52 Tryd.underlying5 0 c 9 Tryd.underlying9
  · injection hv with e1 e2 e3
    subst e1
    refine run_convert_bytes_arg w 52 5 Tryd.underlying52 Tryd.underlying5 g 0 l.length c (l.map (fun (b : Nat) => (b : Int))) (by simp) (fun i hi => ?_) 9 Tryd.underlying9
    obtain ⟨b, off, e, hb, hc⟩ := hs.2.2 (by omega)
    have e2 := Option.some.inj e
    injection e2 with e3 e4
    subst e3 e4
    rw [hc i (.int .u8 (((l.map (fun (b : Nat) => (b : Int))).getD i 0))) (by simp [BY, List.getD_eq_getElem?_getD, hi])]
set_option maxHeartbeats 4000000 in
set_option maxRecDepth 100000 in
theorem ff_calls (T : Nat → Int) (x : Nat) : ∃ out : List Nat, (out.length ≤ 1000 ∧ ∀ b ∈ out, b < 256) ∧ ∀ (w : World), Tab T w → P10 w → Calls Tryd.prog 17 #[.float .f64 x, .int .u8 102, .int .i64 (-1), .int .i64 64] w (fun e w' => e = .returned (.string (strN out)) ∧ Below w.heap.size w w') := by
  obtain ⟨out, hok, hft⟩ := ftoa_calls T x
  refine ⟨out, hok, ?_⟩
  obtain ⟨i1, hi1, hz11, hz12, hz13⟩ := infoU
  intro w hT hP
  have hTl := hT.lt
  have hPl := hP.lt
  have HT := Lib.hid hT
  have HP := Lib.hid hP
  have HFT := Lib.hid hft
  clear hT hP hft
  go_enter Tryd.func17, Tryd.ntmps17
  go_wp2_with (at_make; refine wpList_make_own _ rfl (.const (.int .i64 0)) (.tmp 25) 52 rfl w.heap.size 5 i1 _ 1 Tryd.underlying52 hi1 hz11 hz12 .i64 .i64 _ 24 rfl rfl rfl (by rw [hz13]; decide) (by unfold maxLen; decide) (Nat.le_refl _) ?_; intro w1 hown hgrow
               have hb1 : Below w.heap.size w w1 := (Below.refl w.heap.size w).grown hgrow (Nat.le_refl _) (fun q hq => by cases hq)
               have HB1 := Lib.hid hb1
               have HOWN := Lib.hid hown
               clear hown hgrow hb1)
  refine (HFT.out w1 w.heap.size 24 (some ⟨w.heap.size, 0, none⟩) (HT.out.below HB1.out hTl) (p10_below HP.out HB1.out) hTl hPl HB1.out.size HOWN.out).mono ?_
  rintro e w8 ⟨A8, c8, rfl, ho8, hb8⟩
  have hcv := conv_own ho8
  have HB8 := Lib.hid (HB1.out.trans hb8)
  clear ho8 hb8
  go_wp2_with fail
  exact bodyPost_ret (v := .string (strN out)) (by simp [results, go_sem]) rfl ⟨rfl, HB8.out⟩
set_option maxRecDepth 100000 in
theorem sff_calls (T : Nat → Int) (x : Nat) : ∃ out : List Nat, (out.length ≤ 1000 ∧ ∀ b ∈ out, b < 256) ∧ ∀ (w : World), Tab T w → P10 w → Calls Tryd.prog 10 #[.float .f64 x, .int .u8 102, .int .i64 (-1), .int .i64 64] w (fun e w' => e = .returned (.string (strN out)) ∧ Below w.heap.size w w') := by
  obtain ⟨out, hok, hft⟩ := ff_calls T x
  refine ⟨out, hok, fun w hT hP => ?_⟩
  have HF := Lib.hid (hft w hT hP)
  clear hft hT hP
  go_enter Tryd.func10, Tryd.ntmps10
  go_wp2_with fail
  refine HF.out.mono ?_
  rintro e w8 ⟨rfl, hb8⟩
  have HB8 := Lib.hid hb8
  clear hb8
  go_wp2_with fail
  exact bodyPost_ret (v := .string (strN out)) (by simp [results, go_sem]) rfl ⟨rfl, HB8.out⟩
theorem sff_fn (T : Nat → Int) : ∃ FT : Nat → List Nat, (∀ x, (FT x).length ≤ 1000 ∧ ∀ b ∈ FT x, b < 256) ∧ ∀ (x : Nat) (w : World), Tab T w → P10 w → Calls Tryd.prog 10 #[.float .f64 x, .int .u8 102, .int .i64 (-1), .int .i64 64] w (fun e w' => e = .returned (.string (strN (FT x))) ∧ Below w.heap.size w w') :=
  ⟨fun x => Classical.choose (sff_calls T x), fun x => (Classical.choose_spec (sff_calls T x)).1, fun x => (Classical.choose_spec (sff_calls T x)).2⟩
end Go.Proofs.YtpfgdfgifdbijaaDoor.ff
