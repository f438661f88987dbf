/-
  Contracts: data that are light and hold only numbers; the walk of the law of control points.
-/
import Derived.Test.YtplphaaeibeheaaGreatGeoV
import Derived.Test.YtplphaaeibeheaaGreatGeoN
namespace Go.Proofs.YtplphaaeibeheaaGreat.geo
open Go.ChangeShapes Go.WideShapes Go.ChangeAt Go.RowKit
open Go.Proofs.YtplphaaeibeheaaGreat.mem
set_option linter.unusedVariables false
set_option linter.unusedSimpArgs false

/-- A double that is a number. -/
def isNum (x : Nat) : Prop := FloatKind.f64.format.order x x = some .eq
/-- Light, and numbers alone. -/
def kOk (p : PG) : Prop := deepN 9 p ∧ p.tot ≤ 600 ∧ ∀ x ∈ p.alln, isNum x
def KPost (w : World) (p : PG) (e : Ending) (w' : World) : Prop := ∃ b, e = .returned (.bool b) ∧ (b = true ↔ kOk p) ∧ Below w.heap.size w w'

set_option maxHeartbeats 8000000 in
set_option maxRecDepth 100000 in
theorem kany_calls (g : IG) (S : Nat → Prop) (w : World) (h : g.In S w) : Calls Tryz.prog 7 #[.agg g.enc.toArray] w (KPost w g.plain) := by
  obtain ⟨P, hP⟩ : ∃ P, P = g.plain := ⟨_, rfl⟩
  obtain ⟨w1, hw1⟩ : ∃ w1, w1 = w.alloc (.cells g.enc.toArray 25) := ⟨_, rfl⟩
  have hb1 : Below w.heap.size w w1 := by rw [hw1]; exact (Below.refl _ _).alloc (Nat.le_refl _) _
  have hX : Blk w1 w.heap.size 25 g.enc.toArray := by rw [hw1]; exact Blk.new _ _ _
  have h1 := IG.up hb1 h
  have HDC := Lib.hid (show Calls Tryz.prog 17 #[.agg g.enc.toArray, .int .i64 8] w1 (DeepPost w1 9 P) from by rw [hP]; exact deep_calls g 9 (by decide) S w1 h1)
  have HWC := Lib.hid (show ∀ w', Below w1.heap.size w1 w' → deepN 9 P → Calls Tryz.prog 18 #[.agg g.enc.toArray, .int .i64 600] w' (WPost w' 9 P) from fun w' hb hd => by rw [hP] at hd ⊢; exact weight_calls g 9 (by decide) hd S w' (IG.up hb h1))
  have HNC := Lib.hid (show ∀ w', Below w1.heap.size w1 w' → P.tot ≤ 600 → Calls Tryz.prog 19 #[.agg g.enc.toArray] w' (NPost w' P) from fun w' hb hd => by rw [hP] at hd ⊢; exact allnums_calls g hd S w' (IG.up hb h1))
  rw [← hP]
  clear h h1 hP
  obtain ⟨k, d, A, ca, ns, B, cb, kids⟩ := g
  rw [show (IG.mk k d A ca ns B cb kids).enc.toArray = #[.int .i64 k, .int .i64 d, .slice A ns.length ca, .slice B kids.length cb] from rfl] at HDC HWC HNC hX hw1 ⊢
  obtain ⟨x0, x1, x2, x3, -, -, -, -, xl⟩ := cells4 hX
  have HX := Lib.hid hX
  have HB1 := Lib.hid hb1
  have HW1 := Lib.hid hw1
  clear hX hb1 hw1
  go_enter Tryz.func7, Tryz.ntmps7
  go_wp2_with fail
  rw [← HW1.out]
  refine HDC.out.mono ?_
  rintro e w2 ⟨b, rfl, hb, hb2⟩
  cases b with
  | false =>
    clear x0 x1 x2 x3 xl
    have HB2 := Lib.hid hb2
    have HND := Lib.hid (show ¬ deepN 9 P from by simpa using hb)
    clear hb hb2
    go_wp2_with fail
    exact bodyPost_ret (v := .bool false) (by simp [results, go_sem]) rfl ⟨false, rfl, ⟨fun h => (by cases h), fun h => absurd h.1 HND.out⟩, HB1.out.trans (HB2.out.mono HB1.out.size)⟩
  | true =>
    clear x0 x1 x2 x3 xl
    have HDP := Lib.hid (show deepN 9 P from by simpa using hb)
    have HB2 := Lib.hid hb2
    obtain ⟨x0, x1, x2, x3, -, -, -, -, xl⟩ := cells4 (HX.out.below hb2 HX.out.lt)
    clear hb hb2
    go_wp2_with fail
    refine (HWC.out _ HB2.out HDP.out).mono ?_
    rintro e w3 ⟨v, rfl, ⟨hv1, hv2, hv3⟩, hb3⟩
    have HB3 := Lib.hid (HB2.out.trans (hb3.mono HB2.out.size))
    have HV := Lib.hid hv3
    clear x0 x1 x2 x3 xl hb3 hv3
    by_cases h6 : 600 < v
    · go_wp2_with fail
      exact bodyPost_ret (v := .bool false) (by simp [results, go_sem]) rfl ⟨false, rfl, ⟨fun h => (by cases h), fun h => by have h1 := HV.out (.inr h.2.1); have h2 := h.2.1; omega⟩, HB1.out.trans (HB3.out.mono HB1.out.size)⟩
    · have h6' : v ≤ 600 := by omega
      have htot : P.tot ≤ 600 := by have := HV.out (.inl h6'); omega
      have HTOT := Lib.hid htot
      have HAT := Lib.hid (alln_tot P)
      obtain ⟨x0, x1, x2, x3, -, -, -, -, xl⟩ := cells4 (HX.out.below HB3.out HX.out.lt)
      obtain ⟨al, hal⟩ : ∃ al, al = P.alln := ⟨_, rfl⟩
      obtain ⟨n, hn⟩ : ∃ n, n = al.length := ⟨_, rfl⟩
      have hn6 : n ≤ 600 := by rw [hn, hal]; have := alln_tot P; omega
      have HAL := Lib.hid hal
      have HN := Lib.hid hn
      clear htot hal hn
      go_wp2_with fail
      refine (HNC.out _ HB3.out HTOT.out).mono ?_
      rintro e w4 ⟨A4, c4, rfl, hs4, hb4⟩
      rw [← HAL.out, ← HN.out] at hs4 ⊢
      have HS4 := Lib.hid hs4
      have HB4 := Lib.hid (HB3.out.trans (hb4.mono HB3.out.size))
      clear x0 x1 x2 x3 xl hs4 hb4
      go_wp2_with fail
      go_loopg [16] n (fun q cc wr => ∃ i, i + q = n ∧ cc = .int .i64 (i : Nat) ∧ wr = w4 ∧ ∀ j, j < i → isNum (al.getD j 0))
      case atStart => exact ⟨0, by omega, by go_num, rfl, fun j hj => absurd hj (Nat.not_lt_zero j)⟩
      case round =>
        obtain ⟨i, hi', rfl, rfl, hall⟩ := hrel
        have HI := Lib.hid hi'
        have HALL := Lib.hid hall
        have hin : i ≤ n := by omega
        clear hi' hall
        by_cases hlt : i < n
        · obtain ⟨b, off, hAe, hbo, hcell⟩ := HS4.out.2.2 (by omega)
          subst hAe
          have d0 := hcell i _ (FL_get (fs := al) (by rw [← HN.out]; exact hlt))
          have hltI : (i : Int) < (n : Int) := by omega
          obtain ⟨x, hx⟩ : ∃ x, x = al.getD i 0 := ⟨_, rfl⟩
          rw [← hx] at d0
          have HXX := Lib.hid hx
          clear hcell hx
          by_cases o : FloatKind.f64.format.order x x = some .eq
          · have HO := Lib.hid o
            go_wp2_with fail
            go_roundg (n - (i + 1))
            case measure => have := HI.out; omega
            case rel =>
              refine ⟨i + 1, by omega, by go_num, rfl, fun j hj => ?_⟩
              by_cases e : j = i
              · subst e; rw [← HXX.out]; exact HO.out
              · exact HALL.out j (by omega)
          · have o2 : (FloatKind.f64.format.order x x == some .eq) = false := by rw [beq_eq_false_iff_ne]; exact o
            have o3 : (FloatKind.f64.format.order x x != some .eq) = true := by rw [bne, o2]; rfl
            go_wp2_with fail
            have hxm : x ∈ P.alln := by
              rw [← HAL.out, HXX.out, List.getD_eq_getElem?_getD, List.getElem?_eq_getElem (by rw [← HN.out]; exact hlt)]
              exact List.getElem_mem _
            exact bodyPost_ret (v := .bool false) (by simp [results, go_sem]) rfl ⟨false, rfl, ⟨fun h => (by cases h), fun h => absurd (h.2.2 x hxm) o⟩, HB1.out.trans (HB4.out.mono HB1.out.size)⟩
        · obtain rfl : i = n := by omega
          have hltI : (i : Int) ≤ (i : Int) := Int.le_refl _
          go_wp2_with fail
          refine bodyPost_ret (v := .bool true) (by simp [results, go_sem]) rfl ⟨true, rfl, ⟨fun _ => ⟨HDP.out, HTOT.out, fun x hx => ?_⟩, fun _ => rfl⟩, HB1.out.trans (HB4.out.mono HB1.out.size)⟩
          rw [← HAL.out] at hx
          obtain ⟨j, hj⟩ := List.mem_iff_getElem?.1 hx
          have hlt := (List.getElem?_eq_some_iff.1 hj).1
          have := HALL.out j (by rw [HN.out]; exact hlt)
          rw [List.getD_eq_getElem?_getD, hj] at this
          exact this

def FPost (w : World) (e : Ending) (w' : World) : Prop := ∃ b, e = .returned (.bool b) ∧ Below w.heap.size w w'
set_option maxHeartbeats 4000000 in
theorem fits_calls (g : IG) (S : Nat → Prop) (w : World) (h : g.In S w) : Calls Tryz.prog 6 #[.agg g.enc.toArray] w (FPost w) := by
  obtain ⟨k, d, A, ca, ns, B, cb, kids⟩ := g
  rw [show (IG.mk k d A ca ns B cb kids).enc.toArray = #[.int .i64 k, .int .i64 d, .slice A ns.length ca, .slice B kids.length cb] from rfl]
  have hb1 : ∀ o, Below w.heap.size w (w.alloc o) := fun o => (Below.refl _ _).alloc (Nat.le_refl _) _
  have HB1 := Lib.hid hb1
  clear h hb1
  obtain ⟨n, hn⟩ : ∃ n, n = ns.length := ⟨_, rfl⟩
  obtain ⟨m, hm⟩ : ∃ m, m = kids.length := ⟨_, rfl⟩
  rw [← hn, ← hm]
  clear hn hm
  by_cases c1 : (2147483647 : Int) < (n : Int)
  · go_enter Tryz.func6, Tryz.ntmps6
    go_wp2_with fail
    exact bodyPost_ret (v := .bool false) (by simp [results, go_sem]) rfl ⟨false, rfl, HB1.out _⟩
  · by_cases c2 : (2147483647 : Int) < (m : Int)
    · go_enter Tryz.func6, Tryz.ntmps6
      go_wp2_with fail
      exact bodyPost_ret (v := .bool false) (by simp [results, go_sem]) rfl ⟨false, rfl, HB1.out _⟩
    · go_enter Tryz.func6, Tryz.ntmps6
      go_wp2_with fail
      exact bodyPost_ret (v := .bool true) (by simp [results, go_sem]) rfl ⟨true, rfl, HB1.out _⟩

theorem small_point : (PG.mk 1 0 [] []).small := by rw [PG.small]; exact ⟨⟨by simp, by simp⟩, trivial⟩
theorem pointCtl_calls (w : World) : Calls Tryz.prog 8 #[.agg #[.int .i64 1, .int .i64 0, .slice none 0 0, .slice none 0 0]] w (Gives w (.int .i64 1)) := by
  have h := implControl_calls (IG.mk 1 0 none 0 [] none 0 []) (S := fun _ => False) (w := w) (by
    rw [IG.In]
    exact ⟨⟨by decide, by decide⟩, ⟨Nat.zero_le _, Nat.zero_le _⟩, ⟨Nat.le_refl _, Nat.le_refl _⟩, ⟨Sl.nil _ _ _, fun h => absurd h (Nat.lt_irrefl 0)⟩, ⟨Sl.nil _ _ _, fun h => absurd h (Nat.lt_irrefl 0)⟩, trivial⟩) (by rw [IG.plain_eq]; exact small_point)
  exact h
end Go.Proofs.YtplphaaeibeheaaGreat.geo
