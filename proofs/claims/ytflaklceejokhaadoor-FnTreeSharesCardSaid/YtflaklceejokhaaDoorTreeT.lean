/-
  The library's heap over the queue: up.
-/
import Derived.Test.YtflaklceejokhaaDoorTreeS
namespace Go.Proofs.YtflaklceejokhaaDoor.tree
open Go.ChangeShapes Go.WideShapes Go.ChangeAt Go.RowKit
open Go.Proofs.YtflaklceejokhaaDoor.mem Go.Proofs.YtflaklceejokhaaDoor.flt Ieee
set_option linter.unusedVariables false
set_option linter.unusedSimpArgs false

theorem mLen (a : Addr) (w : World) : (method 266 88 (.pointer (some a)) "Len").run Tryd.prog w = .ok (66, .pointer (some a)) w := by kernel_rfl
theorem mLess (a : Addr) (w : World) : (method 266 88 (.pointer (some a)) "Less").run Tryd.prog w = .ok (67, .pointer (some a)) w := by kernel_rfl
theorem mSwap (a : Addr) (w : World) : (method 266 88 (.pointer (some a)) "Swap").run Tryd.prog w = .ok (70, .pointer (some a)) w := by kernel_rfl
theorem mPush (a : Addr) (w : World) : (method 266 88 (.pointer (some a)) "Push").run Tryd.prog w = .ok (69, .pointer (some a)) w := by kernel_rfl
theorem mPop (a : Addr) (w : World) : (method 266 88 (.pointer (some a)) "Pop").run Tryd.prog w = .ok (68, .pointer (some a)) w := by kernel_rfl

/-! ### the heap, plainly -/
section
variable {α : Type}
def swapG (f : Nat → α) (i j : Nat) : Nat → α := fun k => if k = j then f i else if k = i then f j else f k
/-- The entry at j goes up as far as it is less. -/
def upG (lt : α → α → Bool) : Nat → (Nat → α) → Nat → (Nat → α)
  | 0, f, _ => f
  | u + 1, f, j => if (j - 1) / 2 = j then f else if lt (f j) (f ((j - 1) / 2)) = true then upG lt u (swapG f ((j - 1) / 2) j) ((j - 1) / 2) else f
/-- The lesser one of the two below i, of n. -/
def kid (lt : α → α → Bool) (n : Nat) (f : Nat → α) (i : Nat) : Nat := if 2 * i + 2 < n ∧ lt (f (2 * i + 2)) (f (2 * i + 1)) = true then 2 * i + 2 else 2 * i + 1
def downG (lt : α → α → Bool) (n : Nat) : Nat → (Nat → α) → Nat → (Nat → α)
  | 0, f, _ => f
  | u + 1, f, i => if n ≤ 2 * i + 1 then f else if lt (f (kid lt n f i)) (f i) = true then downG lt n u (swapG f i (kid lt n f i)) (kid lt n f i) else f
end

set_option maxRecDepth 100000 in
set_option maxHeartbeats 8000000 in
theorem up_calls {L : Nat} {w0 w : World} {q : Nat} {o : Bx} {n j : Nat} {f : Nat → En} {v : Value} (hj : j < n) (hn2 : n ≤ 100000) (h : HW L w0 w q o n f v) :
    Calls Tryd.prog 37 #[.iface 88 (.pointer (some ⟨q, 0, none⟩)), .int .i64 j] w fun e w' =>
      e = .returned (.tuple #[]) ∧ HW L w0 w' q o n (upG (nearB o) (j + 1) f j) v ∧ Fr (fun b => some b = v.ownBlock) w w' := by
  obtain ⟨F, hF⟩ : ∃ F, F = upG (nearB o) (j + 1) f j := ⟨_, rfl⟩
  rw [← hF]
  have HF := Lib.hid hF
  have HH := Lib.hid h
  clear h hF
  have m1 := mLess ⟨q, 0, none⟩
  have m2 := mSwap ⟨q, 0, none⟩
  go_enter Tryd.func37, Tryd.ntmps37
  go_wp2_with fail
  go_loopg [1] j (fun u cj wr => ∃ (f' : Nat → En) (j' s : Nat), cj = .int .i64 (j' : Nat) ∧ j' < n ∧ j' ≤ u ∧ j' < s ∧ upG (nearB o) s f' j' = F ∧ HW L w0 wr q o n f' v ∧ Fr (fun b => some b = v.ownBlock) w wr)
  case atStart => exact ⟨f, j, j + 1, by go_num, hj, Nat.le_refl _, by omega, HF.out.symm, HH.out, Fr.refl _ _⟩
  case round =>
    obtain ⟨f', j', s, rfl, hjn, hju, hjs, hup, hw, hfr⟩ := hrel
    have HUP := Lib.hid hup
    have HW1 := Lib.hid hw
    have HFR := Lib.hid hfr
    obtain ⟨p, hp⟩ : ∃ p, p = (j' - 1) / 2 := ⟨_, rfl⟩
    have HP := Lib.hid hp
    have hd : ((j' : Int) - 1).tdiv 2 = (p : Int) := by
      by_cases e : j' = 0
      · subst e
        rw [hp]; rfl
      · rw [show (j' : Int) - 1 = ((j' - 1 : Nat) : Int) by omega, hp]
        exact Int.ofNat_tdiv (j' - 1) 2
    have hpj : p ≤ j' := by omega
    clear hup hw hfr hp
    by_cases e0 : p = j'
    · have t0 : ((p : Int) == (j' : Int)) = true := by simp [e0]
      have E0 := Lib.hid e0
      clear e0
      go_wp2_with fail
      refine bodyPost_end (results_none rfl _ _ _) rfl ⟨rfl, ?_, HFR.out⟩
      have e : upG (nearB o) s f' j' = f' := by
        obtain ⟨s, rfl⟩ : ∃ u, s = u + 1 := ⟨s - 1, by omega⟩
        unfold upG
        rw [if_pos (by rw [← HP.out]; exact E0.out)]
      rw [← HUP.out, e]
      exact HW1.out
    · have t0 : ((p : Int) == (j' : Int)) = false := by simp; omega
      have E0 := Lib.hid e0
      clear e0
      obtain ⟨b, hb⟩ : ∃ b, b = nearB o (f' j') (f' p) := ⟨_, rfl⟩
      have HB := Lib.hid hb
      have hpn : p < n := by omega
      have hup : F = if b = true then upG (nearB o) (s - 1) (swapE f' p j') p else f' := by
        rw [← HUP.out, hb, HP.out]
        obtain ⟨s, rfl⟩ : ∃ u, s = u + 1 := ⟨s - 1, by omega⟩
        rw [Nat.add_sub_cancel]
        show (if (j' - 1) / 2 = j' then _ else _) = _
        rw [if_neg (by rw [← HP.out]; exact E0.out)]
        rfl
      have HUQ := Lib.hid hup
      clear hb hup
      go_wp2_with fail
      refine (near_calls hjn hpn HW1.out).mono ?_
      rintro e w2 ⟨rfl, hb2⟩
      rw [← HB.out]
      have HW2 := Lib.hid (HW1.out.below hb2)
      have HF2 := Lib.hid (HFR.out.trans (Fr.of_below (F := fun _ => False) hb2) (fun _ _ hx => hx.elim))
      clear hb2
      cases b
      · go_wp2_with fail
        have e := HUQ.out
        rw [if_neg (by decide)] at e
        exact bodyPost_end (results_none rfl _ _ _) rfl ⟨rfl, by rw [e]; exact HW2.out, HF2.out⟩
      · go_wp2_with fail
        refine (swapq_calls hpn hjn HW2.out).mono ?_
        rintro e w3 ⟨rfl, hw3, hf3⟩
        have HW3 := Lib.hid hw3
        have HF3 := Lib.hid (HF2.out.trans hf3 (fun _ _ hx => hx))
        clear hw3 hf3
        go_wp2_with fail
        go_roundg p
        case measure => have := E0.out; omega
        case rel =>
          have e := HUQ.out
          first | rw [if_pos rfl] at e | rw [if_pos trivial] at e
          exact ⟨_, p, s - 1, by go_num, hpn, Nat.le_refl _, by have := E0.out; omega, e.symm, HW3.out, HF3.out⟩

theorem downG_stop {α : Type} (lt : α → α → Bool) (n u : Nat) (f : Nat → α) (i : Nat) (h : n ≤ 2 * i + 1) : downG lt n u f i = f := by
  cases u with
  | zero => rfl
  | succ u => unfold downG; rw [if_pos h]

theorem downG_step (o : Bx) {n s : Nat} {f F : Nat → En} {i c : Nat} (hF : downG (nearB o) n s f i = F) (hs : 0 < s) (h : ¬ n ≤ 2 * i + 1) (hc : kid (nearB o) n f i = c) {b : Bool} (hb : b = nearB o (f c) (f i)) :
    F = if b = true then downG (nearB o) n (s - 1) (swapE f i c) c else f := by
  obtain ⟨s, rfl⟩ : ∃ u, s = u + 1 := ⟨s - 1, by omega⟩
  rw [← hF, hb, Nat.add_sub_cancel]
  show (if n ≤ 2 * i + 1 then _ else _) = _
  rw [if_neg h, hc]
  rfl

set_option maxRecDepth 100000 in
set_option maxHeartbeats 16000000 in
theorem down_calls {L : Nat} {w0 w : World} {q : Nat} {o : Bx} {n m : Nat} {f : Nat → En} {v : Value} (hm : m ≤ n) (hn2 : n ≤ 100000) (h : HW L w0 w q o n f v) :
    Calls Tryd.prog 38 #[.iface 88 (.pointer (some ⟨q, 0, none⟩)), .int .i64 0, .int .i64 m] w fun e w' =>
      (∃ b, e = .returned (.bool b)) ∧ HW L w0 w' q o n (downG (nearB o) m (m + 1) f 0) v ∧ Fr (fun b => some b = v.ownBlock) w w' := by
  obtain ⟨F, hF⟩ : ∃ F, F = downG (nearB o) m (m + 1) f 0 := ⟨_, rfl⟩
  rw [← hF]
  have HF := Lib.hid hF
  have HH := Lib.hid h
  have m1 := mLess ⟨q, 0, none⟩
  have m2 := mSwap ⟨q, 0, none⟩
  clear h hF
  go_enter Tryd.func38, Tryd.ntmps38
  go_wp2_with fail
  go_loopg [7] m (fun u cj wr => ∃ (f' : Nat → En) (i s : Nat), cj = .int .i64 (i : Nat) ∧ i ≤ m ∧ m - i ≤ u ∧ m - i < s ∧ downG (nearB o) m s f' i = F ∧ HW L w0 wr q o n f' v ∧ Fr (fun b => some b = v.ownBlock) w wr)
  case atStart => exact ⟨f, 0, m + 1, by go_num, by omega, by omega, by omega, HF.out.symm, HH.out, Fr.refl _ _⟩
  case round =>
    obtain ⟨f', i, s, rfl, hin, hiu, his, hup, hw, hfr⟩ := hrel
    have HUP := Lib.hid hup
    have HW1 := Lib.hid hw
    have HFR := Lib.hid hfr
    obtain ⟨j1, hj1⟩ : ∃ j1, j1 = 2 * i + 1 := ⟨_, rfl⟩
    obtain ⟨j2, hj2⟩ : ∃ j2, j2 = j1 + 1 := ⟨_, rfl⟩
    have HJ1 := Lib.hid hj1
    have HJ2 := Lib.hid hj2
    have d1 : (2 : Int) * (i : Int) + 1 = (j1 : Int) := by omega
    have d2 : (j1 : Int) + 1 = (j2 : Int) := by omega
    have b1 : (0 : Int) ≤ (j1 : Int) := Int.natCast_nonneg _
    have b2 : j1 ≤ 200001 := by omega
    have b3 : i ≤ 100000 := by omega
    have b4 : j2 ≤ 200002 := by omega
    clear hup hw hfr hj1 hj2
    by_cases e0 : m ≤ j1
    · have t0 : (m : Int) ≤ (j1 : Int) := by omega
      have e : downG (nearB o) m s f' i = f' := downG_stop _ _ _ _ _ (by rw [← HJ1.out]; exact e0)
      have HE := Lib.hid e
      clear e0 e
      go_wp2_with fail
      refine bodyPost_ret (v := .bool (decide (0 < i))) (by simp [results, Tryd.results38, go_sem]) rfl ⟨⟨_, rfl⟩, ?_, HFR.out⟩
      rw [← HUP.out, HE.out]
      exact HW1.out
    · have t0 : (j1 : Int) < (m : Int) := by omega
      have E0 := Lib.hid e0
      clear e0
      by_cases e2 : j2 < m
      · have t2 : (j2 : Int) < (m : Int) := by omega
        obtain ⟨d, hd⟩ : ∃ d, d = nearB o (f' j2) (f' j1) := ⟨_, rfl⟩
        have HD := Lib.hid hd
        have E2 := Lib.hid e2
        clear hd e2
        go_wp2_with fail
        refine (near_calls (by have := E2.out; omega) (by have := E0.out; omega) HW1.out).mono ?_
        rintro e w1 ⟨rfl, hb1⟩
        rw [← HD.out]
        have HWX := Lib.hid (HW1.out.below hb1)
        have HFX := Lib.hid (HFR.out.trans (Fr.of_below (F := fun _ => False) hb1) (fun _ _ hx => hx.elim))
        clear hb1
        cases d
        · have hk : kid (nearB o) m f' i = j1 := by
            unfold kid
            rw [show 2 * i + 2 = j2 by have := HJ1.out; have := HJ2.out; omega, ← HJ1.out, if_neg (fun h => by have := h.2; rw [← HD.out] at this; cases this)]
          have HK := Lib.hid hk
          clear hk
          have E2 := E2.out
          go_wp2_with fail
          obtain ⟨b, hb⟩ : ∃ b, b = nearB o (f' j1) (f' i) := ⟨_, rfl⟩
          have HB := Lib.hid hb
          have hcn : j1 < n := by have := HJ1.out; have := HJ2.out; omega
          have hinn : i < n := by have := HJ1.out; omega
          have hup : F = if b = true then downG (nearB o) m (s - 1) (swapE f' i j1) j1 else f' := downG_step o HUP.out (by omega) (by rw [← HJ1.out]; exact E0.out) (HK.out) hb
          have HUQ := Lib.hid hup
          clear hb hup
          refine (near_calls hcn hinn HWX.out).mono ?_
          rintro e w2 ⟨rfl, hb2⟩
          rw [← HB.out]
          have HW2 := Lib.hid (HWX.out.below hb2)
          have HF2 := Lib.hid (HFX.out.trans (Fr.of_below (F := fun _ => False) hb2) (fun _ _ hx => hx.elim))
          clear hb2
          cases b
          · go_wp2_with fail
            have e := HUQ.out
            rw [if_neg (by decide)] at e
            exact bodyPost_ret (by simp [results, Tryd.results38, go_sem]; rfl) rfl ⟨⟨_, rfl⟩, by rw [e]; exact HW2.out, HF2.out⟩
          · go_wp2_with fail
            refine (swapq_calls hinn hcn HW2.out).mono ?_
            rintro e w3 ⟨rfl, hw3, hf3⟩
            have HW3 := Lib.hid hw3
            have HF3 := Lib.hid (HF2.out.trans hf3 (fun _ _ hx => hx))
            clear hw3 hf3
            go_wp2_with fail
            go_roundg (m - j1)
            case measure => have := HJ1.out; have := HJ2.out; have := E0.out; omega
            case rel =>
              have e := HUQ.out
              first | rw [if_pos rfl] at e | rw [if_pos trivial] at e
              exact ⟨_, j1, s - 1, by go_num, by have := HJ1.out; have := HJ2.out; have := E0.out; omega, Nat.le_refl _, by have := HJ1.out; have := HJ2.out; have := E0.out; omega, e.symm, HW3.out, HF3.out⟩
        · have hk : kid (nearB o) m f' i = j2 := by
            unfold kid
            rw [show 2 * i + 2 = j2 by have := HJ1.out; have := HJ2.out; omega, ← HJ1.out, if_pos ⟨E2.out, HD.out.symm⟩]
          have HK := Lib.hid hk
          clear hk
          have E2 := E2.out
          go_wp2_with fail
          obtain ⟨b, hb⟩ : ∃ b, b = nearB o (f' j2) (f' i) := ⟨_, rfl⟩
          have HB := Lib.hid hb
          have hcn : j2 < n := by have := HJ1.out; have := HJ2.out; omega
          have hinn : i < n := by have := HJ1.out; omega
          have hup : F = if b = true then downG (nearB o) m (s - 1) (swapE f' i j2) j2 else f' := downG_step o HUP.out (by omega) (by rw [← HJ1.out]; exact E0.out) (HK.out) hb
          have HUQ := Lib.hid hup
          clear hb hup
          refine (near_calls hcn hinn HWX.out).mono ?_
          rintro e w2 ⟨rfl, hb2⟩
          rw [← HB.out]
          have HW2 := Lib.hid (HWX.out.below hb2)
          have HF2 := Lib.hid (HFX.out.trans (Fr.of_below (F := fun _ => False) hb2) (fun _ _ hx => hx.elim))
          clear hb2
          cases b
          · go_wp2_with fail
            have e := HUQ.out
            rw [if_neg (by decide)] at e
            exact bodyPost_ret (by simp [results, Tryd.results38, go_sem]; rfl) rfl ⟨⟨_, rfl⟩, by rw [e]; exact HW2.out, HF2.out⟩
          · go_wp2_with fail
            refine (swapq_calls hinn hcn HW2.out).mono ?_
            rintro e w3 ⟨rfl, hw3, hf3⟩
            have HW3 := Lib.hid hw3
            have HF3 := Lib.hid (HF2.out.trans hf3 (fun _ _ hx => hx))
            clear hw3 hf3
            go_wp2_with fail
            go_roundg (m - j2)
            case measure => have := HJ1.out; have := HJ2.out; have := E0.out; omega
            case rel =>
              have e := HUQ.out
              first | rw [if_pos rfl] at e | rw [if_pos trivial] at e
              exact ⟨_, j2, s - 1, by go_num, by have := HJ1.out; have := HJ2.out; have := E0.out; omega, Nat.le_refl _, by have := HJ1.out; have := HJ2.out; have := E0.out; omega, e.symm, HW3.out, HF3.out⟩
      · have t2 : (m : Int) ≤ (j2 : Int) := by omega
        have hk : kid (nearB o) m f' i = j1 := by
          unfold kid
          rw [show 2 * i + 2 = j2 by have := HJ1.out; have := HJ2.out; omega, ← HJ1.out, if_neg (fun h => e2 h.1)]
        have HK := Lib.hid hk
        have HWX := HW1
        have HFX := HFR
        clear hk e2
        go_wp2_with fail
        obtain ⟨b, hb⟩ : ∃ b, b = nearB o (f' j1) (f' i) := ⟨_, rfl⟩
        have HB := Lib.hid hb
        have hcn : j1 < n := by have := HJ1.out; have := HJ2.out; omega
        have hinn : i < n := by have := HJ1.out; omega
        have hup : F = if b = true then downG (nearB o) m (s - 1) (swapE f' i j1) j1 else f' := downG_step o HUP.out (by omega) (by rw [← HJ1.out]; exact E0.out) (HK.out) hb
        have HUQ := Lib.hid hup
        clear hb hup
        refine (near_calls hcn hinn HWX.out).mono ?_
        rintro e w2 ⟨rfl, hb2⟩
        rw [← HB.out]
        have HW2 := Lib.hid (HWX.out.below hb2)
        have HF2 := Lib.hid (HFX.out.trans (Fr.of_below (F := fun _ => False) hb2) (fun _ _ hx => hx.elim))
        clear hb2
        cases b
        · go_wp2_with fail
          have e := HUQ.out
          rw [if_neg (by decide)] at e
          exact bodyPost_ret (by simp [results, Tryd.results38, go_sem]; rfl) rfl ⟨⟨_, rfl⟩, by rw [e]; exact HW2.out, HF2.out⟩
        · go_wp2_with fail
          refine (swapq_calls hinn hcn HW2.out).mono ?_
          rintro e w3 ⟨rfl, hw3, hf3⟩
          have HW3 := Lib.hid hw3
          have HF3 := Lib.hid (HF2.out.trans hf3 (fun _ _ hx => hx))
          clear hw3 hf3
          go_wp2_with fail
          go_roundg (m - j1)
          case measure => have := HJ1.out; have := HJ2.out; have := E0.out; omega
          case rel =>
            have e := HUQ.out
            first | rw [if_pos rfl] at e | rw [if_pos trivial] at e
            exact ⟨_, j1, s - 1, by go_num, by have := HJ1.out; have := HJ2.out; have := E0.out; omega, Nat.le_refl _, by have := HJ1.out; have := HJ2.out; have := E0.out; omega, e.symm, HW3.out, HF3.out⟩
end Go.Proofs.YtflaklceejokhaaDoor.tree
