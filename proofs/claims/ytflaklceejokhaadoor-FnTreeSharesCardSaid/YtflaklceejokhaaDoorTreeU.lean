/-
  The library's heap over the queue: Push, Pop.
-/
import Derived.Test.YtflaklceejokhaaDoorTreeT
namespace Go.Proofs.YtflaklceejokhaaDoor.tree
open Go.ChangeShapes Go.WideShapes Go.ChangeAt Go.RowKit
open Go.Proofs.YtflaklceejokhaaDoor.mem Go.Proofs.YtflaklceejokhaaDoor.flt Ieee
set_option linter.unusedVariables false
set_option linter.unusedSimpArgs false

section
variable {α : Type}
def updG (f : Nat → α) (i : Nat) (p : α) : Nat → α := fun k => if k = i then p else f k
/-- n entries and one more. -/
def pushG (lt : α → α → Bool) (n : Nat) (f : Nat → α) (e : α) : Nat → α := upG lt (n + 1) (updG f n e) n
/-- The entries behind a Pop: the last one is what is handed back. -/
def popG (lt : α → α → Bool) (n : Nat) (f : Nat → α) : Nat → α := downG lt (n - 1) n (swapG f 0 (n - 1)) 0
end

def GrPost (L : Nat) (w0 w : World) (q : Nat) (o : Bx) (n : Nat) (f : Nat → En) (v : Value) (w' : World) : Prop :=
  ∃ v', HW L w0 w' q o n f v' ∧ (v'.ownBlock = v.ownBlock ∨ ∃ k, w.heap.size ≤ k ∧ v'.ownBlock = some k) ∧ Fr (fun b => b = q ∨ some b = v.ownBlock) w w'

set_option maxRecDepth 100000 in
set_option maxHeartbeats 8000000 in
theorem hpush_calls {L : Nat} {w0 w : World} {q : Nat} {o : Bx} {n g a : Nat} {f : Nat → En} {v : Value} {Z : Q} (hn2 : n + 1 ≤ 100000) (hE : Z.At w0 L g a ∧ L ≤ g ∧ g < w0.heap.size ∧ Z.Ok) (h : HW L w0 w q o n f v) :
    Calls Tryd.prog 29 #[.iface 88 (.pointer (some ⟨q, 0, none⟩)), .iface 89 (.pointer (some ⟨g, a, none⟩))] w fun e w' =>
      e = .returned (.tuple #[]) ∧ GrPost L w0 w q o (n + 1) (pushG (nearB o) n f ⟨g, a, Z⟩) v w' := by
  have HH := Lib.hid h
  have HE := Lib.hid hE
  have m1 := mPush ⟨q, 0, none⟩
  have m2 := mLen ⟨q, 0, none⟩
  obtain ⟨N, hN⟩ : ∃ N, N = n + 1 := ⟨_, rfl⟩
  have HN := Lib.hid hN
  have y1 : IntKind.i64.wrap ((N : Int) - 1) = (n : Int) := by rw [show (N : Int) - 1 = ((n : Nat) : Int) by omega]; exact IntWalk.i64_in _ (by omega)
  have y2 : wrap64 ((N : Int) - 1) = (n : Int) := by unfold wrap64; omega
  have y3 : (N : Int) - 1 = (n : Int) := by omega
  rw [← hN]
  clear h hE hN
  go_enter Tryd.func29, Tryd.ntmps29
  go_wp2_with fail
  refine (pushq_calls (by omega) HE.out HH.out).mono ?_
  rintro e w1 ⟨rfl, v1, hw1, hv1, hf1⟩
  rw [← HN.out] at hw1
  have HW1 := Lib.hid hw1
  have HV1 := Lib.hid hv1
  have HF1 := Lib.hid hf1
  clear hw1 hv1 hf1
  go_wp2_with fail
  refine (len_calls HW1.out).mono ?_
  rintro e w2 ⟨rfl, rfl⟩
  go_wp2_with fail
  refine (up_calls (by have := HN.out; omega) (by have := HN.out; omega) HW1.out).mono ?_
  rintro e w2 ⟨rfl, hw2, hf2⟩
  have HW2 := Lib.hid hw2
  have HF2 := Lib.hid hf2
  clear hw2 hf2
  go_wp2_with fail
  exact bodyPost_end (results_none rfl _ _ _) rfl ⟨rfl, v1, HW2.out, HV1.out, HF1.out.trans HF2.out (fun x hx he => by
    rcases HV1.out with h | ⟨k, h1, h2⟩
    · exact .inr (he.trans h)
    · rw [h2] at he; have := Option.some.inj he; omega)⟩

def PopPost (L : Nat) (w0 w : World) (q : Nat) (o : Bx) (n : Nat) (F : Nat → En) (v : Value) (e : Ending) (w' : World) : Prop :=
  e = .returned (.iface 89 (F n).ptr) ∧ ((F n).q.At w0 L (F n).g (F n).o ∧ L ≤ (F n).g ∧ (F n).g < w0.heap.size ∧ (F n).q.Ok) ∧ GrPost L w0 w q o n F v w'

set_option maxRecDepth 100000 in
set_option maxHeartbeats 8000000 in
theorem hpop_calls {L : Nat} {w0 w : World} {q : Nat} {o : Bx} {n : Nat} {f : Nat → En} {v : Value} (hn2 : n + 1 ≤ 100000) (h : HW L w0 w q o (n + 1) f v) :
    Calls Tryd.prog 30 #[.iface 88 (.pointer (some ⟨q, 0, none⟩))] w (PopPost L w0 w q o n (popG (nearB o) (n + 1) f) v) := by
  have HH := Lib.hid h
  have m1 := mPop ⟨q, 0, none⟩
  have m2 := mLen ⟨q, 0, none⟩
  have m3 := mSwap ⟨q, 0, none⟩
  obtain ⟨N, hN⟩ : ∃ N, N = n + 1 := ⟨_, rfl⟩
  have HN := Lib.hid hN
  have y1 : IntKind.i64.wrap ((N : Int) - 1) = (n : Int) := by rw [show (N : Int) - 1 = ((n : Nat) : Int) by omega]; exact IntWalk.i64_in _ (by omega)
  have y2 : wrap64 ((N : Int) - 1) = (n : Int) := by unfold wrap64; omega
  have y3 : (N : Int) - 1 = (n : Int) := by omega
  obtain ⟨F, hF⟩ : ∃ F, F = popG (nearB o) (n + 1) f := ⟨_, rfl⟩
  have HF := Lib.hid hF
  rw [← hF]
  clear h hN hF
  go_enter Tryd.func30, Tryd.ntmps30
  go_wp2_with fail
  refine (len_calls HH.out).mono ?_
  rintro e w1 ⟨rfl, rfl⟩
  rw [← HN.out]
  go_wp2_with fail
  refine (swapq_calls (i := 0) (j := n) (by omega) (by omega) HH.out).mono ?_
  rintro e w1 ⟨rfl, hw1, hf1⟩
  have HW1 := Lib.hid hw1
  have HF1 := Lib.hid hf1
  clear hw1 hf1
  go_wp2_with fail
  refine (down_calls (m := n) (by omega) (by omega) HW1.out).mono ?_
  rintro e w2 ⟨⟨b, rfl⟩, hw2, hf2⟩
  have HW2 : Hid (HW L w0 w2 q o (n + 1) F v) := Lib.hid (by rw [HF.out]; exact hw2)
  have HF2 := Lib.hid (HF1.out.trans hf2 (fun _ _ hx => hx))
  clear hw2 hf2
  go_wp2_with fail
  refine (popq_calls (by omega) hn2 HW2.out).mono ?_
  rintro e w3 ⟨rfl, v3, hw3, hv3, hf3⟩
  rw [Nat.add_sub_cancel] at hw3
  rw [Nat.add_sub_cancel]
  have HW3 := Lib.hid hw3
  have HV3 := Lib.hid hv3
  have HF3 := Lib.hid hf3
  clear hw3 hv3 hf3
  have hen := HW2.out.ents n (by omega)
  have HEN := Lib.hid hen
  obtain ⟨z, hz⟩ : ∃ z, z = (F n).ptr := ⟨_, rfl⟩
  have HZ := Lib.hid hz
  rw [← hz]
  clear hen hz
  go_wp2_with fail
  exact bodyPost_ret (v := .iface 89 z) (by simp [results, Tryd.results30, go_sem]) rfl ⟨by rw [HZ.out], HEN.out, v3, HW3.out, .inl HV3.out, (HF2.out.mono (fun _ _ h => .inr h)).trans HF3.out (fun x _ hx => .inl hx)⟩
end Go.Proofs.YtflaklceejokhaaDoor.tree
