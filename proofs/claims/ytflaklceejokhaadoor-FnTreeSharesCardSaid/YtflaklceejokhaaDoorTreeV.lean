/-
  A search by distance: the entries of a node are put into the queue.
-/
import Derived.Test.YtflaklceejokhaaDoorTreeU
namespace Go.Proofs.YtflaklceejokhaaDoor.tree
open Go.ChangeShapes Go.WideShapes Go.ChangeAt Go.RowKit
open Go.Proofs.YtflaklceejokhaaDoor.mem Go.Proofs.YtflaklceejokhaaDoor.flt Ieee
set_option linter.unusedVariables false
set_option linter.unusedSimpArgs false

/-- i entries e 0 .. e (i - 1) are put to the n that there are. -/
def pushN {α : Type} (lt : α → α → Bool) (n : Nat) (f : Nat → α) (e : Nat → α) : Nat → (Nat → α)
  | 0 => f
  | i + 1 => pushG lt (n + i) (pushN lt n f e i) (e i)

theorem GrPost.trans {L : Nat} {w0 w w1 w2 : World} {q : Nat} {o : Bx} {n' : Nat} {f' : Nat → En} {v v1 : Value} (hs : w.heap.size ≤ w1.heap.size) (hv1 : v1.ownBlock = v.ownBlock ∨ ∃ k, w.heap.size ≤ k ∧ v1.ownBlock = some k) (hf1 : Fr (fun b => b = q ∨ some b = v.ownBlock) w w1)
    (h : GrPost L w0 w1 q o n' f' v1 w2) : GrPost L w0 w q o n' f' v w2 := by
  obtain ⟨v2, h1, h2, h3⟩ := h
  refine ⟨v2, h1, ?_, hf1.trans h3 fun x hx hh => ?_⟩
  · rcases h2 with h2 | ⟨k, k1, k2⟩
    · rw [h2]; exact hv1
    · exact .inr ⟨k, by omega, k2⟩
  · rcases hh with rfl | hh
    · exact .inl rfl
    · rcases hv1 with h | ⟨k, k1, k2⟩
      · exact .inr (hh.trans h)
      · rw [k2] at hh; have := Option.some.inj hh; omega

set_option maxRecDepth 100000 in
set_option maxHeartbeats 8000000 in
theorem enq_calls {L : Nat} {w0 w : World} {q : Nat} {o : Bx} {n c k : Nat} {e : Nat → Q} {f : Nat → En} {v : Value} (hn2 : n + 4 ≤ 100000) (hN : NodeAt w0 L c k e) (hO : ∀ i, i < k → (e i).Ok) (h : HW L w0 w q o n f v) :
    Calls Tryd.prog 28 #[.pointer (some ⟨c, 0, none⟩), .pointer (some ⟨q, 0, none⟩)] w fun r w' =>
      r = .returned (.tuple #[]) ∧ GrPost L w0 w q o (n + k) (pushN (nearB o) n f (fun i => ⟨c, i * 6, e i⟩) k) v w' := by
  have HN := Lib.hid hN
  have HO := Lib.hid hO
  have hk1 := hN.2.2.2.1
  have hk4 := hN.2.2.2.2.1
  have hG0 : GrPost L w0 w q o n f v w := ⟨v, h, .inl rfl, Fr.refl _ _⟩
  have HG0 := Lib.hid hG0
  clear hN hO h hG0
  go_enter Tryd.func28, Tryd.ntmps28
  go_wp2_with fail
  go_loopg [3] k (fun u ci wr => ∃ i, i + u = k ∧ ci = .int .i64 (i : Nat) ∧ GrPost L w0 w q o (n + i) (pushN (nearB o) n f (fun i => ⟨c, i * 6, e i⟩) i) v wr)
  case atStart => exact ⟨0, by omega, by go_num, HG0.out⟩
  case round =>
    obtain ⟨i, hi', rfl, v1, hw1, hv1, hf1⟩ := hrel
    have HI := Lib.hid hi'
    have HW1 := Lib.hid hw1
    have HV1 := Lib.hid hv1
    have HF1 := Lib.hid hf1
    have hin : i ≤ k := by omega
    have d24 : wr.cell? ⟨c, 24, none⟩ = some (.int .i64 k) := (HW1.out.keep.cell HN.out.1 HN.out.2.1).trans HN.out.2.2.1
    have lc := World.block_lt_of_cell? wr _ d24
    clear hi' hw1 hv1 hf1
    by_cases hlt : i < k
    · have hltI : (i : Int) < (k : Int) := by omega
      have hj4 : i < 4 := by omega
      have hj5 : (i : Int) < 4 := by omega
      have hE : (e i).At w0 L c (i * 6) ∧ L ≤ c ∧ c < w0.heap.size ∧ (e i).Ok := ⟨HN.out.2.2.2.2.2 i hlt, HN.out.1, HN.out.2.1, HO.out i hlt⟩
      have HE := Lib.hid hE
      clear hE
      go_wp2_with fail
      refine (hpush_calls (by omega) HE.out HW1.out).mono ?_
      rintro r w2 ⟨rfl, hg2⟩
      have HG2 := Lib.hid (hg2.trans HF1.out.size HV1.out HF1.out)
      clear hg2 d24
      go_wp2_with fail
      go_roundg (k - (i + 1))
      case measure => have := HI.out; omega
      case rel => exact ⟨i + 1, by omega, by go_num, HG2.out⟩
    · have hik : i = k := by omega
      have HIK := Lib.hid hik
      have hltI : (k : Int) ≤ (i : Int) := by omega
      clear hik
      go_wp2_with fail
      refine bodyPost_end (results_none rfl _ _ _) rfl ⟨rfl, v1, ?_, HV1.out, HF1.out⟩
      have := HW1.out
      rw [HIK.out] at this
      exact this
end Go.Proofs.YtflaklceejokhaaDoor.tree
