/-
  Contracts: boxes of the index: the least and the greatest of two numbers, two boxes together, whether boxes overlap, their distance. Of numbers that are no NaN (flt, fle: their order).
-/
import Derived.Test.YtflaklceejokhaaDoorMem
import Derived.Test.YtflaklceejokhaaDoorFlt
import Derived.Deep.AppendLies
namespace Go.Proofs.YtflaklceejokhaaDoor.tree
open Go.ChangeShapes Go.WideShapes Go.ChangeAt Go.RowKit
open Go.Proofs.YtflaklceejokhaaDoor.mem
set_option linter.unusedVariables false
set_option linter.unusedSimpArgs false

/-- A box: its four numbers' bits. -/
structure Bx where
  (x0 y0 x1 y1 : Nat)

def bxA (b : Bx) : Array Value := #[.float .f64 b.x0, .float .f64 b.y0, .float .f64 b.x1, .float .f64 b.y1]

def fmn (a b : Nat) : Nat := if FloatKind.f64.format.order a b = some .lt then a else b
def fmx (a b : Nat) : Nat := if FloatKind.f64.format.order a b = some .gt then a else b
def comb (p q : Bx) : Bx := ⟨fmn p.x0 q.x0, fmn p.y0 q.y0, fmx p.x1 q.x1, fmx p.y1 q.y1⟩

set_option maxHeartbeats 4000000 in
theorem fastMin_calls (a b : Nat) (w : World) : Calls Tryd.prog 42 #[.float .f64 a, .float .f64 b] w fun e w' => e = .returned (.float .f64 (fmn a b)) ∧ w' = w := by
  unfold fmn
  by_cases h : FloatKind.f64.format.order a b = some .lt
  · rw [if_pos h]
    go_enter Tryd.func42, Tryd.ntmps42
    go_wp2_with fail
    exact bodyPost_ret (by simp [results, go_sem]) rfl ⟨rfl, rfl⟩
  · rw [if_neg h]
    have h2 : (FloatKind.f64.format.order a b == some .lt) = false := by rw [beq_eq_false_iff_ne]; exact h
    clear h
    go_enter Tryd.func42, Tryd.ntmps42
    go_wp2_with fail
    exact bodyPost_ret (by simp [results, go_sem]) rfl ⟨rfl, rfl⟩

set_option maxHeartbeats 4000000 in
theorem fastMax_calls (a b : Nat) (w : World) : Calls Tryd.prog 43 #[.float .f64 a, .float .f64 b] w fun e w' => e = .returned (.float .f64 (fmx a b)) ∧ w' = w := by
  unfold fmx
  by_cases h : FloatKind.f64.format.order a b = some .gt
  · rw [if_pos h]
    go_enter Tryd.func43, Tryd.ntmps43
    go_wp2_with fail
    exact bodyPost_ret (by simp [results, go_sem]) rfl ⟨rfl, rfl⟩
  · rw [if_neg h]
    have h2 : (FloatKind.f64.format.order a b == some .gt) = false := by rw [beq_eq_false_iff_ne]; exact h
    clear h
    go_enter Tryd.func43, Tryd.ntmps43
    go_wp2_with fail
    exact bodyPost_ret (by simp [results, go_sem]) rfl ⟨rfl, rfl⟩

theorem cells4 {w : World} {g : Nat} {t : TypeId} {a b c d : Value} (h : Blk w g t #[a, b, c, d]) :
    w.cell? ⟨g, 0, none⟩ = some a ∧ w.cell? ⟨g, 1, none⟩ = some b ∧ w.cell? ⟨g, 2, none⟩ = some c ∧ w.cell? ⟨g, 3, none⟩ = some d ∧
    w.frozen? ⟨g, 0, none⟩ = false ∧ w.frozen? ⟨g, 1, none⟩ = false ∧ w.frozen? ⟨g, 2, none⟩ = false ∧ w.frozen? ⟨g, 3, none⟩ = false ∧ g < w.heap.size :=
  ⟨h.cell 0, h.cell 1, h.cell 2, h.cell 3, h.frozen 0 (show 0 < 4 by omega), h.frozen 1 (show 1 < 4 by omega), h.frozen 2 (show 2 < 4 by omega), h.frozen 3 (show 3 < 4 by omega), h.lt⟩

theorem set4 {B g : Nat} {w w1 : World} (h : Below B w w1) (hg : B ≤ g) (a b c d : Value) :
    Below B w ((((w1.setCell ⟨g, 0, none⟩ a).setCell ⟨g, 1, none⟩ b).setCell ⟨g, 2, none⟩ c).setCell ⟨g, 3, none⟩ d) :=
  (((h.setCell hg _).setCell hg _).setCell hg _).setCell hg _

set_option maxRecDepth 100000 in
set_option maxHeartbeats 8000000 in
theorem combine_calls (p q : Bx) (w : World) : Calls Tryd.prog 39 #[.agg (bxA p), .agg (bxA q)] w fun e w' => e = .returned (.agg (bxA (comb p q))) ∧ Below w.heap.size w w' := by
  obtain ⟨p0, p1, p2, p3⟩ := p
  obtain ⟨q0, q1, q2, q3⟩ := q
  have h1 := fastMin_calls p0 q0
  have h2 := fastMin_calls p1 q1
  have h3 := fastMax_calls p2 q2
  have h4 := fastMax_calls p3 q3
  simp only [bxA, comb]
  obtain ⟨r0, hr0⟩ : ∃ r, r = fmn p0 q0 := ⟨_, rfl⟩
  obtain ⟨r1, hr1⟩ : ∃ r, r = fmn p1 q1 := ⟨_, rfl⟩
  obtain ⟨r2, hr2⟩ : ∃ r, r = fmx p2 q2 := ⟨_, rfl⟩
  obtain ⟨r3, hr3⟩ : ∃ r, r = fmx p3 q3 := ⟨_, rfl⟩
  rw [← hr0] at h1 ⊢
  rw [← hr1] at h2 ⊢
  rw [← hr2] at h3 ⊢
  rw [← hr3] at h4 ⊢
  clear hr0 hr1 hr2 hr3
  obtain ⟨wA, hwA⟩ : ∃ wA, wA = ((w.alloc (.cells #[.float .f64 p0, .float .f64 p1, .float .f64 p2, .float .f64 p3] 52)).alloc
    (.cells #[.float .f64 q0, .float .f64 q1, .float .f64 q2, .float .f64 q3] 52)).alloc
    (.cells #[.float .f64 0, .float .f64 0, .float .f64 0, .float .f64 0] 52) := ⟨_, rfl⟩
  have hB : Blk wA w.heap.size 52 #[.float .f64 p0, .float .f64 p1, .float .f64 p2, .float .f64 p3] := by
    rw [hwA]; exact ((Blk.new _ _ _).alloc _).alloc _
  have hC : Blk wA (w.heap.size + 1) 52 #[.float .f64 q0, .float .f64 q1, .float .f64 q2, .float .f64 q3] := by
    rw [hwA]
    have := Blk.new (w.alloc (.cells #[.float .f64 p0, .float .f64 p1, .float .f64 p2, .float .f64 p3] 52)) 52 #[.float .f64 q0, .float .f64 q1, .float .f64 q2, .float .f64 q3]
    rw [show (w.alloc (.cells #[.float .f64 p0, .float .f64 p1, .float .f64 p2, .float .f64 p3] 52)).heap.size = w.heap.size + 1 by simp] at this
    exact this.alloc _
  obtain ⟨c0, c1, c2, c3, -, -, -, -, -⟩ := cells4 hB
  obtain ⟨e0, e1, e2, e3, -, -, -, -, -⟩ := cells4 hC
  have HWA := Lib.hid hwA
  clear hwA hB hC
  go_enter Tryd.func39, Tryd.ntmps39
  go_wp2_with fail
  rw [← HWA.out]
  go_still_tail 21, (by kernel_rfl)
  still_call (h1 _)
  repeat still_step
  still_call (h2 _)
  repeat still_step
  still_call (h3 _)
  repeat still_step
  still_call (h4 _)
  repeat still_step
  refine wpStill_nil ?_
  change wpList _ _ _ _ _ wA.drew
  clear c0 c1 c2 c3 e0 e1 e2 e3
  rw [HWA.out]
  go_wp2_with fail
  exact bodyPost_ret (by simp [results, Tryd.results39, go_sem]) rfl ⟨rfl, ((((Below.refl _ _).alloc (Nat.le_refl _) _).alloc (by simp) _).alloc (by simp; omega) _).drew⟩
end Go.Proofs.YtflaklceejokhaaDoor.tree
