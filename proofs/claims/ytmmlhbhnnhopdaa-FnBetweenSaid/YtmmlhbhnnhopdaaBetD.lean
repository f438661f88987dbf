/-
  Contracts: the conversions; the way between two places.
-/
import Derived.Test.YtmmlhbhnnhopdaaBetC
import Derived.Deep.RegionHeld3
import Derived.StillTailTactics
namespace Go.Proofs.Ytmmlhbhnnhopdaa.bet
open Go.ChangeShapes Go.WideShapes Go.ChangeAt Go.RowKit
open Go.Proofs.Ytmmlhbhnnhopdaa.mem Go.Proofs.Ytmmlhbhnnhopdaa.flt Go.Proofs.Ytmmlhbhnnhopdaa.betp
set_option linter.unusedVariables false
set_option linter.unusedSimpArgs false

set_option maxHeartbeats 4000000 in
theorem dimOf_calls (d : Int) (hd : 0 ≤ d ∧ d ≤ 3) (w : World) : Calls Try.prog 31 #[.int .i64 d] w fun e w' => e = .returned (.int .u8 d) ∧ w' = w := by
  rcases (by omega : d = 0 ∨ d = 1 ∨ d = 2 ∨ d = 3) with rfl | rfl | rfl | rfl
  all_goals
    go_enter Try.func31, Try.ntmps31
    go_wp2_with fail
    exact bodyPost_ret (by simp [results, go_sem]; try rfl) rfl ⟨rfl, rfl⟩

set_option maxHeartbeats 4000000 in
theorem coordinates_calls (x y z m : Nat) (d : Int) (hd : 0 ≤ d ∧ d ≤ 3) (w : World) :
    Calls Try.prog 20 #[.agg #[.float .f64 x, .float .f64 y, .float .f64 z, .float .f64 m, .int .i64 d]] w fun e w' =>
      e = .returned (.agg #[.float .f64 x, .float .f64 y, .float .f64 z, .float .f64 m, .int .u8 d]) ∧ Below w.heap.size w w' := by
  have hdim := dimOf_calls d hd
  obtain ⟨wA, hwA⟩ : ∃ wA, wA = (w.alloc (.cells #[.float .f64 x, .float .f64 y, .float .f64 z, .float .f64 m, .int .i64 d] 36)).alloc
    (.cells #[.float .f64 0, .float .f64 0, .float .f64 0, .float .f64 0, .int .u8 0] 56) := ⟨_, rfl⟩
  have hB : Blk wA w.heap.size 36 #[.float .f64 x, .float .f64 y, .float .f64 z, .float .f64 m, .int .i64 d] := by
    rw [hwA]; exact (Blk.new _ _ _).alloc _
  have c0 : wA.cell? ⟨w.heap.size, 0, none⟩ = some (.float .f64 x) := hB.cell 0
  have c1 : wA.cell? ⟨w.heap.size, 1, none⟩ = some (.float .f64 y) := hB.cell 1
  have c2 : wA.cell? ⟨w.heap.size, 2, none⟩ = some (.float .f64 z) := hB.cell 2
  have c3 : wA.cell? ⟨w.heap.size, 3, none⟩ = some (.float .f64 m) := hB.cell 3
  have c4 : wA.cell? ⟨w.heap.size, 4, none⟩ = some (.int .i64 d) := hB.cell 4
  have HWA := Lib.hid hwA
  clear hwA hB
  go_enter Try.func20, Try.ntmps20
  go_wp2_with fail
  rw [← HWA.out]
  go_still_tail 13, (by kernel_rfl)
  still_call (hdim _)
  repeat still_step
  refine wpStill_nil ?_
  change wpList _ _ _ _ _ wA.drew
  clear c0 c1 c2 c3 c4
  rw [HWA.out]
  go_wp2_with fail
  exact bodyPost_ret (by simp [results, Try.results20, go_sem]) rfl ⟨rfl, (((Below.refl _ _).alloc (Nat.le_refl _) _).alloc (by simp) _).drew⟩

def lin (A B j : Int) : Int := (64 * A + j * (B - A)) * 2 ^ E1068

set_option maxHeartbeats 8000000 in
theorem interp_calls (x y z m X Y Z M t : Nat) (x' y' z' m' X' Y' Z' M' j : Int) (d : Int) (hd : 0 ≤ d ∧ d ≤ 3) (hx : Wh x x') (hy : Wh y y') (hz : Wh z z') (hm : Wh m m') (hX : Wh X X') (hY : Wh Y Y') (hZ : Wh Z Z') (hM : Wh M M')
    (ht : FV t (j * 2 ^ E1068)) (hj : 0 ≤ j ∧ j ≤ 64) :
    ∃ r1 r2 r3 r4, FV r1 (lin x' X' j) ∧ FV r2 (lin y' Y' j) ∧ FV r3 (lin z' Z' j) ∧ FV r4 (lin m' M' j) ∧ ∀ w,
    Calls Try.prog 30 #[.agg #[.float .f64 x, .float .f64 y, .float .f64 z, .float .f64 m, .int .u8 d], .agg #[.float .f64 X, .float .f64 Y, .float .f64 Z, .float .f64 M, .int .u8 d], .float .f64 t] w fun e w' =>
      e = .returned (.agg #[.float .f64 r1, .float .f64 r2, .float .f64 r3, .float .f64 r4, .int .u8 d]) ∧ Below w.heap.size w w' := by
  obtain ⟨r1, f1, h1⟩ := lerp_calls x X t x' X' j hx hX ht hj
  obtain ⟨r2, f2, h2⟩ := lerp_calls y Y t y' Y' j hy hY ht hj
  obtain ⟨r3, f3, h3⟩ := lerp_calls z Z t z' Z' j hz hZ ht hj
  obtain ⟨r4, f4, h4⟩ := lerp_calls m M t m' M' j hm hM ht hj
  refine ⟨r1, r2, r3, r4, f1, f2, f3, f4, fun w => ?_⟩
  have hbits : bits .and .u8 d d = d := by
    rcases (by omega : d = 0 ∨ d = 1 ∨ d = 2 ∨ d = 3) with rfl | rfl | rfl | rfl <;> rfl
  clear f1 f2 f3 f4 hx hy hz hm hX hY hZ hM ht
  obtain ⟨wA, hwA⟩ : ∃ wA, wA = ((w.alloc (.cells #[.float .f64 x, .float .f64 y, .float .f64 z, .float .f64 m, .int .u8 d] 56)).alloc
    (.cells #[.float .f64 X, .float .f64 Y, .float .f64 Z, .float .f64 M, .int .u8 d] 56)).alloc
    (.cells #[.float .f64 0, .float .f64 0, .float .f64 0, .float .f64 0, .int .u8 0] 56) := ⟨_, rfl⟩
  have hB : Blk wA w.heap.size 56 #[.float .f64 x, .float .f64 y, .float .f64 z, .float .f64 m, .int .u8 d] := by
    rw [hwA]; exact ((Blk.new _ _ _).alloc _).alloc _
  have hC : Blk wA (w.heap.size + 1) 56 #[.float .f64 X, .float .f64 Y, .float .f64 Z, .float .f64 M, .int .u8 d] := by
    rw [hwA]
    have := Blk.new (w.alloc (.cells #[.float .f64 x, .float .f64 y, .float .f64 z, .float .f64 m, .int .u8 d] 56)) 56 #[.float .f64 X, .float .f64 Y, .float .f64 Z, .float .f64 M, .int .u8 d]
    rw [show (w.alloc (.cells #[.float .f64 x, .float .f64 y, .float .f64 z, .float .f64 m, .int .u8 d] 56)).heap.size = w.heap.size + 1 by simp] at this
    exact this.alloc _
  have c0 : wA.cell? ⟨w.heap.size, 0, none⟩ = some (.float .f64 x) := hB.cell 0
  have c1 : wA.cell? ⟨w.heap.size, 1, none⟩ = some (.float .f64 y) := hB.cell 1
  have c2 : wA.cell? ⟨w.heap.size, 2, none⟩ = some (.float .f64 z) := hB.cell 2
  have c3 : wA.cell? ⟨w.heap.size, 3, none⟩ = some (.float .f64 m) := hB.cell 3
  have c4 : wA.cell? ⟨w.heap.size, 4, none⟩ = some (.int .u8 d) := hB.cell 4
  have e0 : wA.cell? ⟨w.heap.size + 1, 0, none⟩ = some (.float .f64 X) := hC.cell 0
  have e1 : wA.cell? ⟨w.heap.size + 1, 1, none⟩ = some (.float .f64 Y) := hC.cell 1
  have e2 : wA.cell? ⟨w.heap.size + 1, 2, none⟩ = some (.float .f64 Z) := hC.cell 2
  have e3 : wA.cell? ⟨w.heap.size + 1, 3, none⟩ = some (.float .f64 M) := hC.cell 3
  have e4 : wA.cell? ⟨w.heap.size + 1, 4, none⟩ = some (.int .u8 d) := hC.cell 4
  have HWA := Lib.hid hwA
  clear hwA hB hC
  go_enter Try.func30, Try.ntmps30
  go_wp2_with fail
  rw [← HWA.out]
  go_still_tail 35, (by kernel_rfl)
  still_call (h1 _)
  repeat still_step
  still_call (h2 _)
  repeat still_step
  still_call (h3 _)
  repeat still_step
  still_call (h4 _)
  repeat still_step
  refine wpStill_nil ?_
  change wpList _ _ _ _ _ wA.drew
  clear c0 c1 c2 c3 c4 e0 e1 e2 e3 e4
  rw [HWA.out]
  go_wp2_with fail
  exact bodyPost_ret (by simp [results, Try.results30, go_sem, hbits]) rfl ⟨rfl, ((((Below.refl _ _).alloc (Nat.le_refl _) _).alloc (by simp) _).alloc (by simp; omega) _).drew⟩

set_option maxHeartbeats 8000000 in
theorem door_calls (cx cy rv : Array Value) (t : Nat) (w : World)
    (h : ∀ w, Calls Try.prog 30 #[.agg cx, .agg cy, .float .f64 t] w fun e w' => e = .returned (.agg rv) ∧ Below w.heap.size w w')
    (x y z m X Y Z M r1 r2 r3 r4 : Nat) (d : Int) (hx : cx = #[.float .f64 x, .float .f64 y, .float .f64 z, .float .f64 m, .int .u8 d]) (hy : cy = #[.float .f64 X, .float .f64 Y, .float .f64 Z, .float .f64 M, .int .u8 d])
    (hr : rv = #[.float .f64 r1, .float .f64 r2, .float .f64 r3, .float .f64 r4, .int .u8 d]) :
    Calls Try.prog 19 #[.agg cx, .agg cy, .float .f64 t] w fun e w' => e = .returned (.agg rv) ∧ Below w.heap.size w w' := by
  subst hx hy hr
  go_enter Try.func19, Try.ntmps19
  go_wp2_with fail
  refine (h _).mono ?_
  rintro e w1 ⟨rfl, hb1⟩
  have hB1 : Blk w1 (w.heap.size + 1 + 1) 56 #[.float .f64 0, .float .f64 0, .float .f64 0, .float .f64 0, .int .u8 0] := by
    refine Blk.below ?_ hb1 (by simp)
    have := Blk.new ((w.alloc (.cells #[.float .f64 x, .float .f64 y, .float .f64 z, .float .f64 m, .int .u8 d] 56)).alloc
      (.cells #[.float .f64 X, .float .f64 Y, .float .f64 Z, .float .f64 M, .int .u8 d] 56)) 56 #[.float .f64 0, .float .f64 0, .float .f64 0, .float .f64 0, .int .u8 0]
    simpa using this
  have hbl : Below w.heap.size w w1 := ((((Below.refl w.heap.size w).alloc (Nat.le_refl _) (.cells #[.float .f64 x, .float .f64 y, .float .f64 z, .float .f64 m, .int .u8 d] 56)).alloc (by simp)
    (.cells #[.float .f64 X, .float .f64 Y, .float .f64 Z, .float .f64 M, .int .u8 d] 56)).alloc (by simp; omega)
    (.cells #[.float .f64 0, .float .f64 0, .float .f64 0, .float .f64 0, .int .u8 0] 56)).trans (hb1.mono (by simp; omega))
  have c0 := hB1.cell 0
  have c1 := hB1.cell 1
  have c2 := hB1.cell 2
  have c3 := hB1.cell 3
  have c4 := hB1.cell 4
  simp only [List.getElem?_toArray, List.getElem?_cons_zero, List.getElem?_cons_succ] at c0 c1 c2 c3 c4
  have f0 := hB1.frozen 0 (by decide)
  have f1 := hB1.frozen 1 (by decide)
  have f2 := hB1.frozen 2 (by decide)
  have f3 := hB1.frozen 3 (by decide)
  have f4 := hB1.frozen 4 (by decide)
  have HBL := Lib.hid hbl
  have hlt := hB1.lt
  clear hb1 hB1 hbl h
  go_wp2_with fail
  exact bodyPost_ret (by simp [results, Try.results19, go_sem, c0, c1, c2, c3, c4, hlt]) rfl ⟨rfl, ((((HBL.out.setCell (by simp; omega) _).setCell (by simp; omega) _).setCell (by simp; omega) _).setCell (by simp; omega) _).setCell (by simp; omega) _⟩
end Go.Proofs.Ytmmlhbhnnhopdaa.bet
