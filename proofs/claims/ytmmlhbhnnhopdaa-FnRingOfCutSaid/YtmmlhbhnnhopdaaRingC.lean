/-
  Contracts: a place of a sequence.
-/
import Derived.Test.YtmmlhbhnnhopdaaRingB
import Derived.Deep.RegionHeld3
namespace Go.Proofs.Ytmmlhbhnnhopdaa.ring
open Go.ChangeShapes Go.WideShapes Go.ChangeAt Go.RowKit
open Go.Proofs.Ytmmlhbhnnhopdaa.mem
set_option linter.unusedVariables false
set_option linter.unusedSimpArgs false

theorem cells5 {w : World} {g : Nat} {t : TypeId} {a b c d e : Value} (h : Blk w g t #[a, b, c, d, e]) :
    w.cell? ⟨g, 0, none⟩ = some a ∧ w.cell? ⟨g, 1, none⟩ = some b ∧ w.cell? ⟨g, 2, none⟩ = some c ∧ w.cell? ⟨g, 3, none⟩ = some d ∧ w.cell? ⟨g, 4, none⟩ = some e ∧
    w.frozen? ⟨g, 0, none⟩ = false ∧ w.frozen? ⟨g, 1, none⟩ = false ∧ w.frozen? ⟨g, 2, none⟩ = false ∧ w.frozen? ⟨g, 3, none⟩ = false ∧ w.frozen? ⟨g, 4, none⟩ = false ∧ g < w.heap.size :=
  ⟨h.cell 0, h.cell 1, h.cell 2, h.cell 3, h.cell 4, h.frozen 0 (show 0 < 5 by omega), h.frozen 1 (show 1 < 5 by omega), h.frozen 2 (show 2 < 5 by omega), h.frozen 3 (show 3 < 5 by omega), h.frozen 4 (show 4 < 5 by omega), h.lt⟩

theorem set5 {B g : Nat} {w w1 : World} (h : Below B w w1) (hg : B ≤ g) (a b c d e : Value) :
    Below B w (((((w1.setCell ⟨g, 0, none⟩ a).setCell ⟨g, 1, none⟩ b).setCell ⟨g, 2, none⟩ c).setCell ⟨g, 3, none⟩ d).setCell ⟨g, 4, none⟩ e) :=
  ((((h.setCell hg _).setCell hg _).setCell hg _).setCell hg _).setCell hg _

theorem keep4 {wA w' : World} {g b p q c n : Nat} {A : Option Addr} {x y : Nat} (hb : Below wA.heap.size wA w') (hB : Blk wA g 45 #[.int .u8 0, .slice A n c])
    (hlt : b < wA.heap.size) (hx : wA.cell? ⟨b, p, none⟩ = some (.float .f64 x)) (hy : wA.cell? ⟨b, q, none⟩ = some (.float .f64 y)) :
    Below wA.heap.size wA w' ∧ w'.cell? ⟨g, 0, none⟩ = some (.int .u8 0) ∧ w'.cell? ⟨g, 1, none⟩ = some (.slice A n c) ∧ w'.cell? ⟨b, p, none⟩ = some (.float .f64 x) ∧ w'.cell? ⟨b, q, none⟩ = some (.float .f64 y) := by
  have hB' := hB.below hb hB.lt
  exact ⟨hb, hB'.cell 0, hB'.cell 1, (hb.cell (p := ⟨b, p, none⟩) hlt).trans hx, (hb.cell (p := ⟨b, q, none⟩) hlt).trans hy⟩

set_option maxHeartbeats 4000000 in
theorem get_calls (b off n c i x y : Nat) (hn : n ≤ 1000000) (hi : 2 * i + 1 < n) (w : World) (hlt : b < w.heap.size) (hx : w.cell? ⟨b, off + i * 2, none⟩ = some (.float .f64 x)) (hy : w.cell? ⟨b, off + (i * 2 + 1), none⟩ = some (.float .f64 y)) :
    Calls Try.prog 25 #[.agg #[.int .u8 0, .slice (some ⟨b, off, none⟩) n c], .int .i64 i] w fun e w' => e = .returned (.agg #[.float .f64 x, .float .f64 y, .float .f64 0, .float .f64 0, .int .u8 0]) ∧ Below w.heap.size w w' := by
  obtain ⟨wA, hwA⟩ : ∃ wA, wA = (w.alloc (.cells #[.int .u8 0, .slice (some ⟨b, off, none⟩) n c] 45)).alloc (.cells #[.float .f64 0, .float .f64 0, .float .f64 0, .float .f64 0, .int .u8 0] 56) := ⟨_, rfl⟩
  have hbl : Below w.heap.size w wA := by rw [hwA]; exact ((Below.refl _ _).alloc (Nat.le_refl _) _).alloc (by simp) _
  have hB : Blk wA w.heap.size 45 #[.int .u8 0, .slice (some ⟨b, off, none⟩) n c] := by rw [hwA]; exact (Blk.new _ _ _).alloc _
  have hD : Blk wA (w.heap.size + 1) 56 #[.float .f64 0, .float .f64 0, .float .f64 0, .float .f64 0, .int .u8 0] := by
    rw [hwA]
    have := Blk.new (w.alloc (.cells #[.int .u8 0, .slice (some ⟨b, off, none⟩) n c] 45)) 56 #[.float .f64 0, .float .f64 0, .float .f64 0, .float .f64 0, .int .u8 0]
    simpa using this
  have hx' := (hbl.cell (p := ⟨b, off + i * 2, none⟩) hlt).trans hx
  have hy' := (hbl.cell (p := ⟨b, off + (i * 2 + 1), none⟩) hlt).trans hy
  have hlt' : b < wA.heap.size := Nat.lt_of_lt_of_le hlt hbl.size
  obtain ⟨c0, c1, -, -, -⟩ := cells2 hB
  have HX := Lib.hid hx'
  have HY := Lib.hid hy'
  have HB := Lib.hid hB
  have HD := Lib.hid hD
  have HBL := Lib.hid hbl
  have HWA := Lib.hid hwA
  have hA0 := (Below.refl wA.heap.size wA).drew
  have hd := dim_calls
  have w1 : IntKind.i64.wrap ((i : Int) * 2) = (i : Int) * 2 := IntWalk.i64_in _ (by omega)
  have w2 : IntKind.i64.wrap ((i : Int) * 2 + 1) = (i : Int) * 2 + 1 := IntWalk.i64_in _ (by omega)
  have b1 : (0 : Int) ≤ (i : Int) * 2 := by omega
  have b2 : (i : Int) * 2 < (n : Int) := by omega
  have b3 : (0 : Int) ≤ (i : Int) * 2 + 1 := by omega
  have b4 : (i : Int) * 2 + 1 < (n : Int) := by omega
  have t1 : ((i : Int) * 2).toNat = i * 2 := by omega
  have t2 : ((i : Int) * 2 + 1).toNat = i * 2 + 1 := by omega
  clear hx hy hwA hB hD hbl
  go_enter Try.func25, Try.ntmps25
  go_wp2_with fail
  rw [← HWA.out]
  refine (hd _).mono ?_
  rintro e w9 ⟨rfl, hw9⟩
  replace hw9 := hw9.symm
  subst hw9
  go_wp2_with fail
  go_region_held3 (fun w' => Below wA.heap.size wA w' ∧ w'.cell? ⟨w.heap.size, 0, none⟩ = some (.int .u8 0) ∧ w'.cell? ⟨w.heap.size, 1, none⟩ = some (.slice (some ⟨b, off, none⟩) n c) ∧ w'.cell? ⟨b, off + i * 2, none⟩ = some (.float .f64 x) ∧ w'.cell? ⟨b, off + (i * 2 + 1), none⟩ = some (.float .f64 y))
    (first
      | exact keep4 (Below.refl _ _).drew HB.out hlt' HX.out HY.out
      | exact keep4 (hA0.alloc hA0.size _) HB.out hlt' HX.out HY.out
      )
    (first | fail | fail)
  obtain ⟨s0, s1, s2, s3, s4, g0, g1, g2, g3, g4, hl⟩ := cells5 HD.out
  clear w1 w2 b1 b2 b3 b4 t1 t2 hA0 hd
  go_wp2_with fail
  have hx : w.heap.size ≤ w.heap.size + 1 := by omega
  refine bodyPost_ret (v := .agg #[.float .f64 x, .float .f64 y, .float .f64 0, .float .f64 0, .int .u8 0]) ?_ rfl ⟨rfl, ?_⟩
  · simp [results, Try.results25, go_sem, s0, s1, s2, s3, s4, hl]
  · exact ((set5 HBL.out hx _ _ _ _ _).alloc (set5 HBL.out hx _ _ _ _ _).size _).drew
end Go.Proofs.Ytmmlhbhnnhopdaa.ring
