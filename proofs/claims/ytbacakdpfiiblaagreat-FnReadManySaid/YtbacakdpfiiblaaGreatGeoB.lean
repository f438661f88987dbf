/-
  Contracts: a place of a sequence.
-/
import Derived.Test.YtbacakdpfiiblaaGreatGeoA
import Derived.Deep.RegionHeld3
namespace Go.Proofs.YtbacakdpfiiblaaGreat.geo
open Go.ChangeShapes Go.WideShapes Go.ChangeAt Go.RowKit
open Go.Proofs.YtbacakdpfiiblaaGreat.mem
set_option linter.unusedVariables false
set_option linter.unusedSimpArgs false

theorem set5 {B g : Nat} {w w1 : World} (h : Below B w w1) (hg : B ≤ g) (a b c d e : Value) :
    Below B w (((((w1.setCell ⟨g, 0, none⟩ a).setCell ⟨g, 1, none⟩ b).setCell ⟨g, 2, none⟩ c).setCell ⟨g, 3, none⟩ d).setCell ⟨g, 4, none⟩ e) :=
  ((((h.setCell hg _).setCell hg _).setCell hg _).setCell hg _).setCell hg _

theorem keepS {wA w' : World} {g b p q c n : Nat} {A : Option Addr} {x y d : Nat} (hb : Below wA.heap.size wA w') (hB : Blk wA g 81 #[.int .u8 d, .slice A n c])
    (hlt : b < wA.heap.size) (hx : wA.cell? ⟨b, p, none⟩ = some (.float .f64 x)) (hy : wA.cell? ⟨b, q, none⟩ = some (.float .f64 y)) :
    Below wA.heap.size wA w' ∧ w'.cell? ⟨g, 0, none⟩ = some (.int .u8 d) ∧ w'.cell? ⟨g, 1, none⟩ = some (.slice A n c) ∧ w'.cell? ⟨b, p, none⟩ = some (.float .f64 x) ∧ w'.cell? ⟨b, q, none⟩ = some (.float .f64 y) := by
  have hB' := hB.below hb hB.lt
  exact ⟨hb, hB'.cell 0, hB'.cell 1, (hb.cell (p := ⟨b, p, none⟩) hlt).trans hx, (hb.cell (p := ⟨b, q, none⟩) hlt).trans hy⟩

set_option maxHeartbeats 8000000 in
theorem get0 (b off n c i x y : Nat) (hn : n ≤ big) (hi : (i + 1) * 2 ≤ n) (w : World) (hlt : b < w.heap.size) (hx : w.cell? ⟨b, off + i * 2, none⟩ = some (.float .f64 x)) (hy : w.cell? ⟨b, off + (i * 2 + 1), none⟩ = some (.float .f64 y)) :
    Calls Tryz.prog 73 #[.agg #[.int .u8 0, .slice (some ⟨b, off, none⟩) n c], .int .i64 i] w fun e w' => e = .returned (.agg #[.float .f64 x, .float .f64 y, .float .f64 0, .float .f64 0, .int .u8 0]) ∧ Below w.heap.size w w' := by
  unfold big at hn
  obtain ⟨wA, hwA⟩ : ∃ wA, wA = (w.alloc (.cells #[.int .u8 0, .slice (some ⟨b, off, none⟩) n c] 81)).alloc (.cells #[.float .f64 0, .float .f64 0, .float .f64 0, .float .f64 0, .int .u8 0] 75) := ⟨_, rfl⟩
  have hbl : Below w.heap.size w wA := by rw [hwA]; exact ((Below.refl _ _).alloc (Nat.le_refl _) _).alloc (by simp) _
  have hB : Blk wA w.heap.size 81 #[.int .u8 0, .slice (some ⟨b, off, none⟩) n c] := by rw [hwA]; exact (Blk.new _ _ _).alloc _
  have hD : Blk wA (w.heap.size + 1) 75 #[.float .f64 0, .float .f64 0, .float .f64 0, .float .f64 0, .int .u8 0] := by
    rw [hwA]
    have := Blk.new (w.alloc (.cells #[.int .u8 0, .slice (some ⟨b, off, none⟩) n c] 81)) 75 #[.float .f64 0, .float .f64 0, .float .f64 0, .float .f64 0, .int .u8 0]
    simpa using this
  have hx' := (hbl.cell (p := ⟨b, off + i * 2, none⟩) hlt).trans hx
  have hy' := (hbl.cell (p := ⟨b, off + (i * 2 + 1), none⟩) hlt).trans hy
  have hlt' : b < wA.heap.size := Nat.lt_of_lt_of_le hlt hbl.size
  obtain ⟨c0, c1, -, -, -⟩ := cells2 hB
  have HX := Lib.hid hx'
  have HY := Lib.hid hy'
  have HB := Lib.hid hB
  have HD := Lib.hid hD
  have HBL := Lib.hid hbl
  have HWA := Lib.hid hwA
  have hA0 := (Below.refl wA.heap.size wA).drew
  have hd := dim0
  have u0 : IntKind.i64.wrap ((i : Int) * 2) = (i : Int) * 2 := IntWalk.i64_in _ (by omega)
  have b0 : (0 : Int) ≤ (i : Int) * 2 := by omega
  have d0 : (i : Int) * 2 < (n : Int) := by omega
  have t0 : ((i : Int) * 2).toNat = i * 2 := by omega
  have u1 : IntKind.i64.wrap ((i : Int) * 2 + 1) = (i : Int) * 2 + 1 := IntWalk.i64_in _ (by omega)
  have b1 : (0 : Int) ≤ (i : Int) * 2 + 1 := by omega
  have d1 : (i : Int) * 2 + 1 < (n : Int) := by omega
  have t1 : ((i : Int) * 2 + 1).toNat = i * 2 + 1 := by omega
  clear hwA hB hD hbl hlt hx hx' hy hy'
  go_enter Tryz.func73, Tryz.ntmps73
  go_wp2_with fail
  rw [← HWA.out]
  refine (hd _).mono ?_
  rintro e w9 ⟨rfl, hw9⟩
  replace hw9 := hw9.symm
  subst hw9
  go_wp2_with fail
  go_region_held3 (fun w' => Below wA.heap.size wA w' ∧ w'.cell? ⟨w.heap.size, 0, none⟩ = some (.int .u8 0) ∧ w'.cell? ⟨w.heap.size, 1, none⟩ = some (.slice (some ⟨b, off, none⟩) n c) ∧ w'.cell? ⟨b, off + i * 2, none⟩ = some (.float .f64 x) ∧ w'.cell? ⟨b, off + (i * 2 + 1), none⟩ = some (.float .f64 y))
    (first
      | exact keepS (Below.refl _ _).drew HB.out hlt' HX.out HY.out
      | exact keepS (hA0.alloc hA0.size _) HB.out hlt' HX.out HY.out)
    (first | fail | fail)
  obtain ⟨s0, s1, s2, s3, s4, g0, g1, g2, g3, g4, hl⟩ := cells5 HD.out
  clear u0 u1 hA0 hd
  have hs1 : w.heap.size < wA.heap.size := by omega
  have hs2 : w.heap.size ≠ wA.heap.size := by omega
  have hs3 : b ≠ wA.heap.size := by omega
  go_wp2_with fail
  have hx : w.heap.size ≤ w.heap.size + 1 := by omega
  refine bodyPost_ret (v := .agg #[.float .f64 x, .float .f64 y, .float .f64 0, .float .f64 0, .int .u8 0]) ?_ rfl ⟨rfl, ?_⟩
  · simp [results, Tryz.results73, go_sem, s0, s1, s2, s3, s4, hl]
  · exact ((set5 HBL.out hx _ _ _ _ _).alloc (set5 HBL.out hx _ _ _ _ _).size _).drew

set_option maxHeartbeats 8000000 in
theorem get1 (b off n c i x y z : Nat) (hn : n ≤ big) (hi : (i + 1) * 3 ≤ n) (w : World) (hlt : b < w.heap.size) (hx : w.cell? ⟨b, off + i * 3, none⟩ = some (.float .f64 x)) (hy : w.cell? ⟨b, off + (i * 3 + 1), none⟩ = some (.float .f64 y)) (hz : w.cell? ⟨b, off + (i * 3 + 2), none⟩ = some (.float .f64 z)) :
    Calls Tryz.prog 73 #[.agg #[.int .u8 1, .slice (some ⟨b, off, none⟩) n c], .int .i64 i] w fun e w' => e = .returned (.agg #[.float .f64 x, .float .f64 y, .float .f64 z, .float .f64 0, .int .u8 1]) ∧ Below w.heap.size w w' := by
  unfold big at hn
  obtain ⟨wA, hwA⟩ : ∃ wA, wA = (w.alloc (.cells #[.int .u8 1, .slice (some ⟨b, off, none⟩) n c] 81)).alloc (.cells #[.float .f64 0, .float .f64 0, .float .f64 0, .float .f64 0, .int .u8 0] 75) := ⟨_, rfl⟩
  have hbl : Below w.heap.size w wA := by rw [hwA]; exact ((Below.refl _ _).alloc (Nat.le_refl _) _).alloc (by simp) _
  have hB : Blk wA w.heap.size 81 #[.int .u8 1, .slice (some ⟨b, off, none⟩) n c] := by rw [hwA]; exact (Blk.new _ _ _).alloc _
  have hD : Blk wA (w.heap.size + 1) 75 #[.float .f64 0, .float .f64 0, .float .f64 0, .float .f64 0, .int .u8 0] := by
    rw [hwA]
    have := Blk.new (w.alloc (.cells #[.int .u8 1, .slice (some ⟨b, off, none⟩) n c] 81)) 75 #[.float .f64 0, .float .f64 0, .float .f64 0, .float .f64 0, .int .u8 0]
    simpa using this
  have hx' := (hbl.cell (p := ⟨b, off + i * 3, none⟩) hlt).trans hx
  have hy' := (hbl.cell (p := ⟨b, off + (i * 3 + 1), none⟩) hlt).trans hy
  have hz' := (hbl.cell (p := ⟨b, off + (i * 3 + 2), none⟩) hlt).trans hz
  have hlt' : b < wA.heap.size := Nat.lt_of_lt_of_le hlt hbl.size
  obtain ⟨c0, c1, -, -, -⟩ := cells2 hB
  have HX := Lib.hid hx'
  have HY := Lib.hid hy'
  have HZ := Lib.hid hz'
  have HB := Lib.hid hB
  have HD := Lib.hid hD
  have HBL := Lib.hid hbl
  have HWA := Lib.hid hwA
  have hA0 := (Below.refl wA.heap.size wA).drew
  have hd := dim1
  have u0 : IntKind.i64.wrap ((i : Int) * 3) = (i : Int) * 3 := IntWalk.i64_in _ (by omega)
  have b0 : (0 : Int) ≤ (i : Int) * 3 := by omega
  have d0 : (i : Int) * 3 < (n : Int) := by omega
  have t0 : ((i : Int) * 3).toNat = i * 3 := by omega
  have u1 : IntKind.i64.wrap ((i : Int) * 3 + 1) = (i : Int) * 3 + 1 := IntWalk.i64_in _ (by omega)
  have b1 : (0 : Int) ≤ (i : Int) * 3 + 1 := by omega
  have d1 : (i : Int) * 3 + 1 < (n : Int) := by omega
  have t1 : ((i : Int) * 3 + 1).toNat = i * 3 + 1 := by omega
  have b2 : (0 : Int) ≤ (i : Int) * 3 + 2 := by omega
  have d2 : (i : Int) * 3 + 2 < (n : Int) := by omega
  have t2 : ((i : Int) * 3 + 2).toNat = i * 3 + 2 := by omega
  clear hwA hB hD hbl hlt hx hx' hy hy' hz hz'
  go_enter Tryz.func73, Tryz.ntmps73
  go_wp2_with fail
  rw [← HWA.out]
  refine (hd _).mono ?_
  rintro e w9 ⟨rfl, hw9⟩
  replace hw9 := hw9.symm
  subst hw9
  go_wp2_with fail
  go_region_held3 (fun w' => Below wA.heap.size wA w' ∧ w'.cell? ⟨w.heap.size, 0, none⟩ = some (.int .u8 1) ∧ w'.cell? ⟨w.heap.size, 1, none⟩ = some (.slice (some ⟨b, off, none⟩) n c) ∧ w'.cell? ⟨b, off + i * 3, none⟩ = some (.float .f64 x) ∧ w'.cell? ⟨b, off + (i * 3 + 1), none⟩ = some (.float .f64 y))
    (first
      | exact keepS (Below.refl _ _).drew HB.out hlt' HX.out HY.out
      | exact keepS (hA0.alloc hA0.size _) HB.out hlt' HX.out HY.out)
    (first | fail | fail)
  obtain ⟨s0, s1, s2, s3, s4, g0, g1, g2, g3, g4, hl⟩ := cells5 HD.out
  clear u0 u1 hA0 hd
  have fz := HZ.out
  have hs1 : w.heap.size < wA.heap.size := by omega
  have hs2 : w.heap.size ≠ wA.heap.size := by omega
  have hs3 : b ≠ wA.heap.size := by omega
  go_wp2_with fail
  have hx : w.heap.size ≤ w.heap.size + 1 := by omega
  refine bodyPost_ret (v := .agg #[.float .f64 x, .float .f64 y, .float .f64 z, .float .f64 0, .int .u8 1]) ?_ rfl ⟨rfl, ?_⟩
  · simp [results, Tryz.results73, go_sem, s0, s1, s2, s3, s4, hl]
  · exact ((set5 HBL.out hx _ _ _ _ _).alloc (set5 HBL.out hx _ _ _ _ _).size _).drew

set_option maxHeartbeats 8000000 in
theorem get2 (b off n c i x y m : Nat) (hn : n ≤ big) (hi : (i + 1) * 3 ≤ n) (w : World) (hlt : b < w.heap.size) (hx : w.cell? ⟨b, off + i * 3, none⟩ = some (.float .f64 x)) (hy : w.cell? ⟨b, off + (i * 3 + 1), none⟩ = some (.float .f64 y)) (hm : w.cell? ⟨b, off + (i * 3 + 2), none⟩ = some (.float .f64 m)) :
    Calls Tryz.prog 73 #[.agg #[.int .u8 2, .slice (some ⟨b, off, none⟩) n c], .int .i64 i] w fun e w' => e = .returned (.agg #[.float .f64 x, .float .f64 y, .float .f64 0, .float .f64 m, .int .u8 2]) ∧ Below w.heap.size w w' := by
  unfold big at hn
  obtain ⟨wA, hwA⟩ : ∃ wA, wA = (w.alloc (.cells #[.int .u8 2, .slice (some ⟨b, off, none⟩) n c] 81)).alloc (.cells #[.float .f64 0, .float .f64 0, .float .f64 0, .float .f64 0, .int .u8 0] 75) := ⟨_, rfl⟩
  have hbl : Below w.heap.size w wA := by rw [hwA]; exact ((Below.refl _ _).alloc (Nat.le_refl _) _).alloc (by simp) _
  have hB : Blk wA w.heap.size 81 #[.int .u8 2, .slice (some ⟨b, off, none⟩) n c] := by rw [hwA]; exact (Blk.new _ _ _).alloc _
  have hD : Blk wA (w.heap.size + 1) 75 #[.float .f64 0, .float .f64 0, .float .f64 0, .float .f64 0, .int .u8 0] := by
    rw [hwA]
    have := Blk.new (w.alloc (.cells #[.int .u8 2, .slice (some ⟨b, off, none⟩) n c] 81)) 75 #[.float .f64 0, .float .f64 0, .float .f64 0, .float .f64 0, .int .u8 0]
    simpa using this
  have hx' := (hbl.cell (p := ⟨b, off + i * 3, none⟩) hlt).trans hx
  have hy' := (hbl.cell (p := ⟨b, off + (i * 3 + 1), none⟩) hlt).trans hy
  have hm' := (hbl.cell (p := ⟨b, off + (i * 3 + 2), none⟩) hlt).trans hm
  have hlt' : b < wA.heap.size := Nat.lt_of_lt_of_le hlt hbl.size
  obtain ⟨c0, c1, -, -, -⟩ := cells2 hB
  have HX := Lib.hid hx'
  have HY := Lib.hid hy'
  have HM := Lib.hid hm'
  have HB := Lib.hid hB
  have HD := Lib.hid hD
  have HBL := Lib.hid hbl
  have HWA := Lib.hid hwA
  have hA0 := (Below.refl wA.heap.size wA).drew
  have hd := dim2
  have u0 : IntKind.i64.wrap ((i : Int) * 3) = (i : Int) * 3 := IntWalk.i64_in _ (by omega)
  have b0 : (0 : Int) ≤ (i : Int) * 3 := by omega
  have d0 : (i : Int) * 3 < (n : Int) := by omega
  have t0 : ((i : Int) * 3).toNat = i * 3 := by omega
  have u1 : IntKind.i64.wrap ((i : Int) * 3 + 1) = (i : Int) * 3 + 1 := IntWalk.i64_in _ (by omega)
  have b1 : (0 : Int) ≤ (i : Int) * 3 + 1 := by omega
  have d1 : (i : Int) * 3 + 1 < (n : Int) := by omega
  have t1 : ((i : Int) * 3 + 1).toNat = i * 3 + 1 := by omega
  have b2 : (0 : Int) ≤ (i : Int) * 3 + 2 := by omega
  have d2 : (i : Int) * 3 + 2 < (n : Int) := by omega
  have t2 : ((i : Int) * 3 + 2).toNat = i * 3 + 2 := by omega
  clear hwA hB hD hbl hlt hx hx' hy hy' hm hm'
  go_enter Tryz.func73, Tryz.ntmps73
  go_wp2_with fail
  rw [← HWA.out]
  refine (hd _).mono ?_
  rintro e w9 ⟨rfl, hw9⟩
  replace hw9 := hw9.symm
  subst hw9
  go_wp2_with fail
  go_region_held3 (fun w' => Below wA.heap.size wA w' ∧ w'.cell? ⟨w.heap.size, 0, none⟩ = some (.int .u8 2) ∧ w'.cell? ⟨w.heap.size, 1, none⟩ = some (.slice (some ⟨b, off, none⟩) n c) ∧ w'.cell? ⟨b, off + i * 3, none⟩ = some (.float .f64 x) ∧ w'.cell? ⟨b, off + (i * 3 + 1), none⟩ = some (.float .f64 y))
    (first
      | exact keepS (Below.refl _ _).drew HB.out hlt' HX.out HY.out
      | exact keepS (hA0.alloc hA0.size _) HB.out hlt' HX.out HY.out)
    (first | fail | fail)
  obtain ⟨s0, s1, s2, s3, s4, g0, g1, g2, g3, g4, hl⟩ := cells5 HD.out
  clear u0 u1 hA0 hd
  have fm := HM.out
  have hs1 : w.heap.size < wA.heap.size := by omega
  have hs2 : w.heap.size ≠ wA.heap.size := by omega
  have hs3 : b ≠ wA.heap.size := by omega
  go_wp2_with fail
  have hx : w.heap.size ≤ w.heap.size + 1 := by omega
  refine bodyPost_ret (v := .agg #[.float .f64 x, .float .f64 y, .float .f64 0, .float .f64 m, .int .u8 2]) ?_ rfl ⟨rfl, ?_⟩
  · simp [results, Tryz.results73, go_sem, s0, s1, s2, s3, s4, hl]
  · exact ((set5 HBL.out hx _ _ _ _ _).alloc (set5 HBL.out hx _ _ _ _ _).size _).drew

set_option maxHeartbeats 8000000 in
theorem get3 (b off n c i x y z m : Nat) (hn : n ≤ big) (hi : (i + 1) * 4 ≤ n) (w : World) (hlt : b < w.heap.size) (hx : w.cell? ⟨b, off + i * 4, none⟩ = some (.float .f64 x)) (hy : w.cell? ⟨b, off + (i * 4 + 1), none⟩ = some (.float .f64 y)) (hz : w.cell? ⟨b, off + (i * 4 + 2), none⟩ = some (.float .f64 z)) (hm : w.cell? ⟨b, off + (i * 4 + 3), none⟩ = some (.float .f64 m)) :
    Calls Tryz.prog 73 #[.agg #[.int .u8 3, .slice (some ⟨b, off, none⟩) n c], .int .i64 i] w fun e w' => e = .returned (.agg #[.float .f64 x, .float .f64 y, .float .f64 z, .float .f64 m, .int .u8 3]) ∧ Below w.heap.size w w' := by
  unfold big at hn
  obtain ⟨wA, hwA⟩ : ∃ wA, wA = (w.alloc (.cells #[.int .u8 3, .slice (some ⟨b, off, none⟩) n c] 81)).alloc (.cells #[.float .f64 0, .float .f64 0, .float .f64 0, .float .f64 0, .int .u8 0] 75) := ⟨_, rfl⟩
  have hbl : Below w.heap.size w wA := by rw [hwA]; exact ((Below.refl _ _).alloc (Nat.le_refl _) _).alloc (by simp) _
  have hB : Blk wA w.heap.size 81 #[.int .u8 3, .slice (some ⟨b, off, none⟩) n c] := by rw [hwA]; exact (Blk.new _ _ _).alloc _
  have hD : Blk wA (w.heap.size + 1) 75 #[.float .f64 0, .float .f64 0, .float .f64 0, .float .f64 0, .int .u8 0] := by
    rw [hwA]
    have := Blk.new (w.alloc (.cells #[.int .u8 3, .slice (some ⟨b, off, none⟩) n c] 81)) 75 #[.float .f64 0, .float .f64 0, .float .f64 0, .float .f64 0, .int .u8 0]
    simpa using this
  have hx' := (hbl.cell (p := ⟨b, off + i * 4, none⟩) hlt).trans hx
  have hy' := (hbl.cell (p := ⟨b, off + (i * 4 + 1), none⟩) hlt).trans hy
  have hz' := (hbl.cell (p := ⟨b, off + (i * 4 + 2), none⟩) hlt).trans hz
  have hm' := (hbl.cell (p := ⟨b, off + (i * 4 + 3), none⟩) hlt).trans hm
  have hlt' : b < wA.heap.size := Nat.lt_of_lt_of_le hlt hbl.size
  obtain ⟨c0, c1, -, -, -⟩ := cells2 hB
  have HX := Lib.hid hx'
  have HY := Lib.hid hy'
  have HZ := Lib.hid hz'
  have HM := Lib.hid hm'
  have HB := Lib.hid hB
  have HD := Lib.hid hD
  have HBL := Lib.hid hbl
  have HWA := Lib.hid hwA
  have hA0 := (Below.refl wA.heap.size wA).drew
  have hd := dim3
  have u0 : IntKind.i64.wrap ((i : Int) * 4) = (i : Int) * 4 := IntWalk.i64_in _ (by omega)
  have b0 : (0 : Int) ≤ (i : Int) * 4 := by omega
  have d0 : (i : Int) * 4 < (n : Int) := by omega
  have t0 : ((i : Int) * 4).toNat = i * 4 := by omega
  have u1 : IntKind.i64.wrap ((i : Int) * 4 + 1) = (i : Int) * 4 + 1 := IntWalk.i64_in _ (by omega)
  have b1 : (0 : Int) ≤ (i : Int) * 4 + 1 := by omega
  have d1 : (i : Int) * 4 + 1 < (n : Int) := by omega
  have t1 : ((i : Int) * 4 + 1).toNat = i * 4 + 1 := by omega
  have b2 : (0 : Int) ≤ (i : Int) * 4 + 2 := by omega
  have d2 : (i : Int) * 4 + 2 < (n : Int) := by omega
  have t2 : ((i : Int) * 4 + 2).toNat = i * 4 + 2 := by omega
  have b3 : (0 : Int) ≤ (i : Int) * 4 + 3 := by omega
  have d3 : (i : Int) * 4 + 3 < (n : Int) := by omega
  have t3 : ((i : Int) * 4 + 3).toNat = i * 4 + 3 := by omega
  clear hwA hB hD hbl hlt hx hx' hy hy' hz hz' hm hm'
  go_enter Tryz.func73, Tryz.ntmps73
  go_wp2_with fail
  rw [← HWA.out]
  refine (hd _).mono ?_
  rintro e w9 ⟨rfl, hw9⟩
  replace hw9 := hw9.symm
  subst hw9
  go_wp2_with fail
  go_region_held3 (fun w' => Below wA.heap.size wA w' ∧ w'.cell? ⟨w.heap.size, 0, none⟩ = some (.int .u8 3) ∧ w'.cell? ⟨w.heap.size, 1, none⟩ = some (.slice (some ⟨b, off, none⟩) n c) ∧ w'.cell? ⟨b, off + i * 4, none⟩ = some (.float .f64 x) ∧ w'.cell? ⟨b, off + (i * 4 + 1), none⟩ = some (.float .f64 y))
    (first
      | exact keepS (Below.refl _ _).drew HB.out hlt' HX.out HY.out
      | exact keepS (hA0.alloc hA0.size _) HB.out hlt' HX.out HY.out)
    (first | fail | fail)
  obtain ⟨s0, s1, s2, s3, s4, g0, g1, g2, g3, g4, hl⟩ := cells5 HD.out
  clear u0 u1 hA0 hd
  have fz := HZ.out
  have fm := HM.out
  have hs1 : w.heap.size < wA.heap.size := by omega
  have hs2 : w.heap.size ≠ wA.heap.size := by omega
  have hs3 : b ≠ wA.heap.size := by omega
  go_wp2_with fail
  have hx : w.heap.size ≤ w.heap.size + 1 := by omega
  refine bodyPost_ret (v := .agg #[.float .f64 x, .float .f64 y, .float .f64 z, .float .f64 m, .int .u8 3]) ?_ rfl ⟨rfl, ?_⟩
  · simp [results, Tryz.results73, go_sem, s0, s1, s2, s3, s4, hl]
  · exact ((set5 HBL.out hx _ _ _ _ _).alloc (set5 HBL.out hx _ _ _ _ _).size _).drew

theorem get_calls {d : Nat} (hd : d < 4) {A : Option Addr} {n c i : Nat} {ns : List Nat} {w : World} (hA : Sl w w.heap.size A n 1 (FL ns)) (hn : n ≤ big) (hi : (i + 1) * wd d ≤ n) :
    Calls Tryz.prog 73 #[.agg #[.int .u8 d, .slice A n c], .int .i64 i] w fun e w' => e = .returned (.agg #[.float .f64 (plAt d ns i).x, .float .f64 (plAt d ns i).y, .float .f64 (plAt d ns i).z, .float .f64 (plAt d ns i).m, .int .u8 d]) ∧ Below w.heap.size w w' := by
  have h2 := wd_two d
  have hl : ns.length = n := by have := hA.1; rw [FL_len] at this; omega
  rw [Nat.succ_mul] at hi
  obtain ⟨b, off, rfl, hb, hc⟩ := hA.2.2 (by omega)
  have cell : ∀ j, j < n → w.cell? ⟨b, off + j, none⟩ = some (.float .f64 (ns.getD j 0)) := fun j hj => hc j _ (FL_get (by omega))
  obtain rfl | rfl | rfl | rfl := four hd
  · have hi2 : i * 2 + 2 ≤ n := hi
    exact get0 b off n c i _ _ hn (by omega) w hb (cell (i * 2) (by omega)) (cell (i * 2 + 1) (by omega))
  · have hi2 : i * 3 + 3 ≤ n := hi
    exact get1 b off n c i _ _ _ hn (by omega) w hb (cell (i * 3) (by omega)) (cell (i * 3 + 1) (by omega)) (cell (i * 3 + 2) (by omega))
  · have hi2 : i * 3 + 3 ≤ n := hi
    exact get2 b off n c i _ _ _ hn (by omega) w hb (cell (i * 3) (by omega)) (cell (i * 3 + 1) (by omega)) (cell (i * 3 + 2) (by omega))
  · have hi2 : i * 4 + 4 ≤ n := hi
    exact get3 b off n c i _ _ _ _ hn (by omega) w hb (cell (i * 4) (by omega)) (cell (i * 4 + 1) (by omega)) (cell (i * 4 + 2) (by omega)) (cell (i * 4 + 3) (by omega))
end Go.Proofs.YtbacakdpfiiblaaGreat.geo
