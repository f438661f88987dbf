/-
  Contracts: a place of the package, made of numbers; a point.
-/
import Derived.Test.YtpfgdfgifdbijaaDoorGeoP
import Derived.Test.YtpfgdfgifdbijaaDoorApp
import Derived.Deep.RegionHeld3
import Derived.StillTailTactics
namespace Go.Proofs.YtpfgdfgifdbijaaDoor.pt
open Go.ChangeShapes Go.WideShapes Go.ChangeAt Go.RowKit
open Go.Proofs.YtpfgdfgifdbijaaDoor.mem Go.Proofs.YtpfgdfgifdbijaaDoor.geo
set_option linter.unusedVariables false
set_option linter.unusedSimpArgs false

def Gives (w : World) (v : Value) (e : Ending) (w' : World) : Prop := e = .returned v ∧ Below w.heap.size w w'
def FL (fs : List Nat) : List Value := fs.map (fun b => .float .f64 b)
theorem FL_len (fs : List Nat) : (FL fs).length = fs.length := by simp [FL]
theorem FL_one (fs : List Nat) : ∀ v ∈ FL fs, v.oneCell' = true := by
  intro v hv
  simp only [FL, List.mem_map] at hv
  obtain ⟨b, _, rfl⟩ := hv
  rfl
theorem FL_app (a b : List Nat) : FL (a ++ b) = FL a ++ FL b := by simp [FL]
theorem FL_get {fs : List Nat} {k : Nat} (h : k < fs.length) : (FL fs)[k]? = some (.float .f64 (fs.getD k 0)) := by
  unfold FL
  rw [List.getElem?_map, List.getD_eq_getElem?_getD, List.getElem?_eq_getElem h]; rfl
theorem cells2 {w : World} {g : Nat} {t : TypeId} {a b : Value} (h : Blk w g t #[a, b]) :
    w.cell? ⟨g, 0, none⟩ = some a ∧ w.cell? ⟨g, 1, none⟩ = some b ∧ w.frozen? ⟨g, 0, none⟩ = false ∧ w.frozen? ⟨g, 1, none⟩ = false ∧ g < w.heap.size :=
  ⟨h.cell 0, h.cell 1, h.frozen 0 (show 0 < 2 by omega), h.frozen 1 (show 1 < 2 by omega), h.lt⟩
theorem cells4 {w : World} {g : Nat} {t : TypeId} {a b c d : Value} (h : Blk w g t #[a, b, c, d]) :
    w.cell? ⟨g, 0, none⟩ = some a ∧ w.cell? ⟨g, 1, none⟩ = some b ∧ w.cell? ⟨g, 2, none⟩ = some c ∧ w.cell? ⟨g, 3, none⟩ = some d ∧
    w.frozen? ⟨g, 0, none⟩ = false ∧ w.frozen? ⟨g, 1, none⟩ = false ∧ w.frozen? ⟨g, 2, none⟩ = false ∧ w.frozen? ⟨g, 3, none⟩ = false ∧ g < w.heap.size :=
  ⟨h.cell 0, h.cell 1, h.cell 2, h.cell 3, h.frozen 0 (show 0 < 4 by omega), h.frozen 1 (show 1 < 4 by omega), h.frozen 2 (show 2 < 4 by omega), h.frozen 3 (show 3 < 4 by omega), h.lt⟩
theorem cells5 {w : World} {g : Nat} {t : TypeId} {a b c d e : Value} (h : Blk w g t #[a, b, c, d, e]) :
    w.cell? ⟨g, 0, none⟩ = some a ∧ w.cell? ⟨g, 1, none⟩ = some b ∧ w.cell? ⟨g, 2, none⟩ = some c ∧ w.cell? ⟨g, 3, none⟩ = some d ∧ w.cell? ⟨g, 4, none⟩ = some e ∧
    w.frozen? ⟨g, 0, none⟩ = false ∧ w.frozen? ⟨g, 1, none⟩ = false ∧ w.frozen? ⟨g, 2, none⟩ = false ∧ w.frozen? ⟨g, 3, none⟩ = false ∧ w.frozen? ⟨g, 4, none⟩ = false ∧ g < w.heap.size :=
  ⟨h.cell 0, h.cell 1, h.cell 2, h.cell 3, h.cell 4, h.frozen 0 (show 0 < 5 by omega), h.frozen 1 (show 1 < 5 by omega), h.frozen 2 (show 2 < 5 by omega), h.frozen 3 (show 3 < 5 by omega), h.frozen 4 (show 4 < 5 by omega), h.lt⟩
theorem cells6 {w : World} {g : Nat} {t : TypeId} {a b c d e f : Value} (h : Blk w g t #[a, b, c, d, e, f]) :
    w.cell? ⟨g, 0, none⟩ = some a ∧ w.cell? ⟨g, 1, none⟩ = some b ∧ w.cell? ⟨g, 2, none⟩ = some c ∧ w.cell? ⟨g, 3, none⟩ = some d ∧ w.cell? ⟨g, 4, none⟩ = some e ∧ w.cell? ⟨g, 5, none⟩ = some f ∧
    w.frozen? ⟨g, 0, none⟩ = false ∧ w.frozen? ⟨g, 1, none⟩ = false ∧ w.frozen? ⟨g, 2, none⟩ = false ∧ w.frozen? ⟨g, 3, none⟩ = false ∧ w.frozen? ⟨g, 4, none⟩ = false ∧ w.frozen? ⟨g, 5, none⟩ = false ∧ g < w.heap.size :=
  ⟨h.cell 0, h.cell 1, h.cell 2, h.cell 3, h.cell 4, h.cell 5, h.frozen 0 (show 0 < 6 by omega), h.frozen 1 (show 1 < 6 by omega), h.frozen 2 (show 2 < 6 by omega), h.frozen 3 (show 3 < 6 by omega), h.frozen 4 (show 4 < 6 by omega), h.frozen 5 (show 5 < 6 by omega), h.lt⟩

/-! ### rows that are written in place -/
theorem set5 {B g : Nat} {w w1 : World} (h : Below B w w1) (hg : B ≤ g) (a b c d e : Value) :
    Below B w (((((w1.setCell ⟨g, 0, none⟩ a).setCell ⟨g, 1, none⟩ b).setCell ⟨g, 2, none⟩ c).setCell ⟨g, 3, none⟩ d).setCell ⟨g, 4, none⟩ e) :=
  ((((h.setCell hg _).setCell hg _).setCell hg _).setCell hg _).setCell hg _
theorem infoF : (Tryd.prog.info? 22).map (fun i => (i.zero, i.size, i.bytes)) = some (some (.float .f64 0), 1, 8) := by kernel_rfl
theorem run_tobits (x : Nat) (w : World) : (callFunc 25 #[.float .f64 x]).run Tryd.prog w = .ok (.value (.int .u64 x)) w := by
  refine (run_callFunc_extern (P := Tryd.prog) (f := 25) Tryd.func25 (by kernel_rfl) (by kernel_rfl) (by kernel_rfl) (e := Extern.MathFloatBits.float64bits) (by kernel_rfl) _ w).trans ?_
  rfl
section
set_option maxHeartbeats 4000000
set_option maxRecDepth 100000
theorem is3_calls {d : Nat} (hd : d < 4) (w : World) : Calls Tryd.prog 22 #[.int .u8 d] w fun e w' => e = .returned (.bool (hz d)) ∧ w' = w := by
  obtain ⟨a, ha⟩ : ∃ a : Int, a = bits .and .u8 (d : Int) 1 := ⟨_, rfl⟩
  have hh : (a != 0) = hz d := by rw [ha]; obtain rfl | rfl | rfl | rfl := four hd <;> decide
  have ha' := ha.symm
  clear ha
  go_enter Tryd.func22, Tryd.ntmps22
  go_wp2_with fail
  exact bodyPost_ret (v := .bool (hz d)) (by simp [results, go_sem]) rfl ⟨rfl, rfl⟩
theorem isM_calls {d : Nat} (hd : d < 4) (w : World) : Calls Tryd.prog 23 #[.int .u8 d] w fun e w' => e = .returned (.bool (hm d)) ∧ w' = w := by
  obtain ⟨a, ha⟩ : ∃ a : Int, a = bits .and .u8 (d : Int) 2 := ⟨_, rfl⟩
  have hh : (a != 0) = hm d := by rw [ha]; obtain rfl | rfl | rfl | rfl := four hd <;> decide
  have ha' := ha.symm
  clear ha
  go_enter Tryd.func23, Tryd.ntmps23
  go_wp2_with fail
  exact bodyPost_ret (v := .bool (hm d)) (by simp [results, go_sem]) rfl ⟨rfl, rfl⟩
theorem newPoint_calls (x y z m : Nat) (d : Nat) (w : World) : Calls Tryd.prog 28 #[.agg #[.float .f64 x, .float .f64 y, .float .f64 z, .float .f64 m, .int .u8 d]] w (Gives w (.agg #[.float .f64 x, .float .f64 y, .float .f64 z, .float .f64 m, .int .u8 d, .bool true])) := by
  go_enter Tryd.func28, Tryd.ntmps28
  go_wp2_with fail
  exact bodyPost_ret (v := .agg #[.float .f64 x, .float .f64 y, .float .f64 z, .float .f64 m, .int .u8 d, .bool true]) (by simp [results, Tryd.results28, go_sem]) rfl ⟨rfl, ((Below.refl _ _).alloc (Nat.le_refl _) _).alloc (by simp) _⟩
theorem ctype1 (d : Nat) (x y z m b : Value) (w : World) : Calls Tryd.prog 26 #[.agg #[x, y, z, m, .int .u8 d, b]] w (Gives w (.int .u8 d)) := by
  go_enter Tryd.func26, Tryd.ntmps26
  go_wp2_with fail
  exact bodyPost_ret (v := .int .u8 d) (by simp [results, go_sem]) rfl ⟨rfl, (Below.refl _ _).alloc (Nat.le_refl _) _⟩
theorem dimOf_calls (d : Int) (hd : 0 ≤ d ∧ d ≤ 3) (w : World) : Calls Tryd.prog 18 #[.int .i64 d] w fun e w' => e = .returned (.int .u8 d) ∧ w' = w := by
  rcases (by omega : d = 0 ∨ d = 1 ∨ d = 2 ∨ d = 3) with rfl | rfl | rfl | rfl
  all_goals
    go_enter Tryd.func18, Tryd.ntmps18
    go_wp2_with fail
    exact bodyPost_ret (by simp [results, go_sem]; try rfl) rfl ⟨rfl, rfl⟩
theorem coordinates_calls (x y z m : Nat) (d : Int) (hd : 0 ≤ d ∧ d ≤ 3) (w : World) :
    Calls Tryd.prog 11 #[.agg #[.float .f64 x, .float .f64 y, .float .f64 z, .float .f64 m, .int .i64 d]] w fun e w' =>
      e = .returned (.agg #[.float .f64 x, .float .f64 y, .float .f64 z, .float .f64 m, .int .u8 d]) ∧ Below w.heap.size w w' := by
  have hdim := dimOf_calls d hd
  obtain ⟨wA, hwA⟩ : ∃ wA, wA = (w.alloc (.cells #[.float .f64 x, .float .f64 y, .float .f64 z, .float .f64 m, .int .i64 d] 24)).alloc
    (.cells #[.float .f64 0, .float .f64 0, .float .f64 0, .float .f64 0, .int .u8 0] 41) := ⟨_, rfl⟩
  have hB : Blk wA w.heap.size 24 #[.float .f64 x, .float .f64 y, .float .f64 z, .float .f64 m, .int .i64 d] := by
    rw [hwA]; exact (Blk.new _ _ _).alloc _
  have c0 : wA.cell? ⟨w.heap.size, 0, none⟩ = some (.float .f64 x) := hB.cell 0
  have c1 : wA.cell? ⟨w.heap.size, 1, none⟩ = some (.float .f64 y) := hB.cell 1
  have c2 : wA.cell? ⟨w.heap.size, 2, none⟩ = some (.float .f64 z) := hB.cell 2
  have c3 : wA.cell? ⟨w.heap.size, 3, none⟩ = some (.float .f64 m) := hB.cell 3
  have c4 : wA.cell? ⟨w.heap.size, 4, none⟩ = some (.int .i64 d) := hB.cell 4
  have HWA := Lib.hid hwA
  clear hwA hB
  go_enter Tryd.func11, Tryd.ntmps11
  go_wp2_with fail
  rw [← HWA.out]
  go_still_tail 13, (by kernel_rfl)
  still_call (hdim _)
  repeat still_step
  refine wpStill_nil ?_
  change wpList _ _ _ _ _ wA.drew
  clear c0 c1 c2 c3 c4
  rw [HWA.out]
  go_wp2_with fail
  exact bodyPost_ret (by simp [results, Tryd.results11, go_sem]) rfl ⟨rfl, (((Below.refl _ _).alloc (Nat.le_refl _) _).alloc (by simp) _).drew⟩
theorem asPoint_calls (x y z m : Nat) (d : Nat) (w : World) : Calls Tryd.prog 16 #[.agg #[.float .f64 x, .float .f64 y, .float .f64 z, .float .f64 m, .int .u8 d]] w (Gives w (.agg #[.float .f64 x, .float .f64 y, .float .f64 z, .float .f64 m, .int .u8 d, .bool true])) := by
  obtain ⟨wA, hwA⟩ : ∃ wA, wA = (w.alloc (.cells #[.float .f64 x, .float .f64 y, .float .f64 z, .float .f64 m, .int .u8 d] 41)).alloc (.cells #[.float .f64 0, .float .f64 0, .float .f64 0, .float .f64 0, .int .u8 0, .bool false] 48) := ⟨_, rfl⟩
  have hbl : Below w.heap.size w wA := by rw [hwA]; exact ((Below.refl _ _).alloc (Nat.le_refl _) _).alloc (by simp) _
  have hB : Blk wA w.heap.size 41 #[.float .f64 x, .float .f64 y, .float .f64 z, .float .f64 m, .int .u8 d] := by rw [hwA]; exact (Blk.new _ _ _).alloc _
  have hD : Blk wA (w.heap.size + 1) 48 #[.float .f64 0, .float .f64 0, .float .f64 0, .float .f64 0, .int .u8 0, .bool false] := by
    rw [hwA]
    have := Blk.new (w.alloc (.cells #[.float .f64 x, .float .f64 y, .float .f64 z, .float .f64 m, .int .u8 d] 41)) 48 #[.float .f64 0, .float .f64 0, .float .f64 0, .float .f64 0, .int .u8 0, .bool false]
    simpa using this
  have HBL := Lib.hid hbl
  have HWA := Lib.hid hwA
  have HD := Lib.hid hD
  obtain ⟨b0, b1, b2, b3, b4, -, -, -, -, -, bl⟩ := cells5 hB
  clear hwA hB hD hbl
  go_enter Tryd.func16, Tryd.ntmps16
  go_wp2_with fail
  rw [← HWA.out]
  go_wp2_with fail
  refine (newPoint_calls _ _ _ _ _ _).mono ?_
  rintro e w1 ⟨rfl, hb1⟩
  have HBL1 := Lib.hid (HBL.out.trans (hb1.mono HBL.out.size))
  obtain ⟨r0, r1, r2, r3, r4, r5, p0, p1, p2, p3, p4, p5, rl⟩ := cells6 (HD.out.below hb1 HD.out.lt)
  clear hb1 b0 b1 b2 b3 b4 bl
  go_wp2_with fail
  exact bodyPost_ret (v := .agg #[.float .f64 x, .float .f64 y, .float .f64 z, .float .f64 m, .int .u8 d, .bool true]) (by simp [results, Tryd.results16, go_sem, r0, r1, r2, r3, r4, r5, rl]) rfl ⟨rfl, (set5 HBL1.out (Nat.le_add_right _ 1) _ _ _ _ _).setCell (Nat.le_add_right _ 1) _⟩
end
set_option maxHeartbeats 16000000 in
set_option maxRecDepth 100000 in
theorem ptCoords_calls (x y z m d : Nat) (b : Bool) (w : World) :
    Calls Tryd.prog 27 #[.agg #[.float .f64 x, .float .f64 y, .float .f64 z, .float .f64 m, .int .u8 d, .bool b]] w (Gives w (.tuple #[.agg #[.float .f64 x, .float .f64 y, .float .f64 z, .float .f64 m, .int .u8 d], .bool b])) := by
  obtain ⟨wA, hwA⟩ : ∃ wA, wA = (w.alloc (.cells #[.float .f64 x, .float .f64 y, .float .f64 z, .float .f64 m, .int .u8 d, .bool b] 48)).alloc (.cells #[.float .f64 0, .float .f64 0, .float .f64 0, .float .f64 0, .int .u8 0] 41) := ⟨_, rfl⟩
  have hbl : Below w.heap.size w wA := by rw [hwA]; exact ((Below.refl _ _).alloc (Nat.le_refl _) _).alloc (by simp) _
  have hB : Blk wA w.heap.size 48 #[.float .f64 x, .float .f64 y, .float .f64 z, .float .f64 m, .int .u8 d, .bool b] := by rw [hwA]; exact (Blk.new _ _ _).alloc _
  have hD : Blk wA (w.heap.size + 1) 41 #[.float .f64 0, .float .f64 0, .float .f64 0, .float .f64 0, .int .u8 0] := by
    rw [hwA]
    have := Blk.new (w.alloc (.cells #[.float .f64 x, .float .f64 y, .float .f64 z, .float .f64 m, .int .u8 d, .bool b] 48)) 41 #[.float .f64 0, .float .f64 0, .float .f64 0, .float .f64 0, .int .u8 0]
    simpa using this
  have HBL := Lib.hid hbl
  have HWA := Lib.hid hwA
  obtain ⟨b0, b1, b2, b3, b4, b5, -, -, -, -, -, -, bl⟩ := cells6 hB
  obtain ⟨r0, r1, r2, r3, r4, p0, p1, p2, p3, p4, rl⟩ := cells5 hD
  clear hwA hB hD hbl
  go_enter Tryd.func27, Tryd.ntmps27
  go_wp2_with fail
  rw [← HWA.out]
  go_region
  all_goals
    go_wp2_with fail
    exact bodyPost_ret (v := .tuple #[.agg #[.float .f64 x, .float .f64 y, .float .f64 z, .float .f64 m, .int .u8 d], .bool b]) (by simp [results, Tryd.results27, go_sem, r0, r1, r2, r3, r4, rl]) rfl ⟨rfl, (set5 HBL.out (Nat.le_add_right _ 1) _ _ _ _ _).drew⟩
end Go.Proofs.YtpfgdfgifdbijaaDoor.pt
