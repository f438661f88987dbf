/-
  Contracts: a geometry out of each kind, and each kind out of a geometry; types of coordinates; lines and points, small.
-/
import Derived.Test.YtplphaaeibeheaaGreatGeoD
namespace Go.Proofs.YtplphaaeibeheaaGreat.geo
open Go.ChangeShapes Go.WideShapes Go.ChangeAt Go.RowKit
open Go.Proofs.YtplphaaeibeheaaGreat.mem
set_option linter.unusedVariables false
set_option linter.unusedSimpArgs false
set_option maxHeartbeats 4000000
set_option maxRecDepth 100000

/-- A value comes back that is known, and nothing old has turned. -/
def Gives (w : World) (v : Value) (e : Ending) (w' : World) : Prop := e = .returned v ∧ Below w.heap.size w w'
theorem cells_any {w : World} {g : Nat} {t : TypeId} {cs : Array Value} (h : Blk w g t cs) : g < w.heap.size := h.lt

/-- A box around a struct of a kind comes back. -/
def BoxPost (w : World) (k : Nat) (cs : List Value) (e : Ending) (w' : World) : Prop :=
  ∃ a, e = .returned (.agg #[.int .i64 k, .iface (pT k) (.pointer (some ⟨a, 0, none⟩))]) ∧ Blk w' a (sT k) cs.toArray ∧ w.heap.size ≤ a ∧ Below w.heap.size w w'

theorem asGeo0 (u v : Value) (w : World) : Calls Tryz.prog 55 #[.agg #[u, v]] w (BoxPost w 0 [u, v]) := by
  obtain ⟨wA, hwA⟩ : ∃ wA, wA = w.alloc (.cells #[u, v] 84) := ⟨_, rfl⟩
  have hB : Blk wA w.heap.size 84 #[u, v] := by rw [hwA]; exact Blk.new _ _ _
  have hb : Below w.heap.size w wA := by rw [hwA]; exact (Below.refl _ _).alloc (Nat.le_refl _) _
  have HP := Lib.hid (show ∀ o, BoxPost w 0 [u, v] (.returned (.agg #[.int .i64 0, .iface 148 (.pointer (some ⟨w.heap.size, 0, none⟩))])) (wA.alloc o) from fun o => ⟨_, rfl, hB.alloc o, Nat.le_refl _, hb.alloc hb.size o⟩)
  rw [hwA] at HP
  clear hB hb hwA
  go_enter Tryz.func55, Tryz.ntmps55
  go_wp2_with fail
  exact bodyPost_ret (v := .agg #[.int .i64 0, .iface 148 (.pointer (some ⟨w.heap.size, 0, none⟩))]) (by simp [results, Tryz.results55, go_sem]) rfl (HP.out _)

theorem asGeo1 (x y z m d b : Value) (w : World) : Calls Tryz.prog 43 #[.agg #[x, y, z, m, d, b]] w (BoxPost w 1 [x, y, z, m, d, b]) := by
  obtain ⟨wA, hwA⟩ : ∃ wA, wA = w.alloc (.cells #[x, y, z, m, d, b] 59) := ⟨_, rfl⟩
  have hB : Blk wA w.heap.size 59 #[x, y, z, m, d, b] := by rw [hwA]; exact Blk.new _ _ _
  have hb : Below w.heap.size w wA := by rw [hwA]; exact (Below.refl _ _).alloc (Nat.le_refl _) _
  have HP := Lib.hid (show ∀ o, BoxPost w 1 [x, y, z, m, d, b] (.returned (.agg #[.int .i64 1, .iface 130 (.pointer (some ⟨w.heap.size, 0, none⟩))])) (wA.alloc o) from fun o => ⟨_, rfl, hB.alloc o, Nat.le_refl _, hb.alloc hb.size o⟩)
  rw [hwA] at HP
  clear hB hb hwA
  go_enter Tryz.func43, Tryz.ntmps43
  go_wp2_with fail
  exact bodyPost_ret (v := .agg #[.int .i64 1, .iface 130 (.pointer (some ⟨w.heap.size, 0, none⟩))]) (by simp [results, Tryz.results43, go_sem]) rfl (HP.out _)

theorem asGeo2 (u v : Value) (w : World) : Calls Tryz.prog 45 #[.agg #[u, v]] w (BoxPost w 2 [u, v]) := by
  obtain ⟨wA, hwA⟩ : ∃ wA, wA = w.alloc (.cells #[u, v] 65) := ⟨_, rfl⟩
  have hB : Blk wA w.heap.size 65 #[u, v] := by rw [hwA]; exact Blk.new _ _ _
  have hb : Below w.heap.size w wA := by rw [hwA]; exact (Below.refl _ _).alloc (Nat.le_refl _) _
  have HP := Lib.hid (show ∀ o, BoxPost w 2 [u, v] (.returned (.agg #[.int .i64 2, .iface 132 (.pointer (some ⟨w.heap.size, 0, none⟩))])) (wA.alloc o) from fun o => ⟨_, rfl, hB.alloc o, Nat.le_refl _, hb.alloc hb.size o⟩)
  rw [hwA] at HP
  clear hB hb hwA
  go_enter Tryz.func45, Tryz.ntmps45
  go_wp2_with fail
  exact bodyPost_ret (v := .agg #[.int .i64 2, .iface 132 (.pointer (some ⟨w.heap.size, 0, none⟩))]) (by simp [results, Tryz.results45, go_sem]) rfl (HP.out _)

theorem asGeo3 (u v : Value) (w : World) : Calls Tryz.prog 47 #[.agg #[u, v]] w (BoxPost w 3 [u, v]) := by
  obtain ⟨wA, hwA⟩ : ∃ wA, wA = w.alloc (.cells #[u, v] 69) := ⟨_, rfl⟩
  have hB : Blk wA w.heap.size 69 #[u, v] := by rw [hwA]; exact Blk.new _ _ _
  have hb : Below w.heap.size w wA := by rw [hwA]; exact (Below.refl _ _).alloc (Nat.le_refl _) _
  have HP := Lib.hid (show ∀ o, BoxPost w 3 [u, v] (.returned (.agg #[.int .i64 3, .iface 135 (.pointer (some ⟨w.heap.size, 0, none⟩))])) (wA.alloc o) from fun o => ⟨_, rfl, hB.alloc o, Nat.le_refl _, hb.alloc hb.size o⟩)
  rw [hwA] at HP
  clear hB hb hwA
  go_enter Tryz.func47, Tryz.ntmps47
  go_wp2_with fail
  exact bodyPost_ret (v := .agg #[.int .i64 3, .iface 135 (.pointer (some ⟨w.heap.size, 0, none⟩))]) (by simp [results, Tryz.results47, go_sem]) rfl (HP.out _)

theorem asGeo4 (u v : Value) (w : World) : Calls Tryz.prog 49 #[.agg #[u, v]] w (BoxPost w 4 [u, v]) := by
  obtain ⟨wA, hwA⟩ : ∃ wA, wA = w.alloc (.cells #[u, v] 73) := ⟨_, rfl⟩
  have hB : Blk wA w.heap.size 73 #[u, v] := by rw [hwA]; exact Blk.new _ _ _
  have hb : Below w.heap.size w wA := by rw [hwA]; exact (Below.refl _ _).alloc (Nat.le_refl _) _
  have HP := Lib.hid (show ∀ o, BoxPost w 4 [u, v] (.returned (.agg #[.int .i64 4, .iface 138 (.pointer (some ⟨w.heap.size, 0, none⟩))])) (wA.alloc o) from fun o => ⟨_, rfl, hB.alloc o, Nat.le_refl _, hb.alloc hb.size o⟩)
  rw [hwA] at HP
  clear hB hb hwA
  go_enter Tryz.func49, Tryz.ntmps49
  go_wp2_with fail
  exact bodyPost_ret (v := .agg #[.int .i64 4, .iface 138 (.pointer (some ⟨w.heap.size, 0, none⟩))]) (by simp [results, Tryz.results49, go_sem]) rfl (HP.out _)

theorem asGeo5 (u v : Value) (w : World) : Calls Tryz.prog 51 #[.agg #[u, v]] w (BoxPost w 5 [u, v]) := by
  obtain ⟨wA, hwA⟩ : ∃ wA, wA = w.alloc (.cells #[u, v] 76) := ⟨_, rfl⟩
  have hB : Blk wA w.heap.size 76 #[u, v] := by rw [hwA]; exact Blk.new _ _ _
  have hb : Below w.heap.size w wA := by rw [hwA]; exact (Below.refl _ _).alloc (Nat.le_refl _) _
  have HP := Lib.hid (show ∀ o, BoxPost w 5 [u, v] (.returned (.agg #[.int .i64 5, .iface 141 (.pointer (some ⟨w.heap.size, 0, none⟩))])) (wA.alloc o) from fun o => ⟨_, rfl, hB.alloc o, Nat.le_refl _, hb.alloc hb.size o⟩)
  rw [hwA] at HP
  clear hB hb hwA
  go_enter Tryz.func51, Tryz.ntmps51
  go_wp2_with fail
  exact bodyPost_ret (v := .agg #[.int .i64 5, .iface 141 (.pointer (some ⟨w.heap.size, 0, none⟩))]) (by simp [results, Tryz.results51, go_sem]) rfl (HP.out _)

theorem asGeo6 (u v : Value) (w : World) : Calls Tryz.prog 53 #[.agg #[u, v]] w (BoxPost w 6 [u, v]) := by
  obtain ⟨wA, hwA⟩ : ∃ wA, wA = w.alloc (.cells #[u, v] 80) := ⟨_, rfl⟩
  have hB : Blk wA w.heap.size 80 #[u, v] := by rw [hwA]; exact Blk.new _ _ _
  have hb : Below w.heap.size w wA := by rw [hwA]; exact (Below.refl _ _).alloc (Nat.le_refl _) _
  have HP := Lib.hid (show ∀ o, BoxPost w 6 [u, v] (.returned (.agg #[.int .i64 6, .iface 144 (.pointer (some ⟨w.heap.size, 0, none⟩))])) (wA.alloc o) from fun o => ⟨_, rfl, hB.alloc o, Nat.le_refl _, hb.alloc hb.size o⟩)
  rw [hwA] at HP
  clear hB hb hwA
  go_enter Tryz.func53, Tryz.ntmps53
  go_wp2_with fail
  exact bodyPost_ret (v := .agg #[.int .i64 6, .iface 144 (.pointer (some ⟨w.heap.size, 0, none⟩))]) (by simp [results, Tryz.results53, go_sem]) rfl (HP.out _)

theorem check_calls (k : Int) (v : Value) (w : World) : Calls Tryz.prog 111 #[.agg #[.int .i64 k, v], .int .i64 k] w fun e w' => e = .returned (.tuple #[]) ∧ Below w.heap.size w w' := by
  have hk : (k != k) = false := by simp
  go_enter Tryz.func111, Tryz.ntmps111
  go_wp2_with fail
  exact bodyPost_end (v := .tuple #[]) (by simp [results, Tryz.results111, go_sem]) rfl ⟨rfl, (Below.refl _ _).alloc (Nat.le_refl _) _⟩

theorem ta0 (p : Addr) (w : World) : (Instr.typeAssert (.iface 148 (.pointer (some p))) 20 148 false).run Tryz.prog w = .ok (.pointer (some p)) w := by kernel_rfl
theorem must0 {d : Int} {A : Option Addr} {n c : Nat} {a : Nat} {w : World} (h : Blk w a 84 #[.slice A n c, .int .u8 d]) : Calls Tryz.prog 72 #[.agg #[.int .i64 0, .iface 148 (.pointer (some ⟨a, 0, none⟩))]] w (Gives w (.agg #[.slice A n c, .int .u8 d])) := by
  obtain ⟨wA, hwA⟩ : ∃ wA, wA = (w.alloc (.cells #[.int .i64 0, .iface 148 (.pointer (some ⟨a, 0, none⟩))] 39)).alloc (.cells #[.slice none 0 0, .int .u8 0] 84) := ⟨_, rfl⟩
  have hbl : Below w.heap.size w wA := by rw [hwA]; exact ((Below.refl _ _).alloc (Nat.le_refl _) _).alloc (by simp) _
  have hB : Blk wA w.heap.size 39 #[.int .i64 0, .iface 148 (.pointer (some ⟨a, 0, none⟩))] := by rw [hwA]; exact (Blk.new _ _ _).alloc _
  have hD : Blk wA (w.heap.size + 1) 84 #[.slice none 0 0, .int .u8 0] := by
    rw [hwA]
    have := Blk.new (w.alloc (.cells #[.int .i64 0, .iface 148 (.pointer (some ⟨a, 0, none⟩))] 39)) 84 #[.slice none 0 0, .int .u8 0]
    simpa using this
  have HH := Lib.hid (h.below hbl h.lt)
  have HB := Lib.hid hB
  have HD := Lib.hid hD
  have HBL := Lib.hid hbl
  have HWA := Lib.hid hwA
  have hta := fun w => ta0 ⟨a, 0, none⟩ w
  clear h hbl hB hD hwA
  go_enter Tryz.func72, Tryz.ntmps72
  go_wp2_with fail
  rw [← HWA.out]
  refine (check_calls _ _ _).mono ?_
  rintro e w1 ⟨rfl, hb1⟩
  have HBL1 := Lib.hid (HBL.out.trans (hb1.mono HBL.out.size))
  obtain ⟨c0, c1, -, -, cl⟩ := cells2 (HH.out.below hb1 HH.out.lt)
  obtain ⟨s0, s1, -, -, sl⟩ := cells2 (HB.out.below hb1 HB.out.lt)
  obtain ⟨z0, z1, y0, y1, zl⟩ := cells2 (HD.out.below hb1 HD.out.lt)
  clear hb1
  go_wp2_with fail
  refine bodyPost_ret (v := .agg #[.slice A n c, .int .u8 d]) (by simp [results, Tryz.results72, go_sem, z0, z1, zl]) rfl ⟨rfl, ?_⟩
  exact ((HBL1.out.setCell (by simp) _).setCell (by simp) _)

theorem ta1 (p : Addr) (w : World) : (Instr.typeAssert (.iface 130 (.pointer (some p))) 20 130 false).run Tryz.prog w = .ok (.pointer (some p)) w := by kernel_rfl
theorem must1 {x y z m : Nat} {d : Int} {b : Bool} {a : Nat} {w : World} (h : Blk w a 59 #[.float .f64 x, .float .f64 y, .float .f64 z, .float .f64 m, .int .u8 d, .bool b]) : Calls Tryz.prog 75 #[.agg #[.int .i64 1, .iface 130 (.pointer (some ⟨a, 0, none⟩))]] w (Gives w (.agg #[.float .f64 x, .float .f64 y, .float .f64 z, .float .f64 m, .int .u8 d, .bool b])) := by
  obtain ⟨wA, hwA⟩ : ∃ wA, wA = (w.alloc (.cells #[.int .i64 1, .iface 130 (.pointer (some ⟨a, 0, none⟩))] 39)).alloc (.cells #[.float .f64 0, .float .f64 0, .float .f64 0, .float .f64 0, .int .u8 0, .bool false] 59) := ⟨_, rfl⟩
  have hbl : Below w.heap.size w wA := by rw [hwA]; exact ((Below.refl _ _).alloc (Nat.le_refl _) _).alloc (by simp) _
  have hB : Blk wA w.heap.size 39 #[.int .i64 1, .iface 130 (.pointer (some ⟨a, 0, none⟩))] := by rw [hwA]; exact (Blk.new _ _ _).alloc _
  have hD : Blk wA (w.heap.size + 1) 59 #[.float .f64 0, .float .f64 0, .float .f64 0, .float .f64 0, .int .u8 0, .bool false] := by
    rw [hwA]
    have := Blk.new (w.alloc (.cells #[.int .i64 1, .iface 130 (.pointer (some ⟨a, 0, none⟩))] 39)) 59 #[.float .f64 0, .float .f64 0, .float .f64 0, .float .f64 0, .int .u8 0, .bool false]
    simpa using this
  have HH := Lib.hid (h.below hbl h.lt)
  have HB := Lib.hid hB
  have HD := Lib.hid hD
  have HBL := Lib.hid hbl
  have HWA := Lib.hid hwA
  have hta := fun w => ta1 ⟨a, 0, none⟩ w
  clear h hbl hB hD hwA
  go_enter Tryz.func75, Tryz.ntmps75
  go_wp2_with fail
  rw [← HWA.out]
  refine (check_calls _ _ _).mono ?_
  rintro e w1 ⟨rfl, hb1⟩
  have HBL1 := Lib.hid (HBL.out.trans (hb1.mono HBL.out.size))
  obtain ⟨c0, c1, c2, c3, c4, c5, -, -, -, -, -, -, cl⟩ := cells6 (HH.out.below hb1 HH.out.lt)
  obtain ⟨s0, s1, -, -, sl⟩ := cells2 (HB.out.below hb1 HB.out.lt)
  obtain ⟨z0, z1, z2, z3, z4, z5, y0, y1, y2, y3, y4, y5, zl⟩ := cells6 (HD.out.below hb1 HD.out.lt)
  clear hb1
  go_wp2_with fail
  refine bodyPost_ret (v := .agg #[.float .f64 x, .float .f64 y, .float .f64 z, .float .f64 m, .int .u8 d, .bool b]) (by simp [results, Tryz.results75, go_sem, z0, z1, z2, z3, z4, z5, zl]) rfl ⟨rfl, ?_⟩
  exact ((((((HBL1.out.setCell (by simp) _).setCell (by simp) _).setCell (by simp) _).setCell (by simp) _).setCell (by simp) _).setCell (by simp) _)

theorem ta2 (p : Addr) (w : World) : (Instr.typeAssert (.iface 132 (.pointer (some p))) 20 132 false).run Tryz.prog w = .ok (.pointer (some p)) w := by kernel_rfl
theorem must2 {d : Int} {A : Option Addr} {n c : Nat} {a : Nat} {w : World} (h : Blk w a 65 #[.int .u8 d, .slice A n c]) : Calls Tryz.prog 59 #[.agg #[.int .i64 2, .iface 132 (.pointer (some ⟨a, 0, none⟩))]] w (Gives w (.agg #[.int .u8 d, .slice A n c])) := by
  obtain ⟨wA, hwA⟩ : ∃ wA, wA = (w.alloc (.cells #[.int .i64 2, .iface 132 (.pointer (some ⟨a, 0, none⟩))] 39)).alloc (.cells #[.int .u8 0, .slice none 0 0] 65) := ⟨_, rfl⟩
  have hbl : Below w.heap.size w wA := by rw [hwA]; exact ((Below.refl _ _).alloc (Nat.le_refl _) _).alloc (by simp) _
  have hB : Blk wA w.heap.size 39 #[.int .i64 2, .iface 132 (.pointer (some ⟨a, 0, none⟩))] := by rw [hwA]; exact (Blk.new _ _ _).alloc _
  have hD : Blk wA (w.heap.size + 1) 65 #[.int .u8 0, .slice none 0 0] := by
    rw [hwA]
    have := Blk.new (w.alloc (.cells #[.int .i64 2, .iface 132 (.pointer (some ⟨a, 0, none⟩))] 39)) 65 #[.int .u8 0, .slice none 0 0]
    simpa using this
  have HH := Lib.hid (h.below hbl h.lt)
  have HB := Lib.hid hB
  have HD := Lib.hid hD
  have HBL := Lib.hid hbl
  have HWA := Lib.hid hwA
  have hta := fun w => ta2 ⟨a, 0, none⟩ w
  clear h hbl hB hD hwA
  go_enter Tryz.func59, Tryz.ntmps59
  go_wp2_with fail
  rw [← HWA.out]
  refine (check_calls _ _ _).mono ?_
  rintro e w1 ⟨rfl, hb1⟩
  have HBL1 := Lib.hid (HBL.out.trans (hb1.mono HBL.out.size))
  obtain ⟨c0, c1, -, -, cl⟩ := cells2 (HH.out.below hb1 HH.out.lt)
  obtain ⟨s0, s1, -, -, sl⟩ := cells2 (HB.out.below hb1 HB.out.lt)
  obtain ⟨z0, z1, y0, y1, zl⟩ := cells2 (HD.out.below hb1 HD.out.lt)
  clear hb1
  go_wp2_with fail
  refine bodyPost_ret (v := .agg #[.int .u8 d, .slice A n c]) (by simp [results, Tryz.results59, go_sem, z0, z1, zl]) rfl ⟨rfl, ?_⟩
  exact ((HBL1.out.setCell (by simp) _).setCell (by simp) _)

theorem ta3 (p : Addr) (w : World) : (Instr.typeAssert (.iface 135 (.pointer (some p))) 20 135 false).run Tryz.prog w = .ok (.pointer (some p)) w := by kernel_rfl
theorem must3 {d : Int} {A : Option Addr} {n c : Nat} {a : Nat} {w : World} (h : Blk w a 69 #[.slice A n c, .int .u8 d]) : Calls Tryz.prog 63 #[.agg #[.int .i64 3, .iface 135 (.pointer (some ⟨a, 0, none⟩))]] w (Gives w (.agg #[.slice A n c, .int .u8 d])) := by
  obtain ⟨wA, hwA⟩ : ∃ wA, wA = (w.alloc (.cells #[.int .i64 3, .iface 135 (.pointer (some ⟨a, 0, none⟩))] 39)).alloc (.cells #[.slice none 0 0, .int .u8 0] 69) := ⟨_, rfl⟩
  have hbl : Below w.heap.size w wA := by rw [hwA]; exact ((Below.refl _ _).alloc (Nat.le_refl _) _).alloc (by simp) _
  have hB : Blk wA w.heap.size 39 #[.int .i64 3, .iface 135 (.pointer (some ⟨a, 0, none⟩))] := by rw [hwA]; exact (Blk.new _ _ _).alloc _
  have hD : Blk wA (w.heap.size + 1) 69 #[.slice none 0 0, .int .u8 0] := by
    rw [hwA]
    have := Blk.new (w.alloc (.cells #[.int .i64 3, .iface 135 (.pointer (some ⟨a, 0, none⟩))] 39)) 69 #[.slice none 0 0, .int .u8 0]
    simpa using this
  have HH := Lib.hid (h.below hbl h.lt)
  have HB := Lib.hid hB
  have HD := Lib.hid hD
  have HBL := Lib.hid hbl
  have HWA := Lib.hid hwA
  have hta := fun w => ta3 ⟨a, 0, none⟩ w
  clear h hbl hB hD hwA
  go_enter Tryz.func63, Tryz.ntmps63
  go_wp2_with fail
  rw [← HWA.out]
  refine (check_calls _ _ _).mono ?_
  rintro e w1 ⟨rfl, hb1⟩
  have HBL1 := Lib.hid (HBL.out.trans (hb1.mono HBL.out.size))
  obtain ⟨c0, c1, -, -, cl⟩ := cells2 (HH.out.below hb1 HH.out.lt)
  obtain ⟨s0, s1, -, -, sl⟩ := cells2 (HB.out.below hb1 HB.out.lt)
  obtain ⟨z0, z1, y0, y1, zl⟩ := cells2 (HD.out.below hb1 HD.out.lt)
  clear hb1
  go_wp2_with fail
  refine bodyPost_ret (v := .agg #[.slice A n c, .int .u8 d]) (by simp [results, Tryz.results63, go_sem, z0, z1, zl]) rfl ⟨rfl, ?_⟩
  exact ((HBL1.out.setCell (by simp) _).setCell (by simp) _)

theorem ta4 (p : Addr) (w : World) : (Instr.typeAssert (.iface 138 (.pointer (some p))) 20 138 false).run Tryz.prog w = .ok (.pointer (some p)) w := by kernel_rfl
theorem must4 {d : Int} {A : Option Addr} {n c : Nat} {a : Nat} {w : World} (h : Blk w a 73 #[.slice A n c, .int .u8 d]) : Calls Tryz.prog 66 #[.agg #[.int .i64 4, .iface 138 (.pointer (some ⟨a, 0, none⟩))]] w (Gives w (.agg #[.slice A n c, .int .u8 d])) := by
  obtain ⟨wA, hwA⟩ : ∃ wA, wA = (w.alloc (.cells #[.int .i64 4, .iface 138 (.pointer (some ⟨a, 0, none⟩))] 39)).alloc (.cells #[.slice none 0 0, .int .u8 0] 73) := ⟨_, rfl⟩
  have hbl : Below w.heap.size w wA := by rw [hwA]; exact ((Below.refl _ _).alloc (Nat.le_refl _) _).alloc (by simp) _
  have hB : Blk wA w.heap.size 39 #[.int .i64 4, .iface 138 (.pointer (some ⟨a, 0, none⟩))] := by rw [hwA]; exact (Blk.new _ _ _).alloc _
  have hD : Blk wA (w.heap.size + 1) 73 #[.slice none 0 0, .int .u8 0] := by
    rw [hwA]
    have := Blk.new (w.alloc (.cells #[.int .i64 4, .iface 138 (.pointer (some ⟨a, 0, none⟩))] 39)) 73 #[.slice none 0 0, .int .u8 0]
    simpa using this
  have HH := Lib.hid (h.below hbl h.lt)
  have HB := Lib.hid hB
  have HD := Lib.hid hD
  have HBL := Lib.hid hbl
  have HWA := Lib.hid hwA
  have hta := fun w => ta4 ⟨a, 0, none⟩ w
  clear h hbl hB hD hwA
  go_enter Tryz.func66, Tryz.ntmps66
  go_wp2_with fail
  rw [← HWA.out]
  refine (check_calls _ _ _).mono ?_
  rintro e w1 ⟨rfl, hb1⟩
  have HBL1 := Lib.hid (HBL.out.trans (hb1.mono HBL.out.size))
  obtain ⟨c0, c1, -, -, cl⟩ := cells2 (HH.out.below hb1 HH.out.lt)
  obtain ⟨s0, s1, -, -, sl⟩ := cells2 (HB.out.below hb1 HB.out.lt)
  obtain ⟨z0, z1, y0, y1, zl⟩ := cells2 (HD.out.below hb1 HD.out.lt)
  clear hb1
  go_wp2_with fail
  refine bodyPost_ret (v := .agg #[.slice A n c, .int .u8 d]) (by simp [results, Tryz.results66, go_sem, z0, z1, zl]) rfl ⟨rfl, ?_⟩
  exact ((HBL1.out.setCell (by simp) _).setCell (by simp) _)

theorem ta5 (p : Addr) (w : World) : (Instr.typeAssert (.iface 141 (.pointer (some p))) 20 141 false).run Tryz.prog w = .ok (.pointer (some p)) w := by kernel_rfl
theorem must5 {d : Int} {A : Option Addr} {n c : Nat} {a : Nat} {w : World} (h : Blk w a 76 #[.slice A n c, .int .u8 d]) : Calls Tryz.prog 68 #[.agg #[.int .i64 5, .iface 141 (.pointer (some ⟨a, 0, none⟩))]] w (Gives w (.agg #[.slice A n c, .int .u8 d])) := by
  obtain ⟨wA, hwA⟩ : ∃ wA, wA = (w.alloc (.cells #[.int .i64 5, .iface 141 (.pointer (some ⟨a, 0, none⟩))] 39)).alloc (.cells #[.slice none 0 0, .int .u8 0] 76) := ⟨_, rfl⟩
  have hbl : Below w.heap.size w wA := by rw [hwA]; exact ((Below.refl _ _).alloc (Nat.le_refl _) _).alloc (by simp) _
  have hB : Blk wA w.heap.size 39 #[.int .i64 5, .iface 141 (.pointer (some ⟨a, 0, none⟩))] := by rw [hwA]; exact (Blk.new _ _ _).alloc _
  have hD : Blk wA (w.heap.size + 1) 76 #[.slice none 0 0, .int .u8 0] := by
    rw [hwA]
    have := Blk.new (w.alloc (.cells #[.int .i64 5, .iface 141 (.pointer (some ⟨a, 0, none⟩))] 39)) 76 #[.slice none 0 0, .int .u8 0]
    simpa using this
  have HH := Lib.hid (h.below hbl h.lt)
  have HB := Lib.hid hB
  have HD := Lib.hid hD
  have HBL := Lib.hid hbl
  have HWA := Lib.hid hwA
  have hta := fun w => ta5 ⟨a, 0, none⟩ w
  clear h hbl hB hD hwA
  go_enter Tryz.func68, Tryz.ntmps68
  go_wp2_with fail
  rw [← HWA.out]
  refine (check_calls _ _ _).mono ?_
  rintro e w1 ⟨rfl, hb1⟩
  have HBL1 := Lib.hid (HBL.out.trans (hb1.mono HBL.out.size))
  obtain ⟨c0, c1, -, -, cl⟩ := cells2 (HH.out.below hb1 HH.out.lt)
  obtain ⟨s0, s1, -, -, sl⟩ := cells2 (HB.out.below hb1 HB.out.lt)
  obtain ⟨z0, z1, y0, y1, zl⟩ := cells2 (HD.out.below hb1 HD.out.lt)
  clear hb1
  go_wp2_with fail
  refine bodyPost_ret (v := .agg #[.slice A n c, .int .u8 d]) (by simp [results, Tryz.results68, go_sem, z0, z1, zl]) rfl ⟨rfl, ?_⟩
  exact ((HBL1.out.setCell (by simp) _).setCell (by simp) _)

theorem ta6 (p : Addr) (w : World) : (Instr.typeAssert (.iface 144 (.pointer (some p))) 20 144 false).run Tryz.prog w = .ok (.pointer (some p)) w := by kernel_rfl
theorem must6 {d : Int} {A : Option Addr} {n c : Nat} {a : Nat} {w : World} (h : Blk w a 80 #[.slice A n c, .int .u8 d]) : Calls Tryz.prog 70 #[.agg #[.int .i64 6, .iface 144 (.pointer (some ⟨a, 0, none⟩))]] w (Gives w (.agg #[.slice A n c, .int .u8 d])) := by
  obtain ⟨wA, hwA⟩ : ∃ wA, wA = (w.alloc (.cells #[.int .i64 6, .iface 144 (.pointer (some ⟨a, 0, none⟩))] 39)).alloc (.cells #[.slice none 0 0, .int .u8 0] 80) := ⟨_, rfl⟩
  have hbl : Below w.heap.size w wA := by rw [hwA]; exact ((Below.refl _ _).alloc (Nat.le_refl _) _).alloc (by simp) _
  have hB : Blk wA w.heap.size 39 #[.int .i64 6, .iface 144 (.pointer (some ⟨a, 0, none⟩))] := by rw [hwA]; exact (Blk.new _ _ _).alloc _
  have hD : Blk wA (w.heap.size + 1) 80 #[.slice none 0 0, .int .u8 0] := by
    rw [hwA]
    have := Blk.new (w.alloc (.cells #[.int .i64 6, .iface 144 (.pointer (some ⟨a, 0, none⟩))] 39)) 80 #[.slice none 0 0, .int .u8 0]
    simpa using this
  have HH := Lib.hid (h.below hbl h.lt)
  have HB := Lib.hid hB
  have HD := Lib.hid hD
  have HBL := Lib.hid hbl
  have HWA := Lib.hid hwA
  have hta := fun w => ta6 ⟨a, 0, none⟩ w
  clear h hbl hB hD hwA
  go_enter Tryz.func70, Tryz.ntmps70
  go_wp2_with fail
  rw [← HWA.out]
  refine (check_calls _ _ _).mono ?_
  rintro e w1 ⟨rfl, hb1⟩
  have HBL1 := Lib.hid (HBL.out.trans (hb1.mono HBL.out.size))
  obtain ⟨c0, c1, -, -, cl⟩ := cells2 (HH.out.below hb1 HH.out.lt)
  obtain ⟨s0, s1, -, -, sl⟩ := cells2 (HB.out.below hb1 HB.out.lt)
  obtain ⟨z0, z1, y0, y1, zl⟩ := cells2 (HD.out.below hb1 HD.out.lt)
  clear hb1
  go_wp2_with fail
  refine bodyPost_ret (v := .agg #[.slice A n c, .int .u8 d]) (by simp [results, Tryz.results70, go_sem, z0, z1, zl]) rfl ⟨rfl, ?_⟩
  exact ((HBL1.out.setCell (by simp) _).setCell (by simp) _)

theorem seqType (d : Nat) (v : Value) (w : World) : Calls Tryz.prog 135 #[.agg #[.int .u8 d, v]] w (Gives w (.int .u8 d)) := by
  go_enter Tryz.func135, Tryz.ntmps135
  go_wp2_with fail
  exact bodyPost_ret (v := .int .u8 d) (by simp [results, go_sem]) rfl ⟨rfl, (Below.refl _ _).alloc (Nat.le_refl _) _⟩
theorem ctype2 (d : Nat) (v : Value) (w : World) : Calls Tryz.prog 130 #[.agg #[.int .u8 d, v]] w (Gives w (.int .u8 d)) := by
  go_enter Tryz.func130, Tryz.ntmps130
  go_wp2_with fail
  refine (seqType _ _ _).mono ?_
  rintro e w1 ⟨rfl, hb⟩
  have HB := Lib.hid hb
  clear hb
  go_wp2_with fail
  exact bodyPost_ret (v := .int .u8 d) (by simp [results, go_sem]) rfl ⟨rfl, ((Below.refl _ _).alloc (Nat.le_refl _) _).trans (HB.out.mono (by simp))⟩
theorem ctype1 (d : Nat) (x y z m b : Value) (w : World) : Calls Tryz.prog 115 #[.agg #[x, y, z, m, .int .u8 d, b]] w (Gives w (.int .u8 d)) := by
  go_enter Tryz.func115, Tryz.ntmps115
  go_wp2_with fail
  exact bodyPost_ret (v := .int .u8 d) (by simp [results, go_sem]) rfl ⟨rfl, (Below.refl _ _).alloc (Nat.le_refl _) _⟩

theorem ctype0 (d : Nat) (v : Value) (w : World) : Calls Tryz.prog 127 #[.agg #[v, .int .u8 d]] w (Gives w (.int .u8 d)) := by
  go_enter Tryz.func127, Tryz.ntmps127
  go_wp2_with fail
  exact bodyPost_ret (v := .int .u8 d) (by simp [results, go_sem]) rfl ⟨rfl, (Below.refl _ _).alloc (Nat.le_refl _) _⟩

theorem ctype3 (d : Nat) (v : Value) (w : World) : Calls Tryz.prog 120 #[.agg #[v, .int .u8 d]] w (Gives w (.int .u8 d)) := by
  go_enter Tryz.func120, Tryz.ntmps120
  go_wp2_with fail
  exact bodyPost_ret (v := .int .u8 d) (by simp [results, go_sem]) rfl ⟨rfl, (Below.refl _ _).alloc (Nat.le_refl _) _⟩

theorem ctype4 (d : Nat) (v : Value) (w : World) : Calls Tryz.prog 122 #[.agg #[v, .int .u8 d]] w (Gives w (.int .u8 d)) := by
  go_enter Tryz.func122, Tryz.ntmps122
  go_wp2_with fail
  exact bodyPost_ret (v := .int .u8 d) (by simp [results, go_sem]) rfl ⟨rfl, (Below.refl _ _).alloc (Nat.le_refl _) _⟩

theorem ctype5 (d : Nat) (v : Value) (w : World) : Calls Tryz.prog 123 #[.agg #[v, .int .u8 d]] w (Gives w (.int .u8 d)) := by
  go_enter Tryz.func123, Tryz.ntmps123
  go_wp2_with fail
  exact bodyPost_ret (v := .int .u8 d) (by simp [results, go_sem]) rfl ⟨rfl, (Below.refl _ _).alloc (Nat.le_refl _) _⟩

theorem ctype6 (d : Nat) (v : Value) (w : World) : Calls Tryz.prog 125 #[.agg #[v, .int .u8 d]] w (Gives w (.int .u8 d)) := by
  go_enter Tryz.func125, Tryz.ntmps125
  go_wp2_with fail
  exact bodyPost_ret (v := .int .u8 d) (by simp [results, go_sem]) rfl ⟨rfl, (Below.refl _ _).alloc (Nat.le_refl _) _⟩

end Go.Proofs.YtplphaaeibeheaaGreat.geo
