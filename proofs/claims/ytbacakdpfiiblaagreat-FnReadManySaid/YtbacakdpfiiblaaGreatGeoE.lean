/-
  Contracts: a geometry out of each kind, and each kind out of a geometry; types of coordinates; lines and points, small.
-/
import Derived.Test.YtbacakdpfiiblaaGreatGeoD
namespace Go.Proofs.YtbacakdpfiiblaaGreat.geo
open Go.ChangeShapes Go.WideShapes Go.ChangeAt Go.RowKit
open Go.Proofs.YtbacakdpfiiblaaGreat.mem
set_option linter.unusedVariables false
set_option linter.unusedSimpArgs false
set_option maxHeartbeats 4000000
set_option maxRecDepth 100000

/-- A value comes back that is known, and nothing old has turned. -/
def Gives (w : World) (v : Value) (e : Ending) (w' : World) : Prop := e = .returned v ∧ Below w.heap.size w w'
theorem cells_any {w : World} {g : Nat} {t : TypeId} {cs : Array Value} (h : Blk w g t cs) : g < w.heap.size := h.lt

/-- A box around a struct of a kind comes back. -/
def BoxPost (w : World) (k : Nat) (cs : List Value) (e : Ending) (w' : World) : Prop :=
  ∃ a, e = .returned (.agg #[.int .i64 k, .iface (pT k) (.pointer (some ⟨a, 0, none⟩))]) ∧ Blk w' a (sT k) cs.toArray ∧ w.heap.size ≤ a ∧ Below w.heap.size w w'

theorem asGeo0 (u v : Value) (w : World) : Calls Tryz.prog 67 #[.agg #[u, v]] w (BoxPost w 0 [u, v]) := by
  obtain ⟨wA, hwA⟩ : ∃ wA, wA = w.alloc (.cells #[u, v] 102) := ⟨_, rfl⟩
  have hB : Blk wA w.heap.size 102 #[u, v] := by rw [hwA]; exact Blk.new _ _ _
  have hb : Below w.heap.size w wA := by rw [hwA]; exact (Below.refl _ _).alloc (Nat.le_refl _) _
  have HP := Lib.hid (show ∀ o, BoxPost w 0 [u, v] (.returned (.agg #[.int .i64 0, .iface 180 (.pointer (some ⟨w.heap.size, 0, none⟩))])) (wA.alloc o) from fun o => ⟨_, rfl, hB.alloc o, Nat.le_refl _, hb.alloc hb.size o⟩)
  rw [hwA] at HP
  clear hB hb hwA
  go_enter Tryz.func67, Tryz.ntmps67
  go_wp2_with fail
  exact bodyPost_ret (v := .agg #[.int .i64 0, .iface 180 (.pointer (some ⟨w.heap.size, 0, none⟩))]) (by simp [results, Tryz.results67, go_sem]) rfl (HP.out _)

theorem asGeo1 (x y z m d b : Value) (w : World) : Calls Tryz.prog 55 #[.agg #[x, y, z, m, d, b]] w (BoxPost w 1 [x, y, z, m, d, b]) := by
  obtain ⟨wA, hwA⟩ : ∃ wA, wA = w.alloc (.cells #[x, y, z, m, d, b] 77) := ⟨_, rfl⟩
  have hB : Blk wA w.heap.size 77 #[x, y, z, m, d, b] := by rw [hwA]; exact Blk.new _ _ _
  have hb : Below w.heap.size w wA := by rw [hwA]; exact (Below.refl _ _).alloc (Nat.le_refl _) _
  have HP := Lib.hid (show ∀ o, BoxPost w 1 [x, y, z, m, d, b] (.returned (.agg #[.int .i64 1, .iface 162 (.pointer (some ⟨w.heap.size, 0, none⟩))])) (wA.alloc o) from fun o => ⟨_, rfl, hB.alloc o, Nat.le_refl _, hb.alloc hb.size o⟩)
  rw [hwA] at HP
  clear hB hb hwA
  go_enter Tryz.func55, Tryz.ntmps55
  go_wp2_with fail
  exact bodyPost_ret (v := .agg #[.int .i64 1, .iface 162 (.pointer (some ⟨w.heap.size, 0, none⟩))]) (by simp [results, Tryz.results55, go_sem]) rfl (HP.out _)

theorem asGeo2 (u v : Value) (w : World) : Calls Tryz.prog 57 #[.agg #[u, v]] w (BoxPost w 2 [u, v]) := by
  obtain ⟨wA, hwA⟩ : ∃ wA, wA = w.alloc (.cells #[u, v] 83) := ⟨_, rfl⟩
  have hB : Blk wA w.heap.size 83 #[u, v] := by rw [hwA]; exact Blk.new _ _ _
  have hb : Below w.heap.size w wA := by rw [hwA]; exact (Below.refl _ _).alloc (Nat.le_refl _) _
  have HP := Lib.hid (show ∀ o, BoxPost w 2 [u, v] (.returned (.agg #[.int .i64 2, .iface 164 (.pointer (some ⟨w.heap.size, 0, none⟩))])) (wA.alloc o) from fun o => ⟨_, rfl, hB.alloc o, Nat.le_refl _, hb.alloc hb.size o⟩)
  rw [hwA] at HP
  clear hB hb hwA
  go_enter Tryz.func57, Tryz.ntmps57
  go_wp2_with fail
  exact bodyPost_ret (v := .agg #[.int .i64 2, .iface 164 (.pointer (some ⟨w.heap.size, 0, none⟩))]) (by simp [results, Tryz.results57, go_sem]) rfl (HP.out _)

theorem asGeo3 (u v : Value) (w : World) : Calls Tryz.prog 59 #[.agg #[u, v]] w (BoxPost w 3 [u, v]) := by
  obtain ⟨wA, hwA⟩ : ∃ wA, wA = w.alloc (.cells #[u, v] 87) := ⟨_, rfl⟩
  have hB : Blk wA w.heap.size 87 #[u, v] := by rw [hwA]; exact Blk.new _ _ _
  have hb : Below w.heap.size w wA := by rw [hwA]; exact (Below.refl _ _).alloc (Nat.le_refl _) _
  have HP := Lib.hid (show ∀ o, BoxPost w 3 [u, v] (.returned (.agg #[.int .i64 3, .iface 167 (.pointer (some ⟨w.heap.size, 0, none⟩))])) (wA.alloc o) from fun o => ⟨_, rfl, hB.alloc o, Nat.le_refl _, hb.alloc hb.size o⟩)
  rw [hwA] at HP
  clear hB hb hwA
  go_enter Tryz.func59, Tryz.ntmps59
  go_wp2_with fail
  exact bodyPost_ret (v := .agg #[.int .i64 3, .iface 167 (.pointer (some ⟨w.heap.size, 0, none⟩))]) (by simp [results, Tryz.results59, go_sem]) rfl (HP.out _)

theorem asGeo4 (u v : Value) (w : World) : Calls Tryz.prog 61 #[.agg #[u, v]] w (BoxPost w 4 [u, v]) := by
  obtain ⟨wA, hwA⟩ : ∃ wA, wA = w.alloc (.cells #[u, v] 91) := ⟨_, rfl⟩
  have hB : Blk wA w.heap.size 91 #[u, v] := by rw [hwA]; exact Blk.new _ _ _
  have hb : Below w.heap.size w wA := by rw [hwA]; exact (Below.refl _ _).alloc (Nat.le_refl _) _
  have HP := Lib.hid (show ∀ o, BoxPost w 4 [u, v] (.returned (.agg #[.int .i64 4, .iface 170 (.pointer (some ⟨w.heap.size, 0, none⟩))])) (wA.alloc o) from fun o => ⟨_, rfl, hB.alloc o, Nat.le_refl _, hb.alloc hb.size o⟩)
  rw [hwA] at HP
  clear hB hb hwA
  go_enter Tryz.func61, Tryz.ntmps61
  go_wp2_with fail
  exact bodyPost_ret (v := .agg #[.int .i64 4, .iface 170 (.pointer (some ⟨w.heap.size, 0, none⟩))]) (by simp [results, Tryz.results61, go_sem]) rfl (HP.out _)

theorem asGeo5 (u v : Value) (w : World) : Calls Tryz.prog 63 #[.agg #[u, v]] w (BoxPost w 5 [u, v]) := by
  obtain ⟨wA, hwA⟩ : ∃ wA, wA = w.alloc (.cells #[u, v] 94) := ⟨_, rfl⟩
  have hB : Blk wA w.heap.size 94 #[u, v] := by rw [hwA]; exact Blk.new _ _ _
  have hb : Below w.heap.size w wA := by rw [hwA]; exact (Below.refl _ _).alloc (Nat.le_refl _) _
  have HP := Lib.hid (show ∀ o, BoxPost w 5 [u, v] (.returned (.agg #[.int .i64 5, .iface 173 (.pointer (some ⟨w.heap.size, 0, none⟩))])) (wA.alloc o) from fun o => ⟨_, rfl, hB.alloc o, Nat.le_refl _, hb.alloc hb.size o⟩)
  rw [hwA] at HP
  clear hB hb hwA
  go_enter Tryz.func63, Tryz.ntmps63
  go_wp2_with fail
  exact bodyPost_ret (v := .agg #[.int .i64 5, .iface 173 (.pointer (some ⟨w.heap.size, 0, none⟩))]) (by simp [results, Tryz.results63, go_sem]) rfl (HP.out _)

theorem asGeo6 (u v : Value) (w : World) : Calls Tryz.prog 65 #[.agg #[u, v]] w (BoxPost w 6 [u, v]) := by
  obtain ⟨wA, hwA⟩ : ∃ wA, wA = w.alloc (.cells #[u, v] 98) := ⟨_, rfl⟩
  have hB : Blk wA w.heap.size 98 #[u, v] := by rw [hwA]; exact Blk.new _ _ _
  have hb : Below w.heap.size w wA := by rw [hwA]; exact (Below.refl _ _).alloc (Nat.le_refl _) _
  have HP := Lib.hid (show ∀ o, BoxPost w 6 [u, v] (.returned (.agg #[.int .i64 6, .iface 176 (.pointer (some ⟨w.heap.size, 0, none⟩))])) (wA.alloc o) from fun o => ⟨_, rfl, hB.alloc o, Nat.le_refl _, hb.alloc hb.size o⟩)
  rw [hwA] at HP
  clear hB hb hwA
  go_enter Tryz.func65, Tryz.ntmps65
  go_wp2_with fail
  exact bodyPost_ret (v := .agg #[.int .i64 6, .iface 176 (.pointer (some ⟨w.heap.size, 0, none⟩))]) (by simp [results, Tryz.results65, go_sem]) rfl (HP.out _)

theorem check_calls (k : Int) (v : Value) (w : World) : Calls Tryz.prog 129 #[.agg #[.int .i64 k, v], .int .i64 k] w fun e w' => e = .returned (.tuple #[]) ∧ Below w.heap.size w w' := by
  have hk : (k != k) = false := by simp
  go_enter Tryz.func129, Tryz.ntmps129
  go_wp2_with fail
  exact bodyPost_end (v := .tuple #[]) (by simp [results, Tryz.results129, go_sem]) rfl ⟨rfl, (Below.refl _ _).alloc (Nat.le_refl _) _⟩

theorem ta0 (p : Addr) (w : World) : (Instr.typeAssert (.iface 180 (.pointer (some p))) 20 180 false).run Tryz.prog w = .ok (.pointer (some p)) w := by kernel_rfl
theorem must0 {d : Int} {A : Option Addr} {n c : Nat} {a : Nat} {w : World} (h : Blk w a 102 #[.slice A n c, .int .u8 d]) : Calls Tryz.prog 84 #[.agg #[.int .i64 0, .iface 180 (.pointer (some ⟨a, 0, none⟩))]] w (Gives w (.agg #[.slice A n c, .int .u8 d])) := by
  obtain ⟨wA, hwA⟩ : ∃ wA, wA = (w.alloc (.cells #[.int .i64 0, .iface 180 (.pointer (some ⟨a, 0, none⟩))] 47)).alloc (.cells #[.slice none 0 0, .int .u8 0] 102) := ⟨_, rfl⟩
  have hbl : Below w.heap.size w wA := by rw [hwA]; exact ((Below.refl _ _).alloc (Nat.le_refl _) _).alloc (by simp) _
  have hB : Blk wA w.heap.size 47 #[.int .i64 0, .iface 180 (.pointer (some ⟨a, 0, none⟩))] := by rw [hwA]; exact (Blk.new _ _ _).alloc _
  have hD : Blk wA (w.heap.size + 1) 102 #[.slice none 0 0, .int .u8 0] := by
    rw [hwA]
    have := Blk.new (w.alloc (.cells #[.int .i64 0, .iface 180 (.pointer (some ⟨a, 0, none⟩))] 47)) 102 #[.slice none 0 0, .int .u8 0]
    simpa using this
  have HH := Lib.hid (h.below hbl h.lt)
  have HB := Lib.hid hB
  have HD := Lib.hid hD
  have HBL := Lib.hid hbl
  have HWA := Lib.hid hwA
  have hta := fun w => ta0 ⟨a, 0, none⟩ w
  clear h hbl hB hD hwA
  go_enter Tryz.func84, Tryz.ntmps84
  go_wp2_with fail
  rw [← HWA.out]
  refine (check_calls _ _ _).mono ?_
  rintro e w1 ⟨rfl, hb1⟩
  have HBL1 := Lib.hid (HBL.out.trans (hb1.mono HBL.out.size))
  obtain ⟨c0, c1, -, -, cl⟩ := cells2 (HH.out.below hb1 HH.out.lt)
  obtain ⟨s0, s1, -, -, sl⟩ := cells2 (HB.out.below hb1 HB.out.lt)
  obtain ⟨z0, z1, y0, y1, zl⟩ := cells2 (HD.out.below hb1 HD.out.lt)
  clear hb1
  go_wp2_with fail
  refine bodyPost_ret (v := .agg #[.slice A n c, .int .u8 d]) (by simp [results, Tryz.results84, go_sem, z0, z1, zl]) rfl ⟨rfl, ?_⟩
  exact ((HBL1.out.setCell (by simp) _).setCell (by simp) _)

theorem ta1 (p : Addr) (w : World) : (Instr.typeAssert (.iface 162 (.pointer (some p))) 20 162 false).run Tryz.prog w = .ok (.pointer (some p)) w := by kernel_rfl
theorem must1 {x y z m : Nat} {d : Int} {b : Bool} {a : Nat} {w : World} (h : Blk w a 77 #[.float .f64 x, .float .f64 y, .float .f64 z, .float .f64 m, .int .u8 d, .bool b]) : Calls Tryz.prog 87 #[.agg #[.int .i64 1, .iface 162 (.pointer (some ⟨a, 0, none⟩))]] w (Gives w (.agg #[.float .f64 x, .float .f64 y, .float .f64 z, .float .f64 m, .int .u8 d, .bool b])) := by
  obtain ⟨wA, hwA⟩ : ∃ wA, wA = (w.alloc (.cells #[.int .i64 1, .iface 162 (.pointer (some ⟨a, 0, none⟩))] 47)).alloc (.cells #[.float .f64 0, .float .f64 0, .float .f64 0, .float .f64 0, .int .u8 0, .bool false] 77) := ⟨_, rfl⟩
  have hbl : Below w.heap.size w wA := by rw [hwA]; exact ((Below.refl _ _).alloc (Nat.le_refl _) _).alloc (by simp) _
  have hB : Blk wA w.heap.size 47 #[.int .i64 1, .iface 162 (.pointer (some ⟨a, 0, none⟩))] := by rw [hwA]; exact (Blk.new _ _ _).alloc _
  have hD : Blk wA (w.heap.size + 1) 77 #[.float .f64 0, .float .f64 0, .float .f64 0, .float .f64 0, .int .u8 0, .bool false] := by
    rw [hwA]
    have := Blk.new (w.alloc (.cells #[.int .i64 1, .iface 162 (.pointer (some ⟨a, 0, none⟩))] 47)) 77 #[.float .f64 0, .float .f64 0, .float .f64 0, .float .f64 0, .int .u8 0, .bool false]
    simpa using this
  have HH := Lib.hid (h.below hbl h.lt)
  have HB := Lib.hid hB
  have HD := Lib.hid hD
  have HBL := Lib.hid hbl
  have HWA := Lib.hid hwA
  have hta := fun w => ta1 ⟨a, 0, none⟩ w
  clear h hbl hB hD hwA
  go_enter Tryz.func87, Tryz.ntmps87
  go_wp2_with fail
  rw [← HWA.out]
  refine (check_calls _ _ _).mono ?_
  rintro e w1 ⟨rfl, hb1⟩
  have HBL1 := Lib.hid (HBL.out.trans (hb1.mono HBL.out.size))
  obtain ⟨c0, c1, c2, c3, c4, c5, -, -, -, -, -, -, cl⟩ := cells6 (HH.out.below hb1 HH.out.lt)
  obtain ⟨s0, s1, -, -, sl⟩ := cells2 (HB.out.below hb1 HB.out.lt)
  obtain ⟨z0, z1, z2, z3, z4, z5, y0, y1, y2, y3, y4, y5, zl⟩ := cells6 (HD.out.below hb1 HD.out.lt)
  clear hb1
  go_wp2_with fail
  refine bodyPost_ret (v := .agg #[.float .f64 x, .float .f64 y, .float .f64 z, .float .f64 m, .int .u8 d, .bool b]) (by simp [results, Tryz.results87, go_sem, z0, z1, z2, z3, z4, z5, zl]) rfl ⟨rfl, ?_⟩
  exact ((((((HBL1.out.setCell (by simp) _).setCell (by simp) _).setCell (by simp) _).setCell (by simp) _).setCell (by simp) _).setCell (by simp) _)

theorem ta2 (p : Addr) (w : World) : (Instr.typeAssert (.iface 164 (.pointer (some p))) 20 164 false).run Tryz.prog w = .ok (.pointer (some p)) w := by kernel_rfl
theorem must2 {d : Int} {A : Option Addr} {n c : Nat} {a : Nat} {w : World} (h : Blk w a 83 #[.int .u8 d, .slice A n c]) : Calls Tryz.prog 71 #[.agg #[.int .i64 2, .iface 164 (.pointer (some ⟨a, 0, none⟩))]] w (Gives w (.agg #[.int .u8 d, .slice A n c])) := by
  obtain ⟨wA, hwA⟩ : ∃ wA, wA = (w.alloc (.cells #[.int .i64 2, .iface 164 (.pointer (some ⟨a, 0, none⟩))] 47)).alloc (.cells #[.int .u8 0, .slice none 0 0] 83) := ⟨_, rfl⟩
  have hbl : Below w.heap.size w wA := by rw [hwA]; exact ((Below.refl _ _).alloc (Nat.le_refl _) _).alloc (by simp) _
  have hB : Blk wA w.heap.size 47 #[.int .i64 2, .iface 164 (.pointer (some ⟨a, 0, none⟩))] := by rw [hwA]; exact (Blk.new _ _ _).alloc _
  have hD : Blk wA (w.heap.size + 1) 83 #[.int .u8 0, .slice none 0 0] := by
    rw [hwA]
    have := Blk.new (w.alloc (.cells #[.int .i64 2, .iface 164 (.pointer (some ⟨a, 0, none⟩))] 47)) 83 #[.int .u8 0, .slice none 0 0]
    simpa using this
  have HH := Lib.hid (h.below hbl h.lt)
  have HB := Lib.hid hB
  have HD := Lib.hid hD
  have HBL := Lib.hid hbl
  have HWA := Lib.hid hwA
  have hta := fun w => ta2 ⟨a, 0, none⟩ w
  clear h hbl hB hD hwA
  go_enter Tryz.func71, Tryz.ntmps71
  go_wp2_with fail
  rw [← HWA.out]
  refine (check_calls _ _ _).mono ?_
  rintro e w1 ⟨rfl, hb1⟩
  have HBL1 := Lib.hid (HBL.out.trans (hb1.mono HBL.out.size))
  obtain ⟨c0, c1, -, -, cl⟩ := cells2 (HH.out.below hb1 HH.out.lt)
  obtain ⟨s0, s1, -, -, sl⟩ := cells2 (HB.out.below hb1 HB.out.lt)
  obtain ⟨z0, z1, y0, y1, zl⟩ := cells2 (HD.out.below hb1 HD.out.lt)
  clear hb1
  go_wp2_with fail
  refine bodyPost_ret (v := .agg #[.int .u8 d, .slice A n c]) (by simp [results, Tryz.results71, go_sem, z0, z1, zl]) rfl ⟨rfl, ?_⟩
  exact ((HBL1.out.setCell (by simp) _).setCell (by simp) _)

theorem ta3 (p : Addr) (w : World) : (Instr.typeAssert (.iface 167 (.pointer (some p))) 20 167 false).run Tryz.prog w = .ok (.pointer (some p)) w := by kernel_rfl
theorem must3 {d : Int} {A : Option Addr} {n c : Nat} {a : Nat} {w : World} (h : Blk w a 87 #[.slice A n c, .int .u8 d]) : Calls Tryz.prog 75 #[.agg #[.int .i64 3, .iface 167 (.pointer (some ⟨a, 0, none⟩))]] w (Gives w (.agg #[.slice A n c, .int .u8 d])) := by
  obtain ⟨wA, hwA⟩ : ∃ wA, wA = (w.alloc (.cells #[.int .i64 3, .iface 167 (.pointer (some ⟨a, 0, none⟩))] 47)).alloc (.cells #[.slice none 0 0, .int .u8 0] 87) := ⟨_, rfl⟩
  have hbl : Below w.heap.size w wA := by rw [hwA]; exact ((Below.refl _ _).alloc (Nat.le_refl _) _).alloc (by simp) _
  have hB : Blk wA w.heap.size 47 #[.int .i64 3, .iface 167 (.pointer (some ⟨a, 0, none⟩))] := by rw [hwA]; exact (Blk.new _ _ _).alloc _
  have hD : Blk wA (w.heap.size + 1) 87 #[.slice none 0 0, .int .u8 0] := by
    rw [hwA]
    have := Blk.new (w.alloc (.cells #[.int .i64 3, .iface 167 (.pointer (some ⟨a, 0, none⟩))] 47)) 87 #[.slice none 0 0, .int .u8 0]
    simpa using this
  have HH := Lib.hid (h.below hbl h.lt)
  have HB := Lib.hid hB
  have HD := Lib.hid hD
  have HBL := Lib.hid hbl
  have HWA := Lib.hid hwA
  have hta := fun w => ta3 ⟨a, 0, none⟩ w
  clear h hbl hB hD hwA
  go_enter Tryz.func75, Tryz.ntmps75
  go_wp2_with fail
  rw [← HWA.out]
  refine (check_calls _ _ _).mono ?_
  rintro e w1 ⟨rfl, hb1⟩
  have HBL1 := Lib.hid (HBL.out.trans (hb1.mono HBL.out.size))
  obtain ⟨c0, c1, -, -, cl⟩ := cells2 (HH.out.below hb1 HH.out.lt)
  obtain ⟨s0, s1, -, -, sl⟩ := cells2 (HB.out.below hb1 HB.out.lt)
  obtain ⟨z0, z1, y0, y1, zl⟩ := cells2 (HD.out.below hb1 HD.out.lt)
  clear hb1
  go_wp2_with fail
  refine bodyPost_ret (v := .agg #[.slice A n c, .int .u8 d]) (by simp [results, Tryz.results75, go_sem, z0, z1, zl]) rfl ⟨rfl, ?_⟩
  exact ((HBL1.out.setCell (by simp) _).setCell (by simp) _)

theorem ta4 (p : Addr) (w : World) : (Instr.typeAssert (.iface 170 (.pointer (some p))) 20 170 false).run Tryz.prog w = .ok (.pointer (some p)) w := by kernel_rfl
theorem must4 {d : Int} {A : Option Addr} {n c : Nat} {a : Nat} {w : World} (h : Blk w a 91 #[.slice A n c, .int .u8 d]) : Calls Tryz.prog 78 #[.agg #[.int .i64 4, .iface 170 (.pointer (some ⟨a, 0, none⟩))]] w (Gives w (.agg #[.slice A n c, .int .u8 d])) := by
  obtain ⟨wA, hwA⟩ : ∃ wA, wA = (w.alloc (.cells #[.int .i64 4, .iface 170 (.pointer (some ⟨a, 0, none⟩))] 47)).alloc (.cells #[.slice none 0 0, .int .u8 0] 91) := ⟨_, rfl⟩
  have hbl : Below w.heap.size w wA := by rw [hwA]; exact ((Below.refl _ _).alloc (Nat.le_refl _) _).alloc (by simp) _
  have hB : Blk wA w.heap.size 47 #[.int .i64 4, .iface 170 (.pointer (some ⟨a, 0, none⟩))] := by rw [hwA]; exact (Blk.new _ _ _).alloc _
  have hD : Blk wA (w.heap.size + 1) 91 #[.slice none 0 0, .int .u8 0] := by
    rw [hwA]
    have := Blk.new (w.alloc (.cells #[.int .i64 4, .iface 170 (.pointer (some ⟨a, 0, none⟩))] 47)) 91 #[.slice none 0 0, .int .u8 0]
    simpa using this
  have HH := Lib.hid (h.below hbl h.lt)
  have HB := Lib.hid hB
  have HD := Lib.hid hD
  have HBL := Lib.hid hbl
  have HWA := Lib.hid hwA
  have hta := fun w => ta4 ⟨a, 0, none⟩ w
  clear h hbl hB hD hwA
  go_enter Tryz.func78, Tryz.ntmps78
  go_wp2_with fail
  rw [← HWA.out]
  refine (check_calls _ _ _).mono ?_
  rintro e w1 ⟨rfl, hb1⟩
  have HBL1 := Lib.hid (HBL.out.trans (hb1.mono HBL.out.size))
  obtain ⟨c0, c1, -, -, cl⟩ := cells2 (HH.out.below hb1 HH.out.lt)
  obtain ⟨s0, s1, -, -, sl⟩ := cells2 (HB.out.below hb1 HB.out.lt)
  obtain ⟨z0, z1, y0, y1, zl⟩ := cells2 (HD.out.below hb1 HD.out.lt)
  clear hb1
  go_wp2_with fail
  refine bodyPost_ret (v := .agg #[.slice A n c, .int .u8 d]) (by simp [results, Tryz.results78, go_sem, z0, z1, zl]) rfl ⟨rfl, ?_⟩
  exact ((HBL1.out.setCell (by simp) _).setCell (by simp) _)

theorem ta5 (p : Addr) (w : World) : (Instr.typeAssert (.iface 173 (.pointer (some p))) 20 173 false).run Tryz.prog w = .ok (.pointer (some p)) w := by kernel_rfl
theorem must5 {d : Int} {A : Option Addr} {n c : Nat} {a : Nat} {w : World} (h : Blk w a 94 #[.slice A n c, .int .u8 d]) : Calls Tryz.prog 80 #[.agg #[.int .i64 5, .iface 173 (.pointer (some ⟨a, 0, none⟩))]] w (Gives w (.agg #[.slice A n c, .int .u8 d])) := by
  obtain ⟨wA, hwA⟩ : ∃ wA, wA = (w.alloc (.cells #[.int .i64 5, .iface 173 (.pointer (some ⟨a, 0, none⟩))] 47)).alloc (.cells #[.slice none 0 0, .int .u8 0] 94) := ⟨_, rfl⟩
  have hbl : Below w.heap.size w wA := by rw [hwA]; exact ((Below.refl _ _).alloc (Nat.le_refl _) _).alloc (by simp) _
  have hB : Blk wA w.heap.size 47 #[.int .i64 5, .iface 173 (.pointer (some ⟨a, 0, none⟩))] := by rw [hwA]; exact (Blk.new _ _ _).alloc _
  have hD : Blk wA (w.heap.size + 1) 94 #[.slice none 0 0, .int .u8 0] := by
    rw [hwA]
    have := Blk.new (w.alloc (.cells #[.int .i64 5, .iface 173 (.pointer (some ⟨a, 0, none⟩))] 47)) 94 #[.slice none 0 0, .int .u8 0]
    simpa using this
  have HH := Lib.hid (h.below hbl h.lt)
  have HB := Lib.hid hB
  have HD := Lib.hid hD
  have HBL := Lib.hid hbl
  have HWA := Lib.hid hwA
  have hta := fun w => ta5 ⟨a, 0, none⟩ w
  clear h hbl hB hD hwA
  go_enter Tryz.func80, Tryz.ntmps80
  go_wp2_with fail
  rw [← HWA.out]
  refine (check_calls _ _ _).mono ?_
  rintro e w1 ⟨rfl, hb1⟩
  have HBL1 := Lib.hid (HBL.out.trans (hb1.mono HBL.out.size))
  obtain ⟨c0, c1, -, -, cl⟩ := cells2 (HH.out.below hb1 HH.out.lt)
  obtain ⟨s0, s1, -, -, sl⟩ := cells2 (HB.out.below hb1 HB.out.lt)
  obtain ⟨z0, z1, y0, y1, zl⟩ := cells2 (HD.out.below hb1 HD.out.lt)
  clear hb1
  go_wp2_with fail
  refine bodyPost_ret (v := .agg #[.slice A n c, .int .u8 d]) (by simp [results, Tryz.results80, go_sem, z0, z1, zl]) rfl ⟨rfl, ?_⟩
  exact ((HBL1.out.setCell (by simp) _).setCell (by simp) _)

theorem ta6 (p : Addr) (w : World) : (Instr.typeAssert (.iface 176 (.pointer (some p))) 20 176 false).run Tryz.prog w = .ok (.pointer (some p)) w := by kernel_rfl
theorem must6 {d : Int} {A : Option Addr} {n c : Nat} {a : Nat} {w : World} (h : Blk w a 98 #[.slice A n c, .int .u8 d]) : Calls Tryz.prog 82 #[.agg #[.int .i64 6, .iface 176 (.pointer (some ⟨a, 0, none⟩))]] w (Gives w (.agg #[.slice A n c, .int .u8 d])) := by
  obtain ⟨wA, hwA⟩ : ∃ wA, wA = (w.alloc (.cells #[.int .i64 6, .iface 176 (.pointer (some ⟨a, 0, none⟩))] 47)).alloc (.cells #[.slice none 0 0, .int .u8 0] 98) := ⟨_, rfl⟩
  have hbl : Below w.heap.size w wA := by rw [hwA]; exact ((Below.refl _ _).alloc (Nat.le_refl _) _).alloc (by simp) _
  have hB : Blk wA w.heap.size 47 #[.int .i64 6, .iface 176 (.pointer (some ⟨a, 0, none⟩))] := by rw [hwA]; exact (Blk.new _ _ _).alloc _
  have hD : Blk wA (w.heap.size + 1) 98 #[.slice none 0 0, .int .u8 0] := by
    rw [hwA]
    have := Blk.new (w.alloc (.cells #[.int .i64 6, .iface 176 (.pointer (some ⟨a, 0, none⟩))] 47)) 98 #[.slice none 0 0, .int .u8 0]
    simpa using this
  have HH := Lib.hid (h.below hbl h.lt)
  have HB := Lib.hid hB
  have HD := Lib.hid hD
  have HBL := Lib.hid hbl
  have HWA := Lib.hid hwA
  have hta := fun w => ta6 ⟨a, 0, none⟩ w
  clear h hbl hB hD hwA
  go_enter Tryz.func82, Tryz.ntmps82
  go_wp2_with fail
  rw [← HWA.out]
  refine (check_calls _ _ _).mono ?_
  rintro e w1 ⟨rfl, hb1⟩
  have HBL1 := Lib.hid (HBL.out.trans (hb1.mono HBL.out.size))
  obtain ⟨c0, c1, -, -, cl⟩ := cells2 (HH.out.below hb1 HH.out.lt)
  obtain ⟨s0, s1, -, -, sl⟩ := cells2 (HB.out.below hb1 HB.out.lt)
  obtain ⟨z0, z1, y0, y1, zl⟩ := cells2 (HD.out.below hb1 HD.out.lt)
  clear hb1
  go_wp2_with fail
  refine bodyPost_ret (v := .agg #[.slice A n c, .int .u8 d]) (by simp [results, Tryz.results82, go_sem, z0, z1, zl]) rfl ⟨rfl, ?_⟩
  exact ((HBL1.out.setCell (by simp) _).setCell (by simp) _)

theorem seqType (d : Nat) (v : Value) (w : World) : Calls Tryz.prog 161 #[.agg #[.int .u8 d, v]] w (Gives w (.int .u8 d)) := by
  go_enter Tryz.func161, Tryz.ntmps161
  go_wp2_with fail
  exact bodyPost_ret (v := .int .u8 d) (by simp [results, go_sem]) rfl ⟨rfl, (Below.refl _ _).alloc (Nat.le_refl _) _⟩
theorem ctype2 (d : Nat) (v : Value) (w : World) : Calls Tryz.prog 156 #[.agg #[.int .u8 d, v]] w (Gives w (.int .u8 d)) := by
  go_enter Tryz.func156, Tryz.ntmps156
  go_wp2_with fail
  refine (seqType _ _ _).mono ?_
  rintro e w1 ⟨rfl, hb⟩
  have HB := Lib.hid hb
  clear hb
  go_wp2_with fail
  exact bodyPost_ret (v := .int .u8 d) (by simp [results, go_sem]) rfl ⟨rfl, ((Below.refl _ _).alloc (Nat.le_refl _) _).trans (HB.out.mono (by simp))⟩
theorem ctype1 (d : Nat) (x y z m b : Value) (w : World) : Calls Tryz.prog 133 #[.agg #[x, y, z, m, .int .u8 d, b]] w (Gives w (.int .u8 d)) := by
  go_enter Tryz.func133, Tryz.ntmps133
  go_wp2_with fail
  exact bodyPost_ret (v := .int .u8 d) (by simp [results, go_sem]) rfl ⟨rfl, (Below.refl _ _).alloc (Nat.le_refl _) _⟩

theorem ctype0 (d : Nat) (v : Value) (w : World) : Calls Tryz.prog 145 #[.agg #[v, .int .u8 d]] w (Gives w (.int .u8 d)) := by
  go_enter Tryz.func145, Tryz.ntmps145
  go_wp2_with fail
  exact bodyPost_ret (v := .int .u8 d) (by simp [results, go_sem]) rfl ⟨rfl, (Below.refl _ _).alloc (Nat.le_refl _) _⟩

theorem ctype3 (d : Nat) (v : Value) (w : World) : Calls Tryz.prog 138 #[.agg #[v, .int .u8 d]] w (Gives w (.int .u8 d)) := by
  go_enter Tryz.func138, Tryz.ntmps138
  go_wp2_with fail
  exact bodyPost_ret (v := .int .u8 d) (by simp [results, go_sem]) rfl ⟨rfl, (Below.refl _ _).alloc (Nat.le_refl _) _⟩

theorem ctype4 (d : Nat) (v : Value) (w : World) : Calls Tryz.prog 140 #[.agg #[v, .int .u8 d]] w (Gives w (.int .u8 d)) := by
  go_enter Tryz.func140, Tryz.ntmps140
  go_wp2_with fail
  exact bodyPost_ret (v := .int .u8 d) (by simp [results, go_sem]) rfl ⟨rfl, (Below.refl _ _).alloc (Nat.le_refl _) _⟩

theorem ctype5 (d : Nat) (v : Value) (w : World) : Calls Tryz.prog 141 #[.agg #[v, .int .u8 d]] w (Gives w (.int .u8 d)) := by
  go_enter Tryz.func141, Tryz.ntmps141
  go_wp2_with fail
  exact bodyPost_ret (v := .int .u8 d) (by simp [results, go_sem]) rfl ⟨rfl, (Below.refl _ _).alloc (Nat.le_refl _) _⟩

theorem ctype6 (d : Nat) (v : Value) (w : World) : Calls Tryz.prog 143 #[.agg #[v, .int .u8 d]] w (Gives w (.int .u8 d)) := by
  go_enter Tryz.func143, Tryz.ntmps143
  go_wp2_with fail
  exact bodyPost_ret (v := .int .u8 d) (by simp [results, go_sem]) rfl ⟨rfl, (Below.refl _ _).alloc (Nat.le_refl _) _⟩

end Go.Proofs.YtbacakdpfiiblaaGreat.geo
