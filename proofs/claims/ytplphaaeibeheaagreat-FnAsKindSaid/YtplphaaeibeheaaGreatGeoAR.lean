/-
  Contracts: a geometry as one of a kind, or as it must be one, kind by kind.
-/
import Derived.Test.YtplphaaeibeheaaGreatGeoAP
namespace Go.Proofs.YtplphaaeibeheaaGreat.geo
open Go.ChangeShapes Go.WideShapes Go.ChangeAt Go.RowKit
open Go.Proofs.YtplphaaeibeheaaGreat.mem
set_option linter.unusedVariables false
set_option linter.unusedSimpArgs false
set_option maxRecDepth 100000
set_option maxHeartbeats 4000000

/-- A geometry comes back, and whether it is of the kind. -/
def KindPost (S : Nat → Prop) (w : World) (q : PG) (b : Bool) (e : Ending) (w' : World) : Prop :=
  ∃ g : MG, e = .returned (.tuple #[.agg g.enc.toArray, .bool b]) ∧ g.kind = 7 ∧ g.In (Fresh S w) w' ∧ (b = true → g.plain = q) ∧ Below w.heap.size w w'
def MustPost (S : Nat → Prop) (w : World) (q : PG) (e : Ending) (w' : World) : Prop :=
  ∃ g : MG, e = .returned (.agg g.enc.toArray) ∧ g.kind = 7 ∧ g.In (Fresh S w) w' ∧ g.plain = q ∧ Below w.heap.size w w'
theorem box_in {S : Nat → Prop} {w w' : World} {m : MG} {a R : Nat} (hk : m.kind < 7) (hb : Blk w' a (sT m.kind) m.enc.toArray) (ha : R < a) (hin : m.In (Old S w) w') (hbw : Below w.heap.size w w') (hR : w.heap.size ≤ R) (u0 u1 : Value) :
    (MG.bx a m).In (Fresh S w) ((w'.setCell ⟨R, 0, none⟩ u0).setCell ⟨R, 1, none⟩ u1) ∧ Below w.heap.size w ((w'.setCell ⟨R, 0, none⟩ u0).setCell ⟨R, 1, none⟩ u1) := by
  have hno : ¬ (fun b => (S b ∧ b < w.heap.size) ∨ R < b) R := fun h => by
    rcases h with h | h
    · exact absurd h.2 (by omega)
    · exact Nat.lt_irrefl _ h
  refine ⟨?_, (hbw.setCell hR _).setCell hR _⟩
  refine MG.less (S := fun b => (S b ∧ b < w.heap.size) ∨ R < b) (fun b h => ?_) (MG.keep ((Keeps.set (p := ⟨R, 0, none⟩) hno _).trans (.set (p := ⟨R, 1, none⟩) hno _)) ?_)
  · rcases h with h | h
    · exact .inl h.1
    · exact .inr (by omega)
  · rw [MG.In]
    exact ⟨hk, .inr ha, hb, MG.less (fun b h => .inl h) hin⟩
theorem zero_pt (S : Nat → Prop) (w : World) : (MG.pt 0 false ⟨0, 0, 0, 0⟩).In S w := by rw [MG.In]; exact ⟨by decide, rfl⟩
theorem zero_ln (S : Nat → Prop) (w : World) : (MG.ln 0 none 0 []).In S w := by rw [MG.In]; exact ⟨by decide, by simp, by simp, ⟨by simp [Sl, FL], fun h => absurd h (by simp)⟩⟩
theorem zero_mu (k : Nat) (hk : pk k < 8) (S : Nat → Prop) (w : World) : (MG.mu k 0 none 0 []).In S w := by rw [MG.In]; exact ⟨by decide, hk, by simp, ⟨by simp [Sl], fun h => absurd h (by simp)⟩, trivial⟩
theorem check_out {z j : Int} (hz : z ≠ j) (v : Value) (w : World) : Calls Tryz.prog 111 #[.agg #[.int .i64 z, v], .int .i64 j] w (Dies w) := by
  have hne : (z != j) = true := by rw [bne_iff_ne]; exact hz
  have HB := Lib.hid (show ∀ o, Below w.heap.size w (w.alloc o) from fun o => (Below.refl _ _).alloc (Nat.le_refl _) _)
  go_enter Tryz.func111, Tryz.ntmps111
  go_wp2_with fail
  exact ⟨rfl, _, _, rfl, HB.out _⟩


theorem as0_in {a : Nat} {m : MG} (hm : m.kind = 0) {S : Nat → Prop} {w : World} (h : (MG.bx a m).In S w) : Calls Tryz.prog 82 #[.agg (MG.bx a m).enc.toArray] w (Gives w (.tuple #[.agg m.enc.toArray, .bool true])) := by
  rw [MG.In] at h
  obtain ⟨-, hSa, hblk, hin⟩ := h
  rw [hm] at hblk
  obtain ⟨d, A, c, kids, rfl⟩ := MG.is_mu (S := S) (w := w) (k := 0) hm (by decide) (by decide) (by decide)
  have hblk : Blk w a 84 #[.slice A kids.length c, .int .u8 d] := hblk
  show Calls Tryz.prog 82 #[.agg #[.int .i64 0, .iface 148 (.pointer (some ⟨a, 0, none⟩))]] w (Gives w (.tuple #[.agg #[.slice A kids.length c, .int .u8 d], .bool true]))
  obtain ⟨wA, hwA⟩ : ∃ wA, wA = (w.alloc (.cells #[.int .i64 0, .iface 148 (.pointer (some ⟨a, 0, none⟩))] 39)).alloc (.cells #[.slice none 0 0, .int .u8 0] 84) := ⟨_, rfl⟩
  have hbl : Below w.heap.size w wA := by rw [hwA]; exact ((Below.refl _ _).alloc (Nat.le_refl _) _).alloc (by simp) _
  have hB : Blk wA w.heap.size 39 #[.int .i64 0, .iface 148 (.pointer (some ⟨a, 0, none⟩))] := by rw [hwA]; exact (Blk.new _ _ _).alloc _
  have hD : Blk wA (w.heap.size + 1) 84 #[.slice none 0 0, .int .u8 0] := by
    rw [hwA]
    have := Blk.new (w.alloc (.cells #[.int .i64 0, .iface 148 (.pointer (some ⟨a, 0, none⟩))] 39)) 84 #[.slice none 0 0, .int .u8 0]
    simpa using this
  have HB := Lib.hid hB
  have HD := Lib.hid hD
  have HM := Lib.hid (fun w' (hb : Below w.heap.size w w') => must0 (hblk.below hb hblk.lt))
  have HI := Lib.hid (show ∀ w v, Calls Tryz.prog 34 #[.agg #[.int .i64 0, v]] w (Gives w (.bool true)) from fun w v => isK0_calls 0 v w)
  have HBL := Lib.hid hbl
  have HWA := Lib.hid hwA
  clear hwA hbl hB hD hblk hin hm
  go_enter Tryz.func82, Tryz.ntmps82
  go_wp2_with fail
  rw [← HWA.out]
  refine (HI.out _ _).mono ?_
  rintro e w1 ⟨rfl, hb1⟩
  have HB1 := Lib.hid (HBL.out.trans (hb1.mono HBL.out.size))
  have HD1 := Lib.hid (HD.out.below hb1 HD.out.lt)
  obtain ⟨b0, b1, -, -, bl⟩ := cells2 (HB.out.below hb1 HB.out.lt)
  clear hb1
  go_wp2_with fail
  refine (HM.out w1 HB1.out).mono ?_
  rintro e w2 ⟨rfl, hb2⟩
  have HB2 := Lib.hid (HB1.out.trans (hb2.mono HB1.out.size))
  obtain ⟨r0, r1, p0, p1, rl⟩ := cells2 (HD1.out.below hb2 HD1.out.lt)
  clear hb2 b0 b1 bl
  go_wp2_with fail
  have hx : w.heap.size ≤ w.heap.size + 1 := Nat.le_add_right _ 1
  exact bodyPost_ret (v := .tuple #[.agg #[.slice A kids.length c, .int .u8 d], .bool true]) (by simp [results, Tryz.results82, go_sem, r0, r1, rl]) rfl ⟨rfl, ((HB2.out.setCell hx _).setCell hx _)⟩

theorem as0_out {z : Int} (hz : z ≠ 0) (v : Value) (w : World) : Calls Tryz.prog 82 #[.agg #[.int .i64 z, v]] w (Gives w (.tuple #[.agg #[.slice none 0 0, .int .u8 0], .bool false])) := by
  have HI := Lib.hid (show ∀ w v, Calls Tryz.prog 34 #[.agg #[.int .i64 z, v]] w (Gives w (.bool false)) from fun w v => by
    have h := isK0_calls z v w
    rw [beq_eq_false_iff_ne.2 hz] at h
    exact h)
  obtain ⟨wA, hwA⟩ : ∃ wA, wA = (w.alloc (.cells #[.int .i64 z, v] 39)).alloc (.cells #[.slice none 0 0, .int .u8 0] 84) := ⟨_, rfl⟩
  have hbl : Below w.heap.size w wA := by rw [hwA]; exact ((Below.refl _ _).alloc (Nat.le_refl _) _).alloc (by simp) _
  have hD : Blk wA (w.heap.size + 1) 84 #[.slice none 0 0, .int .u8 0] := by
    rw [hwA]
    have := Blk.new (w.alloc (.cells #[.int .i64 z, v] 39)) 84 #[.slice none 0 0, .int .u8 0]
    simpa using this
  have hB : Blk wA w.heap.size 39 #[.int .i64 z, v] := by rw [hwA]; exact (Blk.new _ _ _).alloc _
  obtain ⟨b0, b1, -, -, bl⟩ := cells2 hB
  have HD := Lib.hid hD
  have HBL := Lib.hid hbl
  have HWA := Lib.hid hwA
  clear hwA hbl hD hz hB
  go_enter Tryz.func82, Tryz.ntmps82
  go_wp2_with fail
  rw [← HWA.out]
  refine (HI.out _ _).mono ?_
  rintro e w1 ⟨rfl, hb1⟩
  have HB1 := Lib.hid (HBL.out.trans (hb1.mono HBL.out.size))
  obtain ⟨r0, r1, p0, p1, rl⟩ := cells2 (HD.out.below hb1 HD.out.lt)
  clear hb1 b0 b1 bl
  go_wp2_with fail
  have hx : w.heap.size ≤ w.heap.size + 1 := Nat.le_add_right _ 1
  exact bodyPost_ret (v := .tuple #[.agg #[.slice none 0 0, .int .u8 0], .bool false]) (by simp [results, Tryz.results82, go_sem, r0, r1, rl]) rfl ⟨rfl, ((HB1.out.setCell hx _).setCell hx _)⟩

theorem must0_out {z : Int} (hz : z ≠ 0) (v : Value) (w : World) : Calls Tryz.prog 72 #[.agg #[.int .i64 z, v]] w (Dies w) := by
  have HC := Lib.hid (fun w v => check_out hz v w)
  obtain ⟨wA, hwA⟩ : ∃ wA, wA = (w.alloc (.cells #[.int .i64 z, v] 39)).alloc (.cells #[.slice none 0 0, .int .u8 0] 84) := ⟨_, rfl⟩
  have hbl : Below w.heap.size w wA := by rw [hwA]; exact ((Below.refl _ _).alloc (Nat.le_refl _) _).alloc (by simp) _
  have hB : Blk wA w.heap.size 39 #[.int .i64 z, v] := by rw [hwA]; exact (Blk.new _ _ _).alloc _
  obtain ⟨b0, b1, -, -, bl⟩ := cells2 hB
  have HBL := Lib.hid hbl
  have HWA := Lib.hid hwA
  clear hwA hbl hz hB
  go_enter Tryz.func72, Tryz.ntmps72
  go_wp2_with fail
  rw [← HWA.out]
  refine (HC.out _ _).mono ?_
  rintro e w1 ⟨u, pv, rfl, hb1⟩
  have HB1 := Lib.hid (HBL.out.trans (hb1.mono HBL.out.size))
  clear hb1
  go_wp2_with fail
  exact ⟨rfl, u, pv, rfl, HB1.out⟩

set_option maxHeartbeats 8000000 in
theorem asKind0_in {a : Nat} {m : MG} (hm : m.kind = 0) {S : Nat → Prop} {w : World} (h : (MG.bx a m).In S w) : Calls Tryz.prog 31 #[.agg (MG.bx a m).enc.toArray, .int .i64 0] w (KindPost S w m.plain true) := by
  have HAS := Lib.hid (fun w' (hb : Below w.heap.size w w') => as0_in hm (MG.up hb h))
  rw [MG.In] at h
  obtain ⟨-, hSa, hblk, hin⟩ := h
  have HIN := Lib.hid (MG.old hin)
  obtain ⟨d, A, c, kids, rfl⟩ := MG.is_mu (S := S) (w := w) (k := 0) hm (by decide) (by decide) (by decide)
  have HAS := Lib.hid (show ∀ w', Below w.heap.size w w' → Calls Tryz.prog 82 #[.agg #[.int .i64 0, .iface 148 (.pointer (some ⟨a, 0, none⟩))]] w' (Gives w' (.tuple #[.agg #[.slice A kids.length c, .int .u8 d], .bool true])) from HAS.out)
  show Calls Tryz.prog 31 #[.agg #[.int .i64 0, .iface 148 (.pointer (some ⟨a, 0, none⟩))], .int .i64 0] w _
  obtain ⟨wA, hwA⟩ : ∃ wA, wA = (w.alloc (.cells #[.int .i64 0, .iface 148 (.pointer (some ⟨a, 0, none⟩))] 39)).alloc (.cells #[.int .i64 0, .nilIface] 39) := ⟨_, rfl⟩
  have hbl : Below w.heap.size w wA := by rw [hwA]; exact ((Below.refl _ _).alloc (Nat.le_refl _) _).alloc (by simp) _
  have hB : Blk wA w.heap.size 39 #[.int .i64 0, .iface 148 (.pointer (some ⟨a, 0, none⟩))] := by rw [hwA]; exact (Blk.new _ _ _).alloc _
  have hD : Blk wA (w.heap.size + 1) 39 #[.int .i64 0, .nilIface] := by
    rw [hwA]
    have := Blk.new (w.alloc (.cells #[.int .i64 0, .iface 148 (.pointer (some ⟨a, 0, none⟩))] 39)) 39 #[.int .i64 0, .nilIface]
    simpa using this
  obtain ⟨b0, b1, -, -, bl⟩ := cells2 hB
  have HD := Lib.hid hD
  have HBL := Lib.hid hbl
  have HWA := Lib.hid hwA
  obtain ⟨pl, hpl⟩ : ∃ pl, pl = MG.plain (.mu 0 d A c kids) := ⟨_, rfl⟩
  rw [← hpl]
  have HPL := Lib.hid hpl
  clear hwA hbl hB hD hblk hin hm hpl
  go_enter Tryz.func31, Tryz.ntmps31
  go_wp2_with fail
  rw [← HWA.out]
  refine (HAS.out wA HBL.out).mono ?_
  rintro e w1 ⟨rfl, hb1⟩
  have HB1 := Lib.hid (HBL.out.trans (hb1.mono HBL.out.size))
  have HD1 := Lib.hid (HD.out.below hb1 HD.out.lt)
  clear hb1 b0 b1 bl
  obtain ⟨w2, hw2⟩ : ∃ w2, w2 = w1.alloc (.cells #[.slice A kids.length c, .int .u8 d] 84) := ⟨_, rfl⟩
  have hb2 : Below w1.heap.size w1 w2 := by rw [hw2]; exact (Below.refl _ _).alloc (Nat.le_refl _) _
  have HW2 := Lib.hid hw2
  have HB2 := Lib.hid (HB1.out.trans (hb2.mono HB1.out.size))
  have HD2 := Lib.hid (HD1.out.below hb2 HD1.out.lt)
  clear hb2 hw2
  go_wp2_with fail
  rw [← HW2.out]
  refine (asGeo0 _ _ _).mono ?_
  rintro e w3 ⟨a3, rfl, hk3, ha3, hb3⟩
  have HB3 := Lib.hid (HB2.out.trans (hb3.mono HB2.out.size))
  obtain ⟨r0, r1, p0, p1, rl⟩ := cells2 (HD2.out.below hb3 HD2.out.lt)
  have HK3 := Lib.hid hk3
  have HA3 := Lib.hid ha3
  have hd2 := HD2.out.lt
  clear hb3 hk3 ha3
  go_wp2_with fail
  refine bodyPost_ret (v := .tuple #[.agg #[.int .i64 0, .iface 148 (.pointer (some ⟨a3, 0, none⟩))], .bool true]) (by simp [results, Tryz.results31, go_sem, r0, r1, rl]; try rfl) rfl ?_
  obtain ⟨hbi, hbb⟩ := box_in (S := S) (m := .mu 0 d A c kids) (R := w.heap.size + 1) (show (0 : Nat) < 7 by decide) HK3.out (by have := HA3.out; omega) (MG.up HB3.out HIN.out) HB3.out (Nat.le_add_right _ 1) _ _
  exact ⟨.bx a3 (.mu 0 d A c kids), rfl, rfl, hbi, (fun h => HPL.out.symm), hbb⟩

set_option maxHeartbeats 8000000 in
theorem asKind0_out {z : Int} (hz : z ≠ 0) (v : Value) (q : PG) (S : Nat → Prop) (w : World) : Calls Tryz.prog 31 #[.agg #[.int .i64 z, v], .int .i64 0] w (KindPost S w q false) := by
  have HAS := Lib.hid (show ∀ w', Below w.heap.size w w' → Calls Tryz.prog 82 #[.agg #[.int .i64 z, v]] w' (Gives w' (.tuple #[.agg #[.slice none 0 0, .int .u8 0], .bool false])) from fun w' _ => as0_out hz v w')
  obtain ⟨wA, hwA⟩ : ∃ wA, wA = (w.alloc (.cells #[.int .i64 z, v] 39)).alloc (.cells #[.int .i64 0, .nilIface] 39) := ⟨_, rfl⟩
  have hbl : Below w.heap.size w wA := by rw [hwA]; exact ((Below.refl _ _).alloc (Nat.le_refl _) _).alloc (by simp) _
  have hB : Blk wA w.heap.size 39 #[.int .i64 z, v] := by rw [hwA]; exact (Blk.new _ _ _).alloc _
  have hD : Blk wA (w.heap.size + 1) 39 #[.int .i64 0, .nilIface] := by
    rw [hwA]
    have := Blk.new (w.alloc (.cells #[.int .i64 z, v] 39)) 39 #[.int .i64 0, .nilIface]
    simpa using this
  obtain ⟨b0, b1, -, -, bl⟩ := cells2 hB
  have HD := Lib.hid hD
  have HBL := Lib.hid hbl
  have HWA := Lib.hid hwA
  clear hwA hbl hB hD hz
  go_enter Tryz.func31, Tryz.ntmps31
  go_wp2_with fail
  rw [← HWA.out]
  refine (HAS.out wA HBL.out).mono ?_
  rintro e w1 ⟨rfl, hb1⟩
  have HB1 := Lib.hid (HBL.out.trans (hb1.mono HBL.out.size))
  have HD1 := Lib.hid (HD.out.below hb1 HD.out.lt)
  clear hb1 b0 b1 bl
  obtain ⟨w2, hw2⟩ : ∃ w2, w2 = w1.alloc (.cells #[.slice none 0 0, .int .u8 0] 84) := ⟨_, rfl⟩
  have hb2 : Below w1.heap.size w1 w2 := by rw [hw2]; exact (Below.refl _ _).alloc (Nat.le_refl _) _
  have HW2 := Lib.hid hw2
  have HB2 := Lib.hid (HB1.out.trans (hb2.mono HB1.out.size))
  have HD2 := Lib.hid (HD1.out.below hb2 HD1.out.lt)
  clear hb2 hw2
  go_wp2_with fail
  rw [← HW2.out]
  refine (asGeo0 _ _ _).mono ?_
  rintro e w3 ⟨a3, rfl, hk3, ha3, hb3⟩
  have HB3 := Lib.hid (HB2.out.trans (hb3.mono HB2.out.size))
  obtain ⟨r0, r1, p0, p1, rl⟩ := cells2 (HD2.out.below hb3 HD2.out.lt)
  have HK3 := Lib.hid hk3
  have HA3 := Lib.hid ha3
  have hd2 := HD2.out.lt
  clear hb3 hk3 ha3
  go_wp2_with fail
  refine bodyPost_ret (v := .tuple #[.agg #[.int .i64 0, .iface 148 (.pointer (some ⟨a3, 0, none⟩))], .bool false]) (by simp [results, Tryz.results31, go_sem, r0, r1, rl]; try rfl) rfl ?_
  obtain ⟨hbi, hbb⟩ := box_in (S := S) (m := .mu 0 0 none 0 []) (R := w.heap.size + 1) (show (0 : Nat) < 7 by decide) HK3.out (by have := HA3.out; omega) (zero_mu 0 (by decide) _ _) HB3.out (Nat.le_add_right _ 1) _ _
  exact ⟨.bx a3 (.mu 0 0 none 0 []), rfl, rfl, hbi, (fun h => by cases h), hbb⟩

set_option maxHeartbeats 8000000 in
theorem mustAs0_in {a : Nat} {m : MG} (hm : m.kind = 0) {S : Nat → Prop} {w : World} (h : (MG.bx a m).In S w) : Calls Tryz.prog 33 #[.agg (MG.bx a m).enc.toArray, .int .i64 0] w (MustPost S w m.plain) := by
  rw [MG.In] at h
  obtain ⟨-, hSa, hblk, hin⟩ := h
  have HIN := Lib.hid (MG.old hin)
  rw [hm] at hblk
  obtain ⟨d, A, c, kids, rfl⟩ := MG.is_mu (S := S) (w := w) (k := 0) hm (by decide) (by decide) (by decide)
  have hblk : Blk w a 84 #[.slice A kids.length c, .int .u8 d] := hblk
  have HM := Lib.hid (fun w' (hb : Below w.heap.size w w') => must0 (hblk.below hb hblk.lt))
  show Calls Tryz.prog 33 #[.agg #[.int .i64 0, .iface 148 (.pointer (some ⟨a, 0, none⟩))], .int .i64 0] w _
  obtain ⟨wA, hwA⟩ : ∃ wA, wA = (w.alloc (.cells #[.int .i64 0, .iface 148 (.pointer (some ⟨a, 0, none⟩))] 39)).alloc (.cells #[.int .i64 0, .nilIface] 39) := ⟨_, rfl⟩
  have hbl : Below w.heap.size w wA := by rw [hwA]; exact ((Below.refl _ _).alloc (Nat.le_refl _) _).alloc (by simp) _
  have hB : Blk wA w.heap.size 39 #[.int .i64 0, .iface 148 (.pointer (some ⟨a, 0, none⟩))] := by rw [hwA]; exact (Blk.new _ _ _).alloc _
  have hD : Blk wA (w.heap.size + 1) 39 #[.int .i64 0, .nilIface] := by
    rw [hwA]
    have := Blk.new (w.alloc (.cells #[.int .i64 0, .iface 148 (.pointer (some ⟨a, 0, none⟩))] 39)) 39 #[.int .i64 0, .nilIface]
    simpa using this
  obtain ⟨b0, b1, -, -, bl⟩ := cells2 hB
  have HD := Lib.hid hD
  have HBL := Lib.hid hbl
  have HWA := Lib.hid hwA
  obtain ⟨pl, hpl⟩ : ∃ pl, pl = MG.plain (.mu 0 d A c kids) := ⟨_, rfl⟩
  rw [← hpl]
  have HPL := Lib.hid hpl
  clear hwA hbl hB hD hblk hin hm hpl
  go_enter Tryz.func33, Tryz.ntmps33
  go_wp2_with fail
  rw [← HWA.out]
  refine (HM.out wA HBL.out).mono ?_
  rintro e w1 ⟨rfl, hb1⟩
  have HB1 := Lib.hid (HBL.out.trans (hb1.mono HBL.out.size))
  have HD1 := Lib.hid (HD.out.below hb1 HD.out.lt)
  clear hb1 b0 b1 bl
  go_wp2_with fail
  refine (asGeo0 _ _ _).mono ?_
  rintro e w3 ⟨a3, rfl, hk3, ha3, hb3⟩
  have HB3 := Lib.hid (HB1.out.trans (hb3.mono HB1.out.size))
  obtain ⟨r0, r1, p0, p1, rl⟩ := cells2 (HD1.out.below hb3 HD1.out.lt)
  have HK3 := Lib.hid hk3
  have HA3 := Lib.hid ha3
  have hd1 := HD1.out.lt
  clear hb3 hk3 ha3
  go_wp2_with fail
  refine bodyPost_ret (v := .agg #[.int .i64 0, .iface 148 (.pointer (some ⟨a3, 0, none⟩))]) (by simp [results, Tryz.results33, go_sem, r0, r1, rl]; try rfl) rfl ?_
  obtain ⟨hbi, hbb⟩ := box_in (m := .mu 0 d A c kids) (R := w.heap.size + 1) (show (0 : Nat) < 7 by decide) HK3.out (by have := HA3.out; omega) (MG.up HB3.out HIN.out) HB3.out (Nat.le_add_right _ 1) _ _
  exact ⟨.bx a3 (.mu 0 d A c kids), rfl, rfl, hbi, HPL.out.symm, hbb⟩

set_option maxHeartbeats 8000000 in
theorem mustAs0_out {z : Int} (hz : z ≠ 0) (v : Value) (w : World) : Calls Tryz.prog 33 #[.agg #[.int .i64 z, v], .int .i64 0] w (Dies w) := by
  have HM := Lib.hid (fun w' => must0_out hz v w')
  obtain ⟨wA, hwA⟩ : ∃ wA, wA = (w.alloc (.cells #[.int .i64 z, v] 39)).alloc (.cells #[.int .i64 0, .nilIface] 39) := ⟨_, rfl⟩
  have hbl : Below w.heap.size w wA := by rw [hwA]; exact ((Below.refl _ _).alloc (Nat.le_refl _) _).alloc (by simp) _
  have hB : Blk wA w.heap.size 39 #[.int .i64 z, v] := by rw [hwA]; exact (Blk.new _ _ _).alloc _
  obtain ⟨b0, b1, -, -, bl⟩ := cells2 hB
  have HBL := Lib.hid hbl
  have HWA := Lib.hid hwA
  clear hwA hbl hB hz
  go_enter Tryz.func33, Tryz.ntmps33
  go_wp2_with fail
  rw [← HWA.out]
  refine (HM.out wA).mono ?_
  rintro e w1 ⟨u, pv, rfl, hb1⟩
  have HB1 := Lib.hid (HBL.out.trans (hb1.mono HBL.out.size))
  clear hb1 b0 b1 bl
  go_wp2_with fail
  exact ⟨rfl, u, pv, rfl, HB1.out⟩


theorem as1_in {a : Nat} {m : MG} (hm : m.kind = 1) {S : Nat → Prop} {w : World} (h : (MG.bx a m).In S w) : Calls Tryz.prog 83 #[.agg (MG.bx a m).enc.toArray] w (Gives w (.tuple #[.agg m.enc.toArray, .bool true])) := by
  rw [MG.In] at h
  obtain ⟨-, hSa, hblk, hin⟩ := h
  rw [hm] at hblk
  obtain ⟨d, full, p, rfl⟩ := MG.is_pt hm hin
  have hblk : Blk w a 59 #[.float .f64 p.x, .float .f64 p.y, .float .f64 p.z, .float .f64 p.m, .int .u8 d, .bool full] := hblk
  show Calls Tryz.prog 83 #[.agg #[.int .i64 1, .iface 130 (.pointer (some ⟨a, 0, none⟩))]] w (Gives w (.tuple #[.agg #[.float .f64 p.x, .float .f64 p.y, .float .f64 p.z, .float .f64 p.m, .int .u8 d, .bool full], .bool true]))
  obtain ⟨wA, hwA⟩ : ∃ wA, wA = (w.alloc (.cells #[.int .i64 1, .iface 130 (.pointer (some ⟨a, 0, none⟩))] 39)).alloc (.cells #[.float .f64 0, .float .f64 0, .float .f64 0, .float .f64 0, .int .u8 0, .bool false] 59) := ⟨_, rfl⟩
  have hbl : Below w.heap.size w wA := by rw [hwA]; exact ((Below.refl _ _).alloc (Nat.le_refl _) _).alloc (by simp) _
  have hB : Blk wA w.heap.size 39 #[.int .i64 1, .iface 130 (.pointer (some ⟨a, 0, none⟩))] := by rw [hwA]; exact (Blk.new _ _ _).alloc _
  have hD : Blk wA (w.heap.size + 1) 59 #[.float .f64 0, .float .f64 0, .float .f64 0, .float .f64 0, .int .u8 0, .bool false] := by
    rw [hwA]
    have := Blk.new (w.alloc (.cells #[.int .i64 1, .iface 130 (.pointer (some ⟨a, 0, none⟩))] 39)) 59 #[.float .f64 0, .float .f64 0, .float .f64 0, .float .f64 0, .int .u8 0, .bool false]
    simpa using this
  have HB := Lib.hid hB
  have HD := Lib.hid hD
  have HM := Lib.hid (fun w' (hb : Below w.heap.size w w') => must1 (hblk.below hb hblk.lt))
  have HI := Lib.hid (show ∀ w v, Calls Tryz.prog 35 #[.agg #[.int .i64 1, v]] w (Gives w (.bool true)) from fun w v => isK1_calls 1 v w)
  have HBL := Lib.hid hbl
  have HWA := Lib.hid hwA
  clear hwA hbl hB hD hblk hin hm
  go_enter Tryz.func83, Tryz.ntmps83
  go_wp2_with fail
  rw [← HWA.out]
  refine (HI.out _ _).mono ?_
  rintro e w1 ⟨rfl, hb1⟩
  have HB1 := Lib.hid (HBL.out.trans (hb1.mono HBL.out.size))
  have HD1 := Lib.hid (HD.out.below hb1 HD.out.lt)
  obtain ⟨b0, b1, -, -, bl⟩ := cells2 (HB.out.below hb1 HB.out.lt)
  clear hb1
  go_wp2_with fail
  refine (HM.out w1 HB1.out).mono ?_
  rintro e w2 ⟨rfl, hb2⟩
  have HB2 := Lib.hid (HB1.out.trans (hb2.mono HB1.out.size))
  obtain ⟨r0, r1, r2, r3, r4, r5, p0, p1, p2, p3, p4, p5, rl⟩ := cells6 (HD1.out.below hb2 HD1.out.lt)
  clear hb2 b0 b1 bl
  go_wp2_with fail
  have hx : w.heap.size ≤ w.heap.size + 1 := Nat.le_add_right _ 1
  exact bodyPost_ret (v := .tuple #[.agg #[.float .f64 p.x, .float .f64 p.y, .float .f64 p.z, .float .f64 p.m, .int .u8 d, .bool full], .bool true]) (by simp [results, Tryz.results83, go_sem, r0, r1, r2, r3, r4, r5, rl]) rfl ⟨rfl, ((set5 HB2.out hx _ _ _ _ _).setCell hx _)⟩

theorem as1_out {z : Int} (hz : z ≠ 1) (v : Value) (w : World) : Calls Tryz.prog 83 #[.agg #[.int .i64 z, v]] w (Gives w (.tuple #[.agg #[.float .f64 0, .float .f64 0, .float .f64 0, .float .f64 0, .int .u8 0, .bool false], .bool false])) := by
  have HI := Lib.hid (show ∀ w v, Calls Tryz.prog 35 #[.agg #[.int .i64 z, v]] w (Gives w (.bool false)) from fun w v => by
    have h := isK1_calls z v w
    rw [beq_eq_false_iff_ne.2 hz] at h
    exact h)
  obtain ⟨wA, hwA⟩ : ∃ wA, wA = (w.alloc (.cells #[.int .i64 z, v] 39)).alloc (.cells #[.float .f64 0, .float .f64 0, .float .f64 0, .float .f64 0, .int .u8 0, .bool false] 59) := ⟨_, rfl⟩
  have hbl : Below w.heap.size w wA := by rw [hwA]; exact ((Below.refl _ _).alloc (Nat.le_refl _) _).alloc (by simp) _
  have hD : Blk wA (w.heap.size + 1) 59 #[.float .f64 0, .float .f64 0, .float .f64 0, .float .f64 0, .int .u8 0, .bool false] := by
    rw [hwA]
    have := Blk.new (w.alloc (.cells #[.int .i64 z, v] 39)) 59 #[.float .f64 0, .float .f64 0, .float .f64 0, .float .f64 0, .int .u8 0, .bool false]
    simpa using this
  have hB : Blk wA w.heap.size 39 #[.int .i64 z, v] := by rw [hwA]; exact (Blk.new _ _ _).alloc _
  obtain ⟨b0, b1, -, -, bl⟩ := cells2 hB
  have HD := Lib.hid hD
  have HBL := Lib.hid hbl
  have HWA := Lib.hid hwA
  clear hwA hbl hD hz hB
  go_enter Tryz.func83, Tryz.ntmps83
  go_wp2_with fail
  rw [← HWA.out]
  refine (HI.out _ _).mono ?_
  rintro e w1 ⟨rfl, hb1⟩
  have HB1 := Lib.hid (HBL.out.trans (hb1.mono HBL.out.size))
  obtain ⟨r0, r1, r2, r3, r4, r5, p0, p1, p2, p3, p4, p5, rl⟩ := cells6 (HD.out.below hb1 HD.out.lt)
  clear hb1 b0 b1 bl
  go_wp2_with fail
  have hx : w.heap.size ≤ w.heap.size + 1 := Nat.le_add_right _ 1
  exact bodyPost_ret (v := .tuple #[.agg #[.float .f64 0, .float .f64 0, .float .f64 0, .float .f64 0, .int .u8 0, .bool false], .bool false]) (by simp [results, Tryz.results83, go_sem, r0, r1, r2, r3, r4, r5, rl]) rfl ⟨rfl, ((set5 HB1.out hx _ _ _ _ _).setCell hx _)⟩

theorem must1_out {z : Int} (hz : z ≠ 1) (v : Value) (w : World) : Calls Tryz.prog 75 #[.agg #[.int .i64 z, v]] w (Dies w) := by
  have HC := Lib.hid (fun w v => check_out hz v w)
  obtain ⟨wA, hwA⟩ : ∃ wA, wA = (w.alloc (.cells #[.int .i64 z, v] 39)).alloc (.cells #[.float .f64 0, .float .f64 0, .float .f64 0, .float .f64 0, .int .u8 0, .bool false] 59) := ⟨_, rfl⟩
  have hbl : Below w.heap.size w wA := by rw [hwA]; exact ((Below.refl _ _).alloc (Nat.le_refl _) _).alloc (by simp) _
  have hB : Blk wA w.heap.size 39 #[.int .i64 z, v] := by rw [hwA]; exact (Blk.new _ _ _).alloc _
  obtain ⟨b0, b1, -, -, bl⟩ := cells2 hB
  have HBL := Lib.hid hbl
  have HWA := Lib.hid hwA
  clear hwA hbl hz hB
  go_enter Tryz.func75, Tryz.ntmps75
  go_wp2_with fail
  rw [← HWA.out]
  refine (HC.out _ _).mono ?_
  rintro e w1 ⟨u, pv, rfl, hb1⟩
  have HB1 := Lib.hid (HBL.out.trans (hb1.mono HBL.out.size))
  clear hb1
  go_wp2_with fail
  exact ⟨rfl, u, pv, rfl, HB1.out⟩

set_option maxHeartbeats 8000000 in
theorem asKind1_in {a : Nat} {m : MG} (hm : m.kind = 1) {S : Nat → Prop} {w : World} (h : (MG.bx a m).In S w) : Calls Tryz.prog 31 #[.agg (MG.bx a m).enc.toArray, .int .i64 1] w (KindPost S w m.plain true) := by
  have HAS := Lib.hid (fun w' (hb : Below w.heap.size w w') => as1_in hm (MG.up hb h))
  rw [MG.In] at h
  obtain ⟨-, hSa, hblk, hin⟩ := h
  have HIN := Lib.hid (MG.old hin)
  obtain ⟨d, full, p, rfl⟩ := MG.is_pt hm hin
  have HAS := Lib.hid (show ∀ w', Below w.heap.size w w' → Calls Tryz.prog 83 #[.agg #[.int .i64 1, .iface 130 (.pointer (some ⟨a, 0, none⟩))]] w' (Gives w' (.tuple #[.agg #[.float .f64 p.x, .float .f64 p.y, .float .f64 p.z, .float .f64 p.m, .int .u8 d, .bool full], .bool true])) from HAS.out)
  show Calls Tryz.prog 31 #[.agg #[.int .i64 1, .iface 130 (.pointer (some ⟨a, 0, none⟩))], .int .i64 1] w _
  obtain ⟨wA, hwA⟩ : ∃ wA, wA = (w.alloc (.cells #[.int .i64 1, .iface 130 (.pointer (some ⟨a, 0, none⟩))] 39)).alloc (.cells #[.int .i64 0, .nilIface] 39) := ⟨_, rfl⟩
  have hbl : Below w.heap.size w wA := by rw [hwA]; exact ((Below.refl _ _).alloc (Nat.le_refl _) _).alloc (by simp) _
  have hB : Blk wA w.heap.size 39 #[.int .i64 1, .iface 130 (.pointer (some ⟨a, 0, none⟩))] := by rw [hwA]; exact (Blk.new _ _ _).alloc _
  have hD : Blk wA (w.heap.size + 1) 39 #[.int .i64 0, .nilIface] := by
    rw [hwA]
    have := Blk.new (w.alloc (.cells #[.int .i64 1, .iface 130 (.pointer (some ⟨a, 0, none⟩))] 39)) 39 #[.int .i64 0, .nilIface]
    simpa using this
  obtain ⟨b0, b1, -, -, bl⟩ := cells2 hB
  have HD := Lib.hid hD
  have HBL := Lib.hid hbl
  have HWA := Lib.hid hwA
  obtain ⟨pl, hpl⟩ : ∃ pl, pl = MG.plain (.pt d full p) := ⟨_, rfl⟩
  rw [← hpl]
  have HPL := Lib.hid hpl
  clear hwA hbl hB hD hblk hin hm hpl
  go_enter Tryz.func31, Tryz.ntmps31
  go_wp2_with fail
  rw [← HWA.out]
  refine (HAS.out wA HBL.out).mono ?_
  rintro e w1 ⟨rfl, hb1⟩
  have HB1 := Lib.hid (HBL.out.trans (hb1.mono HBL.out.size))
  have HD1 := Lib.hid (HD.out.below hb1 HD.out.lt)
  clear hb1 b0 b1 bl
  obtain ⟨w2, hw2⟩ : ∃ w2, w2 = w1.alloc (.cells #[.float .f64 p.x, .float .f64 p.y, .float .f64 p.z, .float .f64 p.m, .int .u8 d, .bool full] 59) := ⟨_, rfl⟩
  have hb2 : Below w1.heap.size w1 w2 := by rw [hw2]; exact (Below.refl _ _).alloc (Nat.le_refl _) _
  have HW2 := Lib.hid hw2
  have HB2 := Lib.hid (HB1.out.trans (hb2.mono HB1.out.size))
  have HD2 := Lib.hid (HD1.out.below hb2 HD1.out.lt)
  clear hb2 hw2
  go_wp2_with fail
  rw [← HW2.out]
  refine (asGeo1 _ _ _ _ _ _ _).mono ?_
  rintro e w3 ⟨a3, rfl, hk3, ha3, hb3⟩
  have HB3 := Lib.hid (HB2.out.trans (hb3.mono HB2.out.size))
  obtain ⟨r0, r1, p0, p1, rl⟩ := cells2 (HD2.out.below hb3 HD2.out.lt)
  have HK3 := Lib.hid hk3
  have HA3 := Lib.hid ha3
  have hd2 := HD2.out.lt
  clear hb3 hk3 ha3
  go_wp2_with fail
  refine bodyPost_ret (v := .tuple #[.agg #[.int .i64 1, .iface 130 (.pointer (some ⟨a3, 0, none⟩))], .bool true]) (by simp [results, Tryz.results31, go_sem, r0, r1, rl]; try rfl) rfl ?_
  obtain ⟨hbi, hbb⟩ := box_in (S := S) (m := .pt d full p) (R := w.heap.size + 1) (show (1 : Nat) < 7 by decide) HK3.out (by have := HA3.out; omega) (MG.up HB3.out HIN.out) HB3.out (Nat.le_add_right _ 1) _ _
  exact ⟨.bx a3 (.pt d full p), rfl, rfl, hbi, (fun h => HPL.out.symm), hbb⟩

set_option maxHeartbeats 8000000 in
theorem asKind1_out {z : Int} (hz : z ≠ 1) (v : Value) (q : PG) (S : Nat → Prop) (w : World) : Calls Tryz.prog 31 #[.agg #[.int .i64 z, v], .int .i64 1] w (KindPost S w q false) := by
  have HAS := Lib.hid (show ∀ w', Below w.heap.size w w' → Calls Tryz.prog 83 #[.agg #[.int .i64 z, v]] w' (Gives w' (.tuple #[.agg #[.float .f64 0, .float .f64 0, .float .f64 0, .float .f64 0, .int .u8 0, .bool false], .bool false])) from fun w' _ => as1_out hz v w')
  obtain ⟨wA, hwA⟩ : ∃ wA, wA = (w.alloc (.cells #[.int .i64 z, v] 39)).alloc (.cells #[.int .i64 0, .nilIface] 39) := ⟨_, rfl⟩
  have hbl : Below w.heap.size w wA := by rw [hwA]; exact ((Below.refl _ _).alloc (Nat.le_refl _) _).alloc (by simp) _
  have hB : Blk wA w.heap.size 39 #[.int .i64 z, v] := by rw [hwA]; exact (Blk.new _ _ _).alloc _
  have hD : Blk wA (w.heap.size + 1) 39 #[.int .i64 0, .nilIface] := by
    rw [hwA]
    have := Blk.new (w.alloc (.cells #[.int .i64 z, v] 39)) 39 #[.int .i64 0, .nilIface]
    simpa using this
  obtain ⟨b0, b1, -, -, bl⟩ := cells2 hB
  have HD := Lib.hid hD
  have HBL := Lib.hid hbl
  have HWA := Lib.hid hwA
  clear hwA hbl hB hD hz
  go_enter Tryz.func31, Tryz.ntmps31
  go_wp2_with fail
  rw [← HWA.out]
  refine (HAS.out wA HBL.out).mono ?_
  rintro e w1 ⟨rfl, hb1⟩
  have HB1 := Lib.hid (HBL.out.trans (hb1.mono HBL.out.size))
  have HD1 := Lib.hid (HD.out.below hb1 HD.out.lt)
  clear hb1 b0 b1 bl
  obtain ⟨w2, hw2⟩ : ∃ w2, w2 = w1.alloc (.cells #[.float .f64 0, .float .f64 0, .float .f64 0, .float .f64 0, .int .u8 0, .bool false] 59) := ⟨_, rfl⟩
  have hb2 : Below w1.heap.size w1 w2 := by rw [hw2]; exact (Below.refl _ _).alloc (Nat.le_refl _) _
  have HW2 := Lib.hid hw2
  have HB2 := Lib.hid (HB1.out.trans (hb2.mono HB1.out.size))
  have HD2 := Lib.hid (HD1.out.below hb2 HD1.out.lt)
  clear hb2 hw2
  go_wp2_with fail
  rw [← HW2.out]
  refine (asGeo1 _ _ _ _ _ _ _).mono ?_
  rintro e w3 ⟨a3, rfl, hk3, ha3, hb3⟩
  have HB3 := Lib.hid (HB2.out.trans (hb3.mono HB2.out.size))
  obtain ⟨r0, r1, p0, p1, rl⟩ := cells2 (HD2.out.below hb3 HD2.out.lt)
  have HK3 := Lib.hid hk3
  have HA3 := Lib.hid ha3
  have hd2 := HD2.out.lt
  clear hb3 hk3 ha3
  go_wp2_with fail
  refine bodyPost_ret (v := .tuple #[.agg #[.int .i64 1, .iface 130 (.pointer (some ⟨a3, 0, none⟩))], .bool false]) (by simp [results, Tryz.results31, go_sem, r0, r1, rl]; try rfl) rfl ?_
  obtain ⟨hbi, hbb⟩ := box_in (S := S) (m := .pt 0 false ⟨0, 0, 0, 0⟩) (R := w.heap.size + 1) (show (1 : Nat) < 7 by decide) HK3.out (by have := HA3.out; omega) (zero_pt _ _) HB3.out (Nat.le_add_right _ 1) _ _
  exact ⟨.bx a3 (.pt 0 false ⟨0, 0, 0, 0⟩), rfl, rfl, hbi, (fun h => by cases h), hbb⟩

set_option maxHeartbeats 8000000 in
theorem mustAs1_in {a : Nat} {m : MG} (hm : m.kind = 1) {S : Nat → Prop} {w : World} (h : (MG.bx a m).In S w) : Calls Tryz.prog 33 #[.agg (MG.bx a m).enc.toArray, .int .i64 1] w (MustPost S w m.plain) := by
  rw [MG.In] at h
  obtain ⟨-, hSa, hblk, hin⟩ := h
  have HIN := Lib.hid (MG.old hin)
  rw [hm] at hblk
  obtain ⟨d, full, p, rfl⟩ := MG.is_pt hm hin
  have hblk : Blk w a 59 #[.float .f64 p.x, .float .f64 p.y, .float .f64 p.z, .float .f64 p.m, .int .u8 d, .bool full] := hblk
  have HM := Lib.hid (fun w' (hb : Below w.heap.size w w') => must1 (hblk.below hb hblk.lt))
  show Calls Tryz.prog 33 #[.agg #[.int .i64 1, .iface 130 (.pointer (some ⟨a, 0, none⟩))], .int .i64 1] w _
  obtain ⟨wA, hwA⟩ : ∃ wA, wA = (w.alloc (.cells #[.int .i64 1, .iface 130 (.pointer (some ⟨a, 0, none⟩))] 39)).alloc (.cells #[.int .i64 0, .nilIface] 39) := ⟨_, rfl⟩
  have hbl : Below w.heap.size w wA := by rw [hwA]; exact ((Below.refl _ _).alloc (Nat.le_refl _) _).alloc (by simp) _
  have hB : Blk wA w.heap.size 39 #[.int .i64 1, .iface 130 (.pointer (some ⟨a, 0, none⟩))] := by rw [hwA]; exact (Blk.new _ _ _).alloc _
  have hD : Blk wA (w.heap.size + 1) 39 #[.int .i64 0, .nilIface] := by
    rw [hwA]
    have := Blk.new (w.alloc (.cells #[.int .i64 1, .iface 130 (.pointer (some ⟨a, 0, none⟩))] 39)) 39 #[.int .i64 0, .nilIface]
    simpa using this
  obtain ⟨b0, b1, -, -, bl⟩ := cells2 hB
  have HD := Lib.hid hD
  have HBL := Lib.hid hbl
  have HWA := Lib.hid hwA
  obtain ⟨pl, hpl⟩ : ∃ pl, pl = MG.plain (.pt d full p) := ⟨_, rfl⟩
  rw [← hpl]
  have HPL := Lib.hid hpl
  clear hwA hbl hB hD hblk hin hm hpl
  go_enter Tryz.func33, Tryz.ntmps33
  go_wp2_with fail
  rw [← HWA.out]
  refine (HM.out wA HBL.out).mono ?_
  rintro e w1 ⟨rfl, hb1⟩
  have HB1 := Lib.hid (HBL.out.trans (hb1.mono HBL.out.size))
  have HD1 := Lib.hid (HD.out.below hb1 HD.out.lt)
  clear hb1 b0 b1 bl
  go_wp2_with fail
  refine (asGeo1 _ _ _ _ _ _ _).mono ?_
  rintro e w3 ⟨a3, rfl, hk3, ha3, hb3⟩
  have HB3 := Lib.hid (HB1.out.trans (hb3.mono HB1.out.size))
  obtain ⟨r0, r1, p0, p1, rl⟩ := cells2 (HD1.out.below hb3 HD1.out.lt)
  have HK3 := Lib.hid hk3
  have HA3 := Lib.hid ha3
  have hd1 := HD1.out.lt
  clear hb3 hk3 ha3
  go_wp2_with fail
  refine bodyPost_ret (v := .agg #[.int .i64 1, .iface 130 (.pointer (some ⟨a3, 0, none⟩))]) (by simp [results, Tryz.results33, go_sem, r0, r1, rl]; try rfl) rfl ?_
  obtain ⟨hbi, hbb⟩ := box_in (m := .pt d full p) (R := w.heap.size + 1) (show (1 : Nat) < 7 by decide) HK3.out (by have := HA3.out; omega) (MG.up HB3.out HIN.out) HB3.out (Nat.le_add_right _ 1) _ _
  exact ⟨.bx a3 (.pt d full p), rfl, rfl, hbi, HPL.out.symm, hbb⟩

set_option maxHeartbeats 8000000 in
theorem mustAs1_out {z : Int} (hz : z ≠ 1) (v : Value) (w : World) : Calls Tryz.prog 33 #[.agg #[.int .i64 z, v], .int .i64 1] w (Dies w) := by
  have HM := Lib.hid (fun w' => must1_out hz v w')
  obtain ⟨wA, hwA⟩ : ∃ wA, wA = (w.alloc (.cells #[.int .i64 z, v] 39)).alloc (.cells #[.int .i64 0, .nilIface] 39) := ⟨_, rfl⟩
  have hbl : Below w.heap.size w wA := by rw [hwA]; exact ((Below.refl _ _).alloc (Nat.le_refl _) _).alloc (by simp) _
  have hB : Blk wA w.heap.size 39 #[.int .i64 z, v] := by rw [hwA]; exact (Blk.new _ _ _).alloc _
  obtain ⟨b0, b1, -, -, bl⟩ := cells2 hB
  have HBL := Lib.hid hbl
  have HWA := Lib.hid hwA
  clear hwA hbl hB hz
  go_enter Tryz.func33, Tryz.ntmps33
  go_wp2_with fail
  rw [← HWA.out]
  refine (HM.out wA).mono ?_
  rintro e w1 ⟨u, pv, rfl, hb1⟩
  have HB1 := Lib.hid (HBL.out.trans (hb1.mono HBL.out.size))
  clear hb1 b0 b1 bl
  go_wp2_with fail
  exact ⟨rfl, u, pv, rfl, HB1.out⟩


theorem as2_in {a : Nat} {m : MG} (hm : m.kind = 2) {S : Nat → Prop} {w : World} (h : (MG.bx a m).In S w) : Calls Tryz.prog 84 #[.agg (MG.bx a m).enc.toArray] w (Gives w (.tuple #[.agg m.enc.toArray, .bool true])) := by
  rw [MG.In] at h
  obtain ⟨-, hSa, hblk, hin⟩ := h
  rw [hm] at hblk
  obtain ⟨d, A, c, ns, rfl⟩ := MG.is_ln hm hin
  have hblk : Blk w a 65 #[.int .u8 d, .slice A ns.length c] := hblk
  show Calls Tryz.prog 84 #[.agg #[.int .i64 2, .iface 132 (.pointer (some ⟨a, 0, none⟩))]] w (Gives w (.tuple #[.agg #[.int .u8 d, .slice A ns.length c], .bool true]))
  obtain ⟨wA, hwA⟩ : ∃ wA, wA = (w.alloc (.cells #[.int .i64 2, .iface 132 (.pointer (some ⟨a, 0, none⟩))] 39)).alloc (.cells #[.int .u8 0, .slice none 0 0] 65) := ⟨_, rfl⟩
  have hbl : Below w.heap.size w wA := by rw [hwA]; exact ((Below.refl _ _).alloc (Nat.le_refl _) _).alloc (by simp) _
  have hB : Blk wA w.heap.size 39 #[.int .i64 2, .iface 132 (.pointer (some ⟨a, 0, none⟩))] := by rw [hwA]; exact (Blk.new _ _ _).alloc _
  have hD : Blk wA (w.heap.size + 1) 65 #[.int .u8 0, .slice none 0 0] := by
    rw [hwA]
    have := Blk.new (w.alloc (.cells #[.int .i64 2, .iface 132 (.pointer (some ⟨a, 0, none⟩))] 39)) 65 #[.int .u8 0, .slice none 0 0]
    simpa using this
  have HB := Lib.hid hB
  have HD := Lib.hid hD
  have HM := Lib.hid (fun w' (hb : Below w.heap.size w w') => must2 (hblk.below hb hblk.lt))
  have HI := Lib.hid (show ∀ w v, Calls Tryz.prog 36 #[.agg #[.int .i64 2, v]] w (Gives w (.bool true)) from fun w v => isK2_calls 2 v w)
  have HBL := Lib.hid hbl
  have HWA := Lib.hid hwA
  clear hwA hbl hB hD hblk hin hm
  go_enter Tryz.func84, Tryz.ntmps84
  go_wp2_with fail
  rw [← HWA.out]
  refine (HI.out _ _).mono ?_
  rintro e w1 ⟨rfl, hb1⟩
  have HB1 := Lib.hid (HBL.out.trans (hb1.mono HBL.out.size))
  have HD1 := Lib.hid (HD.out.below hb1 HD.out.lt)
  obtain ⟨b0, b1, -, -, bl⟩ := cells2 (HB.out.below hb1 HB.out.lt)
  clear hb1
  go_wp2_with fail
  refine (HM.out w1 HB1.out).mono ?_
  rintro e w2 ⟨rfl, hb2⟩
  have HB2 := Lib.hid (HB1.out.trans (hb2.mono HB1.out.size))
  obtain ⟨r0, r1, p0, p1, rl⟩ := cells2 (HD1.out.below hb2 HD1.out.lt)
  clear hb2 b0 b1 bl
  go_wp2_with fail
  have hx : w.heap.size ≤ w.heap.size + 1 := Nat.le_add_right _ 1
  exact bodyPost_ret (v := .tuple #[.agg #[.int .u8 d, .slice A ns.length c], .bool true]) (by simp [results, Tryz.results84, go_sem, r0, r1, rl]) rfl ⟨rfl, ((HB2.out.setCell hx _).setCell hx _)⟩

theorem as2_out {z : Int} (hz : z ≠ 2) (v : Value) (w : World) : Calls Tryz.prog 84 #[.agg #[.int .i64 z, v]] w (Gives w (.tuple #[.agg #[.int .u8 0, .slice none 0 0], .bool false])) := by
  have HI := Lib.hid (show ∀ w v, Calls Tryz.prog 36 #[.agg #[.int .i64 z, v]] w (Gives w (.bool false)) from fun w v => by
    have h := isK2_calls z v w
    rw [beq_eq_false_iff_ne.2 hz] at h
    exact h)
  obtain ⟨wA, hwA⟩ : ∃ wA, wA = (w.alloc (.cells #[.int .i64 z, v] 39)).alloc (.cells #[.int .u8 0, .slice none 0 0] 65) := ⟨_, rfl⟩
  have hbl : Below w.heap.size w wA := by rw [hwA]; exact ((Below.refl _ _).alloc (Nat.le_refl _) _).alloc (by simp) _
  have hD : Blk wA (w.heap.size + 1) 65 #[.int .u8 0, .slice none 0 0] := by
    rw [hwA]
    have := Blk.new (w.alloc (.cells #[.int .i64 z, v] 39)) 65 #[.int .u8 0, .slice none 0 0]
    simpa using this
  have hB : Blk wA w.heap.size 39 #[.int .i64 z, v] := by rw [hwA]; exact (Blk.new _ _ _).alloc _
  obtain ⟨b0, b1, -, -, bl⟩ := cells2 hB
  have HD := Lib.hid hD
  have HBL := Lib.hid hbl
  have HWA := Lib.hid hwA
  clear hwA hbl hD hz hB
  go_enter Tryz.func84, Tryz.ntmps84
  go_wp2_with fail
  rw [← HWA.out]
  refine (HI.out _ _).mono ?_
  rintro e w1 ⟨rfl, hb1⟩
  have HB1 := Lib.hid (HBL.out.trans (hb1.mono HBL.out.size))
  obtain ⟨r0, r1, p0, p1, rl⟩ := cells2 (HD.out.below hb1 HD.out.lt)
  clear hb1 b0 b1 bl
  go_wp2_with fail
  have hx : w.heap.size ≤ w.heap.size + 1 := Nat.le_add_right _ 1
  exact bodyPost_ret (v := .tuple #[.agg #[.int .u8 0, .slice none 0 0], .bool false]) (by simp [results, Tryz.results84, go_sem, r0, r1, rl]) rfl ⟨rfl, ((HB1.out.setCell hx _).setCell hx _)⟩

theorem must2_out {z : Int} (hz : z ≠ 2) (v : Value) (w : World) : Calls Tryz.prog 59 #[.agg #[.int .i64 z, v]] w (Dies w) := by
  have HC := Lib.hid (fun w v => check_out hz v w)
  obtain ⟨wA, hwA⟩ : ∃ wA, wA = (w.alloc (.cells #[.int .i64 z, v] 39)).alloc (.cells #[.int .u8 0, .slice none 0 0] 65) := ⟨_, rfl⟩
  have hbl : Below w.heap.size w wA := by rw [hwA]; exact ((Below.refl _ _).alloc (Nat.le_refl _) _).alloc (by simp) _
  have hB : Blk wA w.heap.size 39 #[.int .i64 z, v] := by rw [hwA]; exact (Blk.new _ _ _).alloc _
  obtain ⟨b0, b1, -, -, bl⟩ := cells2 hB
  have HBL := Lib.hid hbl
  have HWA := Lib.hid hwA
  clear hwA hbl hz hB
  go_enter Tryz.func59, Tryz.ntmps59
  go_wp2_with fail
  rw [← HWA.out]
  refine (HC.out _ _).mono ?_
  rintro e w1 ⟨u, pv, rfl, hb1⟩
  have HB1 := Lib.hid (HBL.out.trans (hb1.mono HBL.out.size))
  clear hb1
  go_wp2_with fail
  exact ⟨rfl, u, pv, rfl, HB1.out⟩

set_option maxHeartbeats 8000000 in
theorem asKind2_in {a : Nat} {m : MG} (hm : m.kind = 2) {S : Nat → Prop} {w : World} (h : (MG.bx a m).In S w) : Calls Tryz.prog 31 #[.agg (MG.bx a m).enc.toArray, .int .i64 2] w (KindPost S w m.plain true) := by
  have HAS := Lib.hid (fun w' (hb : Below w.heap.size w w') => as2_in hm (MG.up hb h))
  rw [MG.In] at h
  obtain ⟨-, hSa, hblk, hin⟩ := h
  have HIN := Lib.hid (MG.old hin)
  obtain ⟨d, A, c, ns, rfl⟩ := MG.is_ln hm hin
  have HAS := Lib.hid (show ∀ w', Below w.heap.size w w' → Calls Tryz.prog 84 #[.agg #[.int .i64 2, .iface 132 (.pointer (some ⟨a, 0, none⟩))]] w' (Gives w' (.tuple #[.agg #[.int .u8 d, .slice A ns.length c], .bool true])) from HAS.out)
  show Calls Tryz.prog 31 #[.agg #[.int .i64 2, .iface 132 (.pointer (some ⟨a, 0, none⟩))], .int .i64 2] w _
  obtain ⟨wA, hwA⟩ : ∃ wA, wA = (w.alloc (.cells #[.int .i64 2, .iface 132 (.pointer (some ⟨a, 0, none⟩))] 39)).alloc (.cells #[.int .i64 0, .nilIface] 39) := ⟨_, rfl⟩
  have hbl : Below w.heap.size w wA := by rw [hwA]; exact ((Below.refl _ _).alloc (Nat.le_refl _) _).alloc (by simp) _
  have hB : Blk wA w.heap.size 39 #[.int .i64 2, .iface 132 (.pointer (some ⟨a, 0, none⟩))] := by rw [hwA]; exact (Blk.new _ _ _).alloc _
  have hD : Blk wA (w.heap.size + 1) 39 #[.int .i64 0, .nilIface] := by
    rw [hwA]
    have := Blk.new (w.alloc (.cells #[.int .i64 2, .iface 132 (.pointer (some ⟨a, 0, none⟩))] 39)) 39 #[.int .i64 0, .nilIface]
    simpa using this
  obtain ⟨b0, b1, -, -, bl⟩ := cells2 hB
  have HD := Lib.hid hD
  have HBL := Lib.hid hbl
  have HWA := Lib.hid hwA
  obtain ⟨pl, hpl⟩ : ∃ pl, pl = MG.plain (.ln d A c ns) := ⟨_, rfl⟩
  rw [← hpl]
  have HPL := Lib.hid hpl
  clear hwA hbl hB hD hblk hin hm hpl
  go_enter Tryz.func31, Tryz.ntmps31
  go_wp2_with fail
  rw [← HWA.out]
  refine (HAS.out wA HBL.out).mono ?_
  rintro e w1 ⟨rfl, hb1⟩
  have HB1 := Lib.hid (HBL.out.trans (hb1.mono HBL.out.size))
  have HD1 := Lib.hid (HD.out.below hb1 HD.out.lt)
  clear hb1 b0 b1 bl
  obtain ⟨w2, hw2⟩ : ∃ w2, w2 = w1.alloc (.cells #[.int .u8 d, .slice A ns.length c] 65) := ⟨_, rfl⟩
  have hb2 : Below w1.heap.size w1 w2 := by rw [hw2]; exact (Below.refl _ _).alloc (Nat.le_refl _) _
  have HW2 := Lib.hid hw2
  have HB2 := Lib.hid (HB1.out.trans (hb2.mono HB1.out.size))
  have HD2 := Lib.hid (HD1.out.below hb2 HD1.out.lt)
  clear hb2 hw2
  go_wp2_with fail
  rw [← HW2.out]
  refine (asGeo2 _ _ _).mono ?_
  rintro e w3 ⟨a3, rfl, hk3, ha3, hb3⟩
  have HB3 := Lib.hid (HB2.out.trans (hb3.mono HB2.out.size))
  obtain ⟨r0, r1, p0, p1, rl⟩ := cells2 (HD2.out.below hb3 HD2.out.lt)
  have HK3 := Lib.hid hk3
  have HA3 := Lib.hid ha3
  have hd2 := HD2.out.lt
  clear hb3 hk3 ha3
  go_wp2_with fail
  refine bodyPost_ret (v := .tuple #[.agg #[.int .i64 2, .iface 132 (.pointer (some ⟨a3, 0, none⟩))], .bool true]) (by simp [results, Tryz.results31, go_sem, r0, r1, rl]; try rfl) rfl ?_
  obtain ⟨hbi, hbb⟩ := box_in (S := S) (m := .ln d A c ns) (R := w.heap.size + 1) (show (2 : Nat) < 7 by decide) HK3.out (by have := HA3.out; omega) (MG.up HB3.out HIN.out) HB3.out (Nat.le_add_right _ 1) _ _
  exact ⟨.bx a3 (.ln d A c ns), rfl, rfl, hbi, (fun h => HPL.out.symm), hbb⟩

set_option maxHeartbeats 8000000 in
theorem asKind2_out {z : Int} (hz : z ≠ 2) (v : Value) (q : PG) (S : Nat → Prop) (w : World) : Calls Tryz.prog 31 #[.agg #[.int .i64 z, v], .int .i64 2] w (KindPost S w q false) := by
  have HAS := Lib.hid (show ∀ w', Below w.heap.size w w' → Calls Tryz.prog 84 #[.agg #[.int .i64 z, v]] w' (Gives w' (.tuple #[.agg #[.int .u8 0, .slice none 0 0], .bool false])) from fun w' _ => as2_out hz v w')
  obtain ⟨wA, hwA⟩ : ∃ wA, wA = (w.alloc (.cells #[.int .i64 z, v] 39)).alloc (.cells #[.int .i64 0, .nilIface] 39) := ⟨_, rfl⟩
  have hbl : Below w.heap.size w wA := by rw [hwA]; exact ((Below.refl _ _).alloc (Nat.le_refl _) _).alloc (by simp) _
  have hB : Blk wA w.heap.size 39 #[.int .i64 z, v] := by rw [hwA]; exact (Blk.new _ _ _).alloc _
  have hD : Blk wA (w.heap.size + 1) 39 #[.int .i64 0, .nilIface] := by
    rw [hwA]
    have := Blk.new (w.alloc (.cells #[.int .i64 z, v] 39)) 39 #[.int .i64 0, .nilIface]
    simpa using this
  obtain ⟨b0, b1, -, -, bl⟩ := cells2 hB
  have HD := Lib.hid hD
  have HBL := Lib.hid hbl
  have HWA := Lib.hid hwA
  clear hwA hbl hB hD hz
  go_enter Tryz.func31, Tryz.ntmps31
  go_wp2_with fail
  rw [← HWA.out]
  refine (HAS.out wA HBL.out).mono ?_
  rintro e w1 ⟨rfl, hb1⟩
  have HB1 := Lib.hid (HBL.out.trans (hb1.mono HBL.out.size))
  have HD1 := Lib.hid (HD.out.below hb1 HD.out.lt)
  clear hb1 b0 b1 bl
  obtain ⟨w2, hw2⟩ : ∃ w2, w2 = w1.alloc (.cells #[.int .u8 0, .slice none 0 0] 65) := ⟨_, rfl⟩
  have hb2 : Below w1.heap.size w1 w2 := by rw [hw2]; exact (Below.refl _ _).alloc (Nat.le_refl _) _
  have HW2 := Lib.hid hw2
  have HB2 := Lib.hid (HB1.out.trans (hb2.mono HB1.out.size))
  have HD2 := Lib.hid (HD1.out.below hb2 HD1.out.lt)
  clear hb2 hw2
  go_wp2_with fail
  rw [← HW2.out]
  refine (asGeo2 _ _ _).mono ?_
  rintro e w3 ⟨a3, rfl, hk3, ha3, hb3⟩
  have HB3 := Lib.hid (HB2.out.trans (hb3.mono HB2.out.size))
  obtain ⟨r0, r1, p0, p1, rl⟩ := cells2 (HD2.out.below hb3 HD2.out.lt)
  have HK3 := Lib.hid hk3
  have HA3 := Lib.hid ha3
  have hd2 := HD2.out.lt
  clear hb3 hk3 ha3
  go_wp2_with fail
  refine bodyPost_ret (v := .tuple #[.agg #[.int .i64 2, .iface 132 (.pointer (some ⟨a3, 0, none⟩))], .bool false]) (by simp [results, Tryz.results31, go_sem, r0, r1, rl]; try rfl) rfl ?_
  obtain ⟨hbi, hbb⟩ := box_in (S := S) (m := .ln 0 none 0 []) (R := w.heap.size + 1) (show (2 : Nat) < 7 by decide) HK3.out (by have := HA3.out; omega) (zero_ln _ _) HB3.out (Nat.le_add_right _ 1) _ _
  exact ⟨.bx a3 (.ln 0 none 0 []), rfl, rfl, hbi, (fun h => by cases h), hbb⟩

set_option maxHeartbeats 8000000 in
theorem mustAs2_in {a : Nat} {m : MG} (hm : m.kind = 2) {S : Nat → Prop} {w : World} (h : (MG.bx a m).In S w) : Calls Tryz.prog 33 #[.agg (MG.bx a m).enc.toArray, .int .i64 2] w (MustPost S w m.plain) := by
  rw [MG.In] at h
  obtain ⟨-, hSa, hblk, hin⟩ := h
  have HIN := Lib.hid (MG.old hin)
  rw [hm] at hblk
  obtain ⟨d, A, c, ns, rfl⟩ := MG.is_ln hm hin
  have hblk : Blk w a 65 #[.int .u8 d, .slice A ns.length c] := hblk
  have HM := Lib.hid (fun w' (hb : Below w.heap.size w w') => must2 (hblk.below hb hblk.lt))
  show Calls Tryz.prog 33 #[.agg #[.int .i64 2, .iface 132 (.pointer (some ⟨a, 0, none⟩))], .int .i64 2] w _
  obtain ⟨wA, hwA⟩ : ∃ wA, wA = (w.alloc (.cells #[.int .i64 2, .iface 132 (.pointer (some ⟨a, 0, none⟩))] 39)).alloc (.cells #[.int .i64 0, .nilIface] 39) := ⟨_, rfl⟩
  have hbl : Below w.heap.size w wA := by rw [hwA]; exact ((Below.refl _ _).alloc (Nat.le_refl _) _).alloc (by simp) _
  have hB : Blk wA w.heap.size 39 #[.int .i64 2, .iface 132 (.pointer (some ⟨a, 0, none⟩))] := by rw [hwA]; exact (Blk.new _ _ _).alloc _
  have hD : Blk wA (w.heap.size + 1) 39 #[.int .i64 0, .nilIface] := by
    rw [hwA]
    have := Blk.new (w.alloc (.cells #[.int .i64 2, .iface 132 (.pointer (some ⟨a, 0, none⟩))] 39)) 39 #[.int .i64 0, .nilIface]
    simpa using this
  obtain ⟨b0, b1, -, -, bl⟩ := cells2 hB
  have HD := Lib.hid hD
  have HBL := Lib.hid hbl
  have HWA := Lib.hid hwA
  obtain ⟨pl, hpl⟩ : ∃ pl, pl = MG.plain (.ln d A c ns) := ⟨_, rfl⟩
  rw [← hpl]
  have HPL := Lib.hid hpl
  clear hwA hbl hB hD hblk hin hm hpl
  go_enter Tryz.func33, Tryz.ntmps33
  go_wp2_with fail
  rw [← HWA.out]
  refine (HM.out wA HBL.out).mono ?_
  rintro e w1 ⟨rfl, hb1⟩
  have HB1 := Lib.hid (HBL.out.trans (hb1.mono HBL.out.size))
  have HD1 := Lib.hid (HD.out.below hb1 HD.out.lt)
  clear hb1 b0 b1 bl
  go_wp2_with fail
  refine (asGeo2 _ _ _).mono ?_
  rintro e w3 ⟨a3, rfl, hk3, ha3, hb3⟩
  have HB3 := Lib.hid (HB1.out.trans (hb3.mono HB1.out.size))
  obtain ⟨r0, r1, p0, p1, rl⟩ := cells2 (HD1.out.below hb3 HD1.out.lt)
  have HK3 := Lib.hid hk3
  have HA3 := Lib.hid ha3
  have hd1 := HD1.out.lt
  clear hb3 hk3 ha3
  go_wp2_with fail
  refine bodyPost_ret (v := .agg #[.int .i64 2, .iface 132 (.pointer (some ⟨a3, 0, none⟩))]) (by simp [results, Tryz.results33, go_sem, r0, r1, rl]; try rfl) rfl ?_
  obtain ⟨hbi, hbb⟩ := box_in (m := .ln d A c ns) (R := w.heap.size + 1) (show (2 : Nat) < 7 by decide) HK3.out (by have := HA3.out; omega) (MG.up HB3.out HIN.out) HB3.out (Nat.le_add_right _ 1) _ _
  exact ⟨.bx a3 (.ln d A c ns), rfl, rfl, hbi, HPL.out.symm, hbb⟩

set_option maxHeartbeats 8000000 in
theorem mustAs2_out {z : Int} (hz : z ≠ 2) (v : Value) (w : World) : Calls Tryz.prog 33 #[.agg #[.int .i64 z, v], .int .i64 2] w (Dies w) := by
  have HM := Lib.hid (fun w' => must2_out hz v w')
  obtain ⟨wA, hwA⟩ : ∃ wA, wA = (w.alloc (.cells #[.int .i64 z, v] 39)).alloc (.cells #[.int .i64 0, .nilIface] 39) := ⟨_, rfl⟩
  have hbl : Below w.heap.size w wA := by rw [hwA]; exact ((Below.refl _ _).alloc (Nat.le_refl _) _).alloc (by simp) _
  have hB : Blk wA w.heap.size 39 #[.int .i64 z, v] := by rw [hwA]; exact (Blk.new _ _ _).alloc _
  obtain ⟨b0, b1, -, -, bl⟩ := cells2 hB
  have HBL := Lib.hid hbl
  have HWA := Lib.hid hwA
  clear hwA hbl hB hz
  go_enter Tryz.func33, Tryz.ntmps33
  go_wp2_with fail
  rw [← HWA.out]
  refine (HM.out wA).mono ?_
  rintro e w1 ⟨u, pv, rfl, hb1⟩
  have HB1 := Lib.hid (HBL.out.trans (hb1.mono HBL.out.size))
  clear hb1 b0 b1 bl
  go_wp2_with fail
  exact ⟨rfl, u, pv, rfl, HB1.out⟩


theorem as3_in {a : Nat} {m : MG} (hm : m.kind = 3) {S : Nat → Prop} {w : World} (h : (MG.bx a m).In S w) : Calls Tryz.prog 85 #[.agg (MG.bx a m).enc.toArray] w (Gives w (.tuple #[.agg m.enc.toArray, .bool true])) := by
  rw [MG.In] at h
  obtain ⟨-, hSa, hblk, hin⟩ := h
  rw [hm] at hblk
  obtain ⟨d, A, c, kids, rfl⟩ := MG.is_mu (S := S) (w := w) (k := 3) hm (by decide) (by decide) (by decide)
  have hblk : Blk w a 69 #[.slice A kids.length c, .int .u8 d] := hblk
  show Calls Tryz.prog 85 #[.agg #[.int .i64 3, .iface 135 (.pointer (some ⟨a, 0, none⟩))]] w (Gives w (.tuple #[.agg #[.slice A kids.length c, .int .u8 d], .bool true]))
  obtain ⟨wA, hwA⟩ : ∃ wA, wA = (w.alloc (.cells #[.int .i64 3, .iface 135 (.pointer (some ⟨a, 0, none⟩))] 39)).alloc (.cells #[.slice none 0 0, .int .u8 0] 69) := ⟨_, rfl⟩
  have hbl : Below w.heap.size w wA := by rw [hwA]; exact ((Below.refl _ _).alloc (Nat.le_refl _) _).alloc (by simp) _
  have hB : Blk wA w.heap.size 39 #[.int .i64 3, .iface 135 (.pointer (some ⟨a, 0, none⟩))] := by rw [hwA]; exact (Blk.new _ _ _).alloc _
  have hD : Blk wA (w.heap.size + 1) 69 #[.slice none 0 0, .int .u8 0] := by
    rw [hwA]
    have := Blk.new (w.alloc (.cells #[.int .i64 3, .iface 135 (.pointer (some ⟨a, 0, none⟩))] 39)) 69 #[.slice none 0 0, .int .u8 0]
    simpa using this
  have HB := Lib.hid hB
  have HD := Lib.hid hD
  have HM := Lib.hid (fun w' (hb : Below w.heap.size w w') => must3 (hblk.below hb hblk.lt))
  have HI := Lib.hid (show ∀ w v, Calls Tryz.prog 37 #[.agg #[.int .i64 3, v]] w (Gives w (.bool true)) from fun w v => isK3_calls 3 v w)
  have HBL := Lib.hid hbl
  have HWA := Lib.hid hwA
  clear hwA hbl hB hD hblk hin hm
  go_enter Tryz.func85, Tryz.ntmps85
  go_wp2_with fail
  rw [← HWA.out]
  refine (HI.out _ _).mono ?_
  rintro e w1 ⟨rfl, hb1⟩
  have HB1 := Lib.hid (HBL.out.trans (hb1.mono HBL.out.size))
  have HD1 := Lib.hid (HD.out.below hb1 HD.out.lt)
  obtain ⟨b0, b1, -, -, bl⟩ := cells2 (HB.out.below hb1 HB.out.lt)
  clear hb1
  go_wp2_with fail
  refine (HM.out w1 HB1.out).mono ?_
  rintro e w2 ⟨rfl, hb2⟩
  have HB2 := Lib.hid (HB1.out.trans (hb2.mono HB1.out.size))
  obtain ⟨r0, r1, p0, p1, rl⟩ := cells2 (HD1.out.below hb2 HD1.out.lt)
  clear hb2 b0 b1 bl
  go_wp2_with fail
  have hx : w.heap.size ≤ w.heap.size + 1 := Nat.le_add_right _ 1
  exact bodyPost_ret (v := .tuple #[.agg #[.slice A kids.length c, .int .u8 d], .bool true]) (by simp [results, Tryz.results85, go_sem, r0, r1, rl]) rfl ⟨rfl, ((HB2.out.setCell hx _).setCell hx _)⟩

theorem as3_out {z : Int} (hz : z ≠ 3) (v : Value) (w : World) : Calls Tryz.prog 85 #[.agg #[.int .i64 z, v]] w (Gives w (.tuple #[.agg #[.slice none 0 0, .int .u8 0], .bool false])) := by
  have HI := Lib.hid (show ∀ w v, Calls Tryz.prog 37 #[.agg #[.int .i64 z, v]] w (Gives w (.bool false)) from fun w v => by
    have h := isK3_calls z v w
    rw [beq_eq_false_iff_ne.2 hz] at h
    exact h)
  obtain ⟨wA, hwA⟩ : ∃ wA, wA = (w.alloc (.cells #[.int .i64 z, v] 39)).alloc (.cells #[.slice none 0 0, .int .u8 0] 69) := ⟨_, rfl⟩
  have hbl : Below w.heap.size w wA := by rw [hwA]; exact ((Below.refl _ _).alloc (Nat.le_refl _) _).alloc (by simp) _
  have hD : Blk wA (w.heap.size + 1) 69 #[.slice none 0 0, .int .u8 0] := by
    rw [hwA]
    have := Blk.new (w.alloc (.cells #[.int .i64 z, v] 39)) 69 #[.slice none 0 0, .int .u8 0]
    simpa using this
  have hB : Blk wA w.heap.size 39 #[.int .i64 z, v] := by rw [hwA]; exact (Blk.new _ _ _).alloc _
  obtain ⟨b0, b1, -, -, bl⟩ := cells2 hB
  have HD := Lib.hid hD
  have HBL := Lib.hid hbl
  have HWA := Lib.hid hwA
  clear hwA hbl hD hz hB
  go_enter Tryz.func85, Tryz.ntmps85
  go_wp2_with fail
  rw [← HWA.out]
  refine (HI.out _ _).mono ?_
  rintro e w1 ⟨rfl, hb1⟩
  have HB1 := Lib.hid (HBL.out.trans (hb1.mono HBL.out.size))
  obtain ⟨r0, r1, p0, p1, rl⟩ := cells2 (HD.out.below hb1 HD.out.lt)
  clear hb1 b0 b1 bl
  go_wp2_with fail
  have hx : w.heap.size ≤ w.heap.size + 1 := Nat.le_add_right _ 1
  exact bodyPost_ret (v := .tuple #[.agg #[.slice none 0 0, .int .u8 0], .bool false]) (by simp [results, Tryz.results85, go_sem, r0, r1, rl]) rfl ⟨rfl, ((HB1.out.setCell hx _).setCell hx _)⟩

theorem must3_out {z : Int} (hz : z ≠ 3) (v : Value) (w : World) : Calls Tryz.prog 63 #[.agg #[.int .i64 z, v]] w (Dies w) := by
  have HC := Lib.hid (fun w v => check_out hz v w)
  obtain ⟨wA, hwA⟩ : ∃ wA, wA = (w.alloc (.cells #[.int .i64 z, v] 39)).alloc (.cells #[.slice none 0 0, .int .u8 0] 69) := ⟨_, rfl⟩
  have hbl : Below w.heap.size w wA := by rw [hwA]; exact ((Below.refl _ _).alloc (Nat.le_refl _) _).alloc (by simp) _
  have hB : Blk wA w.heap.size 39 #[.int .i64 z, v] := by rw [hwA]; exact (Blk.new _ _ _).alloc _
  obtain ⟨b0, b1, -, -, bl⟩ := cells2 hB
  have HBL := Lib.hid hbl
  have HWA := Lib.hid hwA
  clear hwA hbl hz hB
  go_enter Tryz.func63, Tryz.ntmps63
  go_wp2_with fail
  rw [← HWA.out]
  refine (HC.out _ _).mono ?_
  rintro e w1 ⟨u, pv, rfl, hb1⟩
  have HB1 := Lib.hid (HBL.out.trans (hb1.mono HBL.out.size))
  clear hb1
  go_wp2_with fail
  exact ⟨rfl, u, pv, rfl, HB1.out⟩

set_option maxHeartbeats 8000000 in
theorem asKind3_in {a : Nat} {m : MG} (hm : m.kind = 3) {S : Nat → Prop} {w : World} (h : (MG.bx a m).In S w) : Calls Tryz.prog 31 #[.agg (MG.bx a m).enc.toArray, .int .i64 3] w (KindPost S w m.plain true) := by
  have HAS := Lib.hid (fun w' (hb : Below w.heap.size w w') => as3_in hm (MG.up hb h))
  rw [MG.In] at h
  obtain ⟨-, hSa, hblk, hin⟩ := h
  have HIN := Lib.hid (MG.old hin)
  obtain ⟨d, A, c, kids, rfl⟩ := MG.is_mu (S := S) (w := w) (k := 3) hm (by decide) (by decide) (by decide)
  have HAS := Lib.hid (show ∀ w', Below w.heap.size w w' → Calls Tryz.prog 85 #[.agg #[.int .i64 3, .iface 135 (.pointer (some ⟨a, 0, none⟩))]] w' (Gives w' (.tuple #[.agg #[.slice A kids.length c, .int .u8 d], .bool true])) from HAS.out)
  show Calls Tryz.prog 31 #[.agg #[.int .i64 3, .iface 135 (.pointer (some ⟨a, 0, none⟩))], .int .i64 3] w _
  obtain ⟨wA, hwA⟩ : ∃ wA, wA = (w.alloc (.cells #[.int .i64 3, .iface 135 (.pointer (some ⟨a, 0, none⟩))] 39)).alloc (.cells #[.int .i64 0, .nilIface] 39) := ⟨_, rfl⟩
  have hbl : Below w.heap.size w wA := by rw [hwA]; exact ((Below.refl _ _).alloc (Nat.le_refl _) _).alloc (by simp) _
  have hB : Blk wA w.heap.size 39 #[.int .i64 3, .iface 135 (.pointer (some ⟨a, 0, none⟩))] := by rw [hwA]; exact (Blk.new _ _ _).alloc _
  have hD : Blk wA (w.heap.size + 1) 39 #[.int .i64 0, .nilIface] := by
    rw [hwA]
    have := Blk.new (w.alloc (.cells #[.int .i64 3, .iface 135 (.pointer (some ⟨a, 0, none⟩))] 39)) 39 #[.int .i64 0, .nilIface]
    simpa using this
  obtain ⟨b0, b1, -, -, bl⟩ := cells2 hB
  have HD := Lib.hid hD
  have HBL := Lib.hid hbl
  have HWA := Lib.hid hwA
  obtain ⟨pl, hpl⟩ : ∃ pl, pl = MG.plain (.mu 3 d A c kids) := ⟨_, rfl⟩
  rw [← hpl]
  have HPL := Lib.hid hpl
  clear hwA hbl hB hD hblk hin hm hpl
  go_enter Tryz.func31, Tryz.ntmps31
  go_wp2_with fail
  rw [← HWA.out]
  refine (HAS.out wA HBL.out).mono ?_
  rintro e w1 ⟨rfl, hb1⟩
  have HB1 := Lib.hid (HBL.out.trans (hb1.mono HBL.out.size))
  have HD1 := Lib.hid (HD.out.below hb1 HD.out.lt)
  clear hb1 b0 b1 bl
  obtain ⟨w2, hw2⟩ : ∃ w2, w2 = w1.alloc (.cells #[.slice A kids.length c, .int .u8 d] 69) := ⟨_, rfl⟩
  have hb2 : Below w1.heap.size w1 w2 := by rw [hw2]; exact (Below.refl _ _).alloc (Nat.le_refl _) _
  have HW2 := Lib.hid hw2
  have HB2 := Lib.hid (HB1.out.trans (hb2.mono HB1.out.size))
  have HD2 := Lib.hid (HD1.out.below hb2 HD1.out.lt)
  clear hb2 hw2
  go_wp2_with fail
  rw [← HW2.out]
  refine (asGeo3 _ _ _).mono ?_
  rintro e w3 ⟨a3, rfl, hk3, ha3, hb3⟩
  have HB3 := Lib.hid (HB2.out.trans (hb3.mono HB2.out.size))
  obtain ⟨r0, r1, p0, p1, rl⟩ := cells2 (HD2.out.below hb3 HD2.out.lt)
  have HK3 := Lib.hid hk3
  have HA3 := Lib.hid ha3
  have hd2 := HD2.out.lt
  clear hb3 hk3 ha3
  go_wp2_with fail
  refine bodyPost_ret (v := .tuple #[.agg #[.int .i64 3, .iface 135 (.pointer (some ⟨a3, 0, none⟩))], .bool true]) (by simp [results, Tryz.results31, go_sem, r0, r1, rl]; try rfl) rfl ?_
  obtain ⟨hbi, hbb⟩ := box_in (S := S) (m := .mu 3 d A c kids) (R := w.heap.size + 1) (show (3 : Nat) < 7 by decide) HK3.out (by have := HA3.out; omega) (MG.up HB3.out HIN.out) HB3.out (Nat.le_add_right _ 1) _ _
  exact ⟨.bx a3 (.mu 3 d A c kids), rfl, rfl, hbi, (fun h => HPL.out.symm), hbb⟩

set_option maxHeartbeats 8000000 in
theorem asKind3_out {z : Int} (hz : z ≠ 3) (v : Value) (q : PG) (S : Nat → Prop) (w : World) : Calls Tryz.prog 31 #[.agg #[.int .i64 z, v], .int .i64 3] w (KindPost S w q false) := by
  have HAS := Lib.hid (show ∀ w', Below w.heap.size w w' → Calls Tryz.prog 85 #[.agg #[.int .i64 z, v]] w' (Gives w' (.tuple #[.agg #[.slice none 0 0, .int .u8 0], .bool false])) from fun w' _ => as3_out hz v w')
  obtain ⟨wA, hwA⟩ : ∃ wA, wA = (w.alloc (.cells #[.int .i64 z, v] 39)).alloc (.cells #[.int .i64 0, .nilIface] 39) := ⟨_, rfl⟩
  have hbl : Below w.heap.size w wA := by rw [hwA]; exact ((Below.refl _ _).alloc (Nat.le_refl _) _).alloc (by simp) _
  have hB : Blk wA w.heap.size 39 #[.int .i64 z, v] := by rw [hwA]; exact (Blk.new _ _ _).alloc _
  have hD : Blk wA (w.heap.size + 1) 39 #[.int .i64 0, .nilIface] := by
    rw [hwA]
    have := Blk.new (w.alloc (.cells #[.int .i64 z, v] 39)) 39 #[.int .i64 0, .nilIface]
    simpa using this
  obtain ⟨b0, b1, -, -, bl⟩ := cells2 hB
  have HD := Lib.hid hD
  have HBL := Lib.hid hbl
  have HWA := Lib.hid hwA
  clear hwA hbl hB hD hz
  go_enter Tryz.func31, Tryz.ntmps31
  go_wp2_with fail
  rw [← HWA.out]
  refine (HAS.out wA HBL.out).mono ?_
  rintro e w1 ⟨rfl, hb1⟩
  have HB1 := Lib.hid (HBL.out.trans (hb1.mono HBL.out.size))
  have HD1 := Lib.hid (HD.out.below hb1 HD.out.lt)
  clear hb1 b0 b1 bl
  obtain ⟨w2, hw2⟩ : ∃ w2, w2 = w1.alloc (.cells #[.slice none 0 0, .int .u8 0] 69) := ⟨_, rfl⟩
  have hb2 : Below w1.heap.size w1 w2 := by rw [hw2]; exact (Below.refl _ _).alloc (Nat.le_refl _) _
  have HW2 := Lib.hid hw2
  have HB2 := Lib.hid (HB1.out.trans (hb2.mono HB1.out.size))
  have HD2 := Lib.hid (HD1.out.below hb2 HD1.out.lt)
  clear hb2 hw2
  go_wp2_with fail
  rw [← HW2.out]
  refine (asGeo3 _ _ _).mono ?_
  rintro e w3 ⟨a3, rfl, hk3, ha3, hb3⟩
  have HB3 := Lib.hid (HB2.out.trans (hb3.mono HB2.out.size))
  obtain ⟨r0, r1, p0, p1, rl⟩ := cells2 (HD2.out.below hb3 HD2.out.lt)
  have HK3 := Lib.hid hk3
  have HA3 := Lib.hid ha3
  have hd2 := HD2.out.lt
  clear hb3 hk3 ha3
  go_wp2_with fail
  refine bodyPost_ret (v := .tuple #[.agg #[.int .i64 3, .iface 135 (.pointer (some ⟨a3, 0, none⟩))], .bool false]) (by simp [results, Tryz.results31, go_sem, r0, r1, rl]; try rfl) rfl ?_
  obtain ⟨hbi, hbb⟩ := box_in (S := S) (m := .mu 3 0 none 0 []) (R := w.heap.size + 1) (show (3 : Nat) < 7 by decide) HK3.out (by have := HA3.out; omega) (zero_mu 3 (by decide) _ _) HB3.out (Nat.le_add_right _ 1) _ _
  exact ⟨.bx a3 (.mu 3 0 none 0 []), rfl, rfl, hbi, (fun h => by cases h), hbb⟩

set_option maxHeartbeats 8000000 in
theorem mustAs3_in {a : Nat} {m : MG} (hm : m.kind = 3) {S : Nat → Prop} {w : World} (h : (MG.bx a m).In S w) : Calls Tryz.prog 33 #[.agg (MG.bx a m).enc.toArray, .int .i64 3] w (MustPost S w m.plain) := by
  rw [MG.In] at h
  obtain ⟨-, hSa, hblk, hin⟩ := h
  have HIN := Lib.hid (MG.old hin)
  rw [hm] at hblk
  obtain ⟨d, A, c, kids, rfl⟩ := MG.is_mu (S := S) (w := w) (k := 3) hm (by decide) (by decide) (by decide)
  have hblk : Blk w a 69 #[.slice A kids.length c, .int .u8 d] := hblk
  have HM := Lib.hid (fun w' (hb : Below w.heap.size w w') => must3 (hblk.below hb hblk.lt))
  show Calls Tryz.prog 33 #[.agg #[.int .i64 3, .iface 135 (.pointer (some ⟨a, 0, none⟩))], .int .i64 3] w _
  obtain ⟨wA, hwA⟩ : ∃ wA, wA = (w.alloc (.cells #[.int .i64 3, .iface 135 (.pointer (some ⟨a, 0, none⟩))] 39)).alloc (.cells #[.int .i64 0, .nilIface] 39) := ⟨_, rfl⟩
  have hbl : Below w.heap.size w wA := by rw [hwA]; exact ((Below.refl _ _).alloc (Nat.le_refl _) _).alloc (by simp) _
  have hB : Blk wA w.heap.size 39 #[.int .i64 3, .iface 135 (.pointer (some ⟨a, 0, none⟩))] := by rw [hwA]; exact (Blk.new _ _ _).alloc _
  have hD : Blk wA (w.heap.size + 1) 39 #[.int .i64 0, .nilIface] := by
    rw [hwA]
    have := Blk.new (w.alloc (.cells #[.int .i64 3, .iface 135 (.pointer (some ⟨a, 0, none⟩))] 39)) 39 #[.int .i64 0, .nilIface]
    simpa using this
  obtain ⟨b0, b1, -, -, bl⟩ := cells2 hB
  have HD := Lib.hid hD
  have HBL := Lib.hid hbl
  have HWA := Lib.hid hwA
  obtain ⟨pl, hpl⟩ : ∃ pl, pl = MG.plain (.mu 3 d A c kids) := ⟨_, rfl⟩
  rw [← hpl]
  have HPL := Lib.hid hpl
  clear hwA hbl hB hD hblk hin hm hpl
  go_enter Tryz.func33, Tryz.ntmps33
  go_wp2_with fail
  rw [← HWA.out]
  refine (HM.out wA HBL.out).mono ?_
  rintro e w1 ⟨rfl, hb1⟩
  have HB1 := Lib.hid (HBL.out.trans (hb1.mono HBL.out.size))
  have HD1 := Lib.hid (HD.out.below hb1 HD.out.lt)
  clear hb1 b0 b1 bl
  go_wp2_with fail
  refine (asGeo3 _ _ _).mono ?_
  rintro e w3 ⟨a3, rfl, hk3, ha3, hb3⟩
  have HB3 := Lib.hid (HB1.out.trans (hb3.mono HB1.out.size))
  obtain ⟨r0, r1, p0, p1, rl⟩ := cells2 (HD1.out.below hb3 HD1.out.lt)
  have HK3 := Lib.hid hk3
  have HA3 := Lib.hid ha3
  have hd1 := HD1.out.lt
  clear hb3 hk3 ha3
  go_wp2_with fail
  refine bodyPost_ret (v := .agg #[.int .i64 3, .iface 135 (.pointer (some ⟨a3, 0, none⟩))]) (by simp [results, Tryz.results33, go_sem, r0, r1, rl]; try rfl) rfl ?_
  obtain ⟨hbi, hbb⟩ := box_in (m := .mu 3 d A c kids) (R := w.heap.size + 1) (show (3 : Nat) < 7 by decide) HK3.out (by have := HA3.out; omega) (MG.up HB3.out HIN.out) HB3.out (Nat.le_add_right _ 1) _ _
  exact ⟨.bx a3 (.mu 3 d A c kids), rfl, rfl, hbi, HPL.out.symm, hbb⟩

set_option maxHeartbeats 8000000 in
theorem mustAs3_out {z : Int} (hz : z ≠ 3) (v : Value) (w : World) : Calls Tryz.prog 33 #[.agg #[.int .i64 z, v], .int .i64 3] w (Dies w) := by
  have HM := Lib.hid (fun w' => must3_out hz v w')
  obtain ⟨wA, hwA⟩ : ∃ wA, wA = (w.alloc (.cells #[.int .i64 z, v] 39)).alloc (.cells #[.int .i64 0, .nilIface] 39) := ⟨_, rfl⟩
  have hbl : Below w.heap.size w wA := by rw [hwA]; exact ((Below.refl _ _).alloc (Nat.le_refl _) _).alloc (by simp) _
  have hB : Blk wA w.heap.size 39 #[.int .i64 z, v] := by rw [hwA]; exact (Blk.new _ _ _).alloc _
  obtain ⟨b0, b1, -, -, bl⟩ := cells2 hB
  have HBL := Lib.hid hbl
  have HWA := Lib.hid hwA
  clear hwA hbl hB hz
  go_enter Tryz.func33, Tryz.ntmps33
  go_wp2_with fail
  rw [← HWA.out]
  refine (HM.out wA).mono ?_
  rintro e w1 ⟨u, pv, rfl, hb1⟩
  have HB1 := Lib.hid (HBL.out.trans (hb1.mono HBL.out.size))
  clear hb1 b0 b1 bl
  go_wp2_with fail
  exact ⟨rfl, u, pv, rfl, HB1.out⟩


theorem as4_in {a : Nat} {m : MG} (hm : m.kind = 4) {S : Nat → Prop} {w : World} (h : (MG.bx a m).In S w) : Calls Tryz.prog 86 #[.agg (MG.bx a m).enc.toArray] w (Gives w (.tuple #[.agg m.enc.toArray, .bool true])) := by
  rw [MG.In] at h
  obtain ⟨-, hSa, hblk, hin⟩ := h
  rw [hm] at hblk
  obtain ⟨d, A, c, kids, rfl⟩ := MG.is_mu (S := S) (w := w) (k := 4) hm (by decide) (by decide) (by decide)
  have hblk : Blk w a 73 #[.slice A kids.length c, .int .u8 d] := hblk
  show Calls Tryz.prog 86 #[.agg #[.int .i64 4, .iface 138 (.pointer (some ⟨a, 0, none⟩))]] w (Gives w (.tuple #[.agg #[.slice A kids.length c, .int .u8 d], .bool true]))
  obtain ⟨wA, hwA⟩ : ∃ wA, wA = (w.alloc (.cells #[.int .i64 4, .iface 138 (.pointer (some ⟨a, 0, none⟩))] 39)).alloc (.cells #[.slice none 0 0, .int .u8 0] 73) := ⟨_, rfl⟩
  have hbl : Below w.heap.size w wA := by rw [hwA]; exact ((Below.refl _ _).alloc (Nat.le_refl _) _).alloc (by simp) _
  have hB : Blk wA w.heap.size 39 #[.int .i64 4, .iface 138 (.pointer (some ⟨a, 0, none⟩))] := by rw [hwA]; exact (Blk.new _ _ _).alloc _
  have hD : Blk wA (w.heap.size + 1) 73 #[.slice none 0 0, .int .u8 0] := by
    rw [hwA]
    have := Blk.new (w.alloc (.cells #[.int .i64 4, .iface 138 (.pointer (some ⟨a, 0, none⟩))] 39)) 73 #[.slice none 0 0, .int .u8 0]
    simpa using this
  have HB := Lib.hid hB
  have HD := Lib.hid hD
  have HM := Lib.hid (fun w' (hb : Below w.heap.size w w') => must4 (hblk.below hb hblk.lt))
  have HI := Lib.hid (show ∀ w v, Calls Tryz.prog 38 #[.agg #[.int .i64 4, v]] w (Gives w (.bool true)) from fun w v => isK4_calls 4 v w)
  have HBL := Lib.hid hbl
  have HWA := Lib.hid hwA
  clear hwA hbl hB hD hblk hin hm
  go_enter Tryz.func86, Tryz.ntmps86
  go_wp2_with fail
  rw [← HWA.out]
  refine (HI.out _ _).mono ?_
  rintro e w1 ⟨rfl, hb1⟩
  have HB1 := Lib.hid (HBL.out.trans (hb1.mono HBL.out.size))
  have HD1 := Lib.hid (HD.out.below hb1 HD.out.lt)
  obtain ⟨b0, b1, -, -, bl⟩ := cells2 (HB.out.below hb1 HB.out.lt)
  clear hb1
  go_wp2_with fail
  refine (HM.out w1 HB1.out).mono ?_
  rintro e w2 ⟨rfl, hb2⟩
  have HB2 := Lib.hid (HB1.out.trans (hb2.mono HB1.out.size))
  obtain ⟨r0, r1, p0, p1, rl⟩ := cells2 (HD1.out.below hb2 HD1.out.lt)
  clear hb2 b0 b1 bl
  go_wp2_with fail
  have hx : w.heap.size ≤ w.heap.size + 1 := Nat.le_add_right _ 1
  exact bodyPost_ret (v := .tuple #[.agg #[.slice A kids.length c, .int .u8 d], .bool true]) (by simp [results, Tryz.results86, go_sem, r0, r1, rl]) rfl ⟨rfl, ((HB2.out.setCell hx _).setCell hx _)⟩

theorem as4_out {z : Int} (hz : z ≠ 4) (v : Value) (w : World) : Calls Tryz.prog 86 #[.agg #[.int .i64 z, v]] w (Gives w (.tuple #[.agg #[.slice none 0 0, .int .u8 0], .bool false])) := by
  have HI := Lib.hid (show ∀ w v, Calls Tryz.prog 38 #[.agg #[.int .i64 z, v]] w (Gives w (.bool false)) from fun w v => by
    have h := isK4_calls z v w
    rw [beq_eq_false_iff_ne.2 hz] at h
    exact h)
  obtain ⟨wA, hwA⟩ : ∃ wA, wA = (w.alloc (.cells #[.int .i64 z, v] 39)).alloc (.cells #[.slice none 0 0, .int .u8 0] 73) := ⟨_, rfl⟩
  have hbl : Below w.heap.size w wA := by rw [hwA]; exact ((Below.refl _ _).alloc (Nat.le_refl _) _).alloc (by simp) _
  have hD : Blk wA (w.heap.size + 1) 73 #[.slice none 0 0, .int .u8 0] := by
    rw [hwA]
    have := Blk.new (w.alloc (.cells #[.int .i64 z, v] 39)) 73 #[.slice none 0 0, .int .u8 0]
    simpa using this
  have hB : Blk wA w.heap.size 39 #[.int .i64 z, v] := by rw [hwA]; exact (Blk.new _ _ _).alloc _
  obtain ⟨b0, b1, -, -, bl⟩ := cells2 hB
  have HD := Lib.hid hD
  have HBL := Lib.hid hbl
  have HWA := Lib.hid hwA
  clear hwA hbl hD hz hB
  go_enter Tryz.func86, Tryz.ntmps86
  go_wp2_with fail
  rw [← HWA.out]
  refine (HI.out _ _).mono ?_
  rintro e w1 ⟨rfl, hb1⟩
  have HB1 := Lib.hid (HBL.out.trans (hb1.mono HBL.out.size))
  obtain ⟨r0, r1, p0, p1, rl⟩ := cells2 (HD.out.below hb1 HD.out.lt)
  clear hb1 b0 b1 bl
  go_wp2_with fail
  have hx : w.heap.size ≤ w.heap.size + 1 := Nat.le_add_right _ 1
  exact bodyPost_ret (v := .tuple #[.agg #[.slice none 0 0, .int .u8 0], .bool false]) (by simp [results, Tryz.results86, go_sem, r0, r1, rl]) rfl ⟨rfl, ((HB1.out.setCell hx _).setCell hx _)⟩

theorem must4_out {z : Int} (hz : z ≠ 4) (v : Value) (w : World) : Calls Tryz.prog 66 #[.agg #[.int .i64 z, v]] w (Dies w) := by
  have HC := Lib.hid (fun w v => check_out hz v w)
  obtain ⟨wA, hwA⟩ : ∃ wA, wA = (w.alloc (.cells #[.int .i64 z, v] 39)).alloc (.cells #[.slice none 0 0, .int .u8 0] 73) := ⟨_, rfl⟩
  have hbl : Below w.heap.size w wA := by rw [hwA]; exact ((Below.refl _ _).alloc (Nat.le_refl _) _).alloc (by simp) _
  have hB : Blk wA w.heap.size 39 #[.int .i64 z, v] := by rw [hwA]; exact (Blk.new _ _ _).alloc _
  obtain ⟨b0, b1, -, -, bl⟩ := cells2 hB
  have HBL := Lib.hid hbl
  have HWA := Lib.hid hwA
  clear hwA hbl hz hB
  go_enter Tryz.func66, Tryz.ntmps66
  go_wp2_with fail
  rw [← HWA.out]
  refine (HC.out _ _).mono ?_
  rintro e w1 ⟨u, pv, rfl, hb1⟩
  have HB1 := Lib.hid (HBL.out.trans (hb1.mono HBL.out.size))
  clear hb1
  go_wp2_with fail
  exact ⟨rfl, u, pv, rfl, HB1.out⟩

set_option maxHeartbeats 8000000 in
theorem asKind4_in {a : Nat} {m : MG} (hm : m.kind = 4) {S : Nat → Prop} {w : World} (h : (MG.bx a m).In S w) : Calls Tryz.prog 31 #[.agg (MG.bx a m).enc.toArray, .int .i64 4] w (KindPost S w m.plain true) := by
  have HAS := Lib.hid (fun w' (hb : Below w.heap.size w w') => as4_in hm (MG.up hb h))
  rw [MG.In] at h
  obtain ⟨-, hSa, hblk, hin⟩ := h
  have HIN := Lib.hid (MG.old hin)
  obtain ⟨d, A, c, kids, rfl⟩ := MG.is_mu (S := S) (w := w) (k := 4) hm (by decide) (by decide) (by decide)
  have HAS := Lib.hid (show ∀ w', Below w.heap.size w w' → Calls Tryz.prog 86 #[.agg #[.int .i64 4, .iface 138 (.pointer (some ⟨a, 0, none⟩))]] w' (Gives w' (.tuple #[.agg #[.slice A kids.length c, .int .u8 d], .bool true])) from HAS.out)
  show Calls Tryz.prog 31 #[.agg #[.int .i64 4, .iface 138 (.pointer (some ⟨a, 0, none⟩))], .int .i64 4] w _
  obtain ⟨wA, hwA⟩ : ∃ wA, wA = (w.alloc (.cells #[.int .i64 4, .iface 138 (.pointer (some ⟨a, 0, none⟩))] 39)).alloc (.cells #[.int .i64 0, .nilIface] 39) := ⟨_, rfl⟩
  have hbl : Below w.heap.size w wA := by rw [hwA]; exact ((Below.refl _ _).alloc (Nat.le_refl _) _).alloc (by simp) _
  have hB : Blk wA w.heap.size 39 #[.int .i64 4, .iface 138 (.pointer (some ⟨a, 0, none⟩))] := by rw [hwA]; exact (Blk.new _ _ _).alloc _
  have hD : Blk wA (w.heap.size + 1) 39 #[.int .i64 0, .nilIface] := by
    rw [hwA]
    have := Blk.new (w.alloc (.cells #[.int .i64 4, .iface 138 (.pointer (some ⟨a, 0, none⟩))] 39)) 39 #[.int .i64 0, .nilIface]
    simpa using this
  obtain ⟨b0, b1, -, -, bl⟩ := cells2 hB
  have HD := Lib.hid hD
  have HBL := Lib.hid hbl
  have HWA := Lib.hid hwA
  obtain ⟨pl, hpl⟩ : ∃ pl, pl = MG.plain (.mu 4 d A c kids) := ⟨_, rfl⟩
  rw [← hpl]
  have HPL := Lib.hid hpl
  clear hwA hbl hB hD hblk hin hm hpl
  go_enter Tryz.func31, Tryz.ntmps31
  go_wp2_with fail
  rw [← HWA.out]
  refine (HAS.out wA HBL.out).mono ?_
  rintro e w1 ⟨rfl, hb1⟩
  have HB1 := Lib.hid (HBL.out.trans (hb1.mono HBL.out.size))
  have HD1 := Lib.hid (HD.out.below hb1 HD.out.lt)
  clear hb1 b0 b1 bl
  obtain ⟨w2, hw2⟩ : ∃ w2, w2 = w1.alloc (.cells #[.slice A kids.length c, .int .u8 d] 73) := ⟨_, rfl⟩
  have hb2 : Below w1.heap.size w1 w2 := by rw [hw2]; exact (Below.refl _ _).alloc (Nat.le_refl _) _
  have HW2 := Lib.hid hw2
  have HB2 := Lib.hid (HB1.out.trans (hb2.mono HB1.out.size))
  have HD2 := Lib.hid (HD1.out.below hb2 HD1.out.lt)
  clear hb2 hw2
  go_wp2_with fail
  rw [← HW2.out]
  refine (asGeo4 _ _ _).mono ?_
  rintro e w3 ⟨a3, rfl, hk3, ha3, hb3⟩
  have HB3 := Lib.hid (HB2.out.trans (hb3.mono HB2.out.size))
  obtain ⟨r0, r1, p0, p1, rl⟩ := cells2 (HD2.out.below hb3 HD2.out.lt)
  have HK3 := Lib.hid hk3
  have HA3 := Lib.hid ha3
  have hd2 := HD2.out.lt
  clear hb3 hk3 ha3
  go_wp2_with fail
  refine bodyPost_ret (v := .tuple #[.agg #[.int .i64 4, .iface 138 (.pointer (some ⟨a3, 0, none⟩))], .bool true]) (by simp [results, Tryz.results31, go_sem, r0, r1, rl]; try rfl) rfl ?_
  obtain ⟨hbi, hbb⟩ := box_in (S := S) (m := .mu 4 d A c kids) (R := w.heap.size + 1) (show (4 : Nat) < 7 by decide) HK3.out (by have := HA3.out; omega) (MG.up HB3.out HIN.out) HB3.out (Nat.le_add_right _ 1) _ _
  exact ⟨.bx a3 (.mu 4 d A c kids), rfl, rfl, hbi, (fun h => HPL.out.symm), hbb⟩

set_option maxHeartbeats 8000000 in
theorem asKind4_out {z : Int} (hz : z ≠ 4) (v : Value) (q : PG) (S : Nat → Prop) (w : World) : Calls Tryz.prog 31 #[.agg #[.int .i64 z, v], .int .i64 4] w (KindPost S w q false) := by
  have HAS := Lib.hid (show ∀ w', Below w.heap.size w w' → Calls Tryz.prog 86 #[.agg #[.int .i64 z, v]] w' (Gives w' (.tuple #[.agg #[.slice none 0 0, .int .u8 0], .bool false])) from fun w' _ => as4_out hz v w')
  obtain ⟨wA, hwA⟩ : ∃ wA, wA = (w.alloc (.cells #[.int .i64 z, v] 39)).alloc (.cells #[.int .i64 0, .nilIface] 39) := ⟨_, rfl⟩
  have hbl : Below w.heap.size w wA := by rw [hwA]; exact ((Below.refl _ _).alloc (Nat.le_refl _) _).alloc (by simp) _
  have hB : Blk wA w.heap.size 39 #[.int .i64 z, v] := by rw [hwA]; exact (Blk.new _ _ _).alloc _
  have hD : Blk wA (w.heap.size + 1) 39 #[.int .i64 0, .nilIface] := by
    rw [hwA]
    have := Blk.new (w.alloc (.cells #[.int .i64 z, v] 39)) 39 #[.int .i64 0, .nilIface]
    simpa using this
  obtain ⟨b0, b1, -, -, bl⟩ := cells2 hB
  have HD := Lib.hid hD
  have HBL := Lib.hid hbl
  have HWA := Lib.hid hwA
  clear hwA hbl hB hD hz
  go_enter Tryz.func31, Tryz.ntmps31
  go_wp2_with fail
  rw [← HWA.out]
  refine (HAS.out wA HBL.out).mono ?_
  rintro e w1 ⟨rfl, hb1⟩
  have HB1 := Lib.hid (HBL.out.trans (hb1.mono HBL.out.size))
  have HD1 := Lib.hid (HD.out.below hb1 HD.out.lt)
  clear hb1 b0 b1 bl
  obtain ⟨w2, hw2⟩ : ∃ w2, w2 = w1.alloc (.cells #[.slice none 0 0, .int .u8 0] 73) := ⟨_, rfl⟩
  have hb2 : Below w1.heap.size w1 w2 := by rw [hw2]; exact (Below.refl _ _).alloc (Nat.le_refl _) _
  have HW2 := Lib.hid hw2
  have HB2 := Lib.hid (HB1.out.trans (hb2.mono HB1.out.size))
  have HD2 := Lib.hid (HD1.out.below hb2 HD1.out.lt)
  clear hb2 hw2
  go_wp2_with fail
  rw [← HW2.out]
  refine (asGeo4 _ _ _).mono ?_
  rintro e w3 ⟨a3, rfl, hk3, ha3, hb3⟩
  have HB3 := Lib.hid (HB2.out.trans (hb3.mono HB2.out.size))
  obtain ⟨r0, r1, p0, p1, rl⟩ := cells2 (HD2.out.below hb3 HD2.out.lt)
  have HK3 := Lib.hid hk3
  have HA3 := Lib.hid ha3
  have hd2 := HD2.out.lt
  clear hb3 hk3 ha3
  go_wp2_with fail
  refine bodyPost_ret (v := .tuple #[.agg #[.int .i64 4, .iface 138 (.pointer (some ⟨a3, 0, none⟩))], .bool false]) (by simp [results, Tryz.results31, go_sem, r0, r1, rl]; try rfl) rfl ?_
  obtain ⟨hbi, hbb⟩ := box_in (S := S) (m := .mu 4 0 none 0 []) (R := w.heap.size + 1) (show (4 : Nat) < 7 by decide) HK3.out (by have := HA3.out; omega) (zero_mu 4 (by decide) _ _) HB3.out (Nat.le_add_right _ 1) _ _
  exact ⟨.bx a3 (.mu 4 0 none 0 []), rfl, rfl, hbi, (fun h => by cases h), hbb⟩

set_option maxHeartbeats 8000000 in
theorem mustAs4_in {a : Nat} {m : MG} (hm : m.kind = 4) {S : Nat → Prop} {w : World} (h : (MG.bx a m).In S w) : Calls Tryz.prog 33 #[.agg (MG.bx a m).enc.toArray, .int .i64 4] w (MustPost S w m.plain) := by
  rw [MG.In] at h
  obtain ⟨-, hSa, hblk, hin⟩ := h
  have HIN := Lib.hid (MG.old hin)
  rw [hm] at hblk
  obtain ⟨d, A, c, kids, rfl⟩ := MG.is_mu (S := S) (w := w) (k := 4) hm (by decide) (by decide) (by decide)
  have hblk : Blk w a 73 #[.slice A kids.length c, .int .u8 d] := hblk
  have HM := Lib.hid (fun w' (hb : Below w.heap.size w w') => must4 (hblk.below hb hblk.lt))
  show Calls Tryz.prog 33 #[.agg #[.int .i64 4, .iface 138 (.pointer (some ⟨a, 0, none⟩))], .int .i64 4] w _
  obtain ⟨wA, hwA⟩ : ∃ wA, wA = (w.alloc (.cells #[.int .i64 4, .iface 138 (.pointer (some ⟨a, 0, none⟩))] 39)).alloc (.cells #[.int .i64 0, .nilIface] 39) := ⟨_, rfl⟩
  have hbl : Below w.heap.size w wA := by rw [hwA]; exact ((Below.refl _ _).alloc (Nat.le_refl _) _).alloc (by simp) _
  have hB : Blk wA w.heap.size 39 #[.int .i64 4, .iface 138 (.pointer (some ⟨a, 0, none⟩))] := by rw [hwA]; exact (Blk.new _ _ _).alloc _
  have hD : Blk wA (w.heap.size + 1) 39 #[.int .i64 0, .nilIface] := by
    rw [hwA]
    have := Blk.new (w.alloc (.cells #[.int .i64 4, .iface 138 (.pointer (some ⟨a, 0, none⟩))] 39)) 39 #[.int .i64 0, .nilIface]
    simpa using this
  obtain ⟨b0, b1, -, -, bl⟩ := cells2 hB
  have HD := Lib.hid hD
  have HBL := Lib.hid hbl
  have HWA := Lib.hid hwA
  obtain ⟨pl, hpl⟩ : ∃ pl, pl = MG.plain (.mu 4 d A c kids) := ⟨_, rfl⟩
  rw [← hpl]
  have HPL := Lib.hid hpl
  clear hwA hbl hB hD hblk hin hm hpl
  go_enter Tryz.func33, Tryz.ntmps33
  go_wp2_with fail
  rw [← HWA.out]
  refine (HM.out wA HBL.out).mono ?_
  rintro e w1 ⟨rfl, hb1⟩
  have HB1 := Lib.hid (HBL.out.trans (hb1.mono HBL.out.size))
  have HD1 := Lib.hid (HD.out.below hb1 HD.out.lt)
  clear hb1 b0 b1 bl
  go_wp2_with fail
  refine (asGeo4 _ _ _).mono ?_
  rintro e w3 ⟨a3, rfl, hk3, ha3, hb3⟩
  have HB3 := Lib.hid (HB1.out.trans (hb3.mono HB1.out.size))
  obtain ⟨r0, r1, p0, p1, rl⟩ := cells2 (HD1.out.below hb3 HD1.out.lt)
  have HK3 := Lib.hid hk3
  have HA3 := Lib.hid ha3
  have hd1 := HD1.out.lt
  clear hb3 hk3 ha3
  go_wp2_with fail
  refine bodyPost_ret (v := .agg #[.int .i64 4, .iface 138 (.pointer (some ⟨a3, 0, none⟩))]) (by simp [results, Tryz.results33, go_sem, r0, r1, rl]; try rfl) rfl ?_
  obtain ⟨hbi, hbb⟩ := box_in (m := .mu 4 d A c kids) (R := w.heap.size + 1) (show (4 : Nat) < 7 by decide) HK3.out (by have := HA3.out; omega) (MG.up HB3.out HIN.out) HB3.out (Nat.le_add_right _ 1) _ _
  exact ⟨.bx a3 (.mu 4 d A c kids), rfl, rfl, hbi, HPL.out.symm, hbb⟩

set_option maxHeartbeats 8000000 in
theorem mustAs4_out {z : Int} (hz : z ≠ 4) (v : Value) (w : World) : Calls Tryz.prog 33 #[.agg #[.int .i64 z, v], .int .i64 4] w (Dies w) := by
  have HM := Lib.hid (fun w' => must4_out hz v w')
  obtain ⟨wA, hwA⟩ : ∃ wA, wA = (w.alloc (.cells #[.int .i64 z, v] 39)).alloc (.cells #[.int .i64 0, .nilIface] 39) := ⟨_, rfl⟩
  have hbl : Below w.heap.size w wA := by rw [hwA]; exact ((Below.refl _ _).alloc (Nat.le_refl _) _).alloc (by simp) _
  have hB : Blk wA w.heap.size 39 #[.int .i64 z, v] := by rw [hwA]; exact (Blk.new _ _ _).alloc _
  obtain ⟨b0, b1, -, -, bl⟩ := cells2 hB
  have HBL := Lib.hid hbl
  have HWA := Lib.hid hwA
  clear hwA hbl hB hz
  go_enter Tryz.func33, Tryz.ntmps33
  go_wp2_with fail
  rw [← HWA.out]
  refine (HM.out wA).mono ?_
  rintro e w1 ⟨u, pv, rfl, hb1⟩
  have HB1 := Lib.hid (HBL.out.trans (hb1.mono HBL.out.size))
  clear hb1 b0 b1 bl
  go_wp2_with fail
  exact ⟨rfl, u, pv, rfl, HB1.out⟩


theorem as5_in {a : Nat} {m : MG} (hm : m.kind = 5) {S : Nat → Prop} {w : World} (h : (MG.bx a m).In S w) : Calls Tryz.prog 87 #[.agg (MG.bx a m).enc.toArray] w (Gives w (.tuple #[.agg m.enc.toArray, .bool true])) := by
  rw [MG.In] at h
  obtain ⟨-, hSa, hblk, hin⟩ := h
  rw [hm] at hblk
  obtain ⟨d, A, c, kids, rfl⟩ := MG.is_mu (S := S) (w := w) (k := 5) hm (by decide) (by decide) (by decide)
  have hblk : Blk w a 76 #[.slice A kids.length c, .int .u8 d] := hblk
  show Calls Tryz.prog 87 #[.agg #[.int .i64 5, .iface 141 (.pointer (some ⟨a, 0, none⟩))]] w (Gives w (.tuple #[.agg #[.slice A kids.length c, .int .u8 d], .bool true]))
  obtain ⟨wA, hwA⟩ : ∃ wA, wA = (w.alloc (.cells #[.int .i64 5, .iface 141 (.pointer (some ⟨a, 0, none⟩))] 39)).alloc (.cells #[.slice none 0 0, .int .u8 0] 76) := ⟨_, rfl⟩
  have hbl : Below w.heap.size w wA := by rw [hwA]; exact ((Below.refl _ _).alloc (Nat.le_refl _) _).alloc (by simp) _
  have hB : Blk wA w.heap.size 39 #[.int .i64 5, .iface 141 (.pointer (some ⟨a, 0, none⟩))] := by rw [hwA]; exact (Blk.new _ _ _).alloc _
  have hD : Blk wA (w.heap.size + 1) 76 #[.slice none 0 0, .int .u8 0] := by
    rw [hwA]
    have := Blk.new (w.alloc (.cells #[.int .i64 5, .iface 141 (.pointer (some ⟨a, 0, none⟩))] 39)) 76 #[.slice none 0 0, .int .u8 0]
    simpa using this
  have HB := Lib.hid hB
  have HD := Lib.hid hD
  have HM := Lib.hid (fun w' (hb : Below w.heap.size w w') => must5 (hblk.below hb hblk.lt))
  have HI := Lib.hid (show ∀ w v, Calls Tryz.prog 39 #[.agg #[.int .i64 5, v]] w (Gives w (.bool true)) from fun w v => isK5_calls 5 v w)
  have HBL := Lib.hid hbl
  have HWA := Lib.hid hwA
  clear hwA hbl hB hD hblk hin hm
  go_enter Tryz.func87, Tryz.ntmps87
  go_wp2_with fail
  rw [← HWA.out]
  refine (HI.out _ _).mono ?_
  rintro e w1 ⟨rfl, hb1⟩
  have HB1 := Lib.hid (HBL.out.trans (hb1.mono HBL.out.size))
  have HD1 := Lib.hid (HD.out.below hb1 HD.out.lt)
  obtain ⟨b0, b1, -, -, bl⟩ := cells2 (HB.out.below hb1 HB.out.lt)
  clear hb1
  go_wp2_with fail
  refine (HM.out w1 HB1.out).mono ?_
  rintro e w2 ⟨rfl, hb2⟩
  have HB2 := Lib.hid (HB1.out.trans (hb2.mono HB1.out.size))
  obtain ⟨r0, r1, p0, p1, rl⟩ := cells2 (HD1.out.below hb2 HD1.out.lt)
  clear hb2 b0 b1 bl
  go_wp2_with fail
  have hx : w.heap.size ≤ w.heap.size + 1 := Nat.le_add_right _ 1
  exact bodyPost_ret (v := .tuple #[.agg #[.slice A kids.length c, .int .u8 d], .bool true]) (by simp [results, Tryz.results87, go_sem, r0, r1, rl]) rfl ⟨rfl, ((HB2.out.setCell hx _).setCell hx _)⟩

theorem as5_out {z : Int} (hz : z ≠ 5) (v : Value) (w : World) : Calls Tryz.prog 87 #[.agg #[.int .i64 z, v]] w (Gives w (.tuple #[.agg #[.slice none 0 0, .int .u8 0], .bool false])) := by
  have HI := Lib.hid (show ∀ w v, Calls Tryz.prog 39 #[.agg #[.int .i64 z, v]] w (Gives w (.bool false)) from fun w v => by
    have h := isK5_calls z v w
    rw [beq_eq_false_iff_ne.2 hz] at h
    exact h)
  obtain ⟨wA, hwA⟩ : ∃ wA, wA = (w.alloc (.cells #[.int .i64 z, v] 39)).alloc (.cells #[.slice none 0 0, .int .u8 0] 76) := ⟨_, rfl⟩
  have hbl : Below w.heap.size w wA := by rw [hwA]; exact ((Below.refl _ _).alloc (Nat.le_refl _) _).alloc (by simp) _
  have hD : Blk wA (w.heap.size + 1) 76 #[.slice none 0 0, .int .u8 0] := by
    rw [hwA]
    have := Blk.new (w.alloc (.cells #[.int .i64 z, v] 39)) 76 #[.slice none 0 0, .int .u8 0]
    simpa using this
  have hB : Blk wA w.heap.size 39 #[.int .i64 z, v] := by rw [hwA]; exact (Blk.new _ _ _).alloc _
  obtain ⟨b0, b1, -, -, bl⟩ := cells2 hB
  have HD := Lib.hid hD
  have HBL := Lib.hid hbl
  have HWA := Lib.hid hwA
  clear hwA hbl hD hz hB
  go_enter Tryz.func87, Tryz.ntmps87
  go_wp2_with fail
  rw [← HWA.out]
  refine (HI.out _ _).mono ?_
  rintro e w1 ⟨rfl, hb1⟩
  have HB1 := Lib.hid (HBL.out.trans (hb1.mono HBL.out.size))
  obtain ⟨r0, r1, p0, p1, rl⟩ := cells2 (HD.out.below hb1 HD.out.lt)
  clear hb1 b0 b1 bl
  go_wp2_with fail
  have hx : w.heap.size ≤ w.heap.size + 1 := Nat.le_add_right _ 1
  exact bodyPost_ret (v := .tuple #[.agg #[.slice none 0 0, .int .u8 0], .bool false]) (by simp [results, Tryz.results87, go_sem, r0, r1, rl]) rfl ⟨rfl, ((HB1.out.setCell hx _).setCell hx _)⟩

theorem must5_out {z : Int} (hz : z ≠ 5) (v : Value) (w : World) : Calls Tryz.prog 68 #[.agg #[.int .i64 z, v]] w (Dies w) := by
  have HC := Lib.hid (fun w v => check_out hz v w)
  obtain ⟨wA, hwA⟩ : ∃ wA, wA = (w.alloc (.cells #[.int .i64 z, v] 39)).alloc (.cells #[.slice none 0 0, .int .u8 0] 76) := ⟨_, rfl⟩
  have hbl : Below w.heap.size w wA := by rw [hwA]; exact ((Below.refl _ _).alloc (Nat.le_refl _) _).alloc (by simp) _
  have hB : Blk wA w.heap.size 39 #[.int .i64 z, v] := by rw [hwA]; exact (Blk.new _ _ _).alloc _
  obtain ⟨b0, b1, -, -, bl⟩ := cells2 hB
  have HBL := Lib.hid hbl
  have HWA := Lib.hid hwA
  clear hwA hbl hz hB
  go_enter Tryz.func68, Tryz.ntmps68
  go_wp2_with fail
  rw [← HWA.out]
  refine (HC.out _ _).mono ?_
  rintro e w1 ⟨u, pv, rfl, hb1⟩
  have HB1 := Lib.hid (HBL.out.trans (hb1.mono HBL.out.size))
  clear hb1
  go_wp2_with fail
  exact ⟨rfl, u, pv, rfl, HB1.out⟩

set_option maxHeartbeats 8000000 in
theorem asKind5_in {a : Nat} {m : MG} (hm : m.kind = 5) {S : Nat → Prop} {w : World} (h : (MG.bx a m).In S w) : Calls Tryz.prog 31 #[.agg (MG.bx a m).enc.toArray, .int .i64 5] w (KindPost S w m.plain true) := by
  have HAS := Lib.hid (fun w' (hb : Below w.heap.size w w') => as5_in hm (MG.up hb h))
  rw [MG.In] at h
  obtain ⟨-, hSa, hblk, hin⟩ := h
  have HIN := Lib.hid (MG.old hin)
  obtain ⟨d, A, c, kids, rfl⟩ := MG.is_mu (S := S) (w := w) (k := 5) hm (by decide) (by decide) (by decide)
  have HAS := Lib.hid (show ∀ w', Below w.heap.size w w' → Calls Tryz.prog 87 #[.agg #[.int .i64 5, .iface 141 (.pointer (some ⟨a, 0, none⟩))]] w' (Gives w' (.tuple #[.agg #[.slice A kids.length c, .int .u8 d], .bool true])) from HAS.out)
  show Calls Tryz.prog 31 #[.agg #[.int .i64 5, .iface 141 (.pointer (some ⟨a, 0, none⟩))], .int .i64 5] w _
  obtain ⟨wA, hwA⟩ : ∃ wA, wA = (w.alloc (.cells #[.int .i64 5, .iface 141 (.pointer (some ⟨a, 0, none⟩))] 39)).alloc (.cells #[.int .i64 0, .nilIface] 39) := ⟨_, rfl⟩
  have hbl : Below w.heap.size w wA := by rw [hwA]; exact ((Below.refl _ _).alloc (Nat.le_refl _) _).alloc (by simp) _
  have hB : Blk wA w.heap.size 39 #[.int .i64 5, .iface 141 (.pointer (some ⟨a, 0, none⟩))] := by rw [hwA]; exact (Blk.new _ _ _).alloc _
  have hD : Blk wA (w.heap.size + 1) 39 #[.int .i64 0, .nilIface] := by
    rw [hwA]
    have := Blk.new (w.alloc (.cells #[.int .i64 5, .iface 141 (.pointer (some ⟨a, 0, none⟩))] 39)) 39 #[.int .i64 0, .nilIface]
    simpa using this
  obtain ⟨b0, b1, -, -, bl⟩ := cells2 hB
  have HD := Lib.hid hD
  have HBL := Lib.hid hbl
  have HWA := Lib.hid hwA
  obtain ⟨pl, hpl⟩ : ∃ pl, pl = MG.plain (.mu 5 d A c kids) := ⟨_, rfl⟩
  rw [← hpl]
  have HPL := Lib.hid hpl
  clear hwA hbl hB hD hblk hin hm hpl
  go_enter Tryz.func31, Tryz.ntmps31
  go_wp2_with fail
  rw [← HWA.out]
  refine (HAS.out wA HBL.out).mono ?_
  rintro e w1 ⟨rfl, hb1⟩
  have HB1 := Lib.hid (HBL.out.trans (hb1.mono HBL.out.size))
  have HD1 := Lib.hid (HD.out.below hb1 HD.out.lt)
  clear hb1 b0 b1 bl
  obtain ⟨w2, hw2⟩ : ∃ w2, w2 = w1.alloc (.cells #[.slice A kids.length c, .int .u8 d] 76) := ⟨_, rfl⟩
  have hb2 : Below w1.heap.size w1 w2 := by rw [hw2]; exact (Below.refl _ _).alloc (Nat.le_refl _) _
  have HW2 := Lib.hid hw2
  have HB2 := Lib.hid (HB1.out.trans (hb2.mono HB1.out.size))
  have HD2 := Lib.hid (HD1.out.below hb2 HD1.out.lt)
  clear hb2 hw2
  go_wp2_with fail
  rw [← HW2.out]
  refine (asGeo5 _ _ _).mono ?_
  rintro e w3 ⟨a3, rfl, hk3, ha3, hb3⟩
  have HB3 := Lib.hid (HB2.out.trans (hb3.mono HB2.out.size))
  obtain ⟨r0, r1, p0, p1, rl⟩ := cells2 (HD2.out.below hb3 HD2.out.lt)
  have HK3 := Lib.hid hk3
  have HA3 := Lib.hid ha3
  have hd2 := HD2.out.lt
  clear hb3 hk3 ha3
  go_wp2_with fail
  refine bodyPost_ret (v := .tuple #[.agg #[.int .i64 5, .iface 141 (.pointer (some ⟨a3, 0, none⟩))], .bool true]) (by simp [results, Tryz.results31, go_sem, r0, r1, rl]; try rfl) rfl ?_
  obtain ⟨hbi, hbb⟩ := box_in (S := S) (m := .mu 5 d A c kids) (R := w.heap.size + 1) (show (5 : Nat) < 7 by decide) HK3.out (by have := HA3.out; omega) (MG.up HB3.out HIN.out) HB3.out (Nat.le_add_right _ 1) _ _
  exact ⟨.bx a3 (.mu 5 d A c kids), rfl, rfl, hbi, (fun h => HPL.out.symm), hbb⟩

set_option maxHeartbeats 8000000 in
theorem asKind5_out {z : Int} (hz : z ≠ 5) (v : Value) (q : PG) (S : Nat → Prop) (w : World) : Calls Tryz.prog 31 #[.agg #[.int .i64 z, v], .int .i64 5] w (KindPost S w q false) := by
  have HAS := Lib.hid (show ∀ w', Below w.heap.size w w' → Calls Tryz.prog 87 #[.agg #[.int .i64 z, v]] w' (Gives w' (.tuple #[.agg #[.slice none 0 0, .int .u8 0], .bool false])) from fun w' _ => as5_out hz v w')
  obtain ⟨wA, hwA⟩ : ∃ wA, wA = (w.alloc (.cells #[.int .i64 z, v] 39)).alloc (.cells #[.int .i64 0, .nilIface] 39) := ⟨_, rfl⟩
  have hbl : Below w.heap.size w wA := by rw [hwA]; exact ((Below.refl _ _).alloc (Nat.le_refl _) _).alloc (by simp) _
  have hB : Blk wA w.heap.size 39 #[.int .i64 z, v] := by rw [hwA]; exact (Blk.new _ _ _).alloc _
  have hD : Blk wA (w.heap.size + 1) 39 #[.int .i64 0, .nilIface] := by
    rw [hwA]
    have := Blk.new (w.alloc (.cells #[.int .i64 z, v] 39)) 39 #[.int .i64 0, .nilIface]
    simpa using this
  obtain ⟨b0, b1, -, -, bl⟩ := cells2 hB
  have HD := Lib.hid hD
  have HBL := Lib.hid hbl
  have HWA := Lib.hid hwA
  clear hwA hbl hB hD hz
  go_enter Tryz.func31, Tryz.ntmps31
  go_wp2_with fail
  rw [← HWA.out]
  refine (HAS.out wA HBL.out).mono ?_
  rintro e w1 ⟨rfl, hb1⟩
  have HB1 := Lib.hid (HBL.out.trans (hb1.mono HBL.out.size))
  have HD1 := Lib.hid (HD.out.below hb1 HD.out.lt)
  clear hb1 b0 b1 bl
  obtain ⟨w2, hw2⟩ : ∃ w2, w2 = w1.alloc (.cells #[.slice none 0 0, .int .u8 0] 76) := ⟨_, rfl⟩
  have hb2 : Below w1.heap.size w1 w2 := by rw [hw2]; exact (Below.refl _ _).alloc (Nat.le_refl _) _
  have HW2 := Lib.hid hw2
  have HB2 := Lib.hid (HB1.out.trans (hb2.mono HB1.out.size))
  have HD2 := Lib.hid (HD1.out.below hb2 HD1.out.lt)
  clear hb2 hw2
  go_wp2_with fail
  rw [← HW2.out]
  refine (asGeo5 _ _ _).mono ?_
  rintro e w3 ⟨a3, rfl, hk3, ha3, hb3⟩
  have HB3 := Lib.hid (HB2.out.trans (hb3.mono HB2.out.size))
  obtain ⟨r0, r1, p0, p1, rl⟩ := cells2 (HD2.out.below hb3 HD2.out.lt)
  have HK3 := Lib.hid hk3
  have HA3 := Lib.hid ha3
  have hd2 := HD2.out.lt
  clear hb3 hk3 ha3
  go_wp2_with fail
  refine bodyPost_ret (v := .tuple #[.agg #[.int .i64 5, .iface 141 (.pointer (some ⟨a3, 0, none⟩))], .bool false]) (by simp [results, Tryz.results31, go_sem, r0, r1, rl]; try rfl) rfl ?_
  obtain ⟨hbi, hbb⟩ := box_in (S := S) (m := .mu 5 0 none 0 []) (R := w.heap.size + 1) (show (5 : Nat) < 7 by decide) HK3.out (by have := HA3.out; omega) (zero_mu 5 (by decide) _ _) HB3.out (Nat.le_add_right _ 1) _ _
  exact ⟨.bx a3 (.mu 5 0 none 0 []), rfl, rfl, hbi, (fun h => by cases h), hbb⟩

set_option maxHeartbeats 8000000 in
theorem mustAs5_in {a : Nat} {m : MG} (hm : m.kind = 5) {S : Nat → Prop} {w : World} (h : (MG.bx a m).In S w) : Calls Tryz.prog 33 #[.agg (MG.bx a m).enc.toArray, .int .i64 5] w (MustPost S w m.plain) := by
  rw [MG.In] at h
  obtain ⟨-, hSa, hblk, hin⟩ := h
  have HIN := Lib.hid (MG.old hin)
  rw [hm] at hblk
  obtain ⟨d, A, c, kids, rfl⟩ := MG.is_mu (S := S) (w := w) (k := 5) hm (by decide) (by decide) (by decide)
  have hblk : Blk w a 76 #[.slice A kids.length c, .int .u8 d] := hblk
  have HM := Lib.hid (fun w' (hb : Below w.heap.size w w') => must5 (hblk.below hb hblk.lt))
  show Calls Tryz.prog 33 #[.agg #[.int .i64 5, .iface 141 (.pointer (some ⟨a, 0, none⟩))], .int .i64 5] w _
  obtain ⟨wA, hwA⟩ : ∃ wA, wA = (w.alloc (.cells #[.int .i64 5, .iface 141 (.pointer (some ⟨a, 0, none⟩))] 39)).alloc (.cells #[.int .i64 0, .nilIface] 39) := ⟨_, rfl⟩
  have hbl : Below w.heap.size w wA := by rw [hwA]; exact ((Below.refl _ _).alloc (Nat.le_refl _) _).alloc (by simp) _
  have hB : Blk wA w.heap.size 39 #[.int .i64 5, .iface 141 (.pointer (some ⟨a, 0, none⟩))] := by rw [hwA]; exact (Blk.new _ _ _).alloc _
  have hD : Blk wA (w.heap.size + 1) 39 #[.int .i64 0, .nilIface] := by
    rw [hwA]
    have := Blk.new (w.alloc (.cells #[.int .i64 5, .iface 141 (.pointer (some ⟨a, 0, none⟩))] 39)) 39 #[.int .i64 0, .nilIface]
    simpa using this
  obtain ⟨b0, b1, -, -, bl⟩ := cells2 hB
  have HD := Lib.hid hD
  have HBL := Lib.hid hbl
  have HWA := Lib.hid hwA
  obtain ⟨pl, hpl⟩ : ∃ pl, pl = MG.plain (.mu 5 d A c kids) := ⟨_, rfl⟩
  rw [← hpl]
  have HPL := Lib.hid hpl
  clear hwA hbl hB hD hblk hin hm hpl
  go_enter Tryz.func33, Tryz.ntmps33
  go_wp2_with fail
  rw [← HWA.out]
  refine (HM.out wA HBL.out).mono ?_
  rintro e w1 ⟨rfl, hb1⟩
  have HB1 := Lib.hid (HBL.out.trans (hb1.mono HBL.out.size))
  have HD1 := Lib.hid (HD.out.below hb1 HD.out.lt)
  clear hb1 b0 b1 bl
  go_wp2_with fail
  refine (asGeo5 _ _ _).mono ?_
  rintro e w3 ⟨a3, rfl, hk3, ha3, hb3⟩
  have HB3 := Lib.hid (HB1.out.trans (hb3.mono HB1.out.size))
  obtain ⟨r0, r1, p0, p1, rl⟩ := cells2 (HD1.out.below hb3 HD1.out.lt)
  have HK3 := Lib.hid hk3
  have HA3 := Lib.hid ha3
  have hd1 := HD1.out.lt
  clear hb3 hk3 ha3
  go_wp2_with fail
  refine bodyPost_ret (v := .agg #[.int .i64 5, .iface 141 (.pointer (some ⟨a3, 0, none⟩))]) (by simp [results, Tryz.results33, go_sem, r0, r1, rl]; try rfl) rfl ?_
  obtain ⟨hbi, hbb⟩ := box_in (m := .mu 5 d A c kids) (R := w.heap.size + 1) (show (5 : Nat) < 7 by decide) HK3.out (by have := HA3.out; omega) (MG.up HB3.out HIN.out) HB3.out (Nat.le_add_right _ 1) _ _
  exact ⟨.bx a3 (.mu 5 d A c kids), rfl, rfl, hbi, HPL.out.symm, hbb⟩

set_option maxHeartbeats 8000000 in
theorem mustAs5_out {z : Int} (hz : z ≠ 5) (v : Value) (w : World) : Calls Tryz.prog 33 #[.agg #[.int .i64 z, v], .int .i64 5] w (Dies w) := by
  have HM := Lib.hid (fun w' => must5_out hz v w')
  obtain ⟨wA, hwA⟩ : ∃ wA, wA = (w.alloc (.cells #[.int .i64 z, v] 39)).alloc (.cells #[.int .i64 0, .nilIface] 39) := ⟨_, rfl⟩
  have hbl : Below w.heap.size w wA := by rw [hwA]; exact ((Below.refl _ _).alloc (Nat.le_refl _) _).alloc (by simp) _
  have hB : Blk wA w.heap.size 39 #[.int .i64 z, v] := by rw [hwA]; exact (Blk.new _ _ _).alloc _
  obtain ⟨b0, b1, -, -, bl⟩ := cells2 hB
  have HBL := Lib.hid hbl
  have HWA := Lib.hid hwA
  clear hwA hbl hB hz
  go_enter Tryz.func33, Tryz.ntmps33
  go_wp2_with fail
  rw [← HWA.out]
  refine (HM.out wA).mono ?_
  rintro e w1 ⟨u, pv, rfl, hb1⟩
  have HB1 := Lib.hid (HBL.out.trans (hb1.mono HBL.out.size))
  clear hb1 b0 b1 bl
  go_wp2_with fail
  exact ⟨rfl, u, pv, rfl, HB1.out⟩


theorem as6_in {a : Nat} {m : MG} (hm : m.kind = 6) {S : Nat → Prop} {w : World} (h : (MG.bx a m).In S w) : Calls Tryz.prog 88 #[.agg (MG.bx a m).enc.toArray] w (Gives w (.tuple #[.agg m.enc.toArray, .bool true])) := by
  rw [MG.In] at h
  obtain ⟨-, hSa, hblk, hin⟩ := h
  rw [hm] at hblk
  obtain ⟨d, A, c, kids, rfl⟩ := MG.is_mu (S := S) (w := w) (k := 6) hm (by decide) (by decide) (by decide)
  have hblk : Blk w a 80 #[.slice A kids.length c, .int .u8 d] := hblk
  show Calls Tryz.prog 88 #[.agg #[.int .i64 6, .iface 144 (.pointer (some ⟨a, 0, none⟩))]] w (Gives w (.tuple #[.agg #[.slice A kids.length c, .int .u8 d], .bool true]))
  obtain ⟨wA, hwA⟩ : ∃ wA, wA = (w.alloc (.cells #[.int .i64 6, .iface 144 (.pointer (some ⟨a, 0, none⟩))] 39)).alloc (.cells #[.slice none 0 0, .int .u8 0] 80) := ⟨_, rfl⟩
  have hbl : Below w.heap.size w wA := by rw [hwA]; exact ((Below.refl _ _).alloc (Nat.le_refl _) _).alloc (by simp) _
  have hB : Blk wA w.heap.size 39 #[.int .i64 6, .iface 144 (.pointer (some ⟨a, 0, none⟩))] := by rw [hwA]; exact (Blk.new _ _ _).alloc _
  have hD : Blk wA (w.heap.size + 1) 80 #[.slice none 0 0, .int .u8 0] := by
    rw [hwA]
    have := Blk.new (w.alloc (.cells #[.int .i64 6, .iface 144 (.pointer (some ⟨a, 0, none⟩))] 39)) 80 #[.slice none 0 0, .int .u8 0]
    simpa using this
  have HB := Lib.hid hB
  have HD := Lib.hid hD
  have HM := Lib.hid (fun w' (hb : Below w.heap.size w w') => must6 (hblk.below hb hblk.lt))
  have HI := Lib.hid (show ∀ w v, Calls Tryz.prog 40 #[.agg #[.int .i64 6, v]] w (Gives w (.bool true)) from fun w v => isK6_calls 6 v w)
  have HBL := Lib.hid hbl
  have HWA := Lib.hid hwA
  clear hwA hbl hB hD hblk hin hm
  go_enter Tryz.func88, Tryz.ntmps88
  go_wp2_with fail
  rw [← HWA.out]
  refine (HI.out _ _).mono ?_
  rintro e w1 ⟨rfl, hb1⟩
  have HB1 := Lib.hid (HBL.out.trans (hb1.mono HBL.out.size))
  have HD1 := Lib.hid (HD.out.below hb1 HD.out.lt)
  obtain ⟨b0, b1, -, -, bl⟩ := cells2 (HB.out.below hb1 HB.out.lt)
  clear hb1
  go_wp2_with fail
  refine (HM.out w1 HB1.out).mono ?_
  rintro e w2 ⟨rfl, hb2⟩
  have HB2 := Lib.hid (HB1.out.trans (hb2.mono HB1.out.size))
  obtain ⟨r0, r1, p0, p1, rl⟩ := cells2 (HD1.out.below hb2 HD1.out.lt)
  clear hb2 b0 b1 bl
  go_wp2_with fail
  have hx : w.heap.size ≤ w.heap.size + 1 := Nat.le_add_right _ 1
  exact bodyPost_ret (v := .tuple #[.agg #[.slice A kids.length c, .int .u8 d], .bool true]) (by simp [results, Tryz.results88, go_sem, r0, r1, rl]) rfl ⟨rfl, ((HB2.out.setCell hx _).setCell hx _)⟩

theorem as6_out {z : Int} (hz : z ≠ 6) (v : Value) (w : World) : Calls Tryz.prog 88 #[.agg #[.int .i64 z, v]] w (Gives w (.tuple #[.agg #[.slice none 0 0, .int .u8 0], .bool false])) := by
  have HI := Lib.hid (show ∀ w v, Calls Tryz.prog 40 #[.agg #[.int .i64 z, v]] w (Gives w (.bool false)) from fun w v => by
    have h := isK6_calls z v w
    rw [beq_eq_false_iff_ne.2 hz] at h
    exact h)
  obtain ⟨wA, hwA⟩ : ∃ wA, wA = (w.alloc (.cells #[.int .i64 z, v] 39)).alloc (.cells #[.slice none 0 0, .int .u8 0] 80) := ⟨_, rfl⟩
  have hbl : Below w.heap.size w wA := by rw [hwA]; exact ((Below.refl _ _).alloc (Nat.le_refl _) _).alloc (by simp) _
  have hD : Blk wA (w.heap.size + 1) 80 #[.slice none 0 0, .int .u8 0] := by
    rw [hwA]
    have := Blk.new (w.alloc (.cells #[.int .i64 z, v] 39)) 80 #[.slice none 0 0, .int .u8 0]
    simpa using this
  have hB : Blk wA w.heap.size 39 #[.int .i64 z, v] := by rw [hwA]; exact (Blk.new _ _ _).alloc _
  obtain ⟨b0, b1, -, -, bl⟩ := cells2 hB
  have HD := Lib.hid hD
  have HBL := Lib.hid hbl
  have HWA := Lib.hid hwA
  clear hwA hbl hD hz hB
  go_enter Tryz.func88, Tryz.ntmps88
  go_wp2_with fail
  rw [← HWA.out]
  refine (HI.out _ _).mono ?_
  rintro e w1 ⟨rfl, hb1⟩
  have HB1 := Lib.hid (HBL.out.trans (hb1.mono HBL.out.size))
  obtain ⟨r0, r1, p0, p1, rl⟩ := cells2 (HD.out.below hb1 HD.out.lt)
  clear hb1 b0 b1 bl
  go_wp2_with fail
  have hx : w.heap.size ≤ w.heap.size + 1 := Nat.le_add_right _ 1
  exact bodyPost_ret (v := .tuple #[.agg #[.slice none 0 0, .int .u8 0], .bool false]) (by simp [results, Tryz.results88, go_sem, r0, r1, rl]) rfl ⟨rfl, ((HB1.out.setCell hx _).setCell hx _)⟩

theorem must6_out {z : Int} (hz : z ≠ 6) (v : Value) (w : World) : Calls Tryz.prog 70 #[.agg #[.int .i64 z, v]] w (Dies w) := by
  have HC := Lib.hid (fun w v => check_out hz v w)
  obtain ⟨wA, hwA⟩ : ∃ wA, wA = (w.alloc (.cells #[.int .i64 z, v] 39)).alloc (.cells #[.slice none 0 0, .int .u8 0] 80) := ⟨_, rfl⟩
  have hbl : Below w.heap.size w wA := by rw [hwA]; exact ((Below.refl _ _).alloc (Nat.le_refl _) _).alloc (by simp) _
  have hB : Blk wA w.heap.size 39 #[.int .i64 z, v] := by rw [hwA]; exact (Blk.new _ _ _).alloc _
  obtain ⟨b0, b1, -, -, bl⟩ := cells2 hB
  have HBL := Lib.hid hbl
  have HWA := Lib.hid hwA
  clear hwA hbl hz hB
  go_enter Tryz.func70, Tryz.ntmps70
  go_wp2_with fail
  rw [← HWA.out]
  refine (HC.out _ _).mono ?_
  rintro e w1 ⟨u, pv, rfl, hb1⟩
  have HB1 := Lib.hid (HBL.out.trans (hb1.mono HBL.out.size))
  clear hb1
  go_wp2_with fail
  exact ⟨rfl, u, pv, rfl, HB1.out⟩

set_option maxHeartbeats 8000000 in
theorem asKind6_in {a : Nat} {m : MG} (hm : m.kind = 6) {S : Nat → Prop} {w : World} (h : (MG.bx a m).In S w) : Calls Tryz.prog 31 #[.agg (MG.bx a m).enc.toArray, .int .i64 6] w (KindPost S w m.plain true) := by
  have HAS := Lib.hid (fun w' (hb : Below w.heap.size w w') => as6_in hm (MG.up hb h))
  rw [MG.In] at h
  obtain ⟨-, hSa, hblk, hin⟩ := h
  have HIN := Lib.hid (MG.old hin)
  obtain ⟨d, A, c, kids, rfl⟩ := MG.is_mu (S := S) (w := w) (k := 6) hm (by decide) (by decide) (by decide)
  have HAS := Lib.hid (show ∀ w', Below w.heap.size w w' → Calls Tryz.prog 88 #[.agg #[.int .i64 6, .iface 144 (.pointer (some ⟨a, 0, none⟩))]] w' (Gives w' (.tuple #[.agg #[.slice A kids.length c, .int .u8 d], .bool true])) from HAS.out)
  show Calls Tryz.prog 31 #[.agg #[.int .i64 6, .iface 144 (.pointer (some ⟨a, 0, none⟩))], .int .i64 6] w _
  obtain ⟨wA, hwA⟩ : ∃ wA, wA = (w.alloc (.cells #[.int .i64 6, .iface 144 (.pointer (some ⟨a, 0, none⟩))] 39)).alloc (.cells #[.int .i64 0, .nilIface] 39) := ⟨_, rfl⟩
  have hbl : Below w.heap.size w wA := by rw [hwA]; exact ((Below.refl _ _).alloc (Nat.le_refl _) _).alloc (by simp) _
  have hB : Blk wA w.heap.size 39 #[.int .i64 6, .iface 144 (.pointer (some ⟨a, 0, none⟩))] := by rw [hwA]; exact (Blk.new _ _ _).alloc _
  have hD : Blk wA (w.heap.size + 1) 39 #[.int .i64 0, .nilIface] := by
    rw [hwA]
    have := Blk.new (w.alloc (.cells #[.int .i64 6, .iface 144 (.pointer (some ⟨a, 0, none⟩))] 39)) 39 #[.int .i64 0, .nilIface]
    simpa using this
  obtain ⟨b0, b1, -, -, bl⟩ := cells2 hB
  have HD := Lib.hid hD
  have HBL := Lib.hid hbl
  have HWA := Lib.hid hwA
  obtain ⟨pl, hpl⟩ : ∃ pl, pl = MG.plain (.mu 6 d A c kids) := ⟨_, rfl⟩
  rw [← hpl]
  have HPL := Lib.hid hpl
  clear hwA hbl hB hD hblk hin hm hpl
  go_enter Tryz.func31, Tryz.ntmps31
  go_wp2_with fail
  rw [← HWA.out]
  refine (HAS.out wA HBL.out).mono ?_
  rintro e w1 ⟨rfl, hb1⟩
  have HB1 := Lib.hid (HBL.out.trans (hb1.mono HBL.out.size))
  have HD1 := Lib.hid (HD.out.below hb1 HD.out.lt)
  clear hb1 b0 b1 bl
  obtain ⟨w2, hw2⟩ : ∃ w2, w2 = w1.alloc (.cells #[.slice A kids.length c, .int .u8 d] 80) := ⟨_, rfl⟩
  have hb2 : Below w1.heap.size w1 w2 := by rw [hw2]; exact (Below.refl _ _).alloc (Nat.le_refl _) _
  have HW2 := Lib.hid hw2
  have HB2 := Lib.hid (HB1.out.trans (hb2.mono HB1.out.size))
  have HD2 := Lib.hid (HD1.out.below hb2 HD1.out.lt)
  clear hb2 hw2
  go_wp2_with fail
  rw [← HW2.out]
  refine (asGeo6 _ _ _).mono ?_
  rintro e w3 ⟨a3, rfl, hk3, ha3, hb3⟩
  have HB3 := Lib.hid (HB2.out.trans (hb3.mono HB2.out.size))
  obtain ⟨r0, r1, p0, p1, rl⟩ := cells2 (HD2.out.below hb3 HD2.out.lt)
  have HK3 := Lib.hid hk3
  have HA3 := Lib.hid ha3
  have hd2 := HD2.out.lt
  clear hb3 hk3 ha3
  go_wp2_with fail
  refine bodyPost_ret (v := .tuple #[.agg #[.int .i64 6, .iface 144 (.pointer (some ⟨a3, 0, none⟩))], .bool true]) (by simp [results, Tryz.results31, go_sem, r0, r1, rl]; try rfl) rfl ?_
  obtain ⟨hbi, hbb⟩ := box_in (S := S) (m := .mu 6 d A c kids) (R := w.heap.size + 1) (show (6 : Nat) < 7 by decide) HK3.out (by have := HA3.out; omega) (MG.up HB3.out HIN.out) HB3.out (Nat.le_add_right _ 1) _ _
  exact ⟨.bx a3 (.mu 6 d A c kids), rfl, rfl, hbi, (fun h => HPL.out.symm), hbb⟩

set_option maxHeartbeats 8000000 in
theorem asKind6_out {z : Int} (hz : z ≠ 6) (v : Value) (q : PG) (S : Nat → Prop) (w : World) : Calls Tryz.prog 31 #[.agg #[.int .i64 z, v], .int .i64 6] w (KindPost S w q false) := by
  have HAS := Lib.hid (show ∀ w', Below w.heap.size w w' → Calls Tryz.prog 88 #[.agg #[.int .i64 z, v]] w' (Gives w' (.tuple #[.agg #[.slice none 0 0, .int .u8 0], .bool false])) from fun w' _ => as6_out hz v w')
  obtain ⟨wA, hwA⟩ : ∃ wA, wA = (w.alloc (.cells #[.int .i64 z, v] 39)).alloc (.cells #[.int .i64 0, .nilIface] 39) := ⟨_, rfl⟩
  have hbl : Below w.heap.size w wA := by rw [hwA]; exact ((Below.refl _ _).alloc (Nat.le_refl _) _).alloc (by simp) _
  have hB : Blk wA w.heap.size 39 #[.int .i64 z, v] := by rw [hwA]; exact (Blk.new _ _ _).alloc _
  have hD : Blk wA (w.heap.size + 1) 39 #[.int .i64 0, .nilIface] := by
    rw [hwA]
    have := Blk.new (w.alloc (.cells #[.int .i64 z, v] 39)) 39 #[.int .i64 0, .nilIface]
    simpa using this
  obtain ⟨b0, b1, -, -, bl⟩ := cells2 hB
  have HD := Lib.hid hD
  have HBL := Lib.hid hbl
  have HWA := Lib.hid hwA
  clear hwA hbl hB hD hz
  go_enter Tryz.func31, Tryz.ntmps31
  go_wp2_with fail
  rw [← HWA.out]
  refine (HAS.out wA HBL.out).mono ?_
  rintro e w1 ⟨rfl, hb1⟩
  have HB1 := Lib.hid (HBL.out.trans (hb1.mono HBL.out.size))
  have HD1 := Lib.hid (HD.out.below hb1 HD.out.lt)
  clear hb1 b0 b1 bl
  obtain ⟨w2, hw2⟩ : ∃ w2, w2 = w1.alloc (.cells #[.slice none 0 0, .int .u8 0] 80) := ⟨_, rfl⟩
  have hb2 : Below w1.heap.size w1 w2 := by rw [hw2]; exact (Below.refl _ _).alloc (Nat.le_refl _) _
  have HW2 := Lib.hid hw2
  have HB2 := Lib.hid (HB1.out.trans (hb2.mono HB1.out.size))
  have HD2 := Lib.hid (HD1.out.below hb2 HD1.out.lt)
  clear hb2 hw2
  go_wp2_with fail
  rw [← HW2.out]
  refine (asGeo6 _ _ _).mono ?_
  rintro e w3 ⟨a3, rfl, hk3, ha3, hb3⟩
  have HB3 := Lib.hid (HB2.out.trans (hb3.mono HB2.out.size))
  obtain ⟨r0, r1, p0, p1, rl⟩ := cells2 (HD2.out.below hb3 HD2.out.lt)
  have HK3 := Lib.hid hk3
  have HA3 := Lib.hid ha3
  have hd2 := HD2.out.lt
  clear hb3 hk3 ha3
  go_wp2_with fail
  refine bodyPost_ret (v := .tuple #[.agg #[.int .i64 6, .iface 144 (.pointer (some ⟨a3, 0, none⟩))], .bool false]) (by simp [results, Tryz.results31, go_sem, r0, r1, rl]; try rfl) rfl ?_
  obtain ⟨hbi, hbb⟩ := box_in (S := S) (m := .mu 6 0 none 0 []) (R := w.heap.size + 1) (show (6 : Nat) < 7 by decide) HK3.out (by have := HA3.out; omega) (zero_mu 6 (by decide) _ _) HB3.out (Nat.le_add_right _ 1) _ _
  exact ⟨.bx a3 (.mu 6 0 none 0 []), rfl, rfl, hbi, (fun h => by cases h), hbb⟩

set_option maxHeartbeats 8000000 in
theorem mustAs6_in {a : Nat} {m : MG} (hm : m.kind = 6) {S : Nat → Prop} {w : World} (h : (MG.bx a m).In S w) : Calls Tryz.prog 33 #[.agg (MG.bx a m).enc.toArray, .int .i64 6] w (MustPost S w m.plain) := by
  rw [MG.In] at h
  obtain ⟨-, hSa, hblk, hin⟩ := h
  have HIN := Lib.hid (MG.old hin)
  rw [hm] at hblk
  obtain ⟨d, A, c, kids, rfl⟩ := MG.is_mu (S := S) (w := w) (k := 6) hm (by decide) (by decide) (by decide)
  have hblk : Blk w a 80 #[.slice A kids.length c, .int .u8 d] := hblk
  have HM := Lib.hid (fun w' (hb : Below w.heap.size w w') => must6 (hblk.below hb hblk.lt))
  show Calls Tryz.prog 33 #[.agg #[.int .i64 6, .iface 144 (.pointer (some ⟨a, 0, none⟩))], .int .i64 6] w _
  obtain ⟨wA, hwA⟩ : ∃ wA, wA = (w.alloc (.cells #[.int .i64 6, .iface 144 (.pointer (some ⟨a, 0, none⟩))] 39)).alloc (.cells #[.int .i64 0, .nilIface] 39) := ⟨_, rfl⟩
  have hbl : Below w.heap.size w wA := by rw [hwA]; exact ((Below.refl _ _).alloc (Nat.le_refl _) _).alloc (by simp) _
  have hB : Blk wA w.heap.size 39 #[.int .i64 6, .iface 144 (.pointer (some ⟨a, 0, none⟩))] := by rw [hwA]; exact (Blk.new _ _ _).alloc _
  have hD : Blk wA (w.heap.size + 1) 39 #[.int .i64 0, .nilIface] := by
    rw [hwA]
    have := Blk.new (w.alloc (.cells #[.int .i64 6, .iface 144 (.pointer (some ⟨a, 0, none⟩))] 39)) 39 #[.int .i64 0, .nilIface]
    simpa using this
  obtain ⟨b0, b1, -, -, bl⟩ := cells2 hB
  have HD := Lib.hid hD
  have HBL := Lib.hid hbl
  have HWA := Lib.hid hwA
  obtain ⟨pl, hpl⟩ : ∃ pl, pl = MG.plain (.mu 6 d A c kids) := ⟨_, rfl⟩
  rw [← hpl]
  have HPL := Lib.hid hpl
  clear hwA hbl hB hD hblk hin hm hpl
  go_enter Tryz.func33, Tryz.ntmps33
  go_wp2_with fail
  rw [← HWA.out]
  refine (HM.out wA HBL.out).mono ?_
  rintro e w1 ⟨rfl, hb1⟩
  have HB1 := Lib.hid (HBL.out.trans (hb1.mono HBL.out.size))
  have HD1 := Lib.hid (HD.out.below hb1 HD.out.lt)
  clear hb1 b0 b1 bl
  go_wp2_with fail
  refine (asGeo6 _ _ _).mono ?_
  rintro e w3 ⟨a3, rfl, hk3, ha3, hb3⟩
  have HB3 := Lib.hid (HB1.out.trans (hb3.mono HB1.out.size))
  obtain ⟨r0, r1, p0, p1, rl⟩ := cells2 (HD1.out.below hb3 HD1.out.lt)
  have HK3 := Lib.hid hk3
  have HA3 := Lib.hid ha3
  have hd1 := HD1.out.lt
  clear hb3 hk3 ha3
  go_wp2_with fail
  refine bodyPost_ret (v := .agg #[.int .i64 6, .iface 144 (.pointer (some ⟨a3, 0, none⟩))]) (by simp [results, Tryz.results33, go_sem, r0, r1, rl]; try rfl) rfl ?_
  obtain ⟨hbi, hbb⟩ := box_in (m := .mu 6 d A c kids) (R := w.heap.size + 1) (show (6 : Nat) < 7 by decide) HK3.out (by have := HA3.out; omega) (MG.up HB3.out HIN.out) HB3.out (Nat.le_add_right _ 1) _ _
  exact ⟨.bx a3 (.mu 6 d A c kids), rfl, rfl, hbi, HPL.out.symm, hbb⟩

set_option maxHeartbeats 8000000 in
theorem mustAs6_out {z : Int} (hz : z ≠ 6) (v : Value) (w : World) : Calls Tryz.prog 33 #[.agg #[.int .i64 z, v], .int .i64 6] w (Dies w) := by
  have HM := Lib.hid (fun w' => must6_out hz v w')
  obtain ⟨wA, hwA⟩ : ∃ wA, wA = (w.alloc (.cells #[.int .i64 z, v] 39)).alloc (.cells #[.int .i64 0, .nilIface] 39) := ⟨_, rfl⟩
  have hbl : Below w.heap.size w wA := by rw [hwA]; exact ((Below.refl _ _).alloc (Nat.le_refl _) _).alloc (by simp) _
  have hB : Blk wA w.heap.size 39 #[.int .i64 z, v] := by rw [hwA]; exact (Blk.new _ _ _).alloc _
  obtain ⟨b0, b1, -, -, bl⟩ := cells2 hB
  have HBL := Lib.hid hbl
  have HWA := Lib.hid hwA
  clear hwA hbl hB hz
  go_enter Tryz.func33, Tryz.ntmps33
  go_wp2_with fail
  rw [← HWA.out]
  refine (HM.out wA).mono ?_
  rintro e w1 ⟨u, pv, rfl, hb1⟩
  have HB1 := Lib.hid (HBL.out.trans (hb1.mono HBL.out.size))
  clear hb1 b0 b1 bl
  go_wp2_with fail
  exact ⟨rfl, u, pv, rfl, HB1.out⟩

end Go.Proofs.YtplphaaeibeheaaGreat.geo
