/-
  A question to a tree: the walk of impl.told, for the nearest one and for the extent.
-/
import Derived.Test.YtflaklceejokhaaDoorTreeX3
import Derived.Test.YtflaklceejokhaaDoorTreeS8
namespace Go.Proofs.YtflaklceejokhaaDoor.tree
open Go.ChangeShapes Go.WideShapes Go.ChangeAt Go.RowKit
open Go.Proofs.YtflaklceejokhaaDoor.mem Go.Proofs.YtflaklceejokhaaDoor.flt Ieee
set_option linter.unusedVariables false
set_option linter.unusedSimpArgs false

def setR (W : World) (rb : Nat) (a0 a1 a2 a3 a4 a5 a6 a7 a8 a9 : Value) : World :=
  (((((((((W.setCell ⟨rb, 0, none⟩ a0).setCell ⟨rb, 1, none⟩ a1).setCell ⟨rb, 2, none⟩ a2).setCell ⟨rb, 3, none⟩ a3).setCell ⟨rb, 4, none⟩ a4).setCell ⟨rb, 5, none⟩ a5).setCell ⟨rb, 6, none⟩ a6).setCell ⟨rb, 7, none⟩ a7).setCell ⟨rb, 8, none⟩ a8).setCell ⟨rb, 9, none⟩ a9
theorem told_fin {w W : World} {rb : Nat} {t : TypeId} {c0 c1 c2 c3 c4 c5 c6 c7 c8 c9 : Value} (a0 a1 a2 a3 a4 a5 a6 a7 a8 a9 : Value) (o : Obj) (hb : Below w.heap.size w W) (hr : Blk W rb t #[c0, c1, c2, c3, c4, c5, c6, c7, c8, c9]) (h2 : w.heap.size ≤ rb) :
    Blk ((setR W rb a0 a1 a2 a3 a4 a5 a6 a7 a8 a9).alloc o) rb t #[a0, a1, a2, a3, a4, a5, a6, a7, a8, a9] ∧ Below w.heap.size w ((setR W rb a0 a1 a2 a3 a4 a5 a6 a7 a8 a9).alloc o) := by
  unfold setR
  refine ⟨Blk.alloc ?_ _, ?_⟩
  · have := (((((((((hr.set_ 0 a0).set_ 1 a1).set_ 2 a2).set_ 3 a3).set_ 4 a4).set_ 5 a5).set_ 6 a6).set_ 7 a7).set_ 8 a8).set_ 9 a9
    simpa using this
  · have hs := hb.size
    exact ((((((((((hb.setCell h2 _).setCell h2 _).setCell h2 _).setCell h2 _).setCell h2 _).setCell h2 _).setCell h2 _).setCell h2 _).setCell h2 _).setCell h2 _).alloc (by simp; omega) _

set_option maxRecDepth 100000 in
set_option maxHeartbeats 16000000 in
theorem told2_calls {L t n : Nat} {K : Nat × (Nat → Q)} {S : Addr} {w0 w : World} (b : Bx) (stop how : Int) (hT : RT L w0 t n K) (hk : Keep L w0 w) (hgv : GV w S) (h0 : 0 < w0.heap.size) (hgb : Gd b) (hro : sumF (fun i => (K.2 i).rounds) K.1 ≤ 10000) :
    Calls Tryd.prog 14 #[.pointer (some ⟨t, 0, none⟩), .agg (askA ⟨2, b, stop, how⟩)] w (ToldPost w (anO (!(neF n K b).isEmpty) ((neF n K b).getLastD 0) ⟨0, 0, 0, 0⟩ 0)) := by
  have htw : ∀ w, (Instr.typeAssert .nilIface 58 60 true).run Tryd.prog w = .ok (.tuple #[.agg #[.nilIface], .bool false]) w := taW ⟨0, 0, none⟩ .none
  have hto : ∀ w, (Instr.typeAssert .nilIface 58 62 true).run Tryd.prog w = .ok (.tuple #[.agg #[], .bool false]) w := taO ⟨0, 0, none⟩ .none
  have HT := Lib.hid hT
  have HK := Lib.hid hk
  have HGB := Lib.hid hgb
  have HRO := Lib.hid hro
  have hsz := hk.1
  have hbx := box_calls b
  unfold bxA at hbx
  have HBX := Lib.hid hbx
  obtain ⟨wA, hwA⟩ : ∃ wA, wA = ((w.alloc (.cells (askA ⟨2, b, stop, how⟩) 34)).alloc (.cells (toldA (.slice none 0 0)) 38)).alloc (.cells (toldA (.slice none 0 0)) 38) := ⟨_, rfl⟩
  obtain ⟨hbA, hrA, htA⟩ := told_start hgv h0 hsz wA hwA
  obtain ⟨v0, hoA, -, -, -, hv0⟩ := htA.ex
  have hv00 : v0 = .slice none 0 0 := by
    have h1 := hoA.cell 0
    have h2 : Blk wA (w.heap.size + 1 + 1) 38 (toldA (.slice none 0 0)) := by
      rw [hwA]
      have := Blk.new ((w.alloc (.cells (askA ⟨2, b, stop, how⟩) 34)).alloc (.cells (toldA (.slice none 0 0)) 38)) 38 (toldA (.slice none 0 0))
      rw [show ((w.alloc (.cells (askA ⟨2, b, stop, how⟩) 34)).alloc (.cells (toldA (.slice none 0 0)) 38)).heap.size = w.heap.size + 1 + 1 by simp] at this
      exact this
    have h3 := h2.cell 0
    rw [h1] at h3
    exact Option.some.inj h3
  subst hv00
  have HBA := Lib.hid hbA
  have HRA := Lib.hid hrA
  have HOA := Lib.hid hoA
  have HGA := Lib.hid htA.gv
  have HWA := Lib.hid hwA
  obtain ⟨x, hx⟩ : ∃ x, x = (neF n K b).getLastD 0 := ⟨_, rfl⟩
  obtain ⟨y, hy⟩ : ∃ y, y = !(neF n K b).isEmpty := ⟨_, rfl⟩
  rw [← hx, ← hy]
  have HX := Lib.hid hx
  have HY := Lib.hid hy
  unfold askA
  simp only
  clear hT hk hgv hbx hwA hbA hrA htA hoA hv0 hx hy hgb hro
  go_enter Tryd.func14, Tryd.ntmps14
  go_wp2_with fail
  have hwA2 := HWA.out
  unfold askA toldA at hwA2
  simp only at hwA2
  rw [← hwA2]
  refine (HBX.out wA).mono ?_
  rintro e w1 ⟨rfl, hb1⟩
  have hb01 : Below w.heap.size w w1 := HBA.out.trans (hb1.mono HBA.out.size)
  have hg1 : GV w1 S := by
    have := HGA.out
    unfold GV at this ⊢
    exact (hb1.cell (p := ⟨0, 0, none⟩) (World.block_lt_of_cell? wA _ this)).trans this
  have hcall := nearest_calls HT.out (HK.out.trans (Keep.of_below hb01)) hg1 h0 HGB.out HRO.out
  rw [← HX.out, ← HY.out] at hcall
  unfold bxA at hcall
  have HCALL := Lib.hid hcall
  have hr1 := HRA.out.below hb1 HRA.out.lt
  have ho1 := HOA.out.below hb1 HOA.out.lt
  have HR1 := Lib.hid hr1
  have HO1 := Lib.hid ho1
  have HB01 := Lib.hid hb01
  clear hwA2 hb1 hb01 hg1 hcall hr1 ho1
  go_wp2_with fail
  refine HCALL.out.mono ?_
  rintro e w2 ⟨rfl, hb2⟩
  have hr2 := HR1.out.below hb2 HR1.out.lt
  have ho2 := HO1.out.below hb2 HO1.out.lt
  have HB02 := Lib.hid (HB01.out.trans (hb2.mono HB01.out.size))
  unfold toldA at hr2 ho2
  obtain ⟨c0, c1, c2, c3, c4, c5, c6, c7, c8, c9, lo⟩ := cells10 ho2
  obtain ⟨f0, f1, f2, f3, f4, f5, f6, f7, f8, f9⟩ := froz10 ho2
  obtain ⟨r0, r1, r2, r3, r4, r5, r6, r7, r8, r9, lr⟩ := cells10 hr2
  obtain ⟨q0, q1, q2, q3, q4, q5, q6, q7, q8, q9⟩ := froz10 hr2
  obtain ⟨ob, hob⟩ : ∃ ob, ob = w.heap.size + 1 + 1 := ⟨_, rfl⟩
  obtain ⟨rb, hrb⟩ : ∃ rb, rb = w.heap.size + 1 := ⟨_, rfl⟩
  have hne : rb ≠ ob := by omega
  have g1 : w.heap.size ≤ ob := by omega
  have g2 : w.heap.size ≤ rb := by omega
  rw [← hrb] at hob hr2
  rw [← hrb, ← hob] at c0 c1 c2 c3 c4 c5 c6 c7 c8 c9 f0 f1 f2 f3 f4 f5 f6 f7 f8 f9 lo ⊢
  rw [← hrb] at r0 r1 r2 r3 r4 r5 r6 r7 r8 r9 q0 q1 q2 q3 q4 q5 q6 q7 q8 q9 lr
  have HR2 := Lib.hid hr2
  clear hr2 ho2 hb2 hob hrb
  go_wp2_with fail
  have hfin := told_fin (w := w) (.slice none 0 0) (.bool false) (.bool false) (.bool y) (.int .i64 x) (.float .f64 0) (.float .f64 0) (.float .f64 0) (.float .f64 0) (.int .i64 0) (.cells #[.nilIface] 60)
    ((((HB02.out.setCell (p := ⟨ob, 4, none⟩) g1 (.int .i64 x)).setCell (p := ⟨ob, 3, none⟩) g1 (.bool y)).setCell (p := ⟨ob, 1, none⟩) g1 (.bool false)).setCell (p := ⟨ob, 2, none⟩) g1 (.bool false))
    ((((HR2.out.far (p := ⟨ob, 4, none⟩) hne (.int .i64 x)).far (p := ⟨ob, 3, none⟩) hne (.bool y)).far (p := ⟨ob, 1, none⟩) hne (.bool false)).far (p := ⟨ob, 2, none⟩) hne (.bool false)) g2
  have HFIN := Lib.hid hfin
  clear hfin
  exact bodyPost_ret (v := .agg (anA (.slice none 0 0) (anO y x ⟨0, 0, 0, 0⟩ 0))) (by
    obtain ⟨g0, g1, g2, g3, g4, g5, g6, g7, g8, g9, -⟩ := cells10 HFIN.out.1
    unfold setR at g0 g1 g2 g3 g4 g5 g6 g7 g8 g9
    simp [results, Tryd.results14, go_sem, g0, g1, g2, g3, g4, g5, g6, g7, g8, g9, anA, anO]) rfl ⟨_, rfl, World.ownsRow_nil _ _ _ _, HFIN.out.2⟩
set_option maxRecDepth 100000 in
set_option maxHeartbeats 16000000 in
theorem told3_calls {L t n : Nat} {K : Nat × (Nat → Q)} {S : Addr} {w0 w : World} (b : Bx) (stop how : Int) (hT : RT L w0 t n K) (hk : Keep L w0 w) (hgv : GV w S) (h0 : 0 < w0.heap.size) :
    Calls Tryd.prog 14 #[.pointer (some ⟨t, 0, none⟩), .agg (askA ⟨3, b, stop, how⟩)] w (ToldPost w (anO (decide (0 < n)) 0 (exF n K) 0)) := by
  have htw : ∀ w, (Instr.typeAssert .nilIface 58 60 true).run Tryd.prog w = .ok (.tuple #[.agg #[.nilIface], .bool false]) w := taW ⟨0, 0, none⟩ .none
  have hto : ∀ w, (Instr.typeAssert .nilIface 58 62 true).run Tryd.prog w = .ok (.tuple #[.agg #[], .bool false]) w := taO ⟨0, 0, none⟩ .none
  have HT := Lib.hid hT
  have HK := Lib.hid hk
  have hsz := hk.1
  obtain ⟨wA, hwA⟩ : ∃ wA, wA = ((w.alloc (.cells (askA ⟨3, b, stop, how⟩) 34)).alloc (.cells (toldA (.slice none 0 0)) 38)).alloc (.cells (toldA (.slice none 0 0)) 38) := ⟨_, rfl⟩
  obtain ⟨hbA, hrA, htA⟩ := told_start hgv h0 hsz wA hwA
  obtain ⟨v0, hoA, -, -, -, hv0⟩ := htA.ex
  have hv00 : v0 = .slice none 0 0 := by
    have h1 := hoA.cell 0
    have h2 : Blk wA (w.heap.size + 1 + 1) 38 (toldA (.slice none 0 0)) := by
      rw [hwA]
      have := Blk.new ((w.alloc (.cells (askA ⟨3, b, stop, how⟩) 34)).alloc (.cells (toldA (.slice none 0 0)) 38)) 38 (toldA (.slice none 0 0))
      rw [show ((w.alloc (.cells (askA ⟨3, b, stop, how⟩) 34)).alloc (.cells (toldA (.slice none 0 0)) 38)).heap.size = w.heap.size + 1 + 1 by simp] at this
      exact this
    have h3 := h2.cell 0
    rw [h1] at h3
    exact Option.some.inj h3
  subst hv00
  have HBA := Lib.hid hbA
  have HRA := Lib.hid hrA
  have HOA := Lib.hid hoA
  have HGA := Lib.hid htA.gv
  have HWA := Lib.hid hwA
  obtain ⟨⟨e0, e1, e2, e3⟩, hx⟩ : ∃ x, x = exF n K := ⟨_, rfl⟩
  obtain ⟨y, hy⟩ : ∃ y, y = decide (0 < n) := ⟨_, rfl⟩
  rw [← hx, ← hy]
  have hcall := extent_calls hT (hk.trans (Keep.of_below hbA))
  rw [← hx, ← hy] at hcall
  unfold bxA at hcall
  have HCALL := Lib.hid hcall
  unfold askA
  simp only
  clear hT hk hgv hwA hbA hrA htA hoA hv0 hx hy hcall
  go_enter Tryd.func14, Tryd.ntmps14
  go_wp2_with fail
  have hwA2 := HWA.out
  unfold askA toldA at hwA2
  simp only at hwA2
  rw [← hwA2]
  refine HCALL.out.mono ?_
  rintro e w2 ⟨rfl, hb2⟩
  have hr2 := HRA.out.below hb2 HRA.out.lt
  have ho2 := HOA.out.below hb2 HOA.out.lt
  have HB02 := Lib.hid (HBA.out.trans (hb2.mono HBA.out.size))
  unfold toldA at hr2 ho2
  obtain ⟨c0, c1, c2, c3, c4, c5, c6, c7, c8, c9, lo⟩ := cells10 ho2
  obtain ⟨f0, f1, f2, f3, f4, f5, f6, f7, f8, f9⟩ := froz10 ho2
  obtain ⟨r0, r1, r2, r3, r4, r5, r6, r7, r8, r9, lr⟩ := cells10 hr2
  obtain ⟨q0, q1, q2, q3, q4, q5, q6, q7, q8, q9⟩ := froz10 hr2
  obtain ⟨ob, hob⟩ : ∃ ob, ob = w.heap.size + 1 + 1 := ⟨_, rfl⟩
  obtain ⟨rb, hrb⟩ : ∃ rb, rb = w.heap.size + 1 := ⟨_, rfl⟩
  have hne : rb ≠ ob := by omega
  have g1 : w.heap.size ≤ ob := by omega
  have g2 : w.heap.size ≤ rb := by omega
  rw [← hrb] at hob hr2
  rw [← hrb, ← hob] at c0 c1 c2 c3 c4 c5 c6 c7 c8 c9 f0 f1 f2 f3 f4 f5 f6 f7 f8 f9 lo ⊢
  rw [← hrb] at r0 r1 r2 r3 r4 r5 r6 r7 r8 r9 q0 q1 q2 q3 q4 q5 q6 q7 q8 q9 lr
  have HR2 := Lib.hid hr2
  clear hr2 ho2 hb2 hob hrb hwA2
  go_wp2_with fail
  have hfin := told_fin (w := w) (.slice none 0 0) (.bool false) (.bool false) (.bool y) (.int .i64 0) (.float .f64 e0) (.float .f64 e1) (.float .f64 e2) (.float .f64 e3) (.int .i64 0) (.cells #[.float .f64 e0, .float .f64 e1, .float .f64 e2, .float .f64 e3] 52)
    (((((((HB02.out.setCell (p := ⟨ob, 5, none⟩) g1 (.float .f64 e0)).setCell (p := ⟨ob, 6, none⟩) g1 (.float .f64 e1)).setCell (p := ⟨ob, 7, none⟩) g1 (.float .f64 e2)).setCell (p := ⟨ob, 8, none⟩) g1 (.float .f64 e3)).setCell (p := ⟨ob, 3, none⟩) g1 (.bool y)).setCell (p := ⟨ob, 1, none⟩) g1 (.bool false)).setCell (p := ⟨ob, 2, none⟩) g1 (.bool false))
    (((((((HR2.out.far (p := ⟨ob, 5, none⟩) hne (.float .f64 e0)).far (p := ⟨ob, 6, none⟩) hne (.float .f64 e1)).far (p := ⟨ob, 7, none⟩) hne (.float .f64 e2)).far (p := ⟨ob, 8, none⟩) hne (.float .f64 e3)).far (p := ⟨ob, 3, none⟩) hne (.bool y)).far (p := ⟨ob, 1, none⟩) hne (.bool false)).far (p := ⟨ob, 2, none⟩) hne (.bool false)) g2
  have h1 := hfin.1.alloc (.cells #[.nilIface] 60)
  have h2 := hfin.2.alloc (Nat.le_trans g2 (Nat.le_of_lt hfin.1.lt)) (.cells #[.nilIface] 60)
  have HF1 := Lib.hid h1
  have HF2 := Lib.hid h2
  clear hfin h1 h2
  exact bodyPost_ret (v := .agg (anA (.slice none 0 0) (anO y 0 ⟨e0, e1, e2, e3⟩ 0))) (by
    obtain ⟨g0, g1, g2, g3, g4, g5, g6, g7, g8, g9, -⟩ := cells10 HF1.out
    unfold setR at g0 g1 g2 g3 g4 g5 g6 g7 g8 g9
    simp [results, Tryd.results14, go_sem, g0, g1, g2, g3, g4, g5, g6, g7, g8, g9, anA, anO]) rfl ⟨_, rfl, World.ownsRow_nil _ _ _ _, HF2.out⟩
end Go.Proofs.YtflaklceejokhaaDoor.tree
