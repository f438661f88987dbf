/-
  A question to a tree: the walk of impl.told, for the searches. (Printed by wip/genTold.py.)
-/
import Derived.Test.YtflaklceejokhaaDoorTreeS6
namespace Go.Proofs.YtflaklceejokhaaDoor.tree
open Go.ChangeShapes Go.WideShapes Go.ChangeAt Go.RowKit
open Go.Proofs.YtflaklceejokhaaDoor.mem Go.Proofs.YtflaklceejokhaaDoor.flt Ieee
set_option linter.unusedVariables false
set_option linter.unusedSimpArgs false

set_option maxRecDepth 100000 in
set_option maxHeartbeats 16000000 in
theorem told0_calls {L t n : Nat} {K : Nat × (Nat → Q)} {S : Addr} {w0 w : World} (b : Bx) (stop how : Int) (hI : IsC S (ansT stop how)) (hT : RT L w0 t n K) (hk : Keep L w0 w) (hgv : GV w S) (h0 : 0 < w0.heap.size) :
    Calls Tryd.prog 14 #[.pointer (some ⟨t, 0, none⟩), .agg (askA ⟨0, b, stop, how⟩)] w (ToldPost w (anR (rsF n K (ansT stop how) b))) := by
  have HT := Lib.hid hT
  have HK := Lib.hid hk
  have HI := Lib.hid hI
  have hsz := hk.1
  obtain ⟨R, hR⟩ : ∃ R, R = rsF n K (ansT stop how) b := ⟨_, rfl⟩
  rw [← hR]
  have HR := Lib.hid hR
  have hbx := box_calls b
  unfold bxA at hbx
  have HBX := Lib.hid hbx
  obtain ⟨wA, hwA⟩ : ∃ wA, wA = ((w.alloc (.cells (askA ⟨0, b, stop, how⟩) 34)).alloc (.cells (toldA (.slice none 0 0)) 38)).alloc (.cells (toldA (.slice none 0 0)) 38) := ⟨_, rfl⟩
  obtain ⟨hbA, hrA, htA⟩ := told_start hgv h0 hsz wA hwA
  have HBA := Lib.hid hbA
  have HRA := Lib.hid hrA
  have HTA := Lib.hid htA
  have HWA := Lib.hid hwA
  unfold askA
  simp only
  clear hT hk hI hgv hR hbx hwA hbA hrA htA
  go_enter Tryd.func14, Tryd.ntmps14
  go_wp2_with fail
  have hwA2 := HWA.out
  unfold askA toldA at hwA2
  simp only at hwA2
  rw [← hwA2]
  refine (HBX.out wA).mono ?_
  rintro e w1 ⟨rfl, hb1⟩
  have hts1 : TS w0.heap.size S (w.heap.size + 1 + 1) w.heap.size ⟨0, b, stop, how⟩ w1 [] (fun b => b = w.heap.size + 1 + 1 ∨ b = w.heap.size) := HTA.out.keep (Fr.of_below (F := fun _ => False) hb1) (fun _ h => h.elim) (fun _ _ h => h)
  have hb01 : Below w.heap.size w w1 := HBA.out.trans (hb1.mono HBA.out.size)
  have hr1 := HRA.out.below hb1 HRA.out.lt
  have HTS1 := Lib.hid hts1
  have HB01 := Lib.hid hb01
  have HR1 := Lib.hid hr1
  have hk1 : Keep L w0 w1 := HK.out.trans (Keep.of_below hb01)
  have HK1 := Lib.hid hk1
  clear hb1 hts1 hb01 hr1 hwA2 hk1
  go_wp2_with fail
  refine (range_calls (toldCb HI.out) HT.out HK1.out HTS1.out).mono ?_
  rintro e w2 ⟨rfl, F2, hts2, hfr2, hF2⟩
  rw [← HR.out] at hts2 ⊢
  obtain ⟨v, hB2, hO2, ap1, ap2, hFi⟩ := hts2.ex
  have hb02 : Below w.heap.size w w2 := HB01.out.trans (hfr2.toBelow (fun x hx => by rcases hx with rfl | rfl <;> omega) HB01.out.size)
  have hr2 : Blk w2 (w.heap.size + 1) 38 (toldA (.slice none 0 0)) := HR1.out.of_heap (hfr2.block _ HR1.out.lt (fun hx => by rcases hx with h | h <;> omega))
  have hw1s : w.heap.size + 1 + 1 < w1.heap.size := by
    obtain ⟨v, h1, -⟩ := HTS1.out.ex
    exact h1.lt
  have hvo : ∀ k, v.ownBlock = some k → w1.heap.size ≤ k := fun k hk => by
    rcases hF2 k ((hFi k).2 (.inr (.inr hk.symm))) with h | h
    · rcases h with rfl | rfl
      · exact absurd hk ap1
      · exact absurd hk ap2
    · exact h
  obtain ⟨A2, k2, hv2⟩ := own_slice hO2
  subst hv2
  have HVO := Lib.hid hvo
  have HB02 := Lib.hid hb02
  have HR2 := Lib.hid hr2
  have HB2 := Lib.hid hB2
  have HO2 := Lib.hid hO2
  obtain ⟨er, her⟩ : ∃ er, er = R.2 := ⟨_, rfl⟩
  rw [← her]
  have HER := Lib.hid her
  have hneq := neqN S er
  have hgrd := eqG S er
  have htw := taW S er
  have hto := taO S er
  have hsi := storeI S er
  obtain ⟨z, hz⟩ : ∃ z, z = er.isNone := ⟨_, rfl⟩
  rw [← hz] at hneq
  have HZ := Lib.hid hz
  obtain ⟨y, hy⟩ : ∃ y, y = er.isW := ⟨_, rfl⟩
  rw [← hy] at htw
  obtain ⟨x, hx⟩ : ∃ x, x = er.isOwn := ⟨_, rfl⟩
  rw [← hx] at hto
  have HX := Lib.hid hx
  unfold toldA at hB2 hr2
  obtain ⟨c0, c1, c2, c3, c4, c5, c6, c7, c8, c9, lo⟩ := cells10 hB2
  obtain ⟨f0, f1, f2, f3, f4, f5, f6, f7, f8, f9⟩ := froz10 hB2
  obtain ⟨r0, r1, r2, r3, r4, r5, r6, r7, r8, r9, lr⟩ := cells10 hr2
  obtain ⟨q0, q1, q2, q3, q4, q5, q6, q7, q8, q9⟩ := froz10 hr2
  obtain ⟨ob, hob⟩ : ∃ ob, ob = w.heap.size + 1 + 1 := ⟨_, rfl⟩
  obtain ⟨rb, hrb⟩ : ∃ rb, rb = w.heap.size + 1 := ⟨_, rfl⟩
  have hne : rb ≠ ob := by omega
  have HOB := Lib.hid hob
  have HRB := Lib.hid hrb
  rw [← hrb] at hob
  rw [← hrb, ← hob] at c0 c1 c2 c3 c4 c5 c6 c7 c8 c9 f0 f1 f2 f3 f4 f5 f6 f7 f8 f9 lo ⊢
  rw [← hrb] at r0 r1 r2 r3 r4 r5 r6 r7 r8 r9 q0 q1 q2 q3 q4 q5 q6 q7 q8 q9 lr
  have hend := fun u => told_end (ob := ob) (rb := rb) (!z) x u hb02 (by rw [hrb]; exact HR2.out) HO2.out (fun k hk => by
    have h1 := hvo k hk
    have h2 := HB01.out.size
    refine ⟨by omega, ?_, ?_⟩
    · intro e; subst e; exact ap1 (hk.trans (by rw [hob, hrb]))
    · intro e; omega) (by omega) (by omega) hne
  have HENDW := Lib.hid hend
  have hzv : (!R.2.isNone) = !z := by rw [hz, her]
  have hxv : R.2.isOwn = x := by rw [hx, her]
  have HZV := Lib.hid hzv
  have HXV := Lib.hid hxv
  clear hend hzv hxv
  clear hts2 hfr2 hF2 hB2 hO2 ap1 ap2 hFi hb02 hr2 hvo her hz hx hw1s hob hrb
  cases y with
  | true =>
    have hun : er.un S = er.inner S := by unfold Er.un; rw [if_pos hy.symm]
    rw [hun] at hto
    clear hy hun
    go_wp2_with fail
    exact bodyPost_ret (v := .agg (anA (.slice A2 R.1.length k2) (anR R))) (by
      obtain ⟨g0, g1, g2, g3, g4, g5, g6, g7, g8, g9, -⟩ := cells10 (HENDW.out (er.inner S)).1
      unfold endW at g0 g1 g2 g3 g4 g5 g6 g7 g8 g9
      simp [results, Tryd.results14, go_sem, g0, g1, g2, g3, g4, g5, g6, g7, g8, g9, anA, anR, HZV.out, HXV.out]) rfl ⟨_, rfl, (HENDW.out (er.inner S)).2.1, (HENDW.out (er.inner S)).2.2⟩
  | false =>
    have hun : er.un S = er.v S := by unfold Er.un; rw [if_neg (by rw [← hy]; decide)]
    rw [hun] at hto
    clear hy hun
    go_wp2_with fail
    exact bodyPost_ret (v := .agg (anA (.slice A2 R.1.length k2) (anR R))) (by
      obtain ⟨g0, g1, g2, g3, g4, g5, g6, g7, g8, g9, -⟩ := cells10 (HENDW.out (er.inner S)).1
      unfold endW at g0 g1 g2 g3 g4 g5 g6 g7 g8 g9
      simp [results, Tryd.results14, go_sem, g0, g1, g2, g3, g4, g5, g6, g7, g8, g9, anA, anR, HZV.out, HXV.out]) rfl ⟨_, rfl, (HENDW.out (er.inner S)).2.1, (HENDW.out (er.inner S)).2.2⟩

set_option maxRecDepth 100000 in
set_option maxHeartbeats 16000000 in
theorem told1_calls' {L t n : Nat} {K : Nat × (Nat → Q)} {S : Addr} {w0 w : World} (b : Bx) (stop how : Int) (hI : IsC S (ansT stop how)) (hT : RT L w0 t n K) (hk : Keep L w0 w) (hgv : GV w S) (h0 : 0 < w0.heap.size) (hgb : Gd b) (hro : sumF (fun i => (K.2 i).rounds) K.1 ≤ 10000) :
    Calls Tryd.prog 14 #[.pointer (some ⟨t, 0, none⟩), .agg (askA ⟨1, b, stop, how⟩)] w (ToldPost w (anR (psF n K (ansT stop how) b))) := by
  have HT := Lib.hid hT
  have HK := Lib.hid hk
  have HI := Lib.hid hI
  have hsz := hk.1
  obtain ⟨R, hR⟩ : ∃ R, R = psF n K (ansT stop how) b := ⟨_, rfl⟩
  rw [← hR]
  have HR := Lib.hid hR
  have hbx := box_calls b
  unfold bxA at hbx
  have HBX := Lib.hid hbx
  obtain ⟨wA, hwA⟩ : ∃ wA, wA = ((w.alloc (.cells (askA ⟨1, b, stop, how⟩) 34)).alloc (.cells (toldA (.slice none 0 0)) 38)).alloc (.cells (toldA (.slice none 0 0)) 38) := ⟨_, rfl⟩
  obtain ⟨hbA, hrA, htA⟩ := told_start hgv h0 hsz wA hwA
  have HBA := Lib.hid hbA
  have HRA := Lib.hid hrA
  have HTA := Lib.hid htA
  have HWA := Lib.hid hwA
  have HGB := Lib.hid hgb
  have HRO := Lib.hid hro
  clear hgb hro
  unfold askA
  simp only
  clear hT hk hI hgv hR hbx hwA hbA hrA htA
  go_enter Tryd.func14, Tryd.ntmps14
  go_wp2_with fail
  have hwA2 := HWA.out
  unfold askA toldA at hwA2
  simp only at hwA2
  rw [← hwA2]
  refine (HBX.out wA).mono ?_
  rintro e w1 ⟨rfl, hb1⟩
  have hts1 : TS w0.heap.size S (w.heap.size + 1 + 1) w.heap.size ⟨1, b, stop, how⟩ w1 [] (fun b => b = w.heap.size + 1 + 1 ∨ b = w.heap.size) := HTA.out.keep (Fr.of_below (F := fun _ => False) hb1) (fun _ h => h.elim) (fun _ _ h => h)
  have hb01 : Below w.heap.size w w1 := HBA.out.trans (hb1.mono HBA.out.size)
  have hr1 := HRA.out.below hb1 HRA.out.lt
  have HTS1 := Lib.hid hts1
  have HB01 := Lib.hid hb01
  have HR1 := Lib.hid hr1
  have hk1 : Keep L w0 w1 := HK.out.trans (Keep.of_below hb01)
  have HK1 := Lib.hid hk1
  clear hb1 hts1 hb01 hr1 hwA2 hk1
  go_wp2_with fail
  refine (prio_calls (toldCb HI.out) HT.out HK1.out HTS1.out HGB.out HRO.out).mono ?_
  rintro e w2 ⟨rfl, F2, hts2, hfr2, hF2⟩
  rw [← HR.out] at hts2 ⊢
  obtain ⟨v, hB2, hO2, ap1, ap2, hFi⟩ := hts2.ex
  have hb02 : Below w.heap.size w w2 := HB01.out.trans (hfr2.toBelow (fun x hx => by rcases hx with rfl | rfl <;> omega) HB01.out.size)
  have hr2 : Blk w2 (w.heap.size + 1) 38 (toldA (.slice none 0 0)) := HR1.out.of_heap (hfr2.block _ HR1.out.lt (fun hx => by rcases hx with h | h <;> omega))
  have hw1s : w.heap.size + 1 + 1 < w1.heap.size := by
    obtain ⟨v, h1, -⟩ := HTS1.out.ex
    exact h1.lt
  have hvo : ∀ k, v.ownBlock = some k → w1.heap.size ≤ k := fun k hk => by
    rcases hF2 k ((hFi k).2 (.inr (.inr hk.symm))) with h | h
    · rcases h with rfl | rfl
      · exact absurd hk ap1
      · exact absurd hk ap2
    · exact h
  obtain ⟨A2, k2, hv2⟩ := own_slice hO2
  subst hv2
  have HVO := Lib.hid hvo
  have HB02 := Lib.hid hb02
  have HR2 := Lib.hid hr2
  have HB2 := Lib.hid hB2
  have HO2 := Lib.hid hO2
  obtain ⟨er, her⟩ : ∃ er, er = R.2 := ⟨_, rfl⟩
  rw [← her]
  have HER := Lib.hid her
  have hneq := neqN S er
  have hgrd := eqG S er
  have htw := taW S er
  have hto := taO S er
  have hsi := storeI S er
  obtain ⟨z, hz⟩ : ∃ z, z = er.isNone := ⟨_, rfl⟩
  rw [← hz] at hneq
  have HZ := Lib.hid hz
  obtain ⟨y, hy⟩ : ∃ y, y = er.isW := ⟨_, rfl⟩
  rw [← hy] at htw
  obtain ⟨x, hx⟩ : ∃ x, x = er.isOwn := ⟨_, rfl⟩
  rw [← hx] at hto
  have HX := Lib.hid hx
  unfold toldA at hB2 hr2
  obtain ⟨c0, c1, c2, c3, c4, c5, c6, c7, c8, c9, lo⟩ := cells10 hB2
  obtain ⟨f0, f1, f2, f3, f4, f5, f6, f7, f8, f9⟩ := froz10 hB2
  obtain ⟨r0, r1, r2, r3, r4, r5, r6, r7, r8, r9, lr⟩ := cells10 hr2
  obtain ⟨q0, q1, q2, q3, q4, q5, q6, q7, q8, q9⟩ := froz10 hr2
  obtain ⟨ob, hob⟩ : ∃ ob, ob = w.heap.size + 1 + 1 := ⟨_, rfl⟩
  obtain ⟨rb, hrb⟩ : ∃ rb, rb = w.heap.size + 1 := ⟨_, rfl⟩
  have hne : rb ≠ ob := by omega
  have HOB := Lib.hid hob
  have HRB := Lib.hid hrb
  rw [← hrb] at hob
  rw [← hrb, ← hob] at c0 c1 c2 c3 c4 c5 c6 c7 c8 c9 f0 f1 f2 f3 f4 f5 f6 f7 f8 f9 lo ⊢
  rw [← hrb] at r0 r1 r2 r3 r4 r5 r6 r7 r8 r9 q0 q1 q2 q3 q4 q5 q6 q7 q8 q9 lr
  have hend := fun u => told_end (ob := ob) (rb := rb) (!z) x u hb02 (by rw [hrb]; exact HR2.out) HO2.out (fun k hk => by
    have h1 := hvo k hk
    have h2 := HB01.out.size
    refine ⟨by omega, ?_, ?_⟩
    · intro e; subst e; exact ap1 (hk.trans (by rw [hob, hrb]))
    · intro e; omega) (by omega) (by omega) hne
  have HENDW := Lib.hid hend
  have hzv : (!R.2.isNone) = !z := by rw [hz, her]
  have hxv : R.2.isOwn = x := by rw [hx, her]
  have HZV := Lib.hid hzv
  have HXV := Lib.hid hxv
  clear hend hzv hxv
  clear hts2 hfr2 hF2 hB2 hO2 ap1 ap2 hFi hb02 hr2 hvo her hz hx hw1s hob hrb
  cases y with
  | true =>
    have hun : er.un S = er.inner S := by unfold Er.un; rw [if_pos hy.symm]
    rw [hun] at hto
    clear hy hun
    go_wp2_with fail
    exact bodyPost_ret (v := .agg (anA (.slice A2 R.1.length k2) (anR R))) (by
      obtain ⟨g0, g1, g2, g3, g4, g5, g6, g7, g8, g9, -⟩ := cells10 (HENDW.out (er.inner S)).1
      unfold endW at g0 g1 g2 g3 g4 g5 g6 g7 g8 g9
      simp [results, Tryd.results14, go_sem, g0, g1, g2, g3, g4, g5, g6, g7, g8, g9, anA, anR, HZV.out, HXV.out]) rfl ⟨_, rfl, (HENDW.out (er.inner S)).2.1, (HENDW.out (er.inner S)).2.2⟩
  | false =>
    have hun : er.un S = er.v S := by unfold Er.un; rw [if_neg (by rw [← hy]; decide)]
    rw [hun] at hto
    clear hy hun
    go_wp2_with fail
    exact bodyPost_ret (v := .agg (anA (.slice A2 R.1.length k2) (anR R))) (by
      obtain ⟨g0, g1, g2, g3, g4, g5, g6, g7, g8, g9, -⟩ := cells10 (HENDW.out (er.inner S)).1
      unfold endW at g0 g1 g2 g3 g4 g5 g6 g7 g8 g9
      simp [results, Tryd.results14, go_sem, g0, g1, g2, g3, g4, g5, g6, g7, g8, g9, anA, anR, HZV.out, HXV.out]) rfl ⟨_, rfl, (HENDW.out (er.inner S)).2.1, (HENDW.out (er.inner S)).2.2⟩

end Go.Proofs.YtflaklceejokhaaDoor.tree
