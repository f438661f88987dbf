/-
  Contracts: a part out of range: the call panics.
-/
import Derived.Test.YtplphaaeibeheaaGreatGeoAI
import Derived.Laws.Panics
import Derived.WalkLawsBesides
import Derived.RegionDies
namespace Go.Proofs.YtplphaaeibeheaaGreat.geo
open Go.ChangeShapes Go.WideShapes Go.ChangeAt Go.RowKit
open Go.Proofs.YtplphaaeibeheaaGreat.mem
set_option linter.unusedVariables false
set_option linter.unusedSimpArgs false

/-- The call panics with a value that is no nil, and nothing old has turned. -/
def Dies (w : World) (e : Ending) (w' : World) : Prop := ∃ u pv, e = .panicked [{ v := .iface u pv, recovered := false }] ∧ Below w.heap.size w w'
theorem run_bounds_out {P : Program} {α : Type} (w : World) (x y : Int) : ∃ v w', (boundsPanic .i64 x y .index : Sem α).run P w = .halt (.panic (.iface P.rt.boundsError v)) w' ∧ (w' = w ∨ w' = w.drew) := by
  unfold boundsPanic
  split
  · simp [runtimePanic, goPanic, go_sem, Question.forced]
    exact ⟨_, _, ⟨rfl, rfl⟩, .inr rfl⟩
  · simp [runtimePanic, goPanic, go_sem]
    exact ⟨_, _, ⟨rfl, rfl⟩, .inl rfl⟩
theorem run_index_out {P : Program} {t : TypeId} {e : TypeId} (ht : P.underlying t = some (.slice e)) {A : Option Addr} {n c : Nat} {i : Int} (ho : i < 0 ∨ (n : Int) ≤ i) (hnil : A = none → n = 0) (w : World) :
    ∃ v w', (Instr.indexAt t (.slice A n c) (.int .i64 i)).run P w = .halt (.panic (.iface P.rt.boundsError v)) w' ∧ (w' = w ∨ w' = w.drew) := by
  have hno : ¬ (0 ≤ i ∧ i < (n : Int)) := by omega
  cases A with
  | none =>
    obtain rfl := hnil rfl
    have e1 : (Instr.indexAt t (.slice none 0 c) (.int .i64 i)).run P w = (boundsPanic .i64 i 0 .index).run P w := by simp [Instr.indexAt, run_underlying ht, asIntOf]
    rw [e1]
    exact run_bounds_out w i 0
  | some a =>
    have e1 : (Instr.indexAt t (.slice (some a) n c) (.int .i64 i)).run P w = (boundsPanic .i64 i n .index).run P w := by simp [Instr.indexAt, run_underlying ht, asIntOf, hno]
    rw [e1]
    exact run_bounds_out w i n
theorem Dies.of {w w0 : World} {u : TypeId} {pv : Value} {w' : World} (hb : Below w.heap.size w w0) (h : w' = w0 ∨ w' = w0.drew) : Dies w (.panicked [{ v := .iface u pv, recovered := false }]) w' := by
  rcases h with rfl | rfl
  · exact ⟨u, pv, rfl, hb⟩
  · exact ⟨u, pv, rfl, hb.drew⟩
theorem Dies.up {w w0 : World} {e : Ending} {w' : World} (hb : Below w0.heap.size w0 w) (h : Dies w e w') : Dies w0 e w' := by
  obtain ⟨u, pv, h1, h2⟩ := h
  exact ⟨u, pv, h1, hb.trans (h2.mono hb.size)⟩

set_option maxRecDepth 100000
theorem out4 {A : Option Addr} {n c : Nat} {d : Value} {i : Int} {w : World} (ho : i < 0 ∨ (n : Int) ≤ i) (hnil : A = none → n = 0) :
    Calls Tryz.prog 67 #[.agg #[.slice A n c, d], .int .i64 i] w (Dies w) := by
  obtain ⟨v, w', hrun, hw'⟩ := run_index_out (c := c) Tryz.underlying71 ho hnil ((w.alloc (.cells #[.slice A n c, d] 73)).alloc (.cells #[.float .f64 0, .float .f64 0, .float .f64 0, .float .f64 0, .int .u8 0, .bool false] 59))
  have hd := Lib.hid (Dies.of (u := Tryz.prog.rt.boundsError) (pv := v) (((Below.refl w.heap.size w).alloc (Nat.le_refl _) _).alloc (by simp) _) hw')
  clear hw'
  go_enter Tryz.func67, Tryz.ntmps67
  go_wp2_with fail
  exact ⟨rfl, hd.out⟩
theorem out5 {A : Option Addr} {n c : Nat} {d : Value} {i : Int} {w : World} (ho : i < 0 ∨ (n : Int) ≤ i) (hnil : A = none → n = 0) :
    Calls Tryz.prog 69 #[.agg #[.slice A n c, d], .int .i64 i] w (Dies w) := by
  obtain ⟨v, w', hrun, hw'⟩ := run_index_out (c := c) Tryz.underlying67 ho hnil ((w.alloc (.cells #[.slice A n c, d] 76)).alloc (.cells #[.int .u8 0, .slice none 0 0] 65))
  have hd := Lib.hid (Dies.of (u := Tryz.prog.rt.boundsError) (pv := v) (((Below.refl w.heap.size w).alloc (Nat.le_refl _) _).alloc (by simp) _) hw')
  clear hw'
  go_enter Tryz.func69, Tryz.ntmps69
  go_wp2_with fail
  exact ⟨rfl, hd.out⟩
theorem out6 {A : Option Addr} {n c : Nat} {d : Value} {i : Int} {w : World} (ho : i < 0 ∨ (n : Int) ≤ i) (hnil : A = none → n = 0) :
    Calls Tryz.prog 71 #[.agg #[.slice A n c, d], .int .i64 i] w (Dies w) := by
  obtain ⟨v, w', hrun, hw'⟩ := run_index_out (c := c) Tryz.underlying78 ho hnil ((w.alloc (.cells #[.slice A n c, d] 80)).alloc (.cells #[.slice none 0 0, .int .u8 0] 69))
  have hd := Lib.hid (Dies.of (u := Tryz.prog.rt.boundsError) (pv := v) (((Below.refl w.heap.size w).alloc (Nat.le_refl _) _).alloc (by simp) _) hw')
  clear hw'
  go_enter Tryz.func71, Tryz.ntmps71
  go_wp2_with fail
  exact ⟨rfl, hd.out⟩
theorem out0 {A : Option Addr} {n c : Nat} {d : Value} {i : Int} {w : World} (ho : i < 0 ∨ (n : Int) ≤ i) (hnil : A = none → n = 0) :
    Calls Tryz.prog 73 #[.agg #[.slice A n c, d], .int .i64 i] w (Dies w) := by
  obtain ⟨v, w', hrun, hw'⟩ := run_index_out (c := c) Tryz.underlying82 ho hnil ((w.alloc (.cells #[.slice A n c, d] 84)).alloc (.cells #[.int .i64 0, .nilIface] 39))
  have hd := Lib.hid (Dies.of (u := Tryz.prog.rt.boundsError) (pv := v) (((Below.refl w.heap.size w).alloc (Nat.le_refl _) _).alloc (by simp) _) hw')
  clear hw'
  go_enter Tryz.func73, Tryz.ntmps73
  go_wp2_with fail
  exact ⟨rfl, hd.out⟩

theorem index_dies {P : Program} {t : TypeId} {e : TypeId} (ht : P.underlying t = some (.slice e)) {A : Option Addr} {n c : Nat} {i : Int} (ho : i < 0 ∨ (n : Int) ≤ i) (hnil : A = none → n = 0) :
    ∃ (V : World → Value) (W : World → World), (∀ w, (Instr.indexAt t (.slice A n c) (.int .i64 i)).run P w = .halt (.panic (.iface P.rt.boundsError (V w))) (W w)) ∧ ∀ w, W w = w ∨ W w = w.drew :=
  ⟨fun w => Classical.choose (run_index_out (c := c) ht ho hnil w), fun w => Classical.choose (Classical.choose_spec (run_index_out (c := c) ht ho hnil w)),
    fun w => (Classical.choose_spec (Classical.choose_spec (run_index_out (c := c) ht ho hnil w))).1, fun w => (Classical.choose_spec (Classical.choose_spec (run_index_out (c := c) ht ho hnil w))).2⟩

set_option maxHeartbeats 8000000 in
theorem getOut0 {A : Option Addr} {n c : Nat} {i : Int} {w : World} (ho : i < 0 ∨ (n : Int) ≤ i * 2) (hb : -2147483648 ≤ i ∧ i ≤ 2147483648) (hnil : A = none → n = 0) :
    Calls Tryz.prog 61 #[.agg #[.int .u8 0, .slice A n c], .int .i64 i] w (Dies w) := by
  obtain ⟨V1, W1, h1, g1⟩ := index_dies (c := c) Tryz.underlying22 (i := i * 2) (n := n) (by omega) hnil
  obtain ⟨V2, W2, h2, g2⟩ := index_dies (c := c) Tryz.underlying22 (i := i * 2 + 1) (n := n) (by omega) hnil
  obtain ⟨wA, hwA⟩ : ∃ wA, wA = (w.alloc (.cells #[.int .u8 0, .slice A n c] 63)).alloc (.cells #[.float .f64 0, .float .f64 0, .float .f64 0, .float .f64 0, .int .u8 0] 57) := ⟨_, rfl⟩
  have hbl : Below w.heap.size w wA := by rw [hwA]; exact ((Below.refl _ _).alloc (Nat.le_refl _) _).alloc (by simp) _
  have hB : Blk wA w.heap.size 63 #[.int .u8 0, .slice A n c] := by rw [hwA]; exact (Blk.new _ _ _).alloc _
  obtain ⟨c0, c1, -, -, cl⟩ := cells2 hB
  have u0 : IntKind.i64.wrap (i * 2) = i * 2 := IntWalk.i64_in _ (by omega)
  have u1 : IntKind.i64.wrap (i * 2 + 1) = i * 2 + 1 := IntWalk.i64_in _ (by omega)
  have hd := dim0
  have HBL := Lib.hid hbl
  have HWA := Lib.hid hwA
  have HD1 := Lib.hid (show ∀ w0, Below w.heap.size w w0 → Dies w (.panicked [{ v := .iface Tryz.prog.rt.boundsError (V1 w0), recovered := false }]) (W1 w0) from fun w0 hb => Dies.of hb (g1 w0))
  have HD2 := Lib.hid (show ∀ w0, Below w.heap.size w w0 → Dies w (.panicked [{ v := .iface Tryz.prog.rt.boundsError (V2 w0), recovered := false }]) (W2 w0) from fun w0 hb => Dies.of hb (g2 w0))
  clear hwA hB hbl g1 g2 ho hb
  go_enter Tryz.func61, Tryz.ntmps61
  go_wp2_with fail
  rw [← HWA.out]
  refine (hd _).mono ?_
  rintro e w9 ⟨rfl, hw9⟩
  replace hw9 := hw9.symm
  subst hw9
  go_wp2_with fail
  go_region_dies
  all_goals first
    | exact ⟨rfl, HD1.out _ (by first | exact HBL.out.drew | exact (HBL.out.alloc HBL.out.size _).drew)⟩
    | exact ⟨rfl, HD2.out _ (by first | exact HBL.out.drew | exact (HBL.out.alloc HBL.out.size _).drew)⟩
set_option maxHeartbeats 8000000 in
theorem getOut1 {A : Option Addr} {n c : Nat} {i : Int} {w : World} (ho : i < 0 ∨ (n : Int) ≤ i * 3) (hb : -2147483648 ≤ i ∧ i ≤ 2147483648) (hnil : A = none → n = 0) :
    Calls Tryz.prog 61 #[.agg #[.int .u8 1, .slice A n c], .int .i64 i] w (Dies w) := by
  obtain ⟨V1, W1, h1, g1⟩ := index_dies (c := c) Tryz.underlying22 (i := i * 3) (n := n) (by omega) hnil
  obtain ⟨V2, W2, h2, g2⟩ := index_dies (c := c) Tryz.underlying22 (i := i * 3 + 1) (n := n) (by omega) hnil
  obtain ⟨wA, hwA⟩ : ∃ wA, wA = (w.alloc (.cells #[.int .u8 1, .slice A n c] 63)).alloc (.cells #[.float .f64 0, .float .f64 0, .float .f64 0, .float .f64 0, .int .u8 0] 57) := ⟨_, rfl⟩
  have hbl : Below w.heap.size w wA := by rw [hwA]; exact ((Below.refl _ _).alloc (Nat.le_refl _) _).alloc (by simp) _
  have hB : Blk wA w.heap.size 63 #[.int .u8 1, .slice A n c] := by rw [hwA]; exact (Blk.new _ _ _).alloc _
  obtain ⟨c0, c1, -, -, cl⟩ := cells2 hB
  have u0 : IntKind.i64.wrap (i * 3) = i * 3 := IntWalk.i64_in _ (by omega)
  have u1 : IntKind.i64.wrap (i * 3 + 1) = i * 3 + 1 := IntWalk.i64_in _ (by omega)
  have hd := dim1
  have HBL := Lib.hid hbl
  have HWA := Lib.hid hwA
  have HD1 := Lib.hid (show ∀ w0, Below w.heap.size w w0 → Dies w (.panicked [{ v := .iface Tryz.prog.rt.boundsError (V1 w0), recovered := false }]) (W1 w0) from fun w0 hb => Dies.of hb (g1 w0))
  have HD2 := Lib.hid (show ∀ w0, Below w.heap.size w w0 → Dies w (.panicked [{ v := .iface Tryz.prog.rt.boundsError (V2 w0), recovered := false }]) (W2 w0) from fun w0 hb => Dies.of hb (g2 w0))
  clear hwA hB hbl g1 g2 ho hb
  go_enter Tryz.func61, Tryz.ntmps61
  go_wp2_with fail
  rw [← HWA.out]
  refine (hd _).mono ?_
  rintro e w9 ⟨rfl, hw9⟩
  replace hw9 := hw9.symm
  subst hw9
  go_wp2_with fail
  go_region_dies
  all_goals first
    | exact ⟨rfl, HD1.out _ (by first | exact HBL.out.drew | exact (HBL.out.alloc HBL.out.size _).drew)⟩
    | exact ⟨rfl, HD2.out _ (by first | exact HBL.out.drew | exact (HBL.out.alloc HBL.out.size _).drew)⟩
set_option maxHeartbeats 8000000 in
theorem getOut2 {A : Option Addr} {n c : Nat} {i : Int} {w : World} (ho : i < 0 ∨ (n : Int) ≤ i * 3) (hb : -2147483648 ≤ i ∧ i ≤ 2147483648) (hnil : A = none → n = 0) :
    Calls Tryz.prog 61 #[.agg #[.int .u8 2, .slice A n c], .int .i64 i] w (Dies w) := by
  obtain ⟨V1, W1, h1, g1⟩ := index_dies (c := c) Tryz.underlying22 (i := i * 3) (n := n) (by omega) hnil
  obtain ⟨V2, W2, h2, g2⟩ := index_dies (c := c) Tryz.underlying22 (i := i * 3 + 1) (n := n) (by omega) hnil
  obtain ⟨wA, hwA⟩ : ∃ wA, wA = (w.alloc (.cells #[.int .u8 2, .slice A n c] 63)).alloc (.cells #[.float .f64 0, .float .f64 0, .float .f64 0, .float .f64 0, .int .u8 0] 57) := ⟨_, rfl⟩
  have hbl : Below w.heap.size w wA := by rw [hwA]; exact ((Below.refl _ _).alloc (Nat.le_refl _) _).alloc (by simp) _
  have hB : Blk wA w.heap.size 63 #[.int .u8 2, .slice A n c] := by rw [hwA]; exact (Blk.new _ _ _).alloc _
  obtain ⟨c0, c1, -, -, cl⟩ := cells2 hB
  have u0 : IntKind.i64.wrap (i * 3) = i * 3 := IntWalk.i64_in _ (by omega)
  have u1 : IntKind.i64.wrap (i * 3 + 1) = i * 3 + 1 := IntWalk.i64_in _ (by omega)
  have hd := dim2
  have HBL := Lib.hid hbl
  have HWA := Lib.hid hwA
  have HD1 := Lib.hid (show ∀ w0, Below w.heap.size w w0 → Dies w (.panicked [{ v := .iface Tryz.prog.rt.boundsError (V1 w0), recovered := false }]) (W1 w0) from fun w0 hb => Dies.of hb (g1 w0))
  have HD2 := Lib.hid (show ∀ w0, Below w.heap.size w w0 → Dies w (.panicked [{ v := .iface Tryz.prog.rt.boundsError (V2 w0), recovered := false }]) (W2 w0) from fun w0 hb => Dies.of hb (g2 w0))
  clear hwA hB hbl g1 g2 ho hb
  go_enter Tryz.func61, Tryz.ntmps61
  go_wp2_with fail
  rw [← HWA.out]
  refine (hd _).mono ?_
  rintro e w9 ⟨rfl, hw9⟩
  replace hw9 := hw9.symm
  subst hw9
  go_wp2_with fail
  go_region_dies
  all_goals first
    | exact ⟨rfl, HD1.out _ (by first | exact HBL.out.drew | exact (HBL.out.alloc HBL.out.size _).drew)⟩
    | exact ⟨rfl, HD2.out _ (by first | exact HBL.out.drew | exact (HBL.out.alloc HBL.out.size _).drew)⟩
set_option maxHeartbeats 8000000 in
theorem getOut3 {A : Option Addr} {n c : Nat} {i : Int} {w : World} (ho : i < 0 ∨ (n : Int) ≤ i * 4) (hb : -2147483648 ≤ i ∧ i ≤ 2147483648) (hnil : A = none → n = 0) :
    Calls Tryz.prog 61 #[.agg #[.int .u8 3, .slice A n c], .int .i64 i] w (Dies w) := by
  obtain ⟨V1, W1, h1, g1⟩ := index_dies (c := c) Tryz.underlying22 (i := i * 4) (n := n) (by omega) hnil
  obtain ⟨V2, W2, h2, g2⟩ := index_dies (c := c) Tryz.underlying22 (i := i * 4 + 1) (n := n) (by omega) hnil
  obtain ⟨wA, hwA⟩ : ∃ wA, wA = (w.alloc (.cells #[.int .u8 3, .slice A n c] 63)).alloc (.cells #[.float .f64 0, .float .f64 0, .float .f64 0, .float .f64 0, .int .u8 0] 57) := ⟨_, rfl⟩
  have hbl : Below w.heap.size w wA := by rw [hwA]; exact ((Below.refl _ _).alloc (Nat.le_refl _) _).alloc (by simp) _
  have hB : Blk wA w.heap.size 63 #[.int .u8 3, .slice A n c] := by rw [hwA]; exact (Blk.new _ _ _).alloc _
  obtain ⟨c0, c1, -, -, cl⟩ := cells2 hB
  have u0 : IntKind.i64.wrap (i * 4) = i * 4 := IntWalk.i64_in _ (by omega)
  have u1 : IntKind.i64.wrap (i * 4 + 1) = i * 4 + 1 := IntWalk.i64_in _ (by omega)
  have hd := dim3
  have HBL := Lib.hid hbl
  have HWA := Lib.hid hwA
  have HD1 := Lib.hid (show ∀ w0, Below w.heap.size w w0 → Dies w (.panicked [{ v := .iface Tryz.prog.rt.boundsError (V1 w0), recovered := false }]) (W1 w0) from fun w0 hb => Dies.of hb (g1 w0))
  have HD2 := Lib.hid (show ∀ w0, Below w.heap.size w w0 → Dies w (.panicked [{ v := .iface Tryz.prog.rt.boundsError (V2 w0), recovered := false }]) (W2 w0) from fun w0 hb => Dies.of hb (g2 w0))
  clear hwA hB hbl g1 g2 ho hb
  go_enter Tryz.func61, Tryz.ntmps61
  go_wp2_with fail
  rw [← HWA.out]
  refine (hd _).mono ?_
  rintro e w9 ⟨rfl, hw9⟩
  replace hw9 := hw9.symm
  subst hw9
  go_wp2_with fail
  go_region_dies
  all_goals first
    | exact ⟨rfl, HD1.out _ (by first | exact HBL.out.drew | exact (HBL.out.alloc HBL.out.size _).drew)⟩
    | exact ⟨rfl, HD2.out _ (by first | exact HBL.out.drew | exact (HBL.out.alloc HBL.out.size _).drew)⟩
theorem getOut_calls {d : Nat} (hd : d < 4) {A : Option Addr} {n c : Nat} {i : Int} {w : World} (ho : i < 0 ∨ (n : Int) ≤ i * (wd d : Int)) (hb : -2147483648 ≤ i ∧ i ≤ 2147483648) (hnil : A = none → n = 0) :
    Calls Tryz.prog 61 #[.agg #[.int .u8 d, .slice A n c], .int .i64 i] w (Dies w) := by
  obtain rfl | rfl | rfl | rfl := four hd
  · exact getOut0 ho hb hnil
  · exact getOut1 ho hb hnil
  · exact getOut2 ho hb hnil
  · exact getOut3 ho hb hnil
end Go.Proofs.YtplphaaeibeheaaGreat.geo
