/-
  Words for a row of items in memory; a contract: whether items lie side by side rather than one above another.
-/
import Derived.Test.YtflaklceejokhaaDoorTreeC
namespace Go.Proofs.YtflaklceejokhaaDoor.tree
open Go.ChangeShapes Go.WideShapes Go.ChangeAt Go.RowKit
open Go.Proofs.YtflaklceejokhaaDoor.mem Go.Proofs.YtflaklceejokhaaDoor.flt Ieee
set_option linter.unusedVariables false
set_option linter.unusedSimpArgs false

/-- An item: its box and its number. -/
structure It where
  (b : Bx) (id : Int)
def itC (p : It) : Nat → Value
  | 0 => .float .f64 p.b.x0
  | 1 => .float .f64 p.b.y0
  | 2 => .float .f64 p.b.x1
  | 3 => .float .f64 p.b.y1
  | _ => .int .i64 p.id
def itA (p : It) : Array Value := #[.float .f64 p.b.x0, .float .f64 p.b.y0, .float .f64 p.b.x1, .float .f64 p.b.y1, .int .i64 p.id]
def Gd (b : Bx) : Prop := ∃ P, GB b P
theorem Gd.comb {p q : Bx} (h : Gd p) (k : Gd q) : Gd (comb p q) := by obtain ⟨P, h⟩ := h; obtain ⟨Q, k⟩ := k; exact ⟨_, h.comb k⟩

/-- Block g reads as the items f 0, .., f (n - 1) from offset off on, none of them frozen. -/
def Row (w : World) (g off n : Nat) (f : Nat → It) : Prop :=
  g < w.heap.size ∧ ∀ i, i < n → ∀ c, c < 5 → w.cell? ⟨g, off + i * 5 + c, none⟩ = some (itC (f i) c) ∧ w.frozen? ⟨g, off + i * 5 + c, none⟩ = false

theorem Row.at {w : World} {g off n : Nat} {f : Nat → It} (h : Row w g off n f) {i : Nat} (hi : i < n) :
    w.cell? ⟨g, off + i * 5, none⟩ = some (.float .f64 (f i).b.x0) ∧ w.cell? ⟨g, off + i * 5 + 1, none⟩ = some (.float .f64 (f i).b.y0) ∧ w.cell? ⟨g, off + i * 5 + 2, none⟩ = some (.float .f64 (f i).b.x1) ∧
    w.cell? ⟨g, off + i * 5 + 3, none⟩ = some (.float .f64 (f i).b.y1) ∧ w.cell? ⟨g, off + i * 5 + 4, none⟩ = some (.int .i64 (f i).id) :=
  ⟨(h.2 i hi 0 (by omega)).1, (h.2 i hi 1 (by omega)).1, (h.2 i hi 2 (by omega)).1, (h.2 i hi 3 (by omega)).1, (h.2 i hi 4 (by omega)).1⟩
theorem Row.fr {w : World} {g off n : Nat} {f : Nat → It} (h : Row w g off n f) {i : Nat} (hi : i < n) :
    w.frozen? ⟨g, off + i * 5, none⟩ = false ∧ w.frozen? ⟨g, off + i * 5 + 1, none⟩ = false ∧ w.frozen? ⟨g, off + i * 5 + 2, none⟩ = false ∧
    w.frozen? ⟨g, off + i * 5 + 3, none⟩ = false ∧ w.frozen? ⟨g, off + i * 5 + 4, none⟩ = false :=
  ⟨(h.2 i hi 0 (by omega)).2, (h.2 i hi 1 (by omega)).2, (h.2 i hi 2 (by omega)).2, (h.2 i hi 3 (by omega)).2, (h.2 i hi 4 (by omega)).2⟩
theorem Row.below {w w' : World} {g off n : Nat} {f : Nat → It} (h : Row w g off n f) (hb : Below w.heap.size w w') : Row w' g off n f :=
  ⟨Nat.lt_of_lt_of_le h.1 hb.size, fun i hi c hc => ⟨(hb.cell (p := ⟨g, off + i * 5 + c, none⟩) h.1).trans (h.2 i hi c hc).1, (hb.frozen (p := ⟨g, off + i * 5 + c, none⟩) h.1).trans (h.2 i hi c hc).2⟩⟩

/-- The least box around the items 0 .. i. -/
def hb (f : Nat → It) : Nat → Bx
  | 0 => (f 0).b
  | i + 1 => comb (hb f i) (f (i + 1)).b
theorem hb_good {f : Nat → It} {n : Nat} (h : ∀ i, i < n → Gd (f i).b) : ∀ i, i < n → Gd (hb f i)
  | 0, hi => h 0 hi
  | i + 1, hi => (hb_good h i (by omega)).comb (h (i + 1) hi)
def horiz (f : Nat → It) (n : Nat) : Bool := FloatKind.f64.format.order (fsub (hb f (n - 1)).x1 (hb f (n - 1)).x0) (fsub (hb f (n - 1)).y1 (hb f (n - 1)).y0) == some .gt

set_option maxRecDepth 100000 in
set_option maxHeartbeats 8000000 in
theorem horiz_calls (g off n c : Nat) (f : Nat → It) (hn : 2 ≤ n) (hn2 : n ≤ 400) (hc : n ≤ c) (hG : ∀ i, i < n → Gd (f i).b) (w : World) (hR : Row w g off n f) :
    Calls Tryd.prog 40 #[.slice (some ⟨g, off, none⟩) n c] w fun e w' => e = .returned (.bool (horiz f n)) ∧ Below w.heap.size w w' := by
  have HR := Lib.hid hR
  have HG := Lib.hid hG
  have hgw := hR.1
  obtain ⟨c0, c1, c2, c3, c4⟩ := hR.at (i := 0) (by omega)
  simp only [Nat.zero_mul, Nat.add_zero] at c0 c1 c2 c3 c4
  obtain ⟨b, hbx⟩ : ∃ b, b = (f 0).b := ⟨_, rfl⟩
  rw [← hbx] at c0 c1 c2 c3
  have HBX := Lib.hid hbx
  have s1 : (1 : Int) ≤ (n : Int) := by omega
  have s2 : ¬ c = 1 := by omega
  have s3 : (0 : Int) < (n : Int) := by omega
  have s4 : 0 < n := by omega
  clear hR hG hbx
  go_enter Tryd.func40, Tryd.ntmps40
  go_wp2_with fail
  have hB0 : Blk (w.alloc (.cells #[.float .f64 b.x0, .float .f64 b.y0, .float .f64 b.x1, .float .f64 b.y1] 52)) w.heap.size 52 (bxA b) := Blk.new _ _ _
  have HB0 := Lib.hid hB0
  clear hB0 c0 c1 c2 c3 c4
  go_loopg [13] (n - 1) (fun q cc wr => ∃ i, i + q = n - 1 ∧ cc = .int .i64 i ∧ Blk wr w.heap.size 52 (bxA (hb f i)) ∧ Below w.heap.size w wr)
  case atStart => exact ⟨0, by omega, by go_num, by rw [show hb f 0 = b from HBX.out.symm]; exact HB0.out, (Below.refl _ _).alloc (Nat.le_refl _) _⟩
  case round =>
    obtain ⟨i, hi', rfl, hB, hbl⟩ := hrel
    have HI := Lib.hid hi'
    have HB := Lib.hid hB
    have HBL := Lib.hid hbl
    have hin : i ≤ n - 1 := by omega
    obtain ⟨B, hBe⟩ : ∃ B, B = hb f i := ⟨_, rfl⟩
    rw [← hBe] at hB
    obtain ⟨e0, e1, e2, e3, k0, k1, k2, k3, el⟩ := cells4 hB
    have HBE := Lib.hid hBe
    clear hi' hB hbl hBe
    by_cases hlt : i < n - 1
    · obtain ⟨c0, c1, c2, c3, c4⟩ := HR.out.at (i := i + 1) (by omega)
      have hne : g ≠ w.heap.size := by omega
      have d0 := (HBL.out.cell (p := ⟨g, off + (i + 1) * 5, none⟩) HR.out.1).trans c0
      have d1 := (HBL.out.cell (p := ⟨g, off + (i + 1) * 5 + 1, none⟩) HR.out.1).trans c1
      have d2 := (HBL.out.cell (p := ⟨g, off + (i + 1) * 5 + 2, none⟩) HR.out.1).trans c2
      have d3 := (HBL.out.cell (p := ⟨g, off + (i + 1) * 5 + 3, none⟩) HR.out.1).trans c3
      have d4 := (HBL.out.cell (p := ⟨g, off + (i + 1) * 5 + 4, none⟩) HR.out.1).trans c4
      rw [show off + (i + 1) * 5 = off + 5 + i * 5 by omega] at d0 d1 d2 d3 d4
      obtain ⟨q, hfi⟩ : ∃ q, f (i + 1) = q := ⟨_, rfl⟩
      obtain ⟨⟨x0, y0, x1, y1⟩, id⟩ := q
      rw [hfi] at d0 d1 d2 d3 d4
      have HFI := Lib.hid hfi
      have hcb := combine_calls B ⟨x0, y0, x1, y1⟩
      have HCB := Lib.hid hcb
      clear c0 c1 c2 c3 c4 hfi hcb
      go_wp2_with fail
      refine (HCB.out _).mono ?_
      rintro e w2 ⟨rfl, hb2⟩
      have hb02 := ((Below.refl wr.heap.size wr).alloc (Nat.le_refl _) (.cells #[.float .f64 x0, .float .f64 y0, .float .f64 x1, .float .f64 y1, .int .i64 id] 55)).trans (hb2.mono (by simp))
      have hB2 := HB.out.below hb02 HB.out.lt
      have HB2 := Lib.hid hB2
      have HBL2 := Lib.hid (HBL.out.trans (hb02.mono HBL.out.size))
      obtain ⟨z0, z1, z2, z3, y0', y1', y2', y3', zl⟩ := cells4 hB2
      clear d0 d1 d2 d3 d4 e0 e1 e2 e3 k0 k1 k2 k3 hb2 hb02 hB2
      simp only [bxA]
      go_wp2_with fail
      go_roundg (n - 1 - (i + 1))
      case measure => have := HI.out; omega
      case rel =>
        refine ⟨i + 1, by omega, by go_num, ?_, set4 HBL2.out (Nat.le_refl _) _ _ _ _⟩
        have := (((HB2.out.set_ 0 (.float .f64 (comb B ⟨x0, y0, x1, y1⟩).x0)).set_ 1 (.float .f64 (comb B ⟨x0, y0, x1, y1⟩).y0)).set_ 2 (.float .f64 (comb B ⟨x0, y0, x1, y1⟩).x1)).set_ 3 (.float .f64 (comb B ⟨x0, y0, x1, y1⟩).y1)
        have e : hb f (i + 1) = comb B ⟨x0, y0, x1, y1⟩ := by show comb (hb f i) (f (i + 1)).b = _; rw [HFI.out, ← HBE.out]
        rw [e]
        simpa [bxA] using this
    · obtain rfl : i = n - 1 := by omega
      obtain ⟨P, hP⟩ := hb_good HG.out (n - 1) (by omega)
      rw [← HBE.out] at hP
      have r1 := fun w => run_float_arith (P := Tryd.prog) w .sub 30 .f64 _ _ _ (fsub_whole hP.2.2.1 hP.1).1
      have r2 := fun w => run_float_arith (P := Tryd.prog) w .sub 30 .f64 _ _ _ (fsub_whole hP.2.2.2 hP.2.1).1
      have hh : horiz f n = (FloatKind.f64.format.order (fsub B.x1 B.x0) (fsub B.y1 B.y0) == some .gt) := by unfold horiz; rw [← HBE.out]
      have HH := Lib.hid hh
      clear hP hh
      go_wp2_with fail
      exact bodyPost_ret (v := .bool (FloatKind.f64.format.order (fsub B.x1 B.x0) (fsub B.y1 B.y0) == some .gt)) (by simp [results, go_sem]) rfl ⟨by rw [HH.out], HBL.out⟩
end Go.Proofs.YtflaklceejokhaaDoor.tree
