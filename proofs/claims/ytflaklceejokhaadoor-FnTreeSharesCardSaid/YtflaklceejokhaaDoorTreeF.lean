/-
  Contracts: the closures of the partial sort: a number out of a row of numbers, which of two items is less, two items change places.
-/
import Derived.Test.YtflaklceejokhaaDoorTreeE
import Derived.BigRegion
namespace Go.Proofs.YtflaklceejokhaaDoor.tree
open Go.ChangeShapes Go.WideShapes Go.ChangeAt Go.RowKit
open Go.Proofs.YtflaklceejokhaaDoor.mem Go.Proofs.YtflaklceejokhaaDoor.flt Ieee
set_option linter.unusedVariables false
set_option linter.unusedSimpArgs false

theorem Row.drew {w : World} {g off n : Nat} {f : Nat → It} (h : Row w g off n f) : Row w.drew g off n f := h
theorem Chg.drew {g off n : Nat} {a b : World} (h : Chg g off n a b) : Chg g off n a b.drew := ⟨⟨h.1.os, h.1.tape, h.1.output, h.1.size, h.1.block⟩, h.2⟩

/-! ### the numbers -/
def nxt (s : Nat) : Nat := (1664525 * s + 1013904223) % 4294967296
def pick (s m : Nat) : Nat := nxt s * m / 4294967296
theorem nxt_lt (s : Nat) : nxt s < 4294967296 := Nat.mod_lt _ (by omega)
theorem pick_lt (s m : Nat) (hm : 0 < m) : pick s m < m := by
  unfold pick
  have := nxt_lt s
  rw [Nat.div_lt_iff_lt_mul (by omega)]
  rw [Nat.mul_comm m]
  exact Nat.mul_lt_mul_of_pos_right this hm

theorem pick_val (s m : Nat) (hs : s < 4294967296) (hm : m ≤ 400) : wrap64 (IntKind.u64.wrap ((1664525 * (s : Int) + 1013904223) % 4294967296 * (m : Int)) / 4294967296) = ((pick s m : Nat) : Int) := by
  have h1 : (1664525 * (s : Int) + 1013904223) % 4294967296 = ((nxt s : Nat) : Int) := by unfold nxt; omega
  have h2 := nxt_lt s
  rw [h1]
  have h3 : (nxt s : Int) * (m : Int) = ((nxt s * m : Nat) : Int) := by rw [Int.natCast_mul]
  have h4 : nxt s * m ≤ 4294967296 * 400 := Nat.mul_le_mul (Nat.le_of_lt h2) hm
  rw [h3]
  have h5 : IntKind.u64.wrap ((nxt s * m : Nat) : Int) = ((nxt s * m : Nat) : Int) := by
    rw [IntKind.wrap_u64]; omega
  rw [h5]
  unfold pick wrap64
  omega

set_option maxHeartbeats 4000000 in
theorem rnd_calls (r s m : Nat) (hs : s < 4294967296) (hm : m ≤ 400) (w : World) (hR : Blk w r 125 #[.int .u32 s]) :
    Calls Tryd.prog 44 #[.int .i64 m, .pointer (some ⟨r, 0, none⟩)] w fun e w' => e = .returned (.int .i64 (pick s m : Nat)) ∧ w' = w.setCell ⟨r, 0, none⟩ (.int .u32 (nxt s : Nat)) := by
  have c0 : w.cell? ⟨r, 0, none⟩ = some (.int .u32 s) := hR.cell 0
  have f0 : w.frozen? ⟨r, 0, none⟩ = false := hR.frozen 0 (show 0 < 1 by omega)
  have rl := hR.lt
  have hv := pick_val s m hs hm
  have hx : (1664525 * (s : Int) + 1013904223) % 4294967296 = ((nxt s : Nat) : Int) := by unfold nxt; omega
  have HV := Lib.hid hv
  have HX := Lib.hid hx
  clear hv hx hR
  go_enter Tryd.func44, Tryd.ntmps44
  go_wp2_with fail
  refine bodyPost_ret (v := .int .i64 (pick s m : Nat)) (by simp [results, go_sem]; exact HV.out) rfl ⟨rfl, by rw [HX.out]⟩

set_option maxHeartbeats 1000000 in
/-- An item stored in a row. -/
theorem wpList_store_it (w : World) {ops : Array Oper} {rest : List Oper} {o : Oper} {a : Act} {Q : Exit → Act → World → Prop}
    (hg : o.guard = none) (x v : Operand) (hop : o.op = Op.store 55 x v) (g off : Nat) (p : It) (hx : a.eval x = .pointer (some ⟨g, off, none⟩)) (hv : a.eval v = .agg (itA p))
    (hc : ∀ c, c < 5 → ∃ u, w.cell? ⟨g, off + c, none⟩ = some u ∧ w.frozen? ⟨g, off + c, none⟩ = false)
    (hK : wpList Tryd.prog ops Q rest (a.put o.dst undef) (setIt w g off p)) : wpList Tryd.prog ops Q (o :: rest) a w := by
  refine wpList_plain hg fun K' hK' => ?_
  obtain ⟨u0, c0, f0⟩ := hc 0 (by omega)
  obtain ⟨u1, c1, f1⟩ := hc 1 (by omega)
  obtain ⟨u2, c2, f2⟩ := hc 2 (by omega)
  obtain ⟨u3, c3, f3⟩ := hc 3 (by omega)
  obtain ⟨u4, c4, f4⟩ := hc 4 (by omega)
  rw [Nat.add_zero] at c0 f0
  unfold Oper.wp
  have hK2 := hK' _ _ hK
  unfold setIt at hK2
  simp only [execOp, hop, hx, hv]
  simp [itA, go_sem, c0, c1, c2, c3, c4, f0, f1, f2, f3, f4]
  exact hK2

set_option maxRecDepth 100000 in
set_option maxHeartbeats 4000000 in
theorem swap_calls (r g off n c i j : Nat) (f : Nat → It) (hrg : r ≠ g) (hgr : g ≠ r) (hn : n ≤ 400) (hi : i < n) (hj : j < n) (w : World) (hR : w.cell? ⟨r, 0, none⟩ = some (.slice (some ⟨g, off, none⟩) n c)) (hRow : Row w g off n f) :
    Calls Tryd.prog 46 #[.int .i64 i, .int .i64 j, .pointer (some ⟨r, 0, none⟩)] w fun e w' => e = .returned (.tuple #[]) ∧ Row w' g off n (swapF f i j) ∧ Chg g off n w w' := by
  obtain ⟨a0, a1, a2, a3, a4⟩ := hRow.at hi
  obtain ⟨b0, b1, b2, b3, b4⟩ := hRow.at hj
  obtain ⟨k0, k1, k2, k3, k4⟩ := hRow.fr hi
  have i0 : (0 : Int) ≤ (i : Int) := Int.natCast_nonneg _
  have j0 : (0 : Int) ≤ (j : Int) := Int.natCast_nonneg _
  have i1 : (i : Int) < (n : Int) := by omega
  have j1 : (j : Int) < (n : Int) := by omega
  have gl := hRow.1
  have hr1 : Row (setIt w g (off + i * 5) (f j)) g off n (upd f i (f j)) := hRow.set hi (f j)
  have hc1 : Chg g off n w (setIt w g (off + i * 5) (f j)) := Chg.set hRow hi (f j)
  have HR1 := Lib.hid hr1
  have HC1 := Lib.hid hc1
  have hr2 := hr1.set hj (f i)
  rw [swapF_eq] at hr2
  have hc2 := hc1.trans (Chg.set hr1 hj (f i))
  obtain ⟨p, hp⟩ : ∃ p, f i = p := ⟨_, rfl⟩
  obtain ⟨q, hq⟩ : ∃ q, f j = q := ⟨_, rfl⟩
  rw [hp, hq] at hr2 hc2
  have hend : Row (setIt (setIt w g (off + i * 5) q) g (off + j * 5) p).drew g off n (swapF f i j) ∧ Chg g off n w (setIt (setIt w g (off + i * 5) q) g (off + j * 5) p).drew := ⟨hr2.drew, hc2.drew⟩
  unfold setIt at hend
  have HEND := Lib.hid hend
  obtain ⟨d0, d1, d2, d3, d4⟩ := hr1.at hj
  rw [hp] at a0 a1 a2 a3 a4
  rw [hq] at b0 b1 b2 b3 b4
  rw [hq] at d0 d1 d2 d3 d4
  unfold setIt at d0 d1 d2 d3 d4
  obtain ⟨z, hz⟩ : ∃ z, upd f i q j = z := ⟨_, rfl⟩
  rw [hz] at d0 d1 d2 d3 d4
  obtain ⟨l0, l1, l2, l3, l4⟩ := hRow.fr hj
  have HP := Lib.hid hp
  have HQ := Lib.hid hq
  clear hRow hr1 hc1 hp hq hz hr2 hc2 hend
  go_enter Tryd.func46, Tryd.ntmps46
  go_wp2_with fail
  go_region
  refine bodyPost_end (results_none rfl _ _ _) rfl ⟨rfl, HEND.out⟩

/-- Which of two items is less: by the sum of a box's ends. -/
def lessB (h : Bool) (p q : It) : Bool :=
  if h = true then FloatKind.f64.format.order (fadd p.b.x0 p.b.x1) (fadd q.b.x0 q.b.x1) == some .lt else FloatKind.f64.format.order (fadd p.b.y0 p.b.y1) (fadd q.b.y0 q.b.y1) == some .lt

set_option maxRecDepth 100000 in
set_option maxHeartbeats 4000000 in
theorem less_calls (r r2 g off n c i j : Nat) (h : Bool) (f : Nat → It) (hn : n ≤ 400) (hi : i < n) (hj : j < n) (hG : ∀ i, i < n → Gd (f i).b) (w : World) (hR : w.cell? ⟨r, 0, none⟩ = some (.slice (some ⟨g, off, none⟩) n c)) (hR2 : w.cell? ⟨r2, 0, none⟩ = some (.bool h))
    (hRow : Row w g off n f) :
    Calls Tryd.prog 45 #[.int .i64 i, .int .i64 j, .pointer (some ⟨r, 0, none⟩), .pointer (some ⟨r2, 0, none⟩)] w fun e w' => e = .returned (.bool (lessB h (f i) (f j))) ∧ Below w.heap.size w w' := by
  obtain ⟨P, hP⟩ := hG i hi
  obtain ⟨Q, hQ⟩ := hG j hj
  have rl := World.block_lt_of_cell? w _ hR
  have rl2 := World.block_lt_of_cell? w _ hR2
  obtain ⟨a0, a1, a2, a3, -⟩ := hRow.at hi
  obtain ⟨b0, b1, b2, b3, -⟩ := hRow.at hj
  have i0 : (0 : Int) ≤ (i : Int) := Int.natCast_nonneg _
  have j0 : (0 : Int) ≤ (j : Int) := Int.natCast_nonneg _
  have i1 : (i : Int) < (n : Int) := by omega
  have j1 : (j : Int) < (n : Int) := by omega
  have gl := hRow.1
  have r1 := fun w => run_float_arith (P := Tryd.prog) w .add 30 .f64 _ _ _ (fadd_whole hP.1 hP.2.2.1 (by omega)).1
  have r2' := fun w => run_float_arith (P := Tryd.prog) w .add 30 .f64 _ _ _ (fadd_whole hP.2.1 hP.2.2.2 (by omega)).1
  have r3 := fun w => run_float_arith (P := Tryd.prog) w .add 30 .f64 _ _ _ (fadd_whole hQ.1 hQ.2.2.1 (by omega)).1
  have r4 := fun w => run_float_arith (P := Tryd.prog) w .add 30 .f64 _ _ _ (fadd_whole hQ.2.1 hQ.2.2.2 (by omega)).1
  obtain ⟨p, hp⟩ : ∃ p, f i = p := ⟨_, rfl⟩
  obtain ⟨q, hq⟩ : ∃ q, f j = q := ⟨_, rfl⟩
  rw [hp] at a0 a1 a2 a3 r1 r2' ⊢
  rw [hq] at b0 b1 b2 b3 r3 r4 ⊢
  obtain ⟨⟨p0, p1, p2, p3⟩, pid⟩ := p
  obtain ⟨⟨q0, q1, q2, q3⟩, qid⟩ := q
  have hbl : Below w.heap.size w ((w.alloc (.cells #[.float .f64 p0, .float .f64 p1, .float .f64 p2, .float .f64 p3] 52)).alloc (.cells #[.float .f64 q0, .float .f64 q1, .float .f64 q2, .float .f64 q3] 52)) :=
    ((Below.refl _ _).alloc (Nat.le_refl _) _).alloc (by simp) _
  have HBL := Lib.hid hbl
  clear hp hq hP hQ hRow hG hbl
  simp only at r1 r2' r3 r4 a0 a1 a2 a3 b0 b1 b2 b3
  cases h
  · go_enter Tryd.func45, Tryd.ntmps45
    go_wp2_with fail
    exact bodyPost_ret (v := .bool (lessB false ⟨⟨p0, p1, p2, p3⟩, pid⟩ ⟨⟨q0, q1, q2, q3⟩, qid⟩)) (by simp [results, go_sem, lessB]) rfl ⟨rfl, HBL.out⟩
  · go_enter Tryd.func45, Tryd.ntmps45
    go_wp2_with fail
    exact bodyPost_ret (v := .bool (lessB true ⟨⟨p0, p1, p2, p3⟩, pid⟩ ⟨⟨q0, q1, q2, q3⟩, qid⟩)) (by simp [results, go_sem, lessB]) rfl ⟨rfl, HBL.out⟩
end Go.Proofs.YtflaklceejokhaaDoor.tree
