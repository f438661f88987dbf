/-
  Contracts: the square of the distance of two boxes; whether items lie side by side rather than one above another. Of boxes whose numbers are whole, of at most 2^20.
-/
import Derived.Test.YtflaklceejokhaaDoorTreeB
namespace Go.Proofs.YtflaklceejokhaaDoor.tree
open Go.ChangeShapes Go.WideShapes Go.ChangeAt Go.RowKit
open Go.Proofs.YtflaklceejokhaaDoor.mem Go.Proofs.YtflaklceejokhaaDoor.flt Ieee
set_option linter.unusedVariables false
set_option linter.unusedSimpArgs false

/-- A box's whole numbers. -/
structure Bz where
  (x0 y0 x1 y1 : Int)
def GB (p : Bx) (P : Bz) : Prop := Wz p.x0 P.x0 1048576 ∧ Wz p.y0 P.y0 1048576 ∧ Wz p.x1 P.x1 1048576 ∧ Wz p.y1 P.y1 1048576
def combZ (P Q : Bz) : Bz := ⟨min P.x0 Q.x0, min P.y0 Q.y0, max P.x1 Q.x1, max P.y1 Q.y1⟩
theorem GB.comb {p q : Bx} {P Q : Bz} (h : GB p P) (k : GB q Q) : GB (comb p q) (combZ P Q) :=
  ⟨fmn_whole h.1 k.1, fmn_whole h.2.1 k.2.1, fmx_whole h.2.2.1 k.2.2.1, fmx_whole h.2.2.2 k.2.2.2⟩

def fsub (a b : Nat) : Nat := (double.sub a b).getD 0
def fadd (a b : Nat) : Nat := (double.add a b).getD 0
def fmul (a b : Nat) : Nat := (double.mul a b).getD 0
def sq1 (a0 a1 b0 b1 : Nat) : Nat := fmx 0 (fmx (fsub a0 b1) (fsub b0 a1))
def sqd (p q : Bx) : Nat := fadd (fmul (sq1 p.x0 p.x1 q.x0 q.x1) (sq1 p.x0 p.x1 q.x0 q.x1)) (fmul (sq1 p.y0 p.y1 q.y0 q.y1) (sq1 p.y0 p.y1 q.y0 q.y1))
def sz1 (a0 a1 b0 b1 : Int) : Int := max 0 (max (a0 - b1) (b0 - a1))
def sqz (P Q : Bz) : Int := sz1 P.x0 P.x1 Q.x0 Q.x1 * sz1 P.x0 P.x1 Q.x0 Q.x1 + sz1 P.y0 P.y1 Q.y0 Q.y1 * sz1 P.y0 P.y1 Q.y0 Q.y1

theorem fsub_whole {a b : Nat} {x y : Int} (ha : Wz a x 1048576) (hb : Wz b y 1048576) : double.sub a b = some (fsub a b) ∧ Wz (fsub a b) (x - y) 2097152 := by
  obtain ⟨r, hr, hw⟩ := ha.sub hb (by decide)
  unfold fsub
  rw [hr]
  exact ⟨rfl, hw⟩
theorem fadd_whole {a b : Nat} {x y : Int} {N : Nat} (ha : Wz a x N) (hb : Wz b y N) (hN : N ≤ 4398046511104) : double.add a b = some (fadd a b) ∧ Wz (fadd a b) (x + y) (N + N) := by
  obtain ⟨r, hr, hw⟩ := ha.add hb (Nat.lt_of_le_of_lt (show N + N ≤ 8796093022208 by omega) (by decide))
  unfold fadd
  rw [hr]
  exact ⟨rfl, hw⟩
theorem fmul_whole {a : Nat} {x : Int} (ha : Wz a x 2097152) : double.mul a a = some (fmul a a) ∧ Wz (fmul a a) (x * x) 4398046511104 := by
  obtain ⟨r, hr, hw⟩ := ha.mul ha (by decide)
  unfold fmul
  rw [hr]
  exact ⟨rfl, hw⟩
theorem sq1_whole {a0 a1 b0 b1 : Nat} {x0 x1 y0 y1 : Int} (h0 : Wz a0 x0 1048576) (h1 : Wz a1 x1 1048576) (k0 : Wz b0 y0 1048576) (k1 : Wz b1 y1 1048576) : Wz (sq1 a0 a1 b0 b1) (sz1 x0 x1 y0 y1) 2097152 :=
  fmx_whole (Wz.zero.more (Nat.zero_le _)) (fmx_whole (fsub_whole h0 k1).2 (fsub_whole k0 h1).2)
theorem sqd_whole {p q : Bx} {P Q : Bz} (h : GB p P) (k : GB q Q) : Wz (sqd p q) (sqz P Q) 8796093022208 :=
  (fadd_whole (fmul_whole (sq1_whole h.1 h.2.2.1 k.1 k.2.2.1)).2 (fmul_whole (sq1_whole h.2.1 h.2.2.2 k.2.1 k.2.2.2)).2 (Nat.le_refl _)).2

set_option maxRecDepth 100000 in
set_option maxHeartbeats 8000000 in
theorem sqd_calls (p q : Bx) (P Q : Bz) (hp : GB p P) (hq : GB q Q) (w : World) : Calls Tryd.prog 71 #[.agg (bxA p), .agg (bxA q)] w fun e w' => e = .returned (.float .f64 (sqd p q)) ∧ Below w.heap.size w w' := by
  have ex := fmul_whole (sq1_whole hp.1 hp.2.2.1 hq.1 hq.2.2.1)
  have ey := fmul_whole (sq1_whole hp.2.1 hp.2.2.2 hq.2.1 hq.2.2.2)
  have es := fadd_whole ex.2 ey.2 (Nat.le_refl _)
  have s1 := (fsub_whole hp.1 hq.2.2.1).1
  have s2 := (fsub_whole hq.1 hp.2.2.1).1
  have s3 := (fsub_whole hp.2.1 hq.2.2.2).1
  have s4 := (fsub_whole hq.2.1 hp.2.2.2).1
  obtain ⟨p0, p1, p2, p3⟩ := p
  obtain ⟨q0, q1, q2, q3⟩ := q
  have hb : Below w.heap.size w ((w.alloc (.cells #[.float .f64 p0, .float .f64 p1, .float .f64 p2, .float .f64 p3] 52)).alloc (.cells #[.float .f64 q0, .float .f64 q1, .float .f64 q2, .float .f64 q3] 52)) :=
    ((Below.refl _ _).alloc (Nat.le_refl _) _).alloc (by simp) _
  have HB := Lib.hid hb
  have r1 := fun w => run_float_arith (P := Tryd.prog) w .sub 30 .f64 _ _ _ s1
  have r2 := fun w => run_float_arith (P := Tryd.prog) w .sub 30 .f64 _ _ _ s2
  have r3 := fun w => run_float_arith (P := Tryd.prog) w .sub 30 .f64 _ _ _ s3
  have r4 := fun w => run_float_arith (P := Tryd.prog) w .sub 30 .f64 _ _ _ s4
  have r5 := fun w => run_float_arith (P := Tryd.prog) w .mul 30 .f64 _ _ _ ex.1
  have r6 := fun w => run_float_arith (P := Tryd.prog) w .mul 30 .f64 _ _ _ ey.1
  have r7 := fun w => run_float_arith (P := Tryd.prog) w .add 30 .f64 _ _ _ es.1
  simp only [sqd, bxA]
  clear hb hp hq ex ey es s1 s2 s3 s4
  obtain ⟨a1, h1⟩ : ∃ a, a = fsub p0 q2 := ⟨_, rfl⟩
  obtain ⟨a2, h2⟩ : ∃ a, a = fsub q0 p2 := ⟨_, rfl⟩
  obtain ⟨a3, h3⟩ : ∃ a, a = fsub p1 q3 := ⟨_, rfl⟩
  obtain ⟨a4, h4⟩ : ∃ a, a = fsub q1 p3 := ⟨_, rfl⟩
  simp only [sq1, ← h1, ← h2, ← h3, ← h4] at r1 r2 r3 r4 r5 r6 r7 ⊢
  clear h1 h2 h3 h4
  have m1 := fastMax_calls a1 a2
  have m2 := fastMax_calls a3 a4
  have m3 := fastMax_calls 0 (fmx a1 a2)
  have m4 := fastMax_calls 0 (fmx a3 a4)
  obtain ⟨d1, h1⟩ : ∃ a, a = fmx a1 a2 := ⟨_, rfl⟩
  obtain ⟨d2, h2⟩ : ∃ a, a = fmx a3 a4 := ⟨_, rfl⟩
  rw [← h1] at m1 m3 r5 r7 ⊢
  rw [← h2] at m2 m4 r6 r7 ⊢
  clear h1 h2
  obtain ⟨e1, h1⟩ : ∃ a, a = fmx 0 d1 := ⟨_, rfl⟩
  obtain ⟨e2, h2⟩ : ∃ a, a = fmx 0 d2 := ⟨_, rfl⟩
  rw [← h1] at m3 r5 r7 ⊢
  rw [← h2] at m4 r6 r7 ⊢
  clear h1 h2
  have M1 := Lib.hid m1
  have M2 := Lib.hid m2
  have M3 := Lib.hid m3
  have M4 := Lib.hid m4
  clear m1 m2 m3 m4
  go_enter Tryd.func71, Tryd.ntmps71
  go_wp2_with fail
  refine (M1.out _).mono ?_
  rintro e w1 ⟨rfl, hw⟩
  subst hw
  go_wp2_with fail
  refine (M3.out _).mono ?_
  rintro e w1 ⟨rfl, hw⟩
  subst hw
  go_wp2_with fail
  refine (M2.out _).mono ?_
  rintro e w1 ⟨rfl, hw⟩
  subst hw
  go_wp2_with fail
  refine (M4.out _).mono ?_
  rintro e w1 ⟨rfl, hw⟩
  subst hw
  go_wp2_with fail
  exact bodyPost_ret (by simp [results, go_sem]) rfl ⟨rfl, HB.out⟩
end Go.Proofs.YtflaklceejokhaaDoor.tree
