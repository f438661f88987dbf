/-
  Contracts: what scales a number by a power of ten out of the table.
-/
import Derived.Test.YtpfgdfgifdbijaaDoorFfA
import Derived.Deep.QuietTactic
import Derived.Deep.DeepCutAuto
import Derived.BigQuiet
namespace Go.Proofs.YtpfgdfgifdbijaaDoor.ff
open Go.ChangeShapes Go.WideShapes Go.ChangeAt Go.RowKit
open Go.Proofs.YtpfgdfgifdbijaaDoor.mem
set_option linter.unusedVariables false
set_option linter.unusedSimpArgs false

/-- The table of powers of ten. -/
def Tab (T : Nat → Int) (w : World) : Prop := ∀ i, i < 1392 → w.cell? ⟨3, i, none⟩ = some (.int .u64 (T i))
theorem Tab.lt {T : Nat → Int} {w : World} (h : Tab T w) : 3 < w.heap.size := World.block_lt_of_cell? _ _ (h 0 (by decide))
theorem Tab.below {T : Nat → Int} {w w' : World} {n : Nat} (h : Tab T w) (hb : Below n w w') (hn : 3 < n) : Tab T w' := fun i hi => (hb.cell (p := ⟨3, i, none⟩) hn).trans (h i hi)
theorem cells3 {w : World} {g : Nat} {t : TypeId} {a b c : Value} (h : Blk w g t #[a, b, c]) :
    w.cell? ⟨g, 0, none⟩ = some a ∧ w.cell? ⟨g, 1, none⟩ = some b ∧ w.cell? ⟨g, 2, none⟩ = some c ∧
    w.frozen? ⟨g, 0, none⟩ = false ∧ w.frozen? ⟨g, 1, none⟩ = false ∧ w.frozen? ⟨g, 2, none⟩ = false ∧ g < w.heap.size :=
  ⟨h.cell 0, h.cell 1, h.cell 2, h.frozen 0 (show 0 < 3 by omega), h.frozen 1 (show 1 < 3 by omega), h.frozen 2 (show 2 < 3 by omega), h.lt⟩
theorem set3 {w : World} {B : Nat} (u v x : Value) : Below B w (((w.setCell ⟨B, 0, none⟩ u).setCell ⟨B, 1, none⟩ v).setCell ⟨B, 2, none⟩ x) :=
  ⟨rfl, rfl, rfl, by simp, fun j hj => by
    rw [Below.heap_setCell _ ⟨B, 2, none⟩ x j (show j ≠ B by omega), Below.heap_setCell _ ⟨B, 1, none⟩ v j (show j ≠ B by omega), Below.heap_setCell _ ⟨B, 0, none⟩ u j (show j ≠ B by omega)]⟩
set_option maxRecDepth 100000 in
theorem prescale_calls {T : Nat → Int} {i : Nat} {e lp : Int} (hi : i < 696) (he : -100000 ≤ e ∧ e ≤ 100000) (hlp : -100000 ≤ lp ∧ lp ≤ 100000) {w : World} {B : Nat} {a b c : Value} (hT : Tab T w) (hB : Blk w B 100 #[a, b, c]) (hne : 3 ≠ B) :
    Calls Tryd.prog 54 #[.pointer (some ⟨B, 0, none⟩), .int .i64 e, .int .i64 ((i : Int) - 348), .int .i64 lp] w fun e' w' => e' = .returned (.tuple #[]) ∧ Blk w' B 100 #[.int .u64 (T (i * 2)), .int .u64 (T (i * 2 + 1)), .int .i64 (-(e + lp + 3))] ∧ Below B w w' := by
  have d0 := hT (i * 2) (by omega)
  have d1 := hT (i * 2 + 1) (by omega)
  obtain ⟨c0, c1, c2, f0, f1, f2, cl⟩ := cells3 hB
  have hix : IntKind.i64.wrap ((i : Int) - 348 - -348) = (i : Int) := by rw [IntKind.wrap_i64]; omega
  have hix2 : wrap64 ((i : Int) - 348 - -348) = (i : Int) := by rw [wrap64]; omega
  have hlt : (i : Int) < 696 := by omega
  have e1 : wrap64 (e + lp) = e + lp := by rw [wrap64]; omega
  have e2 : wrap64 (e + lp + 3) = e + lp + 3 := by rw [wrap64]; omega
  have e3 : wrap64 (-(e + lp + 3)) = -(e + lp + 3) := by rw [wrap64]; omega
  have HB := Lib.hid hB
  clear hB hT
  go_enter Tryd.func54, Tryd.ntmps54
  go_wp2_with fail
  refine bodyPost_end (v := .tuple #[]) (by simp [results, go_sem]) rfl ⟨rfl, ?_, ?_⟩
  · have := ((HB.out.set_ 0 (.int .u64 (T (i * 2)))).set_ 1 (.int .u64 (T (i * 2 + 1)))).set_ 2 (.int .i64 (-(e + lp + 3)))
    simpa using this
  · exact set3 _ _ _
theorem i64_and63 (n : Int) : bits .and .i64 n 63 = n % 64 := by
  have h63 : (BitVec.ofInt 64 63).toNat = 2 ^ 6 - 1 := by decide
  have key : (BitVec.ofInt 64 n &&& BitVec.ofInt 64 63).toNat = (n % ((2 ^ 64 : Nat) : Int)).toNat % 2 ^ 6 := by
    rw [BitVec.toNat_and, BitVec.toNat_ofInt, h63, Nat.and_two_pow_sub_one_eq_mod]
  show IntKind.i64.wrap ((BitVec.ofInt 64 n &&& BitVec.ofInt 64 63).toNat : Nat) = n % 64
  rw [key, IntKind.wrap_i64]
  omega
/-- A Boolean as a number. -/
def b2i (b : Bool) : Int := if b then 1 else 0
theorem bool2v_calls (b : Bool) (w : World) : Calls Tryd.prog 74 #[.bool b] w (Same w (.int .u64 (b2i b))) := bool2u_calls b w
/-- Shifts by a count that is not below 0, as functions. -/
theorem shr_fun (k : Int) (h : 0 ≤ k) : ∃ q : Int → Int, ∀ x, Op.shift .shr .u64 x .i64 k = pure (.int .u64 (q x)) := ⟨fun x => _, fun x => shift_shr_any .u64 .i64 x k h⟩
theorem shl_fun (k : Int) (h : 0 ≤ k) : ∃ q : Int → Int, ∀ x, Op.shift .shl .u64 x .i64 k = pure (.int .u64 (q x)) := ⟨fun x => _, fun x => shift_shl_any .u64 .i64 x k h⟩
set_option maxHeartbeats 1000000 in
set_option maxRecDepth 100000 in
theorem uscale_calls (x hi lo s : Int) : ∃ z : Int, ∀ (w : World) (B : Nat), Blk w B 100 #[.int .u64 hi, .int .u64 lo, .int .i64 s] → Calls Tryd.prog 56 #[.int .u64 x, .pointer (some ⟨B, 0, none⟩)] w fun e w' => e = .returned (.int .u64 z) ∧ Below w.heap.size w w' := by
  obtain ⟨a1, b1, h1⟩ := mul64_calls x hi
  obtain ⟨a2, b2, h2⟩ := mul64_calls x lo
  have H1 := Lib.hid h1
  have H2 := Lib.hid h2
  obtain ⟨k, hk⟩ : ∃ k, k = bits .and .i64 s 63 := ⟨_, rfl⟩
  have hk0 : 0 ≤ k := by rw [hk, i64_and63]; omega
  have hks : bits .and .i64 s 63 = k := hk.symm
  obtain ⟨q, hq⟩ := shr_fun k hk0
  obtain ⟨p, hp⟩ := shl_fun k hk0
  clear h1 h2 hk
  by_cases hC : p (q a1) = a1
  · apply Exists.intro
    intro w B hB
    obtain ⟨c0, c1, c2, f0, f1, f2, cl⟩ := cells3 hB
    clear hB
    go_enter Tryd.func56, Tryd.ntmps56
    go_wp2_with fail
    refine (H1.out _).mono ?_
    rintro e w1 ⟨rfl, h9⟩
    obtain rfl := h9.symm
    clear h9
    go_wp2_with fail
    refine (H2.out _).mono ?_
    rintro e w1 ⟨rfl, h9⟩
    obtain rfl := h9.symm
    clear h9
    go_wp2_with fail
    refine (bool2v_calls _ _).mono ?_
    rintro e w1 ⟨rfl, h9⟩
    obtain rfl := h9.symm
    clear h9
    go_upto_region 7 with fail
    go_quiet ((go_at_call 74; exact Calls.quiet_of_same (bool2v_calls _ _)))
    go_wp2_with fail
    refine bodyPost_ret (v := .int .u64 _) (by simp [results, go_sem]; rfl) rfl ⟨rfl, drewN_below _ _ _⟩
  · apply Exists.intro
    intro w B hB
    obtain ⟨c0, c1, c2, f0, f1, f2, cl⟩ := cells3 hB
    clear hB
    go_enter Tryd.func56, Tryd.ntmps56
    go_wp2_with fail
    refine (H1.out _).mono ?_
    rintro e w1 ⟨rfl, h9⟩
    obtain rfl := h9.symm
    clear h9
    go_wp2_with fail
    refine bodyPost_ret (v := .int .u64 _) (by simp [results, go_sem]; rfl) rfl ⟨rfl, Below.refl _ _⟩
end Go.Proofs.YtpfgdfgifdbijaaDoor.ff
