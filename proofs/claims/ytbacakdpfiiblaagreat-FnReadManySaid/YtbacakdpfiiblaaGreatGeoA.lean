/-
  Contracts: types of coordinates and kinds; a sequence made of numbers; its length and type.
-/
import Derived.Test.YtbacakdpfiiblaaGreatGeoM
import Derived.Laws.CopyOwn
import Derived.StillTailTactics
namespace Go.Proofs.YtbacakdpfiiblaaGreat.geo
open Go.ChangeShapes Go.WideShapes Go.ChangeAt Go.RowKit
open Go.Proofs.YtbacakdpfiiblaaGreat.mem
set_option linter.unusedVariables false
set_option linter.unusedSimpArgs false

theorem bits_and3 (z : Int) : bits .and .i64 z 3 = ((dm z : Nat) : Int) := by
  have hx : (BitVec.ofInt 64 z &&& BitVec.ofInt 64 3).toNat = dm z := by
    rw [BitVec.toNat_and, show (BitVec.ofInt 64 3).toNat = 2 ^ 2 - 1 from rfl, Nat.and_two_pow_sub_one_eq_mod, BitVec.toNat_ofInt]
    unfold dm
    omega
  show IntKind.i64.wrap ((BitVec.ofInt 64 z &&& BitVec.ofInt 64 3).toNat : Int) = _
  rw [hx]
  have := dm_lt z
  exact IntWalk.i64_in _ (by omega)
theorem u8_dm {n : Nat} (h : n < 4) : IntKind.u8.wrap (n : Int) = (n : Int) := by
  rw [IntKind.wrap_u8]; omega

section
set_option maxHeartbeats 4000000
theorem dim0 (w : World) : Calls Tryz.prog 130 #[.int .u8 0] w fun e w' => e = .returned (.int .i64 2) ∧ w' = w := by
  have hi : (Instr.index 202 (.agg #[.int .i64 2, .int .i64 3, .int .i64 3, .int .i64 4]) (.int .u8 0)).run Tryz.prog w = .ok (.int .i64 2) w := by kernel_rfl
  go_enter Tryz.func130, Tryz.ntmps130
  go_wp2_with fail
  exact bodyPost_ret (by simp [results, go_sem]) rfl ⟨rfl, rfl⟩
theorem dim1 (w : World) : Calls Tryz.prog 130 #[.int .u8 1] w fun e w' => e = .returned (.int .i64 3) ∧ w' = w := by
  have hi : (Instr.index 202 (.agg #[.int .i64 2, .int .i64 3, .int .i64 3, .int .i64 4]) (.int .u8 1)).run Tryz.prog w = .ok (.int .i64 3) w := by kernel_rfl
  go_enter Tryz.func130, Tryz.ntmps130
  go_wp2_with fail
  exact bodyPost_ret (by simp [results, go_sem]) rfl ⟨rfl, rfl⟩
theorem dim2 (w : World) : Calls Tryz.prog 130 #[.int .u8 2] w fun e w' => e = .returned (.int .i64 3) ∧ w' = w := by
  have hi : (Instr.index 202 (.agg #[.int .i64 2, .int .i64 3, .int .i64 3, .int .i64 4]) (.int .u8 2)).run Tryz.prog w = .ok (.int .i64 3) w := by kernel_rfl
  go_enter Tryz.func130, Tryz.ntmps130
  go_wp2_with fail
  exact bodyPost_ret (by simp [results, go_sem]) rfl ⟨rfl, rfl⟩
theorem dim3 (w : World) : Calls Tryz.prog 130 #[.int .u8 3] w fun e w' => e = .returned (.int .i64 4) ∧ w' = w := by
  have hi : (Instr.index 202 (.agg #[.int .i64 2, .int .i64 3, .int .i64 3, .int .i64 4]) (.int .u8 3)).run Tryz.prog w = .ok (.int .i64 4) w := by kernel_rfl
  go_enter Tryz.func130, Tryz.ntmps130
  go_wp2_with fail
  exact bodyPost_ret (by simp [results, go_sem]) rfl ⟨rfl, rfl⟩
theorem dim_calls {d : Nat} (hd : d < 4) (w : World) : Calls Tryz.prog 130 #[.int .u8 d] w fun e w' => e = .returned (.int .i64 (wd d)) ∧ w' = w := by
  obtain rfl | rfl | rfl | rfl := four hd
  · exact dim0 w
  · exact dim1 w
  · exact dim2 w
  · exact dim3 w

theorem is3_calls {d : Nat} (hd : d < 4) (w : World) : Calls Tryz.prog 135 #[.int .u8 d] w fun e w' => e = .returned (.bool (hz d)) ∧ w' = w := by
  obtain ⟨a, ha⟩ : ∃ a : Int, a = bits .and .u8 (d : Int) 1 := ⟨_, rfl⟩
  have hh : (a != 0) = hz d := by rw [ha]; obtain rfl | rfl | rfl | rfl := four hd <;> decide
  have ha' := ha.symm
  clear ha
  go_enter Tryz.func135, Tryz.ntmps135
  go_wp2_with fail
  exact bodyPost_ret (v := .bool (hz d)) (by simp [results, go_sem]) rfl ⟨rfl, rfl⟩
theorem isM_calls {d : Nat} (hd : d < 4) (w : World) : Calls Tryz.prog 136 #[.int .u8 d] w fun e w' => e = .returned (.bool (hm d)) ∧ w' = w := by
  obtain ⟨a, ha⟩ : ∃ a : Int, a = bits .and .u8 (d : Int) 2 := ⟨_, rfl⟩
  have hh : (a != 0) = hm d := by rw [ha]; obtain rfl | rfl | rfl | rfl := four hd <;> decide
  have ha' := ha.symm
  clear ha
  go_enter Tryz.func136, Tryz.ntmps136
  go_wp2_with fail
  exact bodyPost_ret (v := .bool (hm d)) (by simp [results, go_sem]) rfl ⟨rfl, rfl⟩

theorem dimOf_calls (z : Int) (w : World) : Calls Tryz.prog 115 #[.int .i64 z] w fun e w' => e = .returned (.int .u8 (dm z)) ∧ w' = w := by
  have h1 := bits_and3 z
  have h2 := u8_dm (dm_lt z)
  go_enter Tryz.func115, Tryz.ntmps115
  go_wp2_with fail
  exact bodyPost_ret (v := .int .u8 (dm z)) (by simp [results, go_sem]; try rfl) rfl ⟨rfl, rfl⟩

theorem width_calls {d : Nat} (hd : d < 4) (w : World) : Calls Tryz.prog 28 #[.int .i64 d] w fun e w' => e = .returned (.int .i64 (wd d)) ∧ w' = w := by
  obtain ⟨a, ha⟩ : ∃ a : Int, a = bits .and .i64 (d : Int) 1 := ⟨_, rfl⟩
  obtain ⟨b, hb⟩ : ∃ b : Int, b = (d : Int) / 2 := ⟨_, rfl⟩
  obtain ⟨c, hc⟩ : ∃ c : Int, c = bits .and .i64 b 1 := ⟨_, rfl⟩
  have hab : 0 ≤ a ∧ a ≤ 1 ∧ 0 ≤ c ∧ c ≤ 1 ∧ 2 + a + c = (wd d : Nat) := by
    subst hc hb ha
    obtain rfl | rfl | rfl | rfl := four hd <;> decide
  obtain ⟨h1, h2, h3, h4, h5⟩ := hab
  have ha' := ha.symm
  have hc' := hc.symm
  have hb' := hb.symm
  have H5 := Lib.hid h5
  have h0 : (0 : Int) ≤ (d : Int) := Int.natCast_nonneg _
  clear ha hc hb h5
  go_enter Tryz.func28, Tryz.ntmps28
  go_wp2_with fail
  exact bodyPost_ret (v := .int .i64 (2 + a + c)) (by simp [results, go_sem]) rfl ⟨by rw [H5.out], rfl⟩

theorem leaf_calls (k : Int) (w : World) : Calls Tryz.prog 29 #[.int .i64 k] w fun e w' => e = .returned (.bool (decide (k = 1 ∨ k = 2))) ∧ w' = w := by
  by_cases h1 : k = 1
  · subst h1
    go_enter Tryz.func29, Tryz.ntmps29
    go_wp2_with fail
    exact bodyPost_ret (v := .bool true) (by simp [results, go_sem]) rfl ⟨rfl, rfl⟩
  · by_cases h2 : k = 2
    · subst h2
      go_enter Tryz.func29, Tryz.ntmps29
      go_wp2_with fail
      exact bodyPost_ret (v := .bool true) (by simp [results, go_sem]) rfl ⟨rfl, rfl⟩
    · have e1 : (k == 1) = false := beq_eq_false_iff_ne.2 h1
      have e2 : (k == 2) = false := beq_eq_false_iff_ne.2 h2
      go_enter Tryz.func29, Tryz.ntmps29
      go_wp2_with fail
      exact bodyPost_ret (v := .bool false) (by simp [results, go_sem]) rfl ⟨by rw [decide_eq_false (by omega)], rfl⟩

theorem kidOf_calls (k : Int) (hk : 0 ≤ k ∧ k ≤ 6) (w : World) : Calls Tryz.prog 30 #[.int .i64 k] w fun e w' => e = .returned (.int .i64 (kidK k)) ∧ w' = w := by
  obtain rfl | rfl | rfl | rfl | rfl | rfl | rfl : k = 0 ∨ k = 1 ∨ k = 2 ∨ k = 3 ∨ k = 4 ∨ k = 5 ∨ k = 6 := by omega
  all_goals
    go_enter Tryz.func30, Tryz.ntmps30
    go_wp2_with fail
    exact bodyPost_ret (by simp [results, go_sem]; rfl) rfl ⟨rfl, rfl⟩

theorem newSeq_calls (A : Option Addr) (n c d : Nat) (hd : d < 4) (hn : n ≤ big) (hev : n % wd d = 0) (w : World) :
    Calls Tryz.prog 155 #[.slice A n c, .int .u8 d] w fun e w' => e = .returned (.agg #[.int .u8 d, .slice A n c]) ∧ Below w.heap.size w w' := by
  have hd := Lib.hid (@dim_calls d hd)
  have h2 := wd_two d
  have hr : ((n : Int) % (wd d : Int) != 0) = false := by
    have : ((n % wd d : Nat) : Int) = 0 := by rw [hev]; rfl
    rw [bne_eq_false_iff_eq]
    simpa using this
  obtain ⟨q, hq⟩ : ∃ q, q = wd d := ⟨_, rfl⟩
  rw [← hq] at hr h2 hd
  have hq0 : (2 : Int) ≤ (q : Int) := by omega
  clear hev hq h2 hn
  go_enter Tryz.func155, Tryz.ntmps155
  go_wp2_with fail
  refine (hd.out _).mono ?_
  rintro e w1 ⟨rfl, rfl⟩
  go_wp2_with fail
  exact bodyPost_ret (by simp [results, Tryz.results155, go_sem]) rfl ⟨rfl, (Below.refl _ _).alloc (Nat.le_refl _) _⟩
end
end Go.Proofs.YtbacakdpfiiblaaGreat.geo
