/-
  Contract: the digits of a number in a buffer, the zeros at their end told away.
-/
import Derived.Test.YtpfgdfgifdbijaaDoorFfE
import Derived.Test.YtpfgdfgifdbijaaDoorFfC
namespace Go.Proofs.YtpfgdfgifdbijaaDoor.ff
open Go.ChangeShapes Go.WideShapes Go.ChangeAt Go.RowKit
open Go.Proofs.YtpfgdfgifdbijaaDoor.mem
set_option linter.unusedVariables false
set_option linter.unusedSimpArgs false

/-- How many are left, the zeros at the end told away. -/
def trimZ (f : Nat → UInt8) : Nat → Nat
  | 0 => 0
  | n + 1 => if f n = 48 then trimZ f n else n + 1
theorem trimZ_le (f : Nat → UInt8) : ∀ n, trimZ f n ≤ n
  | 0 => Nat.le_refl _
  | n + 1 => by
    rw [trimZ]
    split
    · exact Nat.le_succ_of_le (trimZ_le f n)
    · exact Nat.le_refl _
/-- The digits, the first first. -/
def dgt (u t : Nat) : UInt8 := Lib.dg u (ND u - 1 - t)
abbrev encU (b : UInt8) : Value := .int .u8 (b.toNat : Int)
/-- Digits stand in the buffer. -/
def SDPost (w : World) (B : Nat) (u : Nat) (p : Int) (e : Ending) (w' : World) : Prop :=
  e = .returned (.tuple #[.int .i64 ((ND u : Nat) + p), .int .i64 (trimZ (dgt u) (ND u))]) ∧ (∀ j, j < ND u → w'.cell? ⟨B, j, none⟩ = some (encU (dgt u j))) ∧ Below B w w' ∧ B < w'.heap.size
theorem below_row {w : World} {B : Nat} (dk : Array UInt8) (n : Nat) : Below B w ((Sort.putRow encU w B 0 dk).drewN n) := by
  refine Below.trans (b := Sort.putRow encU w B 0 dk) ⟨rfl, rfl, rfl, ?_, fun j hj => ?_⟩ (drewN_below _ _ _)
  · show w.heap.size ≤ (w.heap.modify B _).size
    rw [Array.size_modify]
    exact Nat.le_refl _
  · show (w.heap.modify B _)[j]? = w.heap[j]?
    rw [Array.getElem?_modify, if_neg (by omega)]
set_option maxHeartbeats 4000000 in
set_option maxRecDepth 100000 in
theorem setd_calls (u : Nat) (h2 : u < 18446744073709551616) (p : Int) (hp : -400 ≤ p ∧ p ≤ 400) (w : World) (B : Nat) (hB : ∀ j, j < 32 → w.cell? ⟨B, j, none⟩ = some (.int .u8 0) ∧ w.frozen? ⟨B, j, none⟩ = false) (hlt : B < w.heap.size) :
    Calls Tryd.prog 40 #[.slice (some ⟨B, 0, none⟩) 32 32, .int .u64 u, .int .i64 p, .int .i64 (ND u)] w (SDPost w B u p) := by
  obtain ⟨nd, hnd⟩ : ∃ nd, nd = ND u := ⟨_, rfl⟩
  have hn20 : nd ≤ 20 := by rw [hnd]; exact ND_le u h2
  have hpow : u < 10 ^ nd := by rw [hnd]; exact ND_pow u
  have hH : Sort.Holds encU w B 0 (Array.replicate nd (0 : UInt8)) := fun j hj => by
    have hj' : j < nd := by simpa using hj
    rw [Nat.zero_add]
    refine ⟨?_, (hB j (by omega)).2⟩
    rw [(hB j (by omega)).1, getElem!_pos _ j hj]
    simp
  have hFB := Tryd.internal_strconv_formatBase10 B 0 32 u (Array.replicate nd (0 : UInt8)) w hH (by simpa using hpow) h2 (by simp; omega)
  rw [Array.size_replicate] at hFB
  have hnle : (nd : Int) ≤ 32 := by omega
  obtain ⟨i1, hi1, hz1⟩ : ∃ i : TypeInfo, Tryd.prog.info? 5 = some i ∧ i.size = 1 := by
    have h0 : (Tryd.prog.info? 5).map (·.size) = some 1 := by kernel_rfl
    cases hh : Tryd.prog.info? 5 with
    | none => rw [hh] at h0; cases h0
    | some i => rw [hh] at h0; exact ⟨i, rfl, Option.some.inj h0⟩
  have hsl : ∀ w, (Instr.slice 52 (.slice (some ⟨B, 0, none⟩) 32 32) none (some (.int .i64 (nd : Int))) none).run Tryd.prog w = .ok (.slice (some ⟨B, 0, none⟩) nd 32) w := fun w => by
    have h3 : (0 : Int) ≤ (nd : Int) := by omega
    have h4 : nd ≤ 32 := by omega
    simp [Instr.slice, run_underlying Tryd.underlying52, Instr.sliceBounds, Instr.sliceBound, asIntOf, go_sem, sizeOf, typeInfo, hi1, hz1, h3, h4, hnle]
  have q1 : wrap64 ((nd : Int) + p) = (nd : Int) + p := by rw [wrap64]; omega
  have HFB := Lib.hid hFB
  have HH := Lib.hid hH
  have HND := Lib.hid hnd
  rw [← hnd]
  clear hFB hH hnd hB hpow
  go_enter Tryd.func40, Tryd.ntmps40
  go_wp2_with fail
  refine HFB.out.mono ?_
  rintro e w1 ⟨rfl, n, v', dk, hw1, hF⟩
  have hs : dk.size = nd := hF.size
  have hbel : Below B w w1 := by rw [hw1]; exact below_row dk n
  have hsz : B < w1.heap.size := Nat.lt_of_lt_of_le hlt hbel.size
  have hcell : ∀ j, j < nd → w1.cell? ⟨B, j, none⟩ = some (encU (dgt u j)) := fun j hj => by
    rw [hw1]
    have h5 := Sort.cell?_putRow encU w B 0 _ dk HH.out (by simp [hs]) j (by omega)
    rw [Nat.zero_add] at h5
    refine (show ((Sort.putRow encU w B 0 dk).drewN n).cell? ⟨B, j, none⟩ = (Sort.putRow encU w B 0 dk).cell? ⟨B, j, none⟩ from rfl).trans (h5.trans ?_)
    rw [hF.done j (Nat.zero_le _) hj]
    unfold dgt
    rw [← HND.out]
  have HC := Lib.hid hcell
  have HBL := Lib.hid hbel
  have HSZ := Lib.hid hsz
  clear hw1 hF hs hbel hcell HFB HH hsz
  go_wp2_with fail
  go_loopg [3] nd (fun q nv wr => ∃ k : Nat, k = q ∧ nv = .int .i64 (k : Nat) ∧ k ≤ nd ∧ trimZ (dgt u) nd = trimZ (dgt u) k ∧ wr = w1)
  case atStart => exact ⟨nd, rfl, rfl, Nat.le_refl _, rfl, rfl⟩
  case round =>
    obtain ⟨k, rfl, rfl, hk, htr, rfl⟩ := hrel
    have HTR := Lib.hid htr
    clear htr
    by_cases h0 : k = 0
    · subst h0
      have hkI : ((0 : Nat) : Int) ≤ 0 := by omega
      go_wp2_with fail
      refine bodyPost_ret (v := .tuple #[.int .i64 ((nd : Nat) + p), .int .i64 ((0 : Nat) : Int)]) (by simp [results, go_sem]) rfl ⟨?_, fun j hj => HC.out j (by rw [HND.out]; exact hj), HBL.out, HSZ.out⟩
      rw [← HND.out, HTR.out]
      rfl
    · obtain ⟨m, rfl⟩ : ∃ m, k = m + 1 := ⟨k - 1, by omega⟩
      have hkI : (0 : Int) < ((m + 1 : Nat) : Int) := by omega
      have hq : wrap64 (((m + 1 : Nat) : Int) - 1) = (m : Int) := by rw [wrap64]; omega
      have hq2 : IntKind.i64.wrap (((m + 1 : Nat) : Int) - 1) = (m : Int) := by rw [IntKind.wrap_i64]; omega
      have hml : (m : Int) < 32 := by omega
      obtain ⟨x, hx⟩ : ∃ x, x = dgt u m := ⟨_, rfl⟩
      have hc : wr.cell? ⟨B, m, none⟩ = some (.int .u8 (x.toNat : Int)) := by rw [hx]; exact HC.out m (by omega)
      have HX := Lib.hid hx
      by_cases h48 : x = 48
      · subst h48
        have h48n : ((48 : UInt8).toNat : Int) = 48 := rfl
        rw [h48n] at hc
        clear hx
        go_wp2_with fail
        go_roundg m
        case measure => omega
        case rel =>
          refine ⟨m, rfl, by first | go_num | rfl, by omega, ?_, rfl⟩
          rw [HTR.out, trimZ, if_pos HX.out.symm]
      · have h48n : ((x.toNat : Int) == 48) = false := by
          rw [beq_eq_false_iff_ne]
          intro h
          apply h48
          have h5 : x.toNat = 48 := by omega
          exact UInt8.toNat_inj.1 h5
        clear hx
        go_wp2_with fail
        refine bodyPost_ret (v := .tuple #[.int .i64 ((nd : Nat) + p), .int .i64 ((m + 1 : Nat) : Int)]) (by simp [results, go_sem]) rfl ⟨?_, fun j hj => HC.out j (by rw [HND.out]; exact hj), HBL.out, HSZ.out⟩
        rw [← HND.out, HTR.out, trimZ, if_neg (by rw [← HX.out]; exact h48)]
end Go.Proofs.YtpfgdfgifdbijaaDoor.ff
