/-
  Contract: how many bits a number has.
-/
import Derived.Test.YtpfgdfgifdbijaaDoorFfA
import Derived.Lib.BitFns
import Derived.Lib.Small
namespace Go.Proofs.YtpfgdfgifdbijaaDoor.ff
open Go.ChangeShapes Go.WideShapes Go.ChangeAt Go.RowKit
open Go.Proofs.YtpfgdfgifdbijaaDoor.mem
set_option linter.unusedVariables false
set_option linter.unusedSimpArgs false

theorem len8_le : ∀ i : Fin 256, (Lib.len8tab[i.val]'(by rw [Lib.len8tab_size]; exact i.isLt)).toNat ≤ 8 := by decide +kernel
theorem len8_at {i : Nat} (h : i < Lib.len8tab.size) : (Lib.len8tab[i]).toNat ≤ 8 := len8_le ⟨i, by rw [← Lib.len8tab_size]; exact h⟩
set_option maxHeartbeats 4000000 in
set_option maxRecDepth 100000 in
theorem len64_calls (x : Int) (h0 : 0 ≤ x) (h1 : x ≤ 18446744073709551615) : ∃ n : Nat, n ≤ 64 ∧ ∀ w, Calls Tryd.prog 38 #[.int .u64 x] w (Same w (.int .i64 n)) := by
  have hsz : Lib.len8tab.size = 256 := Lib.len8tab_size
  by_cases c32 : (4294967296 : Int) ≤ x
  · by_cases c16 : (65536 : Int) ≤ x / 4294967296
    · by_cases c8 : (256 : Int) ≤ x / 4294967296 / 65536
      · have hy : 0 ≤ x / 4294967296 / 65536 / 256 ∧ x / 4294967296 / 65536 / 256 < 256 := by omega
        have hlt : (x / 4294967296 / 65536 / 256).toNat < Lib.len8tab.size := by rw [hsz]; omega
        obtain ⟨hy0, hy1⟩ := hy
        have hb := len8_at hlt
        have hb1 : (x / 4294967296 / 65536 / 256 : Int) < (Lib.len8tab.size : Int) := by omega
        have hu : IntKind.u8.wrap (x / 4294967296 / 65536 / 256) = x / 4294967296 / 65536 / 256 := by rw [IntKind.wrap_u8]; omega
        have hm : (x / 4294967296 / 65536 / 256) % 256 = x / 4294967296 / 65536 / 256 := by omega
        refine ⟨56 + (Lib.len8tab[(x / 4294967296 / 65536 / 256).toNat]).toNat, by omega, fun w => ?_⟩
        clear hsz
        go_enter Tryd.func38, Tryd.ntmps38
        go_wp2_with fail
        exact bodyPost_ret (v := .int .i64 ((56 + (Lib.len8tab[(x / 4294967296 / 65536 / 256).toNat]).toNat : Nat) : Int)) (by simp [results, go_sem]) rfl ⟨rfl, rfl⟩
      · have hy : 0 ≤ x / 4294967296 / 65536 ∧ x / 4294967296 / 65536 < 256 := by omega
        have hlt : (x / 4294967296 / 65536).toNat < Lib.len8tab.size := by rw [hsz]; omega
        obtain ⟨hy0, hy1⟩ := hy
        have hb := len8_at hlt
        have hb1 : (x / 4294967296 / 65536 : Int) < (Lib.len8tab.size : Int) := by omega
        have hu : IntKind.u8.wrap (x / 4294967296 / 65536) = x / 4294967296 / 65536 := by rw [IntKind.wrap_u8]; omega
        have hm : (x / 4294967296 / 65536) % 256 = x / 4294967296 / 65536 := by omega
        refine ⟨48 + (Lib.len8tab[(x / 4294967296 / 65536).toNat]).toNat, by omega, fun w => ?_⟩
        clear hsz
        go_enter Tryd.func38, Tryd.ntmps38
        go_wp2_with fail
        exact bodyPost_ret (v := .int .i64 ((48 + (Lib.len8tab[(x / 4294967296 / 65536).toNat]).toNat : Nat) : Int)) (by simp [results, go_sem]) rfl ⟨rfl, rfl⟩
    · by_cases c8 : (256 : Int) ≤ x / 4294967296
      · have hy : 0 ≤ x / 4294967296 / 256 ∧ x / 4294967296 / 256 < 256 := by omega
        have hlt : (x / 4294967296 / 256).toNat < Lib.len8tab.size := by rw [hsz]; omega
        obtain ⟨hy0, hy1⟩ := hy
        have hb := len8_at hlt
        have hb1 : (x / 4294967296 / 256 : Int) < (Lib.len8tab.size : Int) := by omega
        have hu : IntKind.u8.wrap (x / 4294967296 / 256) = x / 4294967296 / 256 := by rw [IntKind.wrap_u8]; omega
        have hm : (x / 4294967296 / 256) % 256 = x / 4294967296 / 256 := by omega
        refine ⟨40 + (Lib.len8tab[(x / 4294967296 / 256).toNat]).toNat, by omega, fun w => ?_⟩
        clear hsz
        go_enter Tryd.func38, Tryd.ntmps38
        go_wp2_with fail
        exact bodyPost_ret (v := .int .i64 ((40 + (Lib.len8tab[(x / 4294967296 / 256).toNat]).toNat : Nat) : Int)) (by simp [results, go_sem]) rfl ⟨rfl, rfl⟩
      · have hy : 0 ≤ x / 4294967296 ∧ x / 4294967296 < 256 := by omega
        have hlt : (x / 4294967296).toNat < Lib.len8tab.size := by rw [hsz]; omega
        obtain ⟨hy0, hy1⟩ := hy
        have hb := len8_at hlt
        have hb1 : (x / 4294967296 : Int) < (Lib.len8tab.size : Int) := by omega
        have hu : IntKind.u8.wrap (x / 4294967296) = x / 4294967296 := by rw [IntKind.wrap_u8]; omega
        have hm : (x / 4294967296) % 256 = x / 4294967296 := by omega
        refine ⟨32 + (Lib.len8tab[(x / 4294967296).toNat]).toNat, by omega, fun w => ?_⟩
        clear hsz
        go_enter Tryd.func38, Tryd.ntmps38
        go_wp2_with fail
        exact bodyPost_ret (v := .int .i64 ((32 + (Lib.len8tab[(x / 4294967296).toNat]).toNat : Nat) : Int)) (by simp [results, go_sem]) rfl ⟨rfl, rfl⟩
  · by_cases c16 : (65536 : Int) ≤ x
    · by_cases c8 : (256 : Int) ≤ x / 65536
      · have hy : 0 ≤ x / 65536 / 256 ∧ x / 65536 / 256 < 256 := by omega
        have hlt : (x / 65536 / 256).toNat < Lib.len8tab.size := by rw [hsz]; omega
        obtain ⟨hy0, hy1⟩ := hy
        have hb := len8_at hlt
        have hb1 : (x / 65536 / 256 : Int) < (Lib.len8tab.size : Int) := by omega
        have hu : IntKind.u8.wrap (x / 65536 / 256) = x / 65536 / 256 := by rw [IntKind.wrap_u8]; omega
        have hm : (x / 65536 / 256) % 256 = x / 65536 / 256 := by omega
        refine ⟨24 + (Lib.len8tab[(x / 65536 / 256).toNat]).toNat, by omega, fun w => ?_⟩
        clear hsz
        go_enter Tryd.func38, Tryd.ntmps38
        go_wp2_with fail
        exact bodyPost_ret (v := .int .i64 ((24 + (Lib.len8tab[(x / 65536 / 256).toNat]).toNat : Nat) : Int)) (by simp [results, go_sem]) rfl ⟨rfl, rfl⟩
      · have hy : 0 ≤ x / 65536 ∧ x / 65536 < 256 := by omega
        have hlt : (x / 65536).toNat < Lib.len8tab.size := by rw [hsz]; omega
        obtain ⟨hy0, hy1⟩ := hy
        have hb := len8_at hlt
        have hb1 : (x / 65536 : Int) < (Lib.len8tab.size : Int) := by omega
        have hu : IntKind.u8.wrap (x / 65536) = x / 65536 := by rw [IntKind.wrap_u8]; omega
        have hm : (x / 65536) % 256 = x / 65536 := by omega
        refine ⟨16 + (Lib.len8tab[(x / 65536).toNat]).toNat, by omega, fun w => ?_⟩
        clear hsz
        go_enter Tryd.func38, Tryd.ntmps38
        go_wp2_with fail
        exact bodyPost_ret (v := .int .i64 ((16 + (Lib.len8tab[(x / 65536).toNat]).toNat : Nat) : Int)) (by simp [results, go_sem]) rfl ⟨rfl, rfl⟩
    · by_cases c8 : (256 : Int) ≤ x
      · have hy : 0 ≤ x / 256 ∧ x / 256 < 256 := by omega
        have hlt : (x / 256).toNat < Lib.len8tab.size := by rw [hsz]; omega
        obtain ⟨hy0, hy1⟩ := hy
        have hb := len8_at hlt
        have hb1 : (x / 256 : Int) < (Lib.len8tab.size : Int) := by omega
        have hu : IntKind.u8.wrap (x / 256) = x / 256 := by rw [IntKind.wrap_u8]; omega
        have hm : (x / 256) % 256 = x / 256 := by omega
        refine ⟨8 + (Lib.len8tab[(x / 256).toNat]).toNat, by omega, fun w => ?_⟩
        clear hsz
        go_enter Tryd.func38, Tryd.ntmps38
        go_wp2_with fail
        exact bodyPost_ret (v := .int .i64 ((8 + (Lib.len8tab[(x / 256).toNat]).toNat : Nat) : Int)) (by simp [results, go_sem]) rfl ⟨rfl, rfl⟩
      · have hy : 0 ≤ x ∧ x < 256 := by omega
        have hlt : (x).toNat < Lib.len8tab.size := by rw [hsz]; omega
        obtain ⟨hy0, hy1⟩ := hy
        have hb := len8_at hlt
        have hb1 : (x : Int) < (Lib.len8tab.size : Int) := by omega
        have hu : IntKind.u8.wrap (x) = x := by rw [IntKind.wrap_u8]; omega
        have hm : (x) % 256 = x := by omega
        refine ⟨(Lib.len8tab[(x).toNat]).toNat, by omega, fun w => ?_⟩
        clear hsz
        go_enter Tryd.func38, Tryd.ntmps38
        go_wp2_with fail
        exact bodyPost_ret (v := .int .i64 (((Lib.len8tab[(x).toNat]).toNat : Nat) : Int)) (by simp [results, go_sem]) rfl ⟨rfl, rfl⟩
end Go.Proofs.YtpfgdfgifdbijaaDoor.ff
