/-
  Contracts: numbers out of bytes (encoding/binary); doubles out of bits.
-/
import Derived.Test.YtbacakdpfiiblaaGreatRdA
import Derived.Test.YtbacakdpfiiblaaGreatGeoE
import Derived.Lib.Endian
import Derived.Lib.EndianBits
import Derived.Deep.QuietTactic
import Derived.BigQuiet
namespace Go.Proofs.YtbacakdpfiiblaaGreat.geo
open Go.ChangeShapes Go.WideShapes Go.ChangeAt Go.RowKit
open Go.Proofs.YtbacakdpfiiblaaGreat.mem
set_option linter.unusedVariables false
set_option linter.unusedSimpArgs false


set_option maxHeartbeats 8000000 in
set_option maxRecDepth 100000 in
theorem be32 (g o n c b0 b1 b2 b3 : Nat) (hn : 4 ≤ n) (h0 : b0 < 256) (h1 : b1 < 256) (h2 : b2 < 256) (h3 : b3 < 256)  (w : World) (c0 : w.cell? ⟨g, o, none⟩ = some (.int .u8 b0)) (c1 : w.cell? ⟨g, o + 1, none⟩ = some (.int .u8 b1)) (c2 : w.cell? ⟨g, o + 2, none⟩ = some (.int .u8 b2)) (c3 : w.cell? ⟨g, o + 3, none⟩ = some (.int .u8 b3)) :
    Calls Tryz.prog 172 #[.agg #[], .slice (some ⟨g, o, none⟩) n c] w (Gives w (.int .u32 (beV [b0, b1, b2, b3] : Nat))) := by
  have hv : ((beV [b0, b1, b2, b3] : Nat) : Int) = (b3 : Int) + (b2 : Int) * 256 + (b1 : Int) * 65536 + (b0 : Int) * 16777216 := by
    simp only [beV, leV, List.foldl]
    push_cast
    omega
  have q0 : (0 : Int) < (n : Int) := by omega
  have q1 : (1 : Int) < (n : Int) := by omega
  have q2 : (2 : Int) < (n : Int) := by omega
  have q3 : (3 : Int) < (n : Int) := by omega
  have hgl : g < w.heap.size := World.block_lt_of_cell? w _ c0
  rw [hv]
  clear hv hn
  go_enter Tryz.func172, Tryz.ntmps172
  go_wp2_with fail
  go_quiet (fail)
  go_wp2_with fail
  refine bodyPost_ret (v := .int .u32 ((b3 : Int) + (b2 : Int) * 256 + (b1 : Int) * 65536 + (b0 : Int) * 16777216)) ?_ rfl ⟨rfl, ?_⟩
  · simp [results, go_sem]
    simp (disch := omega) only [u32_wrap_id, u32_or8, u32_or16, u32_or24]
  · exact (((Below.refl _ w).alloc (Nat.le_refl _) _).trans (drewN_below _ _ _))


set_option maxHeartbeats 8000000 in
set_option maxRecDepth 100000 in
theorem le32 (g o n c b0 b1 b2 b3 : Nat) (hn : 4 ≤ n) (h0 : b0 < 256) (h1 : b1 < 256) (h2 : b2 < 256) (h3 : b3 < 256)  (w : World) (c0 : w.cell? ⟨g, o, none⟩ = some (.int .u8 b0)) (c1 : w.cell? ⟨g, o + 1, none⟩ = some (.int .u8 b1)) (c2 : w.cell? ⟨g, o + 2, none⟩ = some (.int .u8 b2)) (c3 : w.cell? ⟨g, o + 3, none⟩ = some (.int .u8 b3)) :
    Calls Tryz.prog 173 #[.agg #[], .slice (some ⟨g, o, none⟩) n c] w (Gives w (.int .u32 (leV [b0, b1, b2, b3] : Nat))) := by
  have hv : ((leV [b0, b1, b2, b3] : Nat) : Int) = (b0 : Int) + (b1 : Int) * 256 + (b2 : Int) * 65536 + (b3 : Int) * 16777216 := by
    simp only [beV, leV, List.foldl]
    push_cast
    omega
  have q0 : (0 : Int) < (n : Int) := by omega
  have q1 : (1 : Int) < (n : Int) := by omega
  have q2 : (2 : Int) < (n : Int) := by omega
  have q3 : (3 : Int) < (n : Int) := by omega
  have hgl : g < w.heap.size := World.block_lt_of_cell? w _ c0
  rw [hv]
  clear hv hn
  go_enter Tryz.func173, Tryz.ntmps173
  go_wp2_with fail
  go_quiet (fail)
  go_wp2_with fail
  refine bodyPost_ret (v := .int .u32 ((b0 : Int) + (b1 : Int) * 256 + (b2 : Int) * 65536 + (b3 : Int) * 16777216)) ?_ rfl ⟨rfl, ?_⟩
  · simp [results, go_sem]
    simp (disch := omega) only [u32_wrap_id, u32_or8, u32_or16, u32_or24]
  · exact (((Below.refl _ w).alloc (Nat.le_refl _) _).trans (drewN_below _ _ _))


set_option maxHeartbeats 8000000 in
set_option maxRecDepth 100000 in
theorem be64 (g o n c b0 b1 b2 b3 b4 b5 b6 b7 : Nat) (hn : 8 ≤ n) (h0 : b0 < 256) (h1 : b1 < 256) (h2 : b2 < 256) (h3 : b3 < 256) (h4 : b4 < 256) (h5 : b5 < 256) (h6 : b6 < 256) (h7 : b7 < 256)  (w : World) (c0 : w.cell? ⟨g, o, none⟩ = some (.int .u8 b0)) (c1 : w.cell? ⟨g, o + 1, none⟩ = some (.int .u8 b1)) (c2 : w.cell? ⟨g, o + 2, none⟩ = some (.int .u8 b2)) (c3 : w.cell? ⟨g, o + 3, none⟩ = some (.int .u8 b3)) (c4 : w.cell? ⟨g, o + 4, none⟩ = some (.int .u8 b4)) (c5 : w.cell? ⟨g, o + 5, none⟩ = some (.int .u8 b5)) (c6 : w.cell? ⟨g, o + 6, none⟩ = some (.int .u8 b6)) (c7 : w.cell? ⟨g, o + 7, none⟩ = some (.int .u8 b7)) :
    Calls Tryz.prog 179 #[.agg #[], .slice (some ⟨g, o, none⟩) n c] w (Gives w (.int .u64 (beV [b0, b1, b2, b3, b4, b5, b6, b7] : Nat))) := by
  have hv : ((beV [b0, b1, b2, b3, b4, b5, b6, b7] : Nat) : Int) = (b7 : Int) + (b6 : Int) * 256 + (b5 : Int) * 65536 + (b4 : Int) * 16777216 + (b3 : Int) * 4294967296 + (b2 : Int) * 1099511627776 + (b1 : Int) * 281474976710656 + (b0 : Int) * 72057594037927936 := by
    simp only [beV, leV, List.foldl]
    push_cast
    omega
  have q0 : (0 : Int) < (n : Int) := by omega
  have q1 : (1 : Int) < (n : Int) := by omega
  have q2 : (2 : Int) < (n : Int) := by omega
  have q3 : (3 : Int) < (n : Int) := by omega
  have q4 : (4 : Int) < (n : Int) := by omega
  have q5 : (5 : Int) < (n : Int) := by omega
  have q6 : (6 : Int) < (n : Int) := by omega
  have q7 : (7 : Int) < (n : Int) := by omega
  have hgl : g < w.heap.size := World.block_lt_of_cell? w _ c0
  rw [hv]
  clear hv hn
  go_enter Tryz.func179, Tryz.ntmps179
  go_wp2_with fail
  go_quiet (fail)
  go_wp2_with fail
  refine bodyPost_ret (v := .int .u64 ((b7 : Int) + (b6 : Int) * 256 + (b5 : Int) * 65536 + (b4 : Int) * 16777216 + (b3 : Int) * 4294967296 + (b2 : Int) * 1099511627776 + (b1 : Int) * 281474976710656 + (b0 : Int) * 72057594037927936)) ?_ rfl ⟨rfl, ?_⟩
  · simp [results, go_sem]
    simp (disch := omega) only [u64_wrap_id, u64_or8, u64_or16, u64_or24, u64_or32, u64_or40, u64_or48, u64_or56]
  · exact (((Below.refl _ w).alloc (Nat.le_refl _) _).trans (drewN_below _ _ _))


set_option maxHeartbeats 8000000 in
set_option maxRecDepth 100000 in
theorem le64 (g o n c b0 b1 b2 b3 b4 b5 b6 b7 : Nat) (hn : 8 ≤ n) (h0 : b0 < 256) (h1 : b1 < 256) (h2 : b2 < 256) (h3 : b3 < 256) (h4 : b4 < 256) (h5 : b5 < 256) (h6 : b6 < 256) (h7 : b7 < 256)  (w : World) (c0 : w.cell? ⟨g, o, none⟩ = some (.int .u8 b0)) (c1 : w.cell? ⟨g, o + 1, none⟩ = some (.int .u8 b1)) (c2 : w.cell? ⟨g, o + 2, none⟩ = some (.int .u8 b2)) (c3 : w.cell? ⟨g, o + 3, none⟩ = some (.int .u8 b3)) (c4 : w.cell? ⟨g, o + 4, none⟩ = some (.int .u8 b4)) (c5 : w.cell? ⟨g, o + 5, none⟩ = some (.int .u8 b5)) (c6 : w.cell? ⟨g, o + 6, none⟩ = some (.int .u8 b6)) (c7 : w.cell? ⟨g, o + 7, none⟩ = some (.int .u8 b7)) :
    Calls Tryz.prog 180 #[.agg #[], .slice (some ⟨g, o, none⟩) n c] w (Gives w (.int .u64 (leV [b0, b1, b2, b3, b4, b5, b6, b7] : Nat))) := by
  have hv : ((leV [b0, b1, b2, b3, b4, b5, b6, b7] : Nat) : Int) = (b0 : Int) + (b1 : Int) * 256 + (b2 : Int) * 65536 + (b3 : Int) * 16777216 + (b4 : Int) * 4294967296 + (b5 : Int) * 1099511627776 + (b6 : Int) * 281474976710656 + (b7 : Int) * 72057594037927936 := by
    simp only [beV, leV, List.foldl]
    push_cast
    omega
  have q0 : (0 : Int) < (n : Int) := by omega
  have q1 : (1 : Int) < (n : Int) := by omega
  have q2 : (2 : Int) < (n : Int) := by omega
  have q3 : (3 : Int) < (n : Int) := by omega
  have q4 : (4 : Int) < (n : Int) := by omega
  have q5 : (5 : Int) < (n : Int) := by omega
  have q6 : (6 : Int) < (n : Int) := by omega
  have q7 : (7 : Int) < (n : Int) := by omega
  have hgl : g < w.heap.size := World.block_lt_of_cell? w _ c0
  rw [hv]
  clear hv hn
  go_enter Tryz.func180, Tryz.ntmps180
  go_wp2_with fail
  go_quiet (fail)
  go_wp2_with fail
  refine bodyPost_ret (v := .int .u64 ((b0 : Int) + (b1 : Int) * 256 + (b2 : Int) * 65536 + (b3 : Int) * 16777216 + (b4 : Int) * 4294967296 + (b5 : Int) * 1099511627776 + (b6 : Int) * 281474976710656 + (b7 : Int) * 72057594037927936)) ?_ rfl ⟨rfl, ?_⟩
  · simp [results, go_sem]
    simp (disch := omega) only [u64_wrap_id, u64_or8, u64_or16, u64_or24, u64_or32, u64_or40, u64_or48, u64_or56]
  · exact (((Below.refl _ w).alloc (Nat.le_refl _) _).trans (drewN_below _ _ _))


theorem run_frombits (x : Nat) (w : World) : (callFunc 147 #[.int .u64 x]).run Tryz.prog w = .ok (.value (.float .f64 x)) w := by
  refine (run_callFunc_extern (P := Tryz.prog) (f := 147) Tryz.func147 (by kernel_rfl) (by kernel_rfl) (by kernel_rfl) (e := Extern.MathFloatBits.float64frombits) (by kernel_rfl) _ w).trans ?_
  rfl
theorem run_tobits (x : Nat) (w : World) : (callFunc 106 #[.float .f64 x]).run Tryz.prog w = .ok (.value (.int .u64 x)) w := by
  refine (run_callFunc_extern (P := Tryz.prog) (f := 106) Tryz.func106 (by kernel_rfl) (by kernel_rfl) (by kernel_rfl) (e := Extern.MathFloatBits.float64bits) (by kernel_rfl) _ w).trans ?_
  rfl
theorem isNaN_calls (x : Nat) (w : World) : Calls Tryz.prog 175 #[.float .f64 x] w fun e w' => e = .returned (.bool (nanB x)) ∧ w' = w := by
  have e1 : (FloatKind.f64.format.order x x != some .eq) = nanB x := by unfold nanB; rfl
  go_enter Tryz.func175, Tryz.ntmps175
  go_wp2_with fail
  exact bodyPost_ret (v := .bool (nanB x)) (by simp [results, go_sem]) rfl ⟨rfl, rfl⟩
end Go.Proofs.YtbacakdpfiiblaaGreat.geo
