/-
  Contracts: a line; the length of a sequence; one of its places; a place's kind; all its places appended.
-/
import Derived.Test.YtmmlhbhnnhopdaaRingA
import Derived.StillTailTactics
namespace Go.Proofs.Ytmmlhbhnnhopdaa.ring
open Go.ChangeShapes Go.WideShapes Go.ChangeAt Go.RowKit
open Go.Proofs.Ytmmlhbhnnhopdaa.mem
set_option linter.unusedVariables false
set_option linter.unusedSimpArgs false

set_option maxHeartbeats 4000000 in
theorem line_calls (A : Option Addr) (n c : Nat) (fs : List Nat) (hn : n ≤ 1000000) (hpos : 0 < n) (hev : n % 2 = 0) (w : World) (hA : Sl w w.heap.size A n 1 (FL fs)) :
    Calls Try.prog 14 #[.agg #[.int .i64 2, .int .i64 0, .slice A n c, .slice none 0 0]] w (SeqPost w n fs) := by
  obtain ⟨wB, hwB⟩ : ∃ wB, wB = (w.alloc (.cells #[.int .i64 2, .int .i64 0, .slice A n c, .slice none 0 0] 25)).alloc (.cells #[.int .u8 0, .slice none 0 0] 47) := ⟨_, rfl⟩
  have hbB : Below w.heap.size w wB := by rw [hwB]; exact ((Below.refl _ _).alloc (Nat.le_refl _) _).alloc (by simp) _
  have hblk : Blk wB (w.heap.size + 1) 47 #[.int .u8 0, .slice none 0 0] := by
    rw [hwB]
    have := Blk.new (w.alloc (.cells #[.int .i64 2, .int .i64 0, .slice A n c, .slice none 0 0] 25)) 47 #[.int .u8 0, .slice none 0 0]
    simpa using this
  have hsq := fun w hA => sequence_calls A n c fs hn hpos hev w hA
  have HA := Lib.hid (hA.up hbB)
  have HWB := Lib.hid hwB
  have HBB := Lib.hid hbB
  have HBLK := Lib.hid hblk
  clear hA hwB hbB hblk
  go_enter Try.func14, Try.ntmps14
  go_wp2_with fail
  rw [← HWB.out]
  refine (hsq _ HA.out).mono ?_
  rintro e w1 ⟨g, rfl, hge, hs1, hb1⟩
  have HS1 := Lib.hid hs1
  have HB1 := Lib.hid hb1
  clear hs1 hb1
  go_wp2_with fail
  refine (newLine_calls _ _ _ _).mono ?_
  rintro e w2 ⟨rfl, hb2⟩
  have hb02 : Below w.heap.size w w2 := (HBB.out.trans (HB1.out.mono HBB.out.size)).trans (hb2.mono (Nat.le_trans HBB.out.size HB1.out.size))
  have hblk2 := (HBLK.out.below HB1.out HBLK.out.lt).below hb2 (Nat.lt_of_lt_of_le HBLK.out.lt HB1.out.size)
  obtain ⟨c0, c1, f0, f1, hl⟩ := cells2 hblk2
  have HB02 := Lib.hid hb02
  have HS2 := Lib.hid (HS1.out.up hb2)
  clear hb02 hb2 hblk2
  have hgne : g ≠ w.heap.size + 1 := fun h => by have := HBLK.out.lt; omega
  have hgw : w.heap.size ≤ g := Nat.le_trans HBB.out.size hge
  go_wp2_with fail
  refine bodyPost_ret (v := .agg #[.int .u8 0, .slice (some ⟨g, 0, none⟩) n n]) ?_ rfl ⟨_, rfl, hgw, ?_, (HB02.out.setCell (by simp) _).setCell (by simp) _⟩
  · simp [results, Try.results14, go_sem, c0, c1, hl]
  · have := sl_far (sl_far HS2.out (p := ⟨w.heap.size + 1, 0, none⟩) hgne (.int .u8 0)) (p := ⟨w.heap.size + 1, 1, none⟩) hgne (.slice (some ⟨g, 0, none⟩) n n)
    simpa using this

set_option maxHeartbeats 4000000 in
theorem length_calls (A : Option Addr) (n c : Nat) (hn : n ≤ 1000000) (w : World) :
    Calls Try.prog 24 #[.agg #[.int .u8 0, .slice A n c]] w fun e w' => e = .returned (.int .i64 ((n / 2 : Nat) : Int)) ∧ Below w.heap.size w w' := by
  obtain ⟨wB, hwB⟩ : ∃ wB, wB = w.alloc (.cells #[.int .u8 0, .slice A n c] 45) := ⟨_, rfl⟩
  have hblk : Blk wB w.heap.size 45 #[.int .u8 0, .slice A n c] := by rw [hwB]; exact Blk.new _ _ _
  have hbB : Below w.heap.size w wB := by rw [hwB]; exact (Below.refl _ _).alloc (Nat.le_refl _) _
  obtain ⟨c0, c1, f0, f1, hl⟩ := cells2 hblk
  have HWB := Lib.hid hwB
  have HBB := Lib.hid hbB
  have hd := dim_calls
  have hq : (n : Int).tdiv 2 = ((n / 2 : Nat) : Int) := by
    rw [Int.tdiv_eq_ediv_of_nonneg (by omega)]; omega
  have hr : IntKind.i64.wrap ((n : Int).tdiv 2) = ((n / 2 : Nat) : Int) := by
    rw [hq]; exact IntWalk.i64_in _ (by omega)
  clear hwB hbB hblk hq
  go_enter Try.func24, Try.ntmps24
  go_wp2_with fail
  rw [← HWB.out]
  go_quiet ((go_at_call 32; exact Calls.quiet_of_same (hd _)))
  go_wp2_with fail
  exact bodyPost_ret (v := .int .i64 ((n / 2 : Nat) : Int)) (by simp [results, go_sem]) rfl ⟨rfl, HBB.out.trans (drewN_below _ _ _)⟩

set_option maxHeartbeats 4000000 in
theorem ctype_calls (A : Option Addr) (n c : Nat) (w : World) :
    Calls Try.prog 23 #[.agg #[.int .u8 0, .slice A n c]] w fun e w' => e = .returned (.int .u8 0) ∧ Below w.heap.size w w' := by
  go_enter Try.func23, Try.ntmps23
  go_wp2_with fail
  exact bodyPost_ret (by simp [results, go_sem]) rfl ⟨rfl, (Below.refl _ _).alloc (Nat.le_refl _) _⟩

set_option maxHeartbeats 4000000 in
theorem is3_calls (w : World) : Calls Try.prog 26 #[.int .u8 0] w fun e w' => e = .returned (.bool false) ∧ w' = w := by
  go_enter Try.func26, Try.ntmps26
  go_wp2_with fail
  exact bodyPost_ret (v := .bool false) (by simp [results, go_sem]; try rfl) rfl ⟨rfl, rfl⟩

set_option maxHeartbeats 4000000 in
theorem isM_calls (w : World) : Calls Try.prog 27 #[.int .u8 0] w fun e w' => e = .returned (.bool false) ∧ w' = w := by
  go_enter Try.func27, Try.ntmps27
  go_wp2_with fail
  exact bodyPost_ret (v := .bool false) (by simp [results, go_sem]; try rfl) rfl ⟨rfl, rfl⟩

set_option maxHeartbeats 4000000 in
theorem full_calls (A : Option Addr) (n : Nat) (hn : n ≤ 1000000) (w : World) :
    Calls Try.prog 35 #[.agg #[.int .u8 0, .slice A n n]] w fun e w' => e = .returned (.tuple #[]) ∧ Below w.heap.size w w' := by
  have hz : IntKind.i64.wrap ((n : Int) - (n : Int)) = 0 := by rw [Int.sub_self]; rfl
  go_enter Try.func35, Try.ntmps35
  go_wp2_with fail
  first | go_end0 | refine bodyPost_ret (results_none rfl _ _ _) rfl ?_
  exact ⟨rfl, (Below.refl _ _).alloc (Nat.le_refl _) _⟩
end Go.Proofs.Ytmmlhbhnnhopdaa.ring
