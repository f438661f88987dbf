/-
  Contracts: lines put together as a ring.
-/
import Derived.Test.YtmmlhbhnnhopdaaRingF
namespace Go.Proofs.Ytmmlhbhnnhopdaa.ring
open Go.ChangeShapes Go.WideShapes Go.ChangeAt Go.RowKit
open Go.Proofs.Ytmmlhbhnnhopdaa.mem
set_option linter.unusedVariables false
set_option linter.unusedSimpArgs false

set_option maxHeartbeats 4000000 in
theorem door_calls (A : Option Addr) (k sc : Nat) (Q : List (Nat × List Nat)) (hk : 1 ≤ k ∧ k ≤ 50) (hQ : GoodQ Q) (w : World) (hA : Sl w w.heap.size A k 2 (Q.flatMap seqC)) (hS : ∀ q ∈ Q, Sl w w.heap.size (some ⟨q.1, 0, none⟩) q.2.length 1 (FL q.2)) :
    Calls Try.prog 17 #[.slice A k sc] w (SeqPost w (tot Q k - 2 * k + 2) (ringL Q k)) := by
  obtain ⟨wA, hwA⟩ : ∃ wA, wA = w.alloc (.cells #[.int .u8 0, .slice none 0 0] 45) := ⟨_, rfl⟩
  have hbl : Below w.heap.size w wA := by rw [hwA]; exact (Below.refl _ _).alloc (Nat.le_refl _) _
  have hD : Blk wA w.heap.size 45 #[.int .u8 0, .slice none 0 0] := by rw [hwA]; exact Blk.new _ _ _
  have hlt : w.heap.size < wA.heap.size := hD.lt
  have HBC := Lib.hid (build_calls A k sc Q hk hQ wA (hA.up hbl) (fun q hq => (hS q hq).up hbl))
  have HBL := Lib.hid hbl
  have HD := Lib.hid hD
  have HWA := Lib.hid hwA
  have HLT := Lib.hid hlt
  obtain ⟨n, hn⟩ : ∃ n, n = tot Q k - 2 * k + 2 := ⟨_, rfl⟩
  rw [← hn] at HBC ⊢
  clear hA hS hQ hbl hD hwA hlt hn
  go_enter Try.func17, Try.ntmps17
  go_wp2_with fail
  rw [← HWA.out]
  refine HBC.out.mono ?_
  rintro e w1 ⟨g, rfl, hg, hs, hb⟩
  have hD1 := HD.out.below hb HD.out.lt
  obtain ⟨c0, c1, f0, f1, hl⟩ := cells2 hD1
  have HW1 := Lib.hid (HBL.out.trans (hb.mono HBL.out.size))
  have HS1 := Lib.hid hs
  have HG := Lib.hid hg
  clear hb hs hg hD1
  go_wp2_with fail
  refine bodyPost_ret (v := .agg #[.int .u8 0, .slice (some ⟨g, 0, none⟩) n n]) ?_ rfl (by
    refine ⟨g, rfl, Nat.le_trans HBL.out.size HG.out, ?_, (HW1.out.setCell (Nat.le_refl _) _).setCell (Nat.le_refl _) _⟩
    have hne : g ≠ w.heap.size := fun h => by have := HLT.out; have := HG.out; omega
    have := sl_far (sl_far HS1.out (p := ⟨w.heap.size, 0, none⟩) hne (.int .u8 0)) (p := ⟨w.heap.size, 1, none⟩) hne (.slice (some ⟨g, 0, none⟩) n n)
    simpa using this)
  simp [results, Try.results17, go_sem, c0, c1, hl]

/-- A line's four cells. -/
def lineC (p : Option Addr × Nat × List Nat) : List Value := [.int .i64 2, .int .i64 0, .slice p.1 p.2.2.length p.2.1, .slice none 0 0]
theorem lineC_len (p : Option Addr × Nat × List Nat) : (lineC p).length = 4 := rfl

theorem infoSeq : (Try.prog.info? 45).map (fun i => (i.zero, i.size, i.bytes)) = some (some (.agg #[.int .u8 0, .slice none 0 0]), 2, 32) := by kernel_rfl
end Go.Proofs.Ytmmlhbhnnhopdaa.ring
