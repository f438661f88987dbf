/-
  The queue of a search by distance: Push; calls through the interface.
-/
import Derived.Test.YtflaklceejokhaaDoorTreeR
namespace Go.Proofs.YtflaklceejokhaaDoor.tree
open Go.ChangeShapes Go.WideShapes Go.ChangeAt Go.RowKit
open Go.Proofs.YtflaklceejokhaaDoor.mem Go.Proofs.YtflaklceejokhaaDoor.flt Ieee
set_option linter.unusedVariables false
set_option linter.unusedSimpArgs false

theorem taE (p : Addr) (w : World) : (Instr.typeAssert (.iface 89 (.pointer (some p))) 20 89 false).run Tryd.prog w = .ok (.pointer (some p)) w := by kernel_rfl

def PushPost (L : Nat) (w0 wr : World) (q : Nat) (o : Bx) (n : Nat) (f : Nat → En) (v : Value) (e : Ending) (w' : World) : Prop :=
  e = .returned (.tuple #[]) ∧ ∃ v', HW L w0 w' q o n f v' ∧ (v'.ownBlock = v.ownBlock ∨ ∃ k, wr.heap.size ≤ k ∧ v'.ownBlock = some k) ∧ Fr (fun b => b = q ∨ some b = v.ownBlock) wr w'

set_option maxRecDepth 100000 in
set_option maxHeartbeats 8000000 in
theorem pushq_calls {L : Nat} {w0 wr : World} {q : Nat} {o : Bx} {n g a : Nat} {f : Nat → En} {v : Value} {Z : Q} (hn2 : n ≤ 100000) (hE : Z.At w0 L g a ∧ L ≤ g ∧ g < w0.heap.size ∧ Z.Ok) (h : HW L w0 wr q o n f v) :
    Calls Tryd.prog 69 #[.pointer (some ⟨q, 0, none⟩), .iface 89 (.pointer (some ⟨g, a, none⟩))] wr (PushPost L w0 wr q o (n + 1) (updE f n ⟨g, a, Z⟩) v) := by
  obtain ⟨i0, hi0, hz0, hz1, hz2⟩ := info_parts infoE
  have c0 : wr.cell? ⟨q, 0, none⟩ = some v := h.blk.cell 0
  have k0 : wr.frozen? ⟨q, 0, none⟩ = false := h.blk.frozen 0 (show 0 < 5 by omega)
  have lq := h.blk.lt
  have hq0 := h.qge
  obtain ⟨A, k, hv⟩ := own_slice h.row
  rw [hv] at c0
  have HV := Lib.hid hv
  have hta := taE ⟨g, a, none⟩
  have HH := Lib.hid h
  have HE := Lib.hid hE
  have hone : ∀ u ∈ [Value.pointer (some ⟨g, a, none⟩)], u.oneCell' = true := by intro u hu; simp at hu; rw [hu]; rfl
  have HONE := Lib.hid hone
  have hw0 := h.keep.1
  have ap : (Value.slice A n k).ownBlock ≠ some q := by rw [← hv]; exact h.apart
  have AP := Lib.hid ap
  clear h hv hE hone ap
  go_enter Tryd.func69, Tryd.ntmps69
  go_wp2_with fail
  go_region_law (first
    | (refine step_append_lies _ (by rfl) _ _ _ (by rfl) w0.heap.size 89 i0 _ 1 8 Tryd.underlying84 hi0 hz0 hz1 hz2 rfl (by omega) (.slice A n k) n (ptrs n f) (by rfl) (HV.out ▸ ((HH.out.row.alloc _).drew))
        ⟨wr.heap.size, 0, none⟩ 1 1 [.pointer (some ⟨g, a, none⟩)] (by rfl) (by rfl) (World.news_of_block (cs := #[.pointer (some ⟨g, a, none⟩)]) (t := 89) (fr := (0, 0)) (heap_alloc_new wr _)) HONE.out
        (by omega) (by unfold maxLen; omega) (by omega) (by simp; omega) (wr.heap.size + 1) (by simp) ?_; intro gg cap w8 hown' hgrow hat hlt'
       have hbX := ((Below.refl wr.heap.size wr).alloc (Nat.le_refl _) (.cells #[.pointer (some ⟨g, a, none⟩)] 89)).drew
       have y0 : w8.cell? ⟨q, 0, none⟩ = some (.slice A n k) := (hgrow.cell_far _ (by simp; omega) (Ne.symm AP.out)).trans ((hbX.cell (p := ⟨q, 0, none⟩) lq).trans c0)
       have y1 : w8.frozen? ⟨q, 0, none⟩ = false := (hgrow.frozen_far _ (by simp; omega) (Ne.symm AP.out)).trans ((hbX.frozen (p := ⟨q, 0, none⟩) lq).trans k0)
       have hgw : wr.grownBy w8 v.ownBlock := by rw [HV.out]; exact grown_trans ⟨hbX.os, hbX.tape, hbX.output, hbX.size, fun i hi _ => hbX.block i hi⟩ hgrow
       have hatw : (Value.slice (some ⟨gg, 0, none⟩) (n + 1) cap).ownBlock = v.ownBlock ∨ ∃ k, wr.heap.size ≤ k ∧ (Value.slice (some ⟨gg, 0, none⟩) (n + 1) cap).ownBlock = some k := by
         rw [HV.out]
         rcases hat with h | h
         · exact .inl h.symm
         · exact .inr ⟨gg, by omega, rfl⟩
       have hend := HH.out.push ⟨g, a, Z⟩ HE.out hgw hown' hatw))
  all_goals exact bodyPost_end (results_none rfl _ _ _) rfl ⟨rfl, _, hend.1, hatw, hend.2⟩
end Go.Proofs.YtflaklceejokhaaDoor.tree
