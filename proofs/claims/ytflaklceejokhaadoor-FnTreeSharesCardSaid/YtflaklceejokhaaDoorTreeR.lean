/-
  The queue of a search by distance: Swap, Pop, Push.
-/
import Derived.Test.YtflaklceejokhaaDoorTreeQ
import Derived.Deep.RegionLaw
namespace Go.Proofs.YtflaklceejokhaaDoor.tree
open Go.ChangeShapes Go.WideShapes Go.ChangeAt Go.RowKit
open Go.Proofs.YtflaklceejokhaaDoor.mem Go.Proofs.YtflaklceejokhaaDoor.flt Ieee
set_option linter.unusedVariables false
set_option linter.unusedSimpArgs false

theorem HW.set {L : Nat} {w0 wr : World} {q : Nat} {o : Bx} {n : Nat} {f : Nat → En} {v : Value} (h : HW L w0 wr q o n f v) {b cap i : Nat} (hv : v = .slice (some ⟨b, 0, none⟩) n cap) (hi : i < n) {e : En} (he : e.q.At w0 L e.g e.o ∧ L ≤ e.g ∧ e.g < w0.heap.size ∧ e.q.Ok) :
    HW L w0 (wr.setCell ⟨b, i, none⟩ e.ptr) q o n (updE f i e) v := by
  have hbo : w0.heap.size ≤ b := (h.row.lt b (by rw [hv]; rfl)).1
  have hbq : b ≠ q := fun e => h.apart (by rw [hv, ← e]; rfl)
  refine ⟨⟨by simpa using h.keep.1, fun c h1 h2 => (Below.heap_setCell wr ⟨b, i, none⟩ _ c (fun e => by have : c = b := e; omega)).trans (h.keep.2 c h1 h2)⟩, h.qge, h.blk.far (fun e => hbq e.symm) _, row_set h.row hv hi e, h.apart, fun k hk => ?_, h.good⟩
  unfold updE
  split
  · exact he
  · exact h.ents k hk

set_option maxRecDepth 100000 in
set_option maxHeartbeats 8000000 in
theorem swapq_calls {L : Nat} {w0 wr : World} {q : Nat} {o : Bx} {n i j : Nat} {f : Nat → En} {v : Value} (hi : i < n) (hj : j < n) (h : HW L w0 wr q o n f v) :
    Calls Tryd.prog 70 #[.pointer (some ⟨q, 0, none⟩), .int .i64 i, .int .i64 j] wr fun e w' => e = .returned (.tuple #[]) ∧ HW L w0 w' q o n (swapE f i j) v ∧ Fr (fun b => some b = v.ownBlock) wr w' := by
  obtain ⟨b, k, hv, hbo, hbl, -, -, hcl⟩ := row_form h.row (by omega)
  have hbq : b ≠ q := fun e => h.apart (by rw [hv, ← e]; rfl)
  have c0 : wr.cell? ⟨q, 0, none⟩ = some v := h.blk.cell 0
  rw [hv] at c0
  have lq := h.blk.lt
  obtain ⟨di, ki⟩ := hcl i hi
  obtain ⟨dj, kj⟩ := hcl j hj
  have h1 := h.set hv hi (h.ents j hj)
  have hr1 : (wr.setCell ⟨b, i, none⟩ (f j).ptr).cell? ⟨b, j, none⟩ = some (updE f i (f j) j).ptr := by
    obtain ⟨b', k', hv', -, -, -, -, hcl'⟩ := row_form h1.row (by omega)
    rw [hv] at hv'
    cases hv'
    exact (hcl' j hj).1
  have h2 := h1.set hv hj (h.ents i hi)
  rw [swapE_eq] at h2
  have hF : Fr (fun x => some x = v.ownBlock) wr ((wr.setCell ⟨b, i, none⟩ (f j).ptr).setCell ⟨b, j, none⟩ (f i).ptr) :=
    (Fr.set wr ⟨b, i, none⟩ _ (by rw [hv]; rfl)).trans (Fr.set _ ⟨b, j, none⟩ _ (by rw [hv]; rfl)) (fun x _ hx => hx)
  obtain ⟨z, hz⟩ : ∃ z, (updE f i (f j) j).ptr = z := ⟨_, rfl⟩
  rw [hz] at hr1
  have hend : HW L w0 ((wr.setCell ⟨b, i, none⟩ (f j).ptr).setCell ⟨b, j, none⟩ (f i).ptr).drew q o n (swapE f i j) v ∧ Fr (fun x => some x = v.ownBlock) wr ((wr.setCell ⟨b, i, none⟩ (f j).ptr).setCell ⟨b, j, none⟩ (f i).ptr).drew := ⟨h2.below (Below.refl _ _).drew, hF.trans (Fr.of_below (F := fun _ => False) (Below.refl _ _).drew) (fun _ _ hx => hx.elim)⟩
  unfold En.ptr at di dj hr1 hend
  obtain ⟨⟨g1, o1, q1⟩, hf1⟩ : ∃ z, f i = z := ⟨_, rfl⟩
  obtain ⟨⟨g2, o2, q2⟩, hf2⟩ : ∃ z, f j = z := ⟨_, rfl⟩
  rw [hf1] at di
  rw [hf2] at dj hr1
  rw [hf1, hf2] at hend
  simp only at di dj hr1 hend
  have HEND := Lib.hid hend
  have i0 : (0 : Int) ≤ (i : Int) := Int.natCast_nonneg _
  have j0 : (0 : Int) ≤ (j : Int) := Int.natCast_nonneg _
  have i1 : (i : Int) < (n : Int) := by omega
  have j1 : (j : Int) < (n : Int) := by omega
  clear h hcl h1 h2 hF hz hf1 hf2 hend
  go_enter Tryd.func70, Tryd.ntmps70
  go_wp2_with fail
  go_region
  refine bodyPost_end (results_none rfl _ _ _) rfl ⟨rfl, HEND.out⟩

theorem infoE : (Tryd.prog.info? 89).map (fun i => (i.zero, i.size, i.bytes)) = some (some (.pointer none), 1, 8) := by kernel_rfl

theorem HW.pop {L : Nat} {w0 wr : World} {q : Nat} {o : Bx} {n : Nat} {f : Nat → En} {v : Value} (h : HW L w0 wr q o n f v) {b cap : Nat} (hv : v = .slice (some ⟨b, 0, none⟩) n cap) (hn : 0 < n) :
    HW L w0 (wr.setCell ⟨q, 0, none⟩ (.slice (some ⟨b, 0, none⟩) (n - 1) cap)) q o (n - 1) f (.slice (some ⟨b, 0, none⟩) (n - 1) cap) := by
  have hbq : b ≠ q := fun e => h.apart (by rw [hv, ← e]; rfl)
  have hq := h.qge
  refine ⟨⟨by simpa using h.keep.1, fun c h1 h2 => (Below.heap_setCell wr ⟨q, 0, none⟩ _ c (fun e => by have : c = q := e; omega)).trans (h.keep.2 c h1 h2)⟩, hq, ?_, ?_, fun e => hbq (Option.some.inj e), fun k hk => h.ents k (by omega), h.good⟩
  · have := h.blk.set_ 0 (.slice (some ⟨b, 0, none⟩) (n - 1) cap)
    simpa using this
  · exact (row_pop h.row hn hv).kept (grown_set wr ⟨q, 0, none⟩ _) (.inr fun e => hbq (Option.some.inj e))

set_option maxRecDepth 100000 in
set_option maxHeartbeats 8000000 in
theorem popq_calls {L : Nat} {w0 wr : World} {q : Nat} {o : Bx} {n : Nat} {f : Nat → En} {v : Value} (hn : 0 < n) (hn2 : n ≤ 100000) (h : HW L w0 wr q o n f v) :
    Calls Tryd.prog 68 #[.pointer (some ⟨q, 0, none⟩)] wr fun e w' => e = .returned (.iface 89 (f (n - 1)).ptr) ∧ ∃ v', HW L w0 w' q o (n - 1) f v' ∧ v'.ownBlock = v.ownBlock ∧ Fr (fun b => b = q) wr w' := by
  obtain ⟨b, k, hv, hbo, hbl, hnk, -, hcl⟩ := row_form h.row hn
  have c0 : wr.cell? ⟨q, 0, none⟩ = some v := h.blk.cell 0
  rw [hv] at c0
  have k0 : wr.frozen? ⟨q, 0, none⟩ = false := h.blk.frozen 0 (show 0 < 5 by omega)
  have lq := h.blk.lt
  obtain ⟨m, hm⟩ : ∃ m, m = n - 1 := ⟨_, rfl⟩
  have di := (hcl m (by omega)).1
  have HH := Lib.hid h
  have hn1 : n - 1 = m := hm.symm
  have HN1 := Lib.hid hn1
  rw [← hm]
  have y1 : IntKind.i64.wrap ((n : Int) - 1) = (m : Int) := by rw [show (n : Int) - 1 = ((m : Nat) : Int) by omega]; exact IntWalk.i64_in _ (by omega)
  have y2 : wrap64 ((n : Int) - 1) = (m : Int) := by unfold wrap64; omega
  have m0 : (0 : Int) ≤ (m : Int) := Int.natCast_nonneg _
  have m1 : (m : Int) < (n : Int) := by omega
  have m2 : (m : Int) ≤ (n : Int) := by omega
  have m3 : (m : Int) ≤ (k : Int) := by omega
  obtain ⟨z, hz⟩ : ∃ z, (f m).ptr = z := ⟨_, rfl⟩
  have hz2 : z = .pointer (some ⟨(f m).g, (f m).o, none⟩) := hz.symm
  rw [hz] at di ⊢
  obtain ⟨ga, hga⟩ : ∃ ga, ga = (f m).g := ⟨_, rfl⟩
  obtain ⟨oa, hoa⟩ : ∃ oa, oa = (f m).o := ⟨_, rfl⟩
  rw [← hga, ← hoa] at hz2
  subst hz2
  have HV := Lib.hid hv
  clear h hcl hz hga hoa hm hv hn1
  go_enter Tryd.func68, Tryd.ntmps68
  go_wp2_with fail
  go_still_tail 12, (by kernel_rfl)
  change wpList _ _ _ _ _ wr.drew
  go_wp2_with fail
  have hD := HH.out.below (Below.refl _ wr).drew
  have hFD : Fr (fun x => x = q) wr wr.drew := Fr.of_below (Below.refl _ wr).drew
  obtain ⟨wD, hwD⟩ : ∃ wD, wD = wr.drew := ⟨_, rfl⟩
  rw [← hwD] at hD hFD ⊢
  have e0 : wD.cell? ⟨q, 0, none⟩ = some v := hD.blk.cell 0
  rw [HV.out] at e0
  have l0 : wD.frozen? ⟨q, 0, none⟩ = false := hD.blk.frozen 0 (show 0 < 5 by omega)
  have lD := hD.blk.lt
  have h1 := (hD.pop HV.out hn).below (Below.refl _ _).drew
  have hF : Fr (fun x => x = q) wr (wD.setCell ⟨q, 0, none⟩ (.slice (some ⟨b, 0, none⟩) (n - 1) k)).drew :=
    (hFD.trans (Fr.set (F := fun x => x = q) wD ⟨q, 0, none⟩ _ rfl) (fun _ _ hx => hx)).trans (Fr.of_below (F := fun _ => False) (Below.refl _ _).drew) (fun _ _ hx => hx.elim)
  rw [HN1.out] at h1 hF
  have H1 := Lib.hid h1
  have HF := Lib.hid hF
  clear h1 hF hwD hD hFD c0 k0 di
  go_still_tail 14, (by kernel_rfl)
  change wpList _ _ _ _ _ wD.drew
  go_wp2_with fail
  exact bodyPost_ret (v := .iface 89 (.pointer (some ⟨ga, oa, none⟩))) (by simp [results, Tryd.results68, go_sem]) rfl ⟨rfl, _, H1.out, by rw [HV.out]; rfl, HF.out⟩

theorem HW.push {L : Nat} {w0 wr w' : World} {q : Nat} {o : Bx} {n : Nat} {f : Nat → En} {v v' : Value} (h : HW L w0 wr q o n f v) (e : En) (he : e.q.At w0 L e.g e.o ∧ L ≤ e.g ∧ e.g < w0.heap.size ∧ e.q.Ok) (hg : wr.grownBy w' v.ownBlock)
    (hr : w'.ownsRow w0.heap.size 89 1 v' (n + 1) (ptrs n f ++ [e.ptr])) (hb : v'.ownBlock = v.ownBlock ∨ ∃ k, wr.heap.size ≤ k ∧ v'.ownBlock = some k) :
    HW L w0 (w'.setCell ⟨q, 0, none⟩ v') q o (n + 1) (updE f n e) v' ∧ Fr (fun b => b = q ∨ some b = v.ownBlock) wr (w'.setCell ⟨q, 0, none⟩ v') := by
  have hq := h.qge
  have hql := h.blk.lt
  have ap : v'.ownBlock ≠ some q := by
    rcases hb with hb | ⟨k, h1, h2⟩
    · rw [hb]; exact h.apart
    · rw [h2]; intro e; have := Option.some.inj e; omega
  have hvl : ∀ k, v.ownBlock = some k → w0.heap.size ≤ k := fun k hk => (h.row.lt k hk).1
  refine ⟨⟨⟨by have := h.keep.1; have := hg.size; simp; omega, fun c h1 h2 => ((Below.heap_setCell w' ⟨q, 0, none⟩ v' c (fun e => by have : c = q := e; omega)).trans (hg.block c (by have := h.keep.1; omega) (fun e => by have := hvl c e.symm; omega))).trans (h.keep.2 c h1 h2)⟩, hq, ?_, ?_, ap, fun k hk => ?_, h.good⟩, ?_⟩
  · have := (h.blk.grown hg (fun e => h.apart e.symm)).set_ 0 v'
    simpa using this
  · rw [ptrs_succ] at hr
    exact hr.kept (grown_set w' ⟨q, 0, none⟩ v') (by cases hv : v'.ownBlock with
      | none => exact .inl rfl
      | some k => exact .inr (fun e => ap (by rw [hv]; exact e)))
  · unfold updE
    split
    · exact he
    · exact h.ents k (by omega)
  · exact ⟨hg.os, hg.tape, hg.output, by simpa using hg.size, fun b hb hF => (Below.heap_setCell w' ⟨q, 0, none⟩ v' b (fun e => hF (.inl e))).trans (hg.block b hb (fun e => hF (.inr e)))⟩
end Go.Proofs.YtflaklceejokhaaDoor.tree
