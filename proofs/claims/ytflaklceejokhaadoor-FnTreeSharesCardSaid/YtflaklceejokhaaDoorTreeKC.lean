/-
  The laws' own conditions: kItems.
-/
import Derived.Test.YtflaklceejokhaaDoorTreeKB
import Derived.Test.YtflaklceejokhaaDoorMap
import Derived.Test.YtflaklceejokhaaDoorTreeS5
namespace Go.Proofs.YtflaklceejokhaaDoor.tree
open Go.ChangeShapes Go.WideShapes Go.ChangeAt Go.RowKit
open Go.Proofs.YtflaklceejokhaaDoor.mem Go.Proofs.YtflaklceejokhaaDoor.flt Ieee
set_option linter.unusedVariables false
set_option linter.unusedSimpArgs false

/-- What a tree is made of. -/
structure GoodIts (n : Nat) (f : Nat → It) : Prop where
  few : n ≤ 400
  box : ∀ i, i < n → Gd (f i).b
  ids : ∀ i j, i < j → j < n → (f i).id ≠ (f j).id

set_option maxRecDepth 100000 in
set_option maxHeartbeats 8000000 in
theorem kItems_calls (A : Option Addr) (n c : Nat) (f : Nat → It) (hw : ∀ i, i < n → (Lit.int .i64 (f i).id).wf = true) (w : World) (hR : Rd w A n f) :
    Calls Tryd.prog 5 #[.slice A n c] w fun e w' => ∃ t, e = .returned (.bool t) ∧ (t = true → GoodIts n f) ∧ Below w.heap.size w w' := by
  have HR := Lib.hid hR
  have HWF := Lib.hid hw
  have hmm := @run_makeMap Tryd.prog
  clear hR hw
  by_cases h4 : 400 < n
  · have t4 : (400 : Int) < (n : Int) := by omega
    go_enter Tryd.func5, Tryd.ntmps5
    go_wp2_with fail
    exact bodyPost_ret (v := .bool false) (by simp [results, go_sem]) rfl ⟨_, rfl, (fun h => by cases h), Below.refl _ _⟩
  · have t4 : (n : Int) ≤ 400 := by omega
    have hM0 := BM.made w
    have HM0 := Lib.hid hM0
    clear hM0
    go_enter Tryd.func5, Tryd.ntmps5
    go_wp2_with fail
    go_loopg [12] n (fun q ci wr => ∃ (i : Nat) (g : Int → Bool), i + q = n ∧ ci = .int .i64 (i : Nat) ∧ BM wr w.heap.size i g ∧ (∀ z, g z = true ↔ ∃ j, j < i ∧ (f j).id = z) ∧ (∀ j, j < i → Gd (f j).b) ∧ (∀ j k, j < k → k < i → (f j).id ≠ (f k).id) ∧ Below w.heap.size w wr)
    case atStart => exact ⟨0, _, by omega, by go_num, HM0.out, fun z => ⟨fun h => (by cases h), fun ⟨j, hj, _⟩ => absurd hj (by omega)⟩, fun j hj => absurd hj (by omega), fun j k _ hk => absurd hk (by omega), (Below.refl _ _).alloc (Nat.le_refl _) _⟩
    case round =>
      obtain ⟨i, g, hi', rfl, hbm, hg, hgd, hne, hbl⟩ := hrel
      have HI := Lib.hid hi'
      have HBM := Lib.hid hbm
      have HGG := Lib.hid hg
      have HGD := Lib.hid hgd
      have HNE := Lib.hid hne
      have HBL := Lib.hid hbl
      have hin : i ≤ n := by omega
      have hlw := hbm.lt
      clear hi' hbm hg hgd hne hbl
      by_cases hlt : i < n
      · obtain ⟨gb, off, hA, hgb, hcells⟩ := HR.out (by omega)
        have d0 := (HBL.out.cell (p := ⟨gb, off + i * 5 + 0, none⟩) hgb).trans (hcells i hlt 0 (by omega))
        have d1 := (HBL.out.cell (p := ⟨gb, off + i * 5 + 1, none⟩) hgb).trans (hcells i hlt 1 (by omega))
        have d2 := (HBL.out.cell (p := ⟨gb, off + i * 5 + 2, none⟩) hgb).trans (hcells i hlt 2 (by omega))
        have d3 := (HBL.out.cell (p := ⟨gb, off + i * 5 + 3, none⟩) hgb).trans (hcells i hlt 3 (by omega))
        have d4 := (HBL.out.cell (p := ⟨gb, off + i * 5 + 4, none⟩) hgb).trans (hcells i hlt 4 (by omega))
        rw [Nat.add_zero] at d0
        simp only [itC] at d0 d1 d2 d3 d4
        obtain ⟨q, hfi⟩ : ∃ q, f i = q := ⟨_, rfl⟩
        rw [hfi] at d0 d1 d2 d3 d4
        have hwf := HWF.out i hlt
        rw [hfi] at hwf
        have HFI := Lib.hid hfi
        subst hA
        have hltI : (i : Int) < (n : Int) := by omega
        have hne : gb ≠ w.heap.size := by omega
        have hkb := kBox_calls q.b
        unfold bxA at hkb
        have HKB := Lib.hid hkb
        clear hfi hcells hkb
        go_wp2_with fail
        refine (HKB.out _).mono ?_
        rintro e w1 ⟨t1, rfl, ht1, hb1⟩
        have hN : Blk (wr.alloc (.cells #[.float .f64 q.b.x0, .float .f64 q.b.y0, .float .f64 q.b.x1, .float .f64 q.b.y1, .int .i64 q.id] 43)) wr.heap.size 43 (itA q) := Blk.new _ _ _
        have hbB : Below wr.heap.size wr (wr.alloc (.cells #[.float .f64 q.b.x0, .float .f64 q.b.y0, .float .f64 q.b.x1, .float .f64 q.b.y1, .int .i64 q.id] 43)) := (Below.refl _ _).alloc (Nat.le_refl _) _
        have hb01 : Below wr.heap.size wr w1 := hbB.trans (hb1.mono (by simp))
        have n4 : w1.cell? ⟨wr.heap.size, 4, none⟩ = some (.int .i64 q.id) := (hb1.cell (p := ⟨wr.heap.size, 4, none⟩) (by simp)).trans (hN.cell 4)
        have HBL1 := Lib.hid (HBL.out.trans (hb01.mono HBL.out.size))
        have HBM1 := Lib.hid (HBM.out.below hb01)
        have HWQ := Lib.hid hwf
        have hlk := HBM1.out.lookup Tryd.underlying44 q.id hwf
        have HT1 := Lib.hid ht1
        clear d0 d1 d2 d3 d4 hN hbB hb01 hb1 ht1
        cases t1 with
        | false =>
          go_wp2_with fail
          exact bodyPost_ret (v := .bool false) (by simp [results, go_sem]) rfl ⟨_, rfl, (fun h => by cases h), HBL1.out⟩
        | true =>
          obtain ⟨u, hu⟩ : ∃ u, u = g q.id := ⟨_, rfl⟩
          rw [← hu] at hlk
          have HU := Lib.hid hu
          clear hu
          cases u with
          | true =>
            go_wp2_with fail
            exact bodyPost_ret (v := .bool false) (by simp [results, go_sem]) rfl ⟨_, rfl, (fun h => by cases h), HBL1.out⟩
          | false =>
            have hgd := HT1.out rfl
            have HGQ := Lib.hid hgd
            clear hgd
            go_wp2_with (refine wpList_put_bm (o := ⟨none, .mapUpdate _ _ _ _, _, _, _, _⟩) _ rfl _ _ _ 44 (.inl rfl) Tryd.underlying44 w.heap.size i g rfl HBM1.out q.id rfl HWQ.out true rfl (by unfold maxLen; omega) ?_; intro w4 hm4 hg4
                         have HM4 := Lib.hid hm4
                         have HB4 := Lib.hid (HBL1.out.grown hg4 HBL1.out.size (fun x hx => by have : w.heap.size = x := Option.some.inj hx; omega))
                         clear hm4 hg4)
            go_roundg (n - (i + 1))
            case measure => have := HI.out; omega
            case rel =>
              refine ⟨i + 1, _, by omega, by go_num, HM4.out, fun z => ?_, fun j hj => ?_, fun j k hjk hk => ?_, HB4.out⟩
              · by_cases e : z = q.id
                · subst e
                  simp only [if_true]
                  exact ⟨fun _ => ⟨i, by omega, by rw [HFI.out]⟩, fun _ => trivial⟩
                · simp only [e, if_false]
                  rw [HGG.out z]
                  constructor
                  · rintro ⟨j, hj, h⟩; exact ⟨j, by omega, h⟩
                  · rintro ⟨j, hj, h⟩
                    refine ⟨j, ?_, h⟩
                    by_cases e2 : j = i
                    · subst e2; rw [HFI.out] at h; exact absurd h.symm e
                    · omega
              · by_cases e2 : j = i
                · subst e2; rw [HFI.out]; exact HGQ.out
                · exact HGD.out j (by omega)
              · by_cases e2 : k = i
                · subst e2
                  intro h
                  have : g q.id = true := (HGG.out q.id).2 ⟨j, hjk, by rw [h, HFI.out]⟩
                  rw [← HU.out] at this
                  cases this
                · exact HNE.out j k hjk (by omega)
      · have hin2 : i = n := by omega
        have HIN := Lib.hid hin2
        have hltI : (n : Int) ≤ (i : Int) := by omega
        clear hin2
        go_wp2_with fail
        refine bodyPost_ret (v := .bool true) (by simp [results, go_sem]) rfl ⟨_, rfl, fun _ => ⟨by omega, ?_, ?_⟩, HBL.out⟩
        · have := HGD.out; rw [HIN.out] at this; exact this
        · have := HNE.out; rw [HIN.out] at this; exact this
end Go.Proofs.YtflaklceejokhaaDoor.tree
