/-
  The laws' own conditions: kAsked; that each question is answered.
-/
import Derived.Test.YtflaklceejokhaaDoorTreeKC
import Derived.Test.YtflaklceejokhaaDoorTreeX4
import Derived.Test.YtflaklceejokhaaDoorTreeS9
namespace Go.Proofs.YtflaklceejokhaaDoor.tree
open Go.ChangeShapes Go.WideShapes Go.ChangeAt Go.RowKit
open Go.Proofs.YtflaklceejokhaaDoor.mem Go.Proofs.YtflaklceejokhaaDoor.flt Ieee
set_option linter.unusedVariables false
set_option linter.unusedSimpArgs false

def GoodAsk (a : Ask) : Prop := 0 ≤ a.act ∧ a.act ≤ 4 ∧ Gd a.b

def AskedPost (w : World) (m : Nat) (qs : Nat → Ask) (e : Ending) (w' : World) : Prop := ∃ t, e = .returned (.bool t) ∧ (t = true → m ≤ 60 ∧ ∀ i, i < m → GoodAsk (qs i)) ∧ Below w.heap.size w w'

set_option maxRecDepth 100000 in
set_option maxHeartbeats 16000000 in
theorem kAsked_calls (A : Option Addr) (m c : Nat) (items : Int) (qs : Nat → Ask) (w : World) (hR : AskR w A m qs) :
    Calls Tryd.prog 6 #[.slice A m c, .int .i64 items] w (AskedPost w m qs) := by
  have HR := Lib.hid hR
  clear hR
  by_cases h4 : 60 < m
  · have t4 : (60 : Int) < (m : Int) := by omega
    go_enter Tryd.func6, Tryd.ntmps6
    go_wp2_with fail
    exact bodyPost_ret (v := .bool false) (by simp [results, go_sem]) rfl ⟨_, rfl, (fun h => by cases h), Below.refl _ _⟩
  · have t4 : (m : Int) ≤ 60 := by omega
    go_enter Tryd.func6, Tryd.ntmps6
    go_wp2_with fail
    go_loopg [12] m (fun q ci wr => ∃ (i : Nat), i + q = m ∧ ci = .int .i64 (i : Nat) ∧ (∀ j, j < i → GoodAsk (qs j)) ∧ Below w.heap.size w wr)
    case atStart => exact ⟨0, by omega, by go_num, fun j hj => absurd hj (by omega), Below.refl _ _⟩
    case round =>
      obtain ⟨i, hi', rfl, hgd, hbl⟩ := hrel
      have HI := Lib.hid hi'
      have HGD := Lib.hid hgd
      have HBL := Lib.hid hbl
      have hin : i ≤ m := by omega
      clear hi' hgd hbl
      by_cases hlt : i < m
      · obtain ⟨g, off, hAq, hg, hcells⟩ := HR.out (by omega)
        have d : ∀ cc u, (askA (qs i))[cc]? = some u → wr.cell? ⟨g, off + i * 7 + cc, none⟩ = some u := fun cc u hu => (HBL.out.cell (p := ⟨g, off + i * 7 + cc, none⟩) hg).trans (hcells i hlt cc u hu)
        obtain ⟨⟨a0, ⟨a1, a2, a3, a4⟩, a5, a6⟩, hq⟩ : ∃ q, qs i = q := ⟨_, rfl⟩
        rw [hq] at d
        have d0 : wr.cell? ⟨g, off + i * 7, none⟩ = some (.int .i64 a0) := d 0 _ rfl
        have d1 : wr.cell? ⟨g, off + i * 7 + 1, none⟩ = some (.float .f64 a1) := d 1 _ rfl
        have d2 : wr.cell? ⟨g, off + i * 7 + 2, none⟩ = some (.float .f64 a2) := d 2 _ rfl
        have d3 : wr.cell? ⟨g, off + i * 7 + 3, none⟩ = some (.float .f64 a3) := d 3 _ rfl
        have d4 : wr.cell? ⟨g, off + i * 7 + 4, none⟩ = some (.float .f64 a4) := d 4 _ rfl
        have d5 : wr.cell? ⟨g, off + i * 7 + 5, none⟩ = some (.int .i64 a5) := d 5 _ rfl
        have d6 : wr.cell? ⟨g, off + i * 7 + 6, none⟩ = some (.int .i64 a6) := d 6 _ rfl
        subst hAq
        have HQE := Lib.hid hq
        have hltI : (i : Int) < (m : Int) := by omega
        have hkb := kBox_calls ⟨a1, a2, a3, a4⟩
        unfold bxA at hkb
        simp only at hkb
        have HKB := Lib.hid hkb
        have hbB : Below wr.heap.size wr (wr.alloc (.cells #[.int .i64 a0, .float .f64 a1, .float .f64 a2, .float .f64 a3, .float .f64 a4, .int .i64 a5, .int .i64 a6] 34)) := (Below.refl _ _).alloc (Nat.le_refl _) _
        have HBLB := Lib.hid (HBL.out.trans (hbB.mono HBL.out.size))
        have HBB := Lib.hid hbB
        clear hcells d hq hkb hbB
        by_cases s0 : a0 < 0
        · go_wp2_with fail
          exact bodyPost_ret (v := .bool false) (by simp [results, go_sem]) rfl ⟨_, rfl, (fun h => by cases h), HBLB.out⟩
        · by_cases s1 : 4 < a0
          · have s00 : 0 ≤ a0 := by omega
            go_wp2_with fail
            exact bodyPost_ret (v := .bool false) (by simp [results, go_sem]) rfl ⟨_, rfl, (fun h => by cases h), HBLB.out⟩
          · have s00 : 0 ≤ a0 := by omega
            have s11 : a0 ≤ 4 := by omega
            clear s0 s1
            go_wp2_with fail
            refine (HKB.out _).mono ?_
            rintro e w1 ⟨t1, rfl, ht1, hb1⟩
            have hN : Blk (wr.alloc (.cells #[.int .i64 a0, .float .f64 a1, .float .f64 a2, .float .f64 a3, .float .f64 a4, .int .i64 a5, .int .i64 a6] 34)) wr.heap.size 34 #[.int .i64 a0, .float .f64 a1, .float .f64 a2, .float .f64 a3, .float .f64 a4, .int .i64 a5, .int .i64 a6] := Blk.new _ _ _
            have hN1 := hN.below hb1 hN.lt
            have n0 : w1.cell? ⟨wr.heap.size, 0, none⟩ = some (.int .i64 a0) := hN1.cell 0
            have n5 : w1.cell? ⟨wr.heap.size, 5, none⟩ = some (.int .i64 a5) := hN1.cell 5
            have n6 : w1.cell? ⟨wr.heap.size, 6, none⟩ = some (.int .i64 a6) := hN1.cell 6
            have HBL1 := Lib.hid (HBL.out.trans ((HBB.out.trans (hb1.mono (by simp))).mono HBL.out.size))
            have HT1 := Lib.hid ht1
            clear d0 d1 d2 d3 d4 d5 d6 hN hN1 hb1 ht1
            cases t1 with
            | false =>
              go_wp2_with fail
              refine bodyPost_ret (v := .bool false) (by simp [results, go_sem]) rfl ⟨_, rfl, (fun h => by cases h), HBL1.out⟩
            | true =>
              have HGQ : Hid (Gd ⟨a1, a2, a3, a4⟩) := Lib.hid (HT1.out rfl)
              by_cases u1 : a5 < 0
              · go_wp2_with fail
                refine bodyPost_ret (v := .bool false) (by simp [results, go_sem]) rfl ⟨_, rfl, (fun h => by cases h), HBL1.out⟩
              · have u11 : 0 ≤ a5 := by omega
                by_cases u2 : a6 < 0
                · go_wp2_with fail
                  refine bodyPost_ret (v := .bool false) (by simp [results, go_sem]) rfl ⟨_, rfl, (fun h => by cases h), HBL1.out⟩
                · have u22 : 0 ≤ a6 := by omega
                  by_cases u3 : 3 < a6
                  · go_wp2_with fail
                    refine bodyPost_ret (v := .bool false) (by simp [results, go_sem]) rfl ⟨_, rfl, (fun h => by cases h), HBL1.out⟩
                  · have u33 : a6 ≤ 3 := by omega
                    clear u1 u2 u3
                    by_cases v1 : a0 = 0
                    · have v11 : (a0 == 0) = true := by simp [v1]
                      have V1 := Lib.hid v1
                      clear v1
                      by_cases v2 : 0 < a5
                      · by_cases v3 : a6 < 2
                        · by_cases v4 : 4 < items
                          · go_wp2_with fail
                            refine bodyPost_ret (v := .bool false) (by simp [results, go_sem]) rfl ⟨_, rfl, (fun h => by cases h), HBL1.out⟩
                          · have v44 : items ≤ 4 := by omega
                            clear v4
                            go_wp2_with fail
                            go_roundg (m - (i + 1))
                            case measure => have := HI.out; omega
                            case rel =>
                              refine ⟨i + 1, by omega, by go_num, fun j hj => ?_, HBL1.out⟩
                              by_cases e2 : j = i
                              · subst e2; rw [HQE.out]; exact ⟨by omega, by omega, HGQ.out⟩
                              · exact HGD.out j (by omega)
                        · have v33 : 2 ≤ a6 := by omega
                          clear v3
                          go_wp2_with fail
                          go_roundg (m - (i + 1))
                          case measure => have := HI.out; omega
                          case rel =>
                            refine ⟨i + 1, by omega, by go_num, fun j hj => ?_, HBL1.out⟩
                            by_cases e2 : j = i
                            · subst e2; rw [HQE.out]; exact ⟨by omega, by omega, HGQ.out⟩
                            · exact HGD.out j (by omega)
                      · have v22 : a5 ≤ 0 := by omega
                        clear v2
                        go_wp2_with fail
                        go_roundg (m - (i + 1))
                        case measure => have := HI.out; omega
                        case rel =>
                          refine ⟨i + 1, by omega, by go_num, fun j hj => ?_, HBL1.out⟩
                          by_cases e2 : j = i
                          · subst e2; rw [HQE.out]; exact ⟨by omega, by omega, HGQ.out⟩
                          · exact HGD.out j (by omega)
                    · have v11 : (a0 == 0) = false := by simp [v1]
                      have V1 := Lib.hid v1
                      clear v1
                      go_wp2_with fail
                      go_roundg (m - (i + 1))
                      case measure => have := HI.out; omega
                      case rel =>
                        refine ⟨i + 1, by omega, by go_num, fun j hj => ?_, HBL1.out⟩
                        by_cases e2 : j = i
                        · subst e2; rw [HQE.out]; exact ⟨by omega, by omega, HGQ.out⟩
                        · exact HGD.out j (by omega)
      · have hin2 : i = m := by omega
        have HIN := Lib.hid hin2
        have hltI : (m : Int) ≤ (i : Int) := by omega
        clear hin2
        go_wp2_with fail
        refine bodyPost_ret (v := .bool true) (by simp [results, go_sem]) rfl ⟨_, rfl, fun _ => ⟨by omega, ?_⟩, HBL.out⟩
        have := HGD.out; rw [HIN.out] at this; exact this

/-- What a question is answered. -/
def ansOf (n : Nat) (K : Nat × (Nat → Q)) (a : Ask) : An :=
  if a.act = 0 then anR (rsF n K (ansT a.stop a.how) a.b)
  else if a.act = 1 then anR (psF n K (ansT a.stop a.how) a.b)
  else if a.act = 2 then anO (!(neF n K a.b).isEmpty) ((neF n K a.b).getLastD 0) ⟨0, 0, 0, 0⟩ 0
  else if a.act = 3 then anO (decide (0 < n)) 0 (exF n K) 0
  else anO false 0 ⟨0, 0, 0, 0⟩ n

theorem rounds_ok (n : Nat) (f : Nat → It) (hn : n ≤ 400) : sumF (fun i => ((bq n n f).2 i).rounds) (bq n n f).1 ≤ 10000 := by
  by_cases h : n = 0
  · subst h; show sumF _ 0 ≤ _; exact Nat.zero_le _
  · have := bq_rounds n n f (by omega) (Nat.le_refl _)
    omega

theorem answers_all {L n t m : Nat} {f : Nat → It} {S : Addr} {w0 : World} {qs : Nat → Ask} (hn : n ≤ 400) (hT : RT L w0 t n (bq n n f)) (h0 : 0 < w0.heap.size) (hq : ∀ i, i < m → GoodAsk (qs i)) : Answers L S w0 t m qs (fun i => ansOf n (bq n n f) (qs i)) := by
  intro i hi w hk hgv
  obtain ⟨g1, g2, g3⟩ := hq i hi
  show Calls _ _ _ _ (ToldPost w (ansOf n (bq n n f) (qs i)))
  obtain ⟨⟨act, b, stop, how⟩, hqi⟩ : ∃ q, qs i = q := ⟨_, rfl⟩
  rw [hqi] at g1 g2 g3 ⊢
  simp only at g1 g2 g3
  have hro := rounds_ok n f hn
  obtain rfl | rfl | rfl | rfl | rfl : act = 0 ∨ act = 1 ∨ act = 2 ∨ act = 3 ∨ act = 4 := by omega
  · exact told0_calls b stop how (isC_all S _) hT hk hgv h0
  · exact told1_calls' b stop how (isC_all S _) hT hk hgv h0 g3 hro
  · exact told2_calls b stop how hT hk hgv h0 g3 hro
  · exact told3_calls b stop how hT hk hgv h0
  · exact told4_calls b stop how hT hk
end Go.Proofs.YtflaklceejokhaaDoor.tree
