/-
  The walk of the law FnTreeAlone.
-/
import Derived.Test.YtflaklceejokhaaDoorTreeKH
namespace Go.Proofs.YtflaklceejokhaaDoor.tree
open Go.ChangeShapes Go.WideShapes Go.ChangeAt Go.RowKit
open Go.Proofs.YtflaklceejokhaaDoor.mem Go.Proofs.YtflaklceejokhaaDoor.flt Ieee
set_option linter.unusedVariables false
set_option linter.unusedSimpArgs false

theorem infoQ : (Tryd.prog.info? 34).map (fun i => (i.zero, i.size, i.bytes)) = some (some (.agg #[.int .i64 0, .float .f64 0, .float .f64 0, .float .f64 0, .float .f64 0, .int .i64 0, .int .i64 0]), 7, 56) := by kernel_rfl

set_option maxRecDepth 100000 in
set_option maxHeartbeats 16000000 in
theorem alone_calls (A Aq : Option Addr) (n c m cq : Nat) (f : Nat → It) (qs : Nat → Ask) (S : Addr) (hwf : ∀ i, i < n → (Lit.int .i64 (f i).id).wf = true) (w : World) (hR : Rd w A n f) (hQ : AskR w Aq m qs) (hgv : GV w S) (h0 : 0 < w.heap.size) :
    Calls Tryd.prog 3 #[.slice A n c, .slice Aq m cq] w fun e w' => e = .returned (.bool true) ∧ Below w.heap.size w w' := by
  by_cases g1 : 2147483647 < (n : Int)
  · go_enter Tryd.func3, Tryd.ntmps3
    go_wp2_with fail
    exact bodyPost_ret (v := .bool true) (by simp [results, go_sem]) rfl ⟨rfl, Below.refl _ _⟩
  by_cases g2 : 2147483647 < (m : Int)
  · have g11 : (n : Int) ≤ 2147483647 := by omega
    go_enter Tryd.func3, Tryd.ntmps3
    go_wp2_with fail
    exact bodyPost_ret (v := .bool true) (by simp [results, go_sem]) rfl ⟨rfl, Below.refl _ _⟩
  have g11 : (n : Int) ≤ 2147483647 := by omega
  have g22 : (m : Int) ≤ 2147483647 := by omega
  clear g1 g2
  obtain ⟨iQ, hiQ, hzQ0, hzQ1, hzQ2⟩ := info_parts infoQ
  obtain ⟨iT, hiT, hzT0, hzT1, hzT2⟩ := info_parts infoT
  have HR := Lib.hid hR
  have HQ := Lib.hid hQ
  have HGV := Lib.hid hgv
  have HI := Lib.hid (kItems_calls A n c f hwf w hR)
  clear hwf hR hQ hgv
  go_enter Tryd.func3, Tryd.ntmps3
  go_wp2_with fail
  refine HI.out.mono ?_
  rintro e w1 ⟨t1, rfl, hg1, hb1⟩
  have HB1 := Lib.hid hb1
  cases t1 with
  | false =>
    clear hb1
    go_wp2_with fail
    exact bodyPost_ret (v := .bool true) (by simp [results, go_sem]) rfl ⟨rfl, HB1.out⟩
  | true =>
    have HG := Lib.hid (hg1 rfl)
    have hn4 := HG.out.few
    have HKA := Lib.hid (kAsked_calls Aq m cq n qs w1 (HQ.out.below hb1))
    clear hg1 hb1
    go_wp2_with fail
    refine HKA.out.mono ?_
    rintro e w2 ⟨t2, rfl, hg2, hb2⟩
    have HB2 := Lib.hid (HB1.out.trans (hb2.mono HB1.out.size))
    cases t2 with
    | false =>
      clear hb2
      go_wp2_with fail
      exact bodyPost_ret (v := .bool true) (by simp [results, go_sem]) rfl ⟨rfl, HB2.out⟩
    | true =>
      have HGQ := Lib.hid (hg2 rfl).2
      have hm6 := (hg2 rfl).1
      clear hb2 hg2
      by_cases g3 : 30 < (m : Int)
      · go_wp2_with fail
        exact bodyPost_ret (v := .bool true) (by simp [results, go_sem]) rfl ⟨rfl, HB2.out⟩
      have g33 : (m : Int) ≤ 30 := by omega
      have s2 := HB2.out.size
      have HP1 := Lib.hid (playR_calls A Aq n c m cq f qs S HG.out (by omega) HGQ.out w2 (HR.out.below HB2.out) (HQ.out.below HB2.out) (HGV.out.below h0 HB2.out) (by omega))
      clear g3
      go_wp2_with fail
      refine HP1.out.mono ?_
      rintro e w3 ⟨A1, k1, rfl, hk1, ht1, hb3⟩
      have HT1 := Lib.hid ht1
      have HB3 := Lib.hid (HB2.out.trans (hb3.mono HB2.out.size))
      have s3 := HB3.out.size
      have hq3 := (HQ.out.below HB3.out).sl hm6
      have HSL := Lib.hid (hq3.up ((Below.refl w3.heap.size w3).alloc (Nat.le_refl _) (.cells #[] 34)))
      have hb4 : Below w3.heap.size w3 (w3.alloc (.cells #[] 34)) := (Below.refl w3.heap.size w3).alloc (Nat.le_refl _) _
      have HB4 := Lib.hid hb4
      have HS5 := Lib.hid (show ∀ w5 : World, (w3.alloc (.cells #[] 34)).grownBy w5 (Value.slice (some ⟨w3.heap.size, 0, none⟩) 0 0).ownBlock → Below w3.heap.size w3 w5 ∧ Sl w5 w5.heap.size Aq m 7 (askL qs m) from fun w5 hg5 => by
        have hb5 : Below w3.heap.size w3 w5 := HB4.out.grown hg5 HB4.out.size (fun q hq => by have : w3.heap.size = q := Option.some.inj hq; omega)
        exact ⟨hb5, ((HQ.out.below HB3.out).below hb5).sl hm6⟩)
      have HS6 := Lib.hid (show ∀ (w5 w6 : World) (v : Value) (xs : List Value), Below w3.heap.size w3 w5 → w5.ownsRow w3.heap.size 34 7 v m xs → w5.grownBy w6 v.ownBlock → Below w3.heap.size w3 w6 from fun w5 w6 v xs hb5 ho5 hg6 => hb5.grown hg6 hb5.size (fun q hq => (ho5.lt q hq).1))
      clear ht1 hb3 hq3 hb4
      go_wp2_with (first
        | (at_builtin; refine wpList_append_sl _ rfl (.tmp 44) (.tmp 45) 23 rfl w3.heap.size 34 iQ _ 7 56 Tryd.underlying23 hiQ hzQ0 hzQ1 hzQ2 rfl (by decide) (.slice (some ⟨w3.heap.size, 0, none⟩) 0 0) 0 [] rfl (emptyOwn (heap_alloc_new w3 _) (Nat.le_refl _))
            _ Aq m cq (askL qs m) rfl HSL.out (ask_one _ _) (by unfold maxLen; omega) (by omega) (by simp) ?_
           intro A5 c5 w5 ho5 hg5 hat5
           simp only [Nat.zero_add, List.nil_append] at ho5 ⊢
           obtain ⟨hb5, hsl5⟩ := HS5.out w5 hg5)
        | (at_builtin; refine wpList_append_sl _ rfl (.tmp 46) (.tmp 47) 23 rfl w3.heap.size 34 iQ _ 7 56 Tryd.underlying23 hiQ hzQ0 hzQ1 hzQ2 rfl (by decide) (.slice A5 m c5) m (askL qs m) rfl ho5
            _ Aq m cq (askL qs m) rfl hsl5 (ask_one _ _) (by unfold maxLen; omega) (by omega) hb5.size ?_
           intro A6 c6 w6 ho6 hg6 hat6
           have hb6 := HS6.out w5 w6 _ _ hb5 ho5 hg6)
        | fail)
      have hsl6 := Sl.of_own ho6
      rw [askL_twice] at hsl6
      have hgq2 : ∀ i, i < m + m → GoodAsk (twice m qs i) := fun i hi => by
        unfold twice
        split
        · exact HGQ.out i ‹_›
        · exact HGQ.out (i - m) (by omega)
      have HB6 := Lib.hid (HB3.out.trans (hb6.mono HB3.out.size))
      have s6 := HB6.out.size
      have HP2 := Lib.hid (playR_calls A A6 n c (m + m) c6 f (twice m qs) S HG.out (by omega) hgq2 w6 (HR.out.below HB6.out) (AskR.of_sl hsl6 (Nat.le_refl _)) (HGV.out.below h0 HB6.out) (by omega))
      have HT6 := Lib.hid (HT1.out.below hb6)
      clear hb5 hsl5 ho5 hg5 hat5 hb6 hsl6 ho6 hg6 hat6 hgq2
      refine HP2.out.mono ?_
      rintro e w7 ⟨A2, k2, rfl, hk2, ht2, hb7⟩
      have HT1' := Lib.hid (HT6.out.below hb7)
      have HT2 := Lib.hid ht2
      have HB7 := Lib.hid (HB6.out.trans (hb7.mono HB6.out.size))
      have s7 := HB7.out.size
      have hup := run_upto (P := Tryd.prog) Tryd.underlying26 hiT hzT1 A2 (m + m) k2 m (by omega) w7
      have hta := (ht2.head m (by omega)).congr (an' := fun i => ansOf n (bq n n f) (qs i)) (fun i hi => by unfold twice; rw [if_pos hi])
      have htb : ToldR w7 (if k2 = m then A2 else A2.map (·.add (m * 10))) m (fun i => ansOf n (bq n n f) (qs i)) := (ht2.tail k2 m m (by omega) hk2).congr (fun i hi => by unfold twice; rw [if_neg (by omega), Nat.add_sub_cancel_left])
      have HTB := Lib.hid htb
      have HC1 := Lib.hid (kSameAll_calls A2 A1 m k2 k1 (fun i => ansOf n (bq n n f) (qs i)) (by omega) (fun i _ => ans_ok HG.out.few HG.out.box (qs i)) w7 hta HT1'.out)
      clear ht2 hb7 hta htb
      go_wp2_with fail
      refine HC1.out.mono ?_
      rintro e w8 ⟨rfl, hb8⟩
      have HB8 := Lib.hid (HB7.out.trans (hb8.mono HB7.out.size))
      have s8 := HB8.out.size
      have HT8 := Lib.hid (HT1'.out.below hb8)
      have hfrom := run_from (P := Tryd.prog) Tryd.underlying26 hiT hzT1 A2 (m + m) k2 m (by omega) hk2 w8
      rw [Nat.add_sub_cancel] at hfrom
      obtain ⟨AT, hAT⟩ : ∃ AT, AT = (if k2 = m then A2 else A2.map (·.add (m * 10))) := ⟨_, rfl⟩
      rw [← hAT] at hfrom
      have HC2 := Lib.hid (kSameAll_calls AT A1 m (k2 - m) k1 (fun i => ansOf n (bq n n f) (qs i)) (by omega) (fun i _ => ans_ok HG.out.few HG.out.box (qs i)) w8 (by rw [hAT]; exact HTB.out.below hb8) HT8.out)
      clear hb8 hAT hup
      go_wp2_with fail
      refine HC2.out.mono ?_
      rintro e w9 ⟨rfl, hb9⟩
      have HB9 := Lib.hid (HB8.out.trans (hb9.mono HB8.out.size))
      have s9 := HB9.out.size
      have HT9 := Lib.hid (HT8.out.below hb9)
      have HQ9 := Lib.hid (HQ.out.below HB9.out)
      have HR9 := Lib.hid (HR.out.below HB9.out)
      have HGV9 := Lib.hid (HGV.out.below h0 HB9.out)
      have h09 : 0 < w9.heap.size := by omega
      clear hb9 hfrom HC1 HC2 HP1 HP2 HKA HI HS5 HS6 HSL
      go_wp2_with fail
      go_loopg [93] m (fun q ci wr => ∃ (i : Nat), i + q = m ∧ ci = .int .i64 (i : Nat) ∧ Below w9.heap.size w9 wr)
      case atStart => exact ⟨0, by omega, by go_num, Below.refl _ _⟩
      case round =>
        obtain ⟨i, hi', rfl, hbl⟩ := hrel
        have HIQ := Lib.hid hi'
        have HBL := Lib.hid hbl
        have hin : i ≤ m := by omega
        clear hi' hbl
        by_cases hlt : i < m
        · obtain ⟨g, off, hAq, hg, hcells⟩ := (HQ9.out.below HBL.out) (by omega)
          have d : ∀ cc u, (askA (qs i))[cc]? = some u → wr.cell? ⟨g, off + i * 7 + cc, none⟩ = some u := fun cc u hu => hcells i hlt cc u hu
          obtain ⟨⟨a0, ⟨a1, a2, a3, a4⟩, a5, a6⟩, hq⟩ : ∃ q, qs i = q := ⟨_, rfl⟩
          rw [hq] at d
          have d0 : wr.cell? ⟨g, off + i * 7, none⟩ = some (.int .i64 a0) := d 0 _ rfl
          have d1 : wr.cell? ⟨g, off + i * 7 + 1, none⟩ = some (.float .f64 a1) := d 1 _ rfl
          have d2 : wr.cell? ⟨g, off + i * 7 + 2, none⟩ = some (.float .f64 a2) := d 2 _ rfl
          have d3 : wr.cell? ⟨g, off + i * 7 + 3, none⟩ = some (.float .f64 a3) := d 3 _ rfl
          have d4 : wr.cell? ⟨g, off + i * 7 + 4, none⟩ = some (.float .f64 a4) := d 4 _ rfl
          have d5 : wr.cell? ⟨g, off + i * 7 + 5, none⟩ = some (.int .i64 a5) := d 5 _ rfl
          have d6 : wr.cell? ⟨g, off + i * 7 + 6, none⟩ = some (.int .i64 a6) := d 6 _ rfl
          subst hAq
          have HQE := Lib.hid hq
          have hltI : (i : Int) < (m : Int) := by omega
          have sr := HBL.out.size
          clear hcells d hq
          go_wp2_with fail
          have hbA : Below wr.heap.size wr (wr.alloc (.cells #[.int .i64 a0, .float .f64 a1, .float .f64 a2, .float .f64 a3, .float .f64 a4, .int .i64 a5, .int .i64 a6] 34)) := (Below.refl _ _).alloc (Nat.le_refl _) _
          obtain ⟨wA, hwA⟩ : ∃ wA, wA = wr.alloc (.cells #[.int .i64 a0, .float .f64 a1, .float .f64 a2, .float .f64 a3, .float .f64 a4, .int .i64 a5, .int .i64 a6] 34) := ⟨_, rfl⟩
          have sA : wA.heap.size = wr.heap.size + 1 := by rw [hwA]; simp
          rw [← hwA] at hbA ⊢
          rw [← sA]
          have hbB : Below wA.heap.size wA (wA.alloc (.cells #[.int .i64 a0, .float .f64 a1, .float .f64 a2, .float .f64 a3, .float .f64 a4, .int .i64 a5, .int .i64 a6] 34)) := (Below.refl _ _).alloc (Nat.le_refl _) _
          have hN : Blk (wA.alloc (.cells #[.int .i64 a0, .float .f64 a1, .float .f64 a2, .float .f64 a3, .float .f64 a4, .int .i64 a5, .int .i64 a6] 34)) wA.heap.size 34 (askA ⟨a0, ⟨a1, a2, a3, a4⟩, a5, a6⟩) := Blk.new _ _ _
          obtain ⟨wB, hwB⟩ : ∃ wB, wB = wA.alloc (.cells #[.int .i64 a0, .float .f64 a1, .float .f64 a2, .float .f64 a3, .float .f64 a4, .int .i64 a5, .int .i64 a6] 34) := ⟨_, rfl⟩
          rw [← hwB] at hbB hN ⊢
          have hb9B := HBL.out.trans ((hbA.trans (hbB.mono hbA.size)).mono HBL.out.size)
          have HB9B := Lib.hid hb9B
          have sB := hb9B.size
          have hgq : GoodAsk ⟨a0, ⟨a1, a2, a3, a4⟩, a5, a6⟩ := by have := HGQ.out i hlt; rwa [HQE.out] at this
          have HP3 := Lib.hid (playR_calls A (some ⟨wA.heap.size, 0, none⟩) n c 1 1 f (fun _ => ⟨a0, ⟨a1, a2, a3, a4⟩, a5, a6⟩) S HG.out (by omega) (fun _ _ => hgq) wB (HR9.out.below hb9B) (AskR.of_blk hN) (HGV9.out.below h09 hb9B) (by omega))
          clear hbA hwA hbB hN hwB hb9B hgq d0 d1 d2 d3 d4 d5 d6
          refine HP3.out.mono ?_
          rintro e wC ⟨A3, k3, rfl, hk3, ht3, hbC⟩
          have HBC := Lib.hid (HB9B.out.trans (hbC.mono HB9B.out.size))
          have sC := HBC.out.size
          have ht1 := HT9.out.below HBC.out
          obtain ⟨g1, o1, vs1, rfl, hg1, hc1⟩ := ht1 (by omega)
          obtain ⟨g3, o3, vs3, rfl, hg3, hc3⟩ := ht3 (by omega)
          obtain ⟨c1, id1⟩ := hc1 i hlt
          obtain ⟨c3, id3⟩ := hc3 0 (by omega)
          simp only at c1 id1 c3 id3
          rw [HQE.out] at c1 id1
          have hoki := ans_ok HG.out.few HG.out.box ⟨a0, ⟨a1, a2, a3, a4⟩, a5, a6⟩
          obtain ⟨a, ha⟩ : ∃ a, ansOf n (bq n n f) ⟨a0, ⟨a1, a2, a3, a4⟩, a5, a6⟩ = a := ⟨_, rfl⟩
          obtain ⟨u, hu⟩ : ∃ u, vs1 i = u := ⟨_, rfl⟩
          obtain ⟨v, hv⟩ : ∃ v, vs3 0 = v := ⟨_, rfl⟩
          rw [ha] at c1 id1 c3 id3 hoki
          rw [hu] at c1 id1
          rw [hv] at c3 id3
          obtain ⟨Au, ku, hu2, -⟩ := id1
          subst hu2
          obtain ⟨Av, kv, hv2, -⟩ := id3
          subst hv2
          obtain ⟨x0, x1, x2, x3, x4, x5, x6, x7, x8, x9⟩ := told_cells c1
          obtain ⟨y0, y1, y2, y3, y4, y5, y6, y7, y8, y9⟩ := told_cells c3
          simp only [Nat.zero_mul, Nat.add_zero] at y0 y1 y2 y3 y4 y5 y6 y7 y8 y9
          have ID1 := Lib.hid (hc1 i hlt).2
          have ID3 := Lib.hid (hc3 0 (by omega)).2
          have HCE := Lib.hid (show ∀ w' : World, Below wC.heap.size wC w' → Calls Tryd.prog 9 #[.agg (anA (.slice Av a.ids.length kv) a), .agg (anA (.slice Au a.ids.length ku) a)] w' fun e w'' => e = .returned (.bool true) ∧ Below w'.heap.size w' w'' from fun w' hb => by
            have i1 := ID1.out
            have i3 := ID3.out
            simp only at i1 i3
            rw [HQE.out, ha, hu] at i1
            rw [ha, hv] at i3
            exact kSame_calls _ _ a hoki.1 hoki.2 w' (i3.below hb) (i1.below hb))
          clear hc1 hc3 c1 c3 ha hu hv hoki HP3 ht1 ht3 hbC
          go_wp2_with fail
          have hcall := HCE.out wC.drew (Below.refl wC.heap.size wC).drew
          unfold anA at hcall
          have HCALL := Lib.hid hcall
          have HBD := Lib.hid (HBC.out.trans ((Below.refl wC.heap.size wC).drew.mono HBC.out.size))
          clear hcall
          go_still_tail 15, (by kernel_rfl)
          change wpList _ _ _ _ _ wC.drew
          go_wp2_with fail
          refine HCALL.out.mono ?_
          rintro e wD ⟨rfl, hbD⟩
          have HB2 := Lib.hid (HBD.out.trans (hbD.mono HBD.out.size))
          clear hbD x0 x1 x2 x3 x4 x5 x6 x7 x8 x9 y0 y1 y2 y3 y4 y5 y6 y7 y8 y9
          go_wp2_with fail
          go_roundg (m - (i + 1))
          case measure => have := HIQ.out; omega
          case rel => exact ⟨i + 1, by omega, by go_num, HB2.out⟩
        · have hin2 : i = m := by omega
          have hltI : (m : Int) ≤ (i : Int) := by omega
          clear hin2
          go_wp2_with fail
          exact bodyPost_ret (v := .bool true) (by simp [results, go_sem]) rfl ⟨rfl, HB9.out.trans (HBL.out.mono HB9.out.size)⟩
end Go.Proofs.YtflaklceejokhaaDoor.tree
