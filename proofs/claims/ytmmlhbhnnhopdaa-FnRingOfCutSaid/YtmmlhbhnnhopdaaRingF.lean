/-
  Contracts: sequences put together as a ring: the walk.
-/
import Derived.Test.YtmmlhbhnnhopdaaRingE
namespace Go.Proofs.Ytmmlhbhnnhopdaa.ring
open Go.ChangeShapes Go.WideShapes Go.ChangeAt Go.RowKit
open Go.Proofs.Ytmmlhbhnnhopdaa.mem
set_option linter.unusedVariables false
set_option linter.unusedSimpArgs false

/-- What the ring's row holds. -/
def ringL (Q : List (Nat × List Nat)) (k : Nat) : List Nat := acc Q k ++ (acc Q k).take 2

theorem tot_mono {Q : List (Nat × List Nat)} (h : ∀ q ∈ Q, 4 ≤ q.2.length) : ∀ (d j : Nat), j + d ≤ Q.length → tot Q j - 2 * j ≤ tot Q (j + d) - 2 * (j + d)
  | 0, _, _ => Nat.le_refl _
  | d + 1, j, hi => by
    have h1 := tot_mono h d j (by omega)
    have h2 := h _ (qx_mem (Q := Q) (i := j + d) (by omega))
    have h3 := tot_ge h (j + d) (by omega)
    rw [show j + (d + 1) = j + d + 1 by omega, tot_succ]
    omega

theorem acc_step {Q : List (Nat × List Nat)} {j m : Nat} (hm : m = (qx Q j).2.length) (h2 : 2 ≤ m) : (FL (acc Q j) ++ FL (qx Q j).2).take ((acc Q j).length + m - 2) = FL (acc Q (j + 1)) := by
  subst hm
  show _ = FL (acc Q j ++ (qx Q j).2.take ((qx Q j).2.length - 2))
  rw [show (acc Q j).length + (qx Q j).2.length - 2 = (FL (acc Q j)).length + ((qx Q j).2.length - 2) by rw [FL_len]; omega]
  rw [List.take_length_add_append]
  simp [FL]

theorem tot_even {Q : List (Nat × List Nat)} (h : ∀ q ∈ Q, q.2.length % 2 = 0) : ∀ i, i ≤ Q.length → tot Q i % 2 = 0
  | 0, _ => rfl
  | i + 1, hi => by
    have h1 := tot_even h i (by omega)
    have h2 := h _ (qx_mem (Q := Q) (i := i) (by omega))
    rw [tot_succ]; omega

theorem headSrc {w : World} {g n c : Nat} {L : List Nat} {base : Nat} {e : TypeId} (h : w.ownsRow base e 1 (.slice (some ⟨g, 0, none⟩) n c) n (FL L)) (hn : 2 ≤ n) :
    (FL (L.take 2)).length = 2 * 1 ∧ ∀ j u, (FL (L.take 2))[j]? = some u → w.cell? ((⟨g, 0, none⟩ : Addr).add j) = some u := by
  have hs := Sl.of_own h
  have hl : L.length = n := by have := hs.1; rw [FL_len] at this; omega
  obtain ⟨ad, had, hc⟩ := srcOf hs (by omega) (Below.refl _ _)
  cases had
  refine ⟨by rw [FL_len, List.length_take]; omega, fun j u hu => hc j u ?_⟩
  have e : FL (L.take 2) = (FL L).take 2 := by simp [FL]
  rw [e, List.getElem?_take] at hu
  split at hu
  · exact hu
  · cases hu

theorem own_shrink {w : World} {base : Nat} {e : TypeId} {g n cap m : Nat} {xs : List Value} (h : w.ownsRow base e 1 (.slice (some ⟨g, 0, none⟩) n cap) n xs) (hm : m ≤ n) : w.ownsRow base e 1 (.slice (some ⟨g, 0, none⟩) m cap) m (xs.take m) := by
  have hl := h.1
  rcases h.2 with ⟨hbad, _⟩ | ⟨g', cap', cur, hv, hb, hg, h1, h2, h3, h4⟩
  · cases hbad
  · simp only [Value.slice.injEq, Option.some.injEq, Addr.mk.injEq, and_true, true_and] at hv
    obtain ⟨rfl, rfl⟩ := hv
    refine ⟨by rw [List.length_take]; omega, .inr ⟨_, _, cur, rfl, hb, hg, by omega, h2, h3, ?_⟩⟩
    rw [← h4, List.take_take, Nat.mul_one, Nat.mul_one, Nat.min_eq_left hm]

set_option maxHeartbeats 8000000 in
theorem build_calls (A : Option Addr) (k sc : Nat) (Q : List (Nat × List Nat)) (hk : 1 ≤ k ∧ k ≤ 50) (hQ : GoodQ Q) (w : World) (hA : Sl w w.heap.size A k 2 (Q.flatMap seqC)) (hS : ∀ q ∈ Q, Sl w w.heap.size (some ⟨q.1, 0, none⟩) q.2.length 1 (FL q.2)) :
    Calls Try.prog 28 #[.slice A k sc] w (SeqPost w (tot Q k - 2 * k + 2) (ringL Q k)) := by
  have hQl : Q.length = k := by have := hA.1; rw [flatMap_len seqC 2 seqC_len] at this; omega
  obtain ⟨wA, hwA⟩ : ∃ wA, wA = w.alloc (.cells #[.int .u8 0, .slice none 0 0] 45) := ⟨_, rfl⟩
  have hbl : Below w.heap.size w wA := by rw [hwA]; exact (Below.refl _ _).alloc (Nat.le_refl _) _
  have hD : Blk wA w.heap.size 45 #[.int .u8 0, .slice none 0 0] := by rw [hwA]; exact Blk.new _ _ _
  have hszA : wA.heap.size = w.heap.size + 1 := by rw [hwA]; simp
  have HAA := Lib.hid (hA.up hbl)
  have HSS := Lib.hid (fun q hq => (hS q hq).up hbl)
  have HQ := Lib.hid hQ
  have HQL := Lib.hid hQl
  have HBL := Lib.hid hbl
  have HD := Lib.hid hD
  have HWA := Lib.hid hwA
  have HSZ := Lib.hid hszA
  obtain ⟨i0, hi0, hz0, hz1, hz2⟩ := info_parts infoF
  have HGE := Lib.hid (fun i hi => tot_ge (fun q hq => (hQ q hq).1) i hi)
  have HLEN := Lib.hid (fun i hi => acc_len (fun q hq => (hQ q hq).1) i hi)
  have HTOT := Lib.hid (fun i hi => tot_le (fun q hq => (hQ q hq).2.1) i hi)
  clear hA hS hQ hQl hbl hD hwA hszA
  go_enter Try.func28, Try.ntmps28
  go_wp2_with fail
  rw [← HWA.out]
  go_loopg [3, 12] k (fun q t cc wr => ∃ i, i + q = k ∧ cc = .int .i64 i ∧ t = .int .i64 (tot Q i) ∧ Below wA.heap.size wA wr)
  case atStart => exact ⟨0, by omega, by go_num, rfl, Below.refl _ _⟩
  case round =>
    obtain ⟨i, hi', rfl, rfl, hb⟩ := hrel
    have HI := Lib.hid hi'
    have HB := Lib.hid hb
    have hin : i ≤ k := by omega
    clear hi' hb
    by_cases hlt : i < k
    · obtain ⟨b, off, rfl, hb, c0, c1⟩ := sl_seq HAA.out hlt
      have hq := HQ.out _ (qx_mem (Q := Q) (i := i) (by rw [HQL.out]; exact hlt))
      have ht := HTOT.out i (by rw [HQL.out]; exact hin)
      obtain ⟨m, hm⟩ : ∃ m, m = (qx Q i).2.length := ⟨_, rfl⟩
      rw [← hm] at hq c1
      have d0 := (HB.out.cell (p := ⟨b, off + i * 2, none⟩) hb).trans c0
      have d1 := (HB.out.cell (p := ⟨b, off + i * 2 + 1, none⟩) hb).trans c1
      have HM := Lib.hid hm
      obtain ⟨hq1, hq2, hq3⟩ := hq
      clear c0 c1 hm
      go_wp2_with fail
      refine (length_calls _ _ _ (by omega) _).mono ?_
      rintro e w2 ⟨rfl, hb2⟩
      have HB2 := Lib.hid ((HB.out.alloc HB.out.size (.cells #[.int .u8 0, .slice (some ⟨(qx Q i).1, 0, none⟩) m m] 45)).trans (hb2.mono (by simp; have := HB.out.size; omega)))
      have w1 : IntKind.i64.wrap (2 * ((m / 2 : Nat) : Int)) = (m : Int) := by
        rw [show 2 * ((m / 2 : Nat) : Int) = (m : Int) by omega]; exact IntWalk.i64_in _ (by omega)
      have w3 : IntKind.i64.wrap ((tot Q i : Int) + (m : Int)) = (tot Q i : Int) + (m : Int) := IntWalk.i64_in _ (by omega)
      clear d0 d1 hb2
      go_wp2_with fail
      go_roundg (k - (i + 1))
      case measure => have := HI.out; omega
      case rel =>
        refine ⟨i + 1, by omega, by go_num, ?_, HB2.out⟩
        have h3 := (HQ.out _ (qx_mem (Q := Q) (i := i) (by rw [HQL.out]; exact hlt))).2.2
        rw [tot_succ]
        rw [← HM.out] at h3 ⊢
        rw [show 2 * ((m : Int) / 2) = (m : Int) by omega, Int.natCast_add]
    · obtain rfl : i = k := by omega
      have ht := HTOT.out i (by rw [HQL.out]; exact Nat.le_refl _)
      have hg := HGE.out i (by rw [HQL.out]; exact Nat.le_refl _)
      obtain ⟨T, hT⟩ : ∃ T, T = tot Q i := ⟨_, rfl⟩
      rw [← hT] at ht hg ⊢
      have v1 : IntKind.i64.wrap ((T : Int) - 2 * (i : Int)) = ((T - 2 * i : Nat) : Int) := by
        rw [show (T : Int) - 2 * (i : Int) = ((T - 2 * i : Nat) : Int) by omega]; exact IntWalk.i64_in _ (by omega)
      have v2 : IntKind.i64.wrap (((T - 2 * i : Nat) : Int) + 2) = ((T - 2 * i + 2 : Nat) : Int) := by
        rw [show ((T - 2 * i : Nat) : Int) + 2 = ((T - 2 * i + 2 : Nat) : Int) by omega]; exact IntWalk.i64_in _ (by omega)
      have hb48 : i0.bytes * (T - 2 * i + 2) ≤ 281474976710656 := by rw [hz2]; omega
      obtain ⟨C, hC⟩ : ∃ C, C = T - 2 * i + 2 := ⟨_, rfl⟩
      obtain ⟨D, hD⟩ : ∃ D, D = T - 2 * i := ⟨_, rfl⟩
      rw [← hC] at v2 hb48 ⊢
      rw [← hD] at v1 v2
      have hCm : C ≤ maxLen := by unfold maxLen; omega
      have HT := Lib.hid hT
      have HC := Lib.hid hC
      have HDD := Lib.hid hD
      clear hT hC hD
      go_wp2_with (at_make; refine wpList_make_own _ rfl (.const (.int .i64 0)) (.tmp 29) 22 rfl wr.heap.size 34 i0 _ 1 Try.underlying22 hi0 hz0 hz1 .i64 .i64 _ C rfl rfl rfl hb48 hCm (Nat.le_refl _) ?_; intro wM hown hgrow
                   have HOM := Lib.hid hown
                   have HGM := Lib.hid hgrow
                   clear hown hgrow)
      obtain ⟨wo, hwo⟩ : ∃ wo : World, wo = wr := ⟨_, rfl⟩
      subst hwo
      have hbM : Below wo.heap.size wo wM := (Below.refl _ _).grown HGM.out (Nat.le_refl _) (fun q hq => by cases hq)
      have HBM := Lib.hid hbM
      clear hbM v1 v2 hb48 ht hg
      go_loopg [6, 33] i (fun q v cc wr => ∃ j, j + q = i ∧ cc = .int .i64 j ∧ v = .slice (some ⟨wo.heap.size, 0, none⟩) (tot Q j - 2 * j) C ∧ wr.ownsRow wo.heap.size 34 1 v (tot Q j - 2 * j) (FL (acc Q j)) ∧ Below wo.heap.size wo wr)
      case atStart => exact ⟨0, by omega, by go_num, rfl, HOM.out, HBM.out⟩
      case round =>
        obtain ⟨j, hj', rfl, rfl, ho, hb⟩ := hrel
        have HJ := Lib.hid hj'
        have HO := Lib.hid ho
        have HB3 := Lib.hid hb
        have hjn : j ≤ i := by omega
        clear hj' ho hb
        by_cases hlt2 : j < i
        · obtain ⟨b, off, rfl, hb, c0, c1⟩ := sl_seq HAA.out hlt2
          have hmem := qx_mem (Q := Q) (i := j) (by rw [HQL.out]; exact hlt2)
          have hq := HQ.out _ hmem
          have hs0 := HSS.out _ hmem
          have htj := HTOT.out j (by rw [HQL.out]; exact hjn)
          have hgj := HGE.out j (by rw [HQL.out]; exact hjn)
          have hmono := tot_mono (fun q hq => (HQ.out q hq).1) (i - (j + 1)) (j + 1) (by rw [HQL.out]; omega)
          rw [show j + 1 + (i - (j + 1)) = i by omega, tot_succ, ← HT.out] at hmono
          have hw2 : Below wA.heap.size wA wr := HB.out.trans (HB3.out.mono HB.out.size)
          have d0 := (hw2.cell (p := ⟨b, off + j * 2, none⟩) hb).trans c0
          have d1 := (hw2.cell (p := ⟨b, off + j * 2 + 1, none⟩) hb).trans c1
          have hs2 := hs0.up hw2
          have HS2 := Lib.hid hs2
          have HW2 := Lib.hid hw2
          obtain ⟨m, hm⟩ : ∃ m, m = (qx Q j).2.length := ⟨_, rfl⟩
          obtain ⟨g, hgq⟩ : ∃ g, g = (qx Q j).1 := ⟨_, rfl⟩
          rw [← hm, ← hgq] at d1
          rw [← hm] at hq hmono
          have HM := Lib.hid hm
          have HGQ := Lib.hid hgq
          obtain ⟨hq1, hq2, hq3⟩ := hq
          have hfit : tot Q j - 2 * j + m ≤ C := by rw [HC.out]; omega
          clear c0 c1 hm hgq hmem hs0 hs2 hw2 hmono
          go_wp2_with fail
          have hal := HLEN.out j (by rw [HQL.out]; exact hjn)
          have HS3 : Sl (wr.alloc (.cells #[.int .u8 0, .slice (some ⟨g, 0, none⟩) m m] 45)) (wr.alloc (.cells #[.int .u8 0, .slice (some ⟨g, 0, none⟩) m m] 45)).heap.size (some ⟨g, 0, none⟩) m 1 (FL (qx Q j).2) := by
            have := HS2.out.up ((Below.refl wr.heap.size wr).alloc (Nat.le_refl _) (.cells #[.int .u8 0, .slice (some ⟨g, 0, none⟩) m m] 45))
            rw [← HM.out, ← HGQ.out] at this
            exact this
          refine (appendAll_calls wo.heap.size wo.heap.size g (tot Q j - 2 * j) C m (FL (acc Q j)) (qx Q j).2 (by omega) hfit _ (by simp; have := HB3.out.size; omega) (HO.out.alloc _) HS3).mono ?_
          rintro e w3 ⟨rfl, ho3, hg3⟩
          have HO3 := Lib.hid ho3
          have HG3 := Lib.hid hg3
          have v5 : IntKind.i64.wrap (((tot Q j - 2 * j + m : Nat) : Int) - 2) = ((tot Q j - 2 * j + m - 2 : Nat) : Int) := by
            rw [show ((tot Q j - 2 * j + m : Nat) : Int) - 2 = ((tot Q j - 2 * j + m - 2 : Nat) : Int) by omega]; exact IntWalk.i64_in _ (by omega)
          obtain ⟨N, hN⟩ : ∃ N, N = tot Q j - 2 * j + m := ⟨_, rfl⟩
          obtain ⟨N2, hN2⟩ : ∃ N2, N2 = N - 2 := ⟨_, rfl⟩
          rw [← hN] at v5 ⊢
          rw [← hN2] at v5
          have v6 : (0 : Int) ≤ (N2 : Int) := Int.natCast_nonneg _
          have v7 : (N2 : Int) ≤ (C : Int) := by omega
          have HN := Lib.hid hN
          have HN2 := Lib.hid hN2
          clear d0 d1 ho3 hg3 HS3 hN hN2
          go_wp2_with fail
          go_roundg (i - (j + 1))
          case measure => have := HJ.out; omega
          case rel =>
            have hNj : N2 = tot Q (j + 1) - 2 * (j + 1) := by
              have h1 := HN.out; have h2 := HN2.out; have h3 := HM.out
              rw [tot_succ, ← h3]; omega
            refine ⟨j + 1, by omega, by go_num, by rw [← hNj], ?_, ?_⟩
            · have ho := own_shrink HO3.out (m := N2) (by have h1 := HN.out; have h2 := HN2.out; omega)
              rw [← hNj]
              rw [show N2 = (acc Q j).length + m - 2 by have h1 := HN.out; have h2 := HN2.out; rw [hal]; omega, acc_step HM.out (by omega)] at ho
              rw [show (acc Q j).length + m - 2 = N2 by have h1 := HN.out; have h2 := HN2.out; rw [hal]; omega] at ho
              exact ho
            · exact (HB3.out.alloc HB3.out.size _).grown HG3.out (by simp; have := HB3.out.size; omega) (fun q hq => by cases hq; exact Nat.le_refl _)
        · obtain rfl : j = i := by omega
          have hge := HGE.out j (by rw [HQL.out]; exact Nat.le_refl _)
          have htt := HTOT.out j (by rw [HQL.out]; exact Nat.le_refl _)
          have hev := tot_even (fun q hq => (HQ.out q hq).2.2) j (by rw [HQL.out]; exact Nat.le_refl _)
          have hCn : tot Q j - 2 * j + 2 = C := by rw [HC.out, HT.out]
          obtain ⟨hl2, hsrc2⟩ := headSrc HO.out (by omega)
          have HL2 := Lib.hid hl2
          have HSRC2 := Lib.hid hsrc2
          have HCN := Lib.hid hCn
          have HWO := Lib.hid (HB.out.trans (HB3.out.mono HB.out.size))
          clear hl2 hsrc2
          go_wp2_with (at_builtin; refine wpList_append_fits _ rfl (.tmp 46) (.tmp 48) 22 rfl wo.heap.size 34 i0 1 Try.underlying22 hi0 hz1 wo.heap.size (tot Q j - 2 * j) C (FL (acc Q j)) rfl HO.out ⟨wo.heap.size, 0, none⟩ 2 C (FL ((acc Q j).take 2)) rfl HL2.out HSRC2.out (FL_one _) (Nat.le_of_eq HCN.out) ?_; intro w4 hown' hgrow
                       rw [HCN.out] at hown' ⊢
                       have HO4 := Lib.hid hown'
                       have HG4 := Lib.hid hgrow
                       clear hown' hgrow)
          refine (newSeq_calls _ C C (by omega) (by omega) _).mono ?_
          rintro e w5 ⟨rfl, hb5⟩
          have HB5 := Lib.hid hb5
          clear hb5
          go_wp2_with fail
          refine (full_calls _ C (by omega) _).mono ?_
          rintro e w6 ⟨rfl, hb6⟩
          have hwo : w.heap.size < wo.heap.size := Nat.lt_of_lt_of_le HD.out.lt HB.out.size
          have hD4 := (HD.out.below HWO.out HD.out.lt).grown HG4.out (show some w.heap.size ≠ some wo.heap.size from fun h => by have := Option.some.inj h; omega)
          have hD6 := ((hD4.below HB5.out hD4.lt).alloc (.cells #[.int .u8 0, .slice (some ⟨wo.heap.size, 0, none⟩) C C] 45)).below hb6 (by simp; have := (hD4.below HB5.out hD4.lt).lt; omega)
          have hT6 := (Blk.new w5 45 #[.int .u8 0, .slice (some ⟨wo.heap.size, 0, none⟩) C C]).below hb6 (by simp)
          have hw4 : Below w.heap.size w w4 := (HBL.out.trans (HWO.out.mono HBL.out.size)).grown HG4.out (Nat.le_trans HBL.out.size HWO.out.size) (fun q hq => by have h1 : wo.heap.size = q := Option.some.inj hq; omega)
          have hw5 : Below w.heap.size w w5 := hw4.trans (HB5.out.mono hw4.size)
          have hw6 : Below w.heap.size w w6 := (hw5.alloc hw5.size (.cells #[.int .u8 0, .slice (some ⟨wo.heap.size, 0, none⟩) C C] 45)).trans (hb6.mono (by simp; have := hw5.size; omega))
          have hs4 := Sl.of_own HO4.out
          rw [show FL (acc Q j) ++ FL ((acc Q j).take 2) = FL (ringL Q j) by simp [FL, ringL]] at hs4
          have hs6 := ((hs4.up HB5.out).up ((Below.refl _ _).alloc (Nat.le_refl _) (.cells #[.int .u8 0, .slice (some ⟨wo.heap.size, 0, none⟩) C C] 45))).up hb6
          obtain ⟨c0, c1, f0, f1, hl⟩ := cells2 hD6
          obtain ⟨d0, d1, -, -, dl⟩ := cells2 hT6
          have HW6 := Lib.hid hw6
          have HS6 := Lib.hid hs6
          have HLT := Lib.hid hwo
          clear hD4 hD6 hT6 hw4 hw5 hw6 hs4 hs6 hb6 hwo
          go_wp2_with fail
          refine bodyPost_ret (v := .agg #[.int .u8 0, .slice (some ⟨wo.heap.size, 0, none⟩) C C]) ?_ rfl (by
            rw [HCN.out]
            refine ⟨wo.heap.size, rfl, Nat.le_of_lt HLT.out, ?_, (HW6.out.setCell (Nat.le_refl _) _).setCell (Nat.le_refl _) _⟩
            have hne : wo.heap.size ≠ w.heap.size := fun h => by have := HLT.out; omega
            have := sl_far (sl_far HS6.out (p := ⟨w.heap.size, 0, none⟩) hne (.int .u8 0)) (p := ⟨w.heap.size, 1, none⟩) hne (.slice (some ⟨wo.heap.size, 0, none⟩) C C)
            simpa using this)
          simp [results, Try.results28, go_sem, c0, c1, hl]
end Go.Proofs.Ytmmlhbhnnhopdaa.ring
