/-
  Contract: how many places shape plain data, as the reference adds.
-/
import Derived.Test.YtbacakdpfiiblaaGreatGeoR
namespace Go.Proofs.YtbacakdpfiiblaaGreat.geo
open Go.ChangeShapes Go.WideShapes Go.ChangeAt Go.RowKit
open Go.Proofs.YtbacakdpfiiblaaGreat.mem
set_option linter.unusedVariables false
set_option linter.unusedSimpArgs false

theorem wrapEq2 (x : Int) : IntKind.i64.wrap x = wrap64 x := by rw [IntKind.wrap_i64, wrap64]
theorem len_quo (n q : Nat) (hn : n ≤ 4194308) : IntKind.i64.wrap ((n : Int).tdiv (q : Int)) = ((n / q : Nat) : Int) ∧ wrap64 ((n : Int) / (q : Int)) = ((n / q : Nat) : Int) := by
  have hq : (n : Int).tdiv (q : Int) = ((n / q : Nat) : Int) := by
    rw [Int.tdiv_eq_ediv_of_nonneg (by omega)]; rfl
  have hr : IntKind.i64.wrap ((n : Int).tdiv (q : Int)) = ((n / q : Nat) : Int) := by
    rw [hq]
    have := Nat.div_le_self n q
    generalize n / q = r at this ⊢
    exact IntWalk.i64_in _ (by omega)
  refine ⟨hr, ?_⟩
  rw [← hr, hq, IntKind.wrap_i64, Int.natCast_ediv]; unfold wrap64; with_reducible rfl

theorem foldI_take {kids : List IG} {i : Nat} {g : IG} {a : Int} (h : kids[i]? = some g) : (kids.take (i + 1)).foldl (fun a g => addW a g.plain.ctl) a = addW ((kids.take i).foldl (fun a g => addW a g.plain.ctl) a) g.plain.ctl := by
  rw [List.take_add_one, h]
  simp

set_option maxHeartbeats 16000000 in
set_option maxRecDepth 100000 in
theorem controls_calls : ∀ g : IG, ∀ (S : Nat → Prop) (w : World), g.In S w → g.plain.good → g.plain.fit → Calls Tryz.prog 10 #[.agg g.enc.toArray] w (Gives w (.int .i64 g.plain.ctl)) := by
  intro g
  induction g using IG.ind with
  | h k d A ca ns B cb kids ih =>
    intro S w h hgood hfit
    have hns := by rw [IG.plain_eq] at hfit; exact fit_len hfit
    rw [IG.In] at h
    obtain ⟨hwf, -, -, hA, hB0, hkid0⟩ := h
    have hkid := IG.inL_iff.1 hkid0
    rw [IG.plain_eq, PG.good] at hgood
    rw [IG.plain_eq, PG.fit] at hfit
    obtain ⟨hgd, hgk⟩ := hgood
    have hgk := fun g hg => goodL_iff.1 hgk _ (List.mem_map_of_mem (f := IG.plain) (a := g) hg)
    have hfk := fun g hg => fitL_iff.1 hfit.2 _ (List.mem_map_of_mem (f := IG.plain) (a := g) hg)
    have hkb : kids.length ≤ 1048576 := by have := hfit.1.2; simpa using this
    have hpl := hfit.1.1
    have hd4 := dm_lt d
    obtain ⟨D, hD⟩ : ∃ D, D = dm d := ⟨_, rfl⟩
    rw [← hD] at hgd hpl hd4
    subst hgd
    have hct : (IG.mk k D A ca ns B cb kids).plain.ctl = if k = 1 then 1 else kids.foldl (fun a g => addW a g.plain.ctl) (((ns.length / wd D : Nat) : Int)) := by rw [IG.plain_eq, ctl_eq, dm_nat hd4, List.foldl_map]
    rw [hct]
    show Calls Tryz.prog 10 #[.agg #[.int .i64 k, .int .i64 D, .slice A ns.length ca, .slice B kids.length cb]] w _
    obtain ⟨w1, hw1⟩ : ∃ w1, w1 = w.alloc (.cells #[.int .i64 k, .int .i64 D, .slice A ns.length ca, .slice B kids.length cb] 25) := ⟨_, rfl⟩
    have hb1 : Below w.heap.size w w1 := by rw [hw1]; exact (Below.refl _ _).alloc (Nat.le_refl _) _
    have hX : Blk w1 w.heap.size 25 #[.int .i64 k, .int .i64 D, .slice A ns.length ca, .slice B kids.length cb] := by rw [hw1]; exact Blk.new _ _ _
    by_cases hk1 : k = 1
    · rw [if_pos hk1]
      obtain ⟨x0, x1, x2, x3, -, -, -, -, xl⟩ := cells4 hX
      subst hk1
      have HB1 := Lib.hid hb1
      have HW1 := Lib.hid hw1
      clear hfit hgk hfk hpl hA hB0 hkid0 hkid hb1 hX hw1 ih hwf hct hD
      go_enter Tryz.func10, Tryz.ntmps10
      go_wp2_with fail
      rw [← HW1.out]
      exact bodyPost_ret (v := .int .i64 1) (by simp [results, go_sem]) rfl ⟨rfl, HB1.out⟩
    · rw [if_neg hk1]
      have hkb1 : (k == 1) = false := beq_eq_false_iff_ne.2 hk1
      obtain ⟨hr, hr2⟩ := len_quo ns.length (wd D) hns
      have hWD := Lib.hid (@width_calls D hd4)
      have h2 := wd_two D
      obtain ⟨W, hWe⟩ : ∃ W, W = wd D := ⟨_, rfl⟩
      rw [← hWe] at hr hr2 h2 hWD ⊢
      have hq0 : (W : Int) ≠ 0 := by omega
      obtain ⟨r, hrr⟩ : ∃ r, r = ns.length / W := ⟨_, rfl⟩
      rw [← hrr] at hr hr2 ⊢
      obtain ⟨n, hn⟩ : ∃ n, n = kids.length := ⟨_, rfl⟩
      have HSB := Lib.hid (hB0.1.up hb1)
      have HKID := Lib.hid (fun g hg w' (hb : Below w.heap.size w w') => IG.up hb (hkid g hg))
      have HGK := Lib.hid hgk
      have HFK := Lib.hid hfk
      have HIH := Lib.hid ih
      obtain ⟨x0, x1, x2, x3, -, -, -, -, xl⟩ := cells4 hX
      have HB1 := Lib.hid hb1
      have HW1 := Lib.hid hw1
      have HN := Lib.hid hn
      obtain ⟨m, hm⟩ : ∃ m, m = ns.length := ⟨_, rfl⟩
      have HM := Lib.hid hm
      rw [← hn] at HW1 x3 ⊢
      rw [← hm] at HW1 x2 hr hr2 ⊢
      rw [← hn] at hkb
      clear hfit hgk hfk hpl hA hB0 hkid0 hkid hb1 hX hw1 hn ih hns hm hD hwf hct hWe hrr h2
      go_enter Tryz.func10, Tryz.ntmps10
      go_wp2_with fail
      rw [← HW1.out]
      go_quiet ((go_at_call 28; exact Calls.quiet_of_same (hWD.out _)))
      go_wp2_with fail
      rw [hr2]
      go_loopg [3, 19] n (fun q sv ci wr => ∃ (i : Nat), i + q = n ∧ ci = .int .i64 (i : Nat) ∧ sv = .int .i64 ((kids.take i).foldl (fun a g => addW a g.plain.ctl) (r : Int)) ∧ Below w1.heap.size w1 wr)
      case atStart => exact ⟨0, by omega, by go_num, by simp [hr2], (drewN_below _ _ _)⟩
      case round =>
        obtain ⟨i, hi', rfl, rfl, hbl⟩ := hrel
        have HIL := Lib.hid hi'
        have HBL2 := Lib.hid hbl
        have hin : i ≤ n := by omega
        have sr := hbl.size
        clear hi' hbl
        by_cases hlt : i < n
        · have hik : i < kids.length := by rw [← HN.out]; exact hlt
          obtain ⟨g, hg⟩ : ∃ g, kids[i]? = some g := ⟨kids[i], List.getElem?_eq_getElem hik⟩
          have HFT := Lib.hid (foldI_take (a := (r : Int)) hg)
          have hmem := List.mem_of_getElem? hg
          obtain ⟨b, off, hAe, hbo, hcell⟩ := sl_part HSB.out (fun g _ => g.enc_len) (by omega)
          subst hAe
          have HBW := Lib.hid (HB1.out.trans (HBL2.out.mono HB1.out.size))
          have hgin := HKID.out g hmem _ HBW.out
          have HCA := Lib.hid (fun o => HIH.out g hmem S (wr.alloc o) (IG.up ((Below.refl _ _).alloc (Nat.le_refl _) o) hgin) (HGK.out g hmem) (HFK.out g hmem))
          obtain ⟨s, hs⟩ : ∃ s, s = (kids.take i).foldl (fun a g => addW a g.plain.ctl) (r : Int) := ⟨_, rfl⟩
          rw [← hs] at HFT ⊢
          obtain ⟨p, hp⟩ : ∃ p, p = g.plain.ctl := ⟨_, rfl⟩
          rw [← hp] at HCA HFT
          obtain ⟨gk, gd, gA, gca, gns, gB, gcb, gks⟩ := g
          have d0 := (HBL2.out.cell (p := ⟨b, off + (i * 4 + 0), none⟩) hbo).trans (hcell i _ hg 0 _ rfl)
          have d1 := (HBL2.out.cell (p := ⟨b, off + (i * 4 + 1), none⟩) hbo).trans (hcell i _ hg 1 _ rfl)
          have d2 := (HBL2.out.cell (p := ⟨b, off + (i * 4 + 2), none⟩) hbo).trans (hcell i _ hg 2 _ rfl)
          have d3 := (HBL2.out.cell (p := ⟨b, off + (i * 4 + 3), none⟩) hbo).trans (hcell i _ hg 3 _ rfl)
          rw [Nat.add_zero] at d0
          rw [← Nat.add_assoc] at d1 d2 d3
          have hltI : (i : Int) < (n : Int) := by omega
          have HCA := Lib.hid (show ∀ o, Calls Tryz.prog 10 #[.agg #[.int .i64 gk, .int .i64 gd, .slice gA gns.length gca, .slice gB gks.length gcb]] (wr.alloc o) (Gives (wr.alloc o) (.int .i64 p)) from HCA.out)
          have HBA := Lib.hid (fun o => HBL2.out.trans (((Below.refl wr.heap.size wr).alloc (Nat.le_refl _) o).mono HBL2.out.size))
          clear hg hmem hcell hgin hs hp hik
          go_wp2_with fail
          refine (HCA.out _).mono ?_
          rintro e w4 ⟨rfl, hb4⟩
          have HB4 := Lib.hid ((HBA.out _).trans (hb4.mono (HBA.out _).size))
          clear hb4 d0 d1 d2 d3
          go_wp2_with fail
          go_roundg (n - (i + 1))
          case measure => have := HIL.out; omega
          case rel => exact ⟨i + 1, by omega, by go_num, by rw [HFT.out]; unfold addW; rw [wrapEq2], HB4.out⟩
        · obtain rfl : i = n := by omega
          have htk : kids.take i = kids := List.take_of_length_le (by rw [← HN.out]; exact Nat.le_refl _)
          rw [htk]
          obtain ⟨s, hs⟩ : ∃ s, s = kids.foldl (fun a g => addW a g.plain.ctl) (r : Int) := ⟨_, rfl⟩
          rw [← hs]
          have HS := Lib.hid hs
          have hltI : (i : Int) ≤ (i : Int) := Int.le_refl _
          clear htk hs
          go_wp2_with fail
          exact bodyPost_ret (v := .int .i64 s) (by simp [results, go_sem]) rfl ⟨by rw [HS.out], HB1.out.trans (HBL2.out.mono HB1.out.size)⟩
end Go.Proofs.YtbacakdpfiiblaaGreat.geo
