/-
  Contract: what the reference makes of plain data, of many parts.
-/
import Derived.Test.YtbacakdpfiiblaaGreatGeoT
namespace Go.Proofs.YtbacakdpfiiblaaGreat.geo
open Go.ChangeShapes Go.WideShapes Go.ChangeAt Go.RowKit
open Go.Proofs.YtbacakdpfiiblaaGreat.mem
set_option linter.unusedVariables false
set_option linter.unusedSimpArgs false

theorem seven_wf {k : Int} (h : 0 ≤ k ∧ k ≤ 6) : (Lit.int .i64 k).wf = true := by
  obtain rfl | rfl | rfl | rfl | rfl | rfl | rfl : k = 0 ∨ k = 1 ∨ k = 2 ∨ k = 3 ∨ k = 4 ∨ k = 5 ∨ k = 6 := by omega
  all_goals decide
theorem three_ways {Z k2 : Int} {b : Bool} (h : b = decide (Z < 0 ∨ Z = k2)) : (decide (Z < 0) = true ∧ True ∧ b = true) ∨ (decide (Z < 0) = false ∧ (Z == k2) = true ∧ b = true) ∨ (decide (Z < 0) = false ∧ (Z == k2) = false ∧ b = false) := by
  by_cases h1 : Z < 0
  · exact .inl ⟨by simp [h1], trivial, by rw [h]; simp [h1]⟩
  · by_cases h2 : Z = k2
    · exact .inr (.inl ⟨by simpa using h1, by simpa using h2, by rw [h]; simp [h2]⟩)
    · exact .inr (.inr ⟨by simpa using h1, by simpa using h2, by rw [h]; simp [h1, h2]⟩)
theorem kd_cases {k K : Int} (h : K = kd k) : (decide (k < 0) = true ∧ True ∧ K = 0) ∨ (decide (k < 0) = false ∧ decide (6 < k) = true ∧ K = 0) ∨ (decide (k < 0) = false ∧ decide (6 < k) = false ∧ K = k) := by
  unfold kd at h
  by_cases h1 : k < 0
  · rw [if_pos (.inl h1)] at h
    exact .inl ⟨decide_eq_true h1, trivial, h⟩
  · by_cases h2 : 6 < k
    · rw [if_pos (.inr h2)] at h
      exact .inr (.inl ⟨decide_eq_false h1, decide_eq_true h2, h⟩)
    · rw [if_neg (by omega)] at h
      exact .inr (.inr ⟨decide_eq_false h1, decide_eq_false h2, h⟩)
theorem multi_fit {K : Int} {D : Nat} {l : List PG} (hD : D < 4) (h : ∀ g ∈ l, g.good ∧ g.fit) (hl : l.length ≤ 1048576) : (PG.mk K D [] l).good ∧ (PG.mk K D [] l).fit := by
  rw [PG.good, PG.fit]
  exact ⟨⟨by rw [dm_nat hD], goodL_iff.2 fun g hg => (h g hg).1⟩, ⟨by simp, hl⟩, fitL_iff.2 fun g hg => (h g hg).2⟩
theorem new_take {kids : List IG} {i : Nat} {g : IG} {K : Int} (h : kids[i]? = some g) : ((kids.take (i + 1)).map (fun g => g.plain.new)).filter (fitsK K) = ((kids.take i).map (fun g => g.plain.new)).filter (fitsK K) ++ (if fitsK K g.plain.new then [g.plain.new] else []) := by
  rw [List.take_add_one, h]
  simp [List.filter_cons]
theorem join_nil {K : Int} {D : Nat} : joinG K D [] = .mk K D [] [] := rfl
theorem join_some {K : Int} {D : Nat} {l : List PG} (h : l ≠ []) (hD : D < 4) : joinG K D l = (PG.mk K D [] l).frc (cd 3 l) := by
  unfold joinG
  rw [if_neg h, frc_eq, frcN_nil]

set_option maxHeartbeats 16000000 in
set_option maxRecDepth 100000 in
theorem snew_calls : ∀ g : IG, ∀ (S : Nat → Prop) (w : World), g.In S w → g.plain.fit → Calls Tryz.prog 11 #[.agg g.enc.toArray] w (IPost w g.plain.new) := by
  intro g
  induction g using IG.ind with
  | h k d A ca ns B cb kids ih =>
    intro S w h hfit
    by_cases hleaf : kd k = 1 ∨ kd k = 2
    · exact snew_leaf k d A ca ns B cb kids hleaf S w h hfit
    rw [IG.In] at h
    obtain ⟨hwf, -, -, hA, hB0, hkid0⟩ := h
    have hkid := IG.inL_iff.1 hkid0
    rw [IG.plain_eq, PG.fit] at hfit
    have hfk := fun g hg => fitL_iff.1 hfit.2 _ (List.mem_map_of_mem (f := IG.plain) (a := g) hg)
    have hkb : kids.length ≤ 1048576 := by have := hfit.1.2; simpa using this
    have hd4 := dm_lt d
    obtain ⟨K, hKe⟩ : ∃ K, K = kd k := ⟨_, rfl⟩
    have hK6 := kd_bounds k
    rw [← hKe] at hK6
    have hand := bits_and3 d
    have hLF := Lib.hid (leaf_calls K)
    rw [decide_eq_false (by rw [hKe]; exact hleaf)] at hLF
    show Calls Tryz.prog 11 #[.agg #[.int .i64 k, .int .i64 d, .slice A ns.length ca, .slice B kids.length cb]] w _
    rw [IG.plain_eq, new_multi hleaf, ← hKe, List.map_map]
    have hKO := Lib.hid (kidOf_calls K hK6)
    have hwfK : (Lit.int .i64 K).wf = true := seven_wf hK6
    obtain ⟨D, hD⟩ : ∃ D, D = dm d := ⟨_, rfl⟩
    rw [← hD] at hand hd4 ⊢
    obtain ⟨i0, hi, hz0, hz1, hz2⟩ := info_parts infoGm
    obtain ⟨w1, hw1⟩ : ∃ w1, w1 = ((w.alloc (.cells #[.int .i64 k, .int .i64 d, .slice A ns.length ca, .slice B kids.length cb] 25)).alloc (.cells #[.int .i64 0, .int .i64 0, .slice none 0 0, .slice none 0 0] 25)).alloc (.cells #[.int .i64 K, .int .i64 D, .slice none 0 0, .slice none 0 0] 25) := ⟨_, rfl⟩
    have hb1 : Below w.heap.size w w1 := by rw [hw1]; exact (((Below.refl _ _).alloc (Nat.le_refl _) _).alloc (by simp) _).alloc (by simp; omega) _
    have hX : Blk w1 w.heap.size 25 #[.int .i64 k, .int .i64 d, .slice A ns.length ca, .slice B kids.length cb] := by rw [hw1]; exact ((Blk.new _ _ _).alloc _).alloc _
    have hR : Blk w1 (w.heap.size + 1) 25 #[.int .i64 0, .int .i64 0, .slice none 0 0, .slice none 0 0] := by
      rw [hw1]
      have := (Blk.new (w.alloc (.cells #[.int .i64 k, .int .i64 d, .slice A ns.length ca, .slice B kids.length cb] 25)) 25 #[.int .i64 0, .int .i64 0, .slice none 0 0, .slice none 0 0]).alloc (.cells #[.int .i64 K, .int .i64 D, .slice none 0 0, .slice none 0 0] 25)
      simpa using this
    have hO : Blk w1 (w.heap.size + 2) 25 #[.int .i64 K, .int .i64 D, .slice none 0 0, .slice none 0 0] := by
      rw [hw1]
      have := Blk.new ((w.alloc (.cells #[.int .i64 k, .int .i64 d, .slice A ns.length ca, .slice B kids.length cb] 25)).alloc (.cells #[.int .i64 0, .int .i64 0, .slice none 0 0, .slice none 0 0] 25)) 25 #[.int .i64 K, .int .i64 D, .slice none 0 0, .slice none 0 0]
      simpa using this
    have hs1 : w1.heap.size = w.heap.size + 3 := by rw [hw1]; simp
    have hcase := kd_cases hKe
    obtain ⟨n, hn⟩ : ∃ n, n = kids.length := ⟨_, rfl⟩
    obtain ⟨m, hm⟩ : ∃ m, m = ns.length := ⟨_, rfl⟩
    rw [← hm] at hw1 hX ⊢
    rw [← hn] at hw1 hX ⊢
    have HSB0 := Lib.hid hB0.1
    have HKID := Lib.hid (fun g hg w' (hb : Below w.heap.size w w') => IG.up hb (hkid g hg))
    have HFK := Lib.hid hfk
    have HIH := Lib.hid ih
    have HX := Lib.hid hX
    have HO := Lib.hid hO
    have HR := Lib.hid hR
    have HB1 := Lib.hid hb1
    have HS1 := Lib.hid hs1
    have HN := Lib.hid hn
    have HK6 := Lib.hid hK6
    have HKB := Lib.hid hkb
    have hnb : n ≤ 1048576 := by rw [hn]; exact hkb
    obtain ⟨Z, hZ⟩ : ∃ Z, Z = kidK K := ⟨_, rfl⟩
    rw [← hZ] at hKO
    have HZ := Lib.hid hZ
    obtain ⟨fk, hfk2⟩ : ∃ fk, fk = fitsK K := ⟨_, rfl⟩
    have HFKE := Lib.hid hfk2
    have HFIT := Lib.hid (show ∀ g : PG, fk g = decide (Z < 0 ∨ Z = g.k) from fun g => by rw [hfk2, hZ]; rfl)
    have HTK := Lib.hid (show ∀ i g, kids[i]? = some g → ((kids.take (i + 1)).map (fun g => g.plain.new)).filter fk = ((kids.take i).map (fun g => g.plain.new)).filter fk ++ (if fk g.plain.new then [g.plain.new] else []) from fun i g hg => by rw [hfk2]; exact new_take hg)
    rw [← hfk2]
    have HJ := Lib.hid (show ∀ l : List PG, l ≠ [] → D < 4 → joinG K D l = (PG.mk K D [] l).frc (cd 3 l) from fun l h1 h2 => join_some h1 h2)
    obtain ⟨P, hP⟩ : ∃ P, P = (kids.map (fun g => g.plain.new)).filter fk := ⟨_, rfl⟩
    rw [show List.filter fk (List.map (PG.new ∘ IG.plain) kids) = P from hP.symm]
    have HP := Lib.hid hP
    clear hZ hfk2 hP hfit hfk hA hB0 hkid0 hkid hb1 hX hR hO hs1 hn hm ih hD hwf hleaf hkb
    rcases hcase with ⟨e1, e2, g2⟩ | ⟨e1, e2, g2⟩ | ⟨e1, e2, g2⟩
    all_goals
      have HW1 := Lib.hid hw1
      rw [g2] at HW1
      clear hw1 g2 hKe hK6
      go_enter Tryz.func11, Tryz.ntmps11
      go_upto_region 4 with fail
      rw [← HW1.out]
      clear HW1 e1 e2
      obtain ⟨o0, o1, o2, o3, p0, p1, p2, p3, ol⟩ := cells4 HO.out
      obtain ⟨x0, x1, x2, x3, -, -, -, -, xl⟩ := cells4 HX.out
      go_wp2_with fail
      refine (hLF.out _).mono ?_
      rintro e9 w9 ⟨rfl, h9⟩
      obtain rfl := h9.symm
      have HLF := Lib.hid hLF
      clear hLF h9
      go_wp2_with fail
      clear o0 o1 o2 o3 p0 p1 p2 p3 ol x0 x1 x2 x3 xl
      go_loopg [5, 55] n (fun q dv ci wr => ∃ (i l : Nat) (L : List IG) (A1 : Option Addr) (k1 : Nat), i + q = n ∧ ci = .int .i64 (i : Nat) ∧ dv = .int .i64 (cd 3 (L.map IG.plain) : Nat) ∧ L.length = l ∧ l ≤ i ∧ l ≤ k1 ∧
        L.map IG.plain = ((kids.take i).map (fun g => g.plain.new)).filter fk ∧ (∀ g ∈ L, g.In (fun a => w1.heap.size ≤ a ∧ some a ≠ (Value.slice A1 l k1).ownBlock) wr) ∧ wr.ownsRow w1.heap.size 25 4 (.slice A1 l k1) l (L.flatMap IG.enc) ∧
        Blk wr (w.heap.size + 2) 25 #[.int .i64 K, .int .i64 D, .slice none 0 0, .slice A1 l k1] ∧ Blk wr (w.heap.size + 1) 25 #[.int .i64 0, .int .i64 0, .slice none 0 0, .slice none 0 0] ∧ Below w.heap.size w wr ∧ w1.heap.size ≤ wr.heap.size)
      case atStart => exact ⟨0, 0, [], none, 0, by omega, by go_num, rfl, rfl, Nat.le_refl _, Nat.le_refl _, rfl, (fun g hg => by cases hg), World.ownsRow_nil _ _ _ _, HO.out, HR.out, HB1.out, Nat.le_refl _⟩
      case round =>
        obtain ⟨i, l, L, A1, k1, hi', rfl, rfl, hll, hli, hlk, hlp, hlin, hown, hO, hR, hbl, hsr⟩ := hrel
        have HIL := Lib.hid hi'
        have HLL := Lib.hid hll
        have HLP := Lib.hid hlp
        have HLIN := Lib.hid hlin
        have HOWN := Lib.hid hown
        have HOB := Lib.hid hO
        have HRB := Lib.hid hR
        have HBL := Lib.hid hbl
        have hjn : i ≤ n := by omega
        clear hi' hll hlp hlin hown hO hR hbl
        obtain ⟨a, ha⟩ : ∃ a, a = cd 3 (L.map IG.plain) := ⟨_, rfl⟩
        rw [← ha]
        have HA := Lib.hid ha
        have ha4 : a < 4 := by rw [ha]; exact cd_lt _ _ (by decide)
        clear ha
        by_cases hlt : i < n
        · have hik : i < kids.length := by rw [← HN.out]; exact hlt
          obtain ⟨g, hg⟩ : ∃ g, kids[i]? = some g := ⟨kids[i], List.getElem?_eq_getElem hik⟩
          have HT := Lib.hid (HTK.out i g hg)
          have hmem := List.mem_of_getElem? hg
          obtain ⟨b, off, hAe, hblk, hcell⟩ := sl_part HSB0.out (fun g _ => g.enc_len) (by omega)
          subst hAe
          have HIN := Lib.hid (HKID.out g hmem)
          have HCA := Lib.hid (fun w' (hb : Below w.heap.size w w') => HIH.out g hmem S w' (HIN.out w' hb) (HFK.out g hmem))
          obtain ⟨p2, hp2⟩ : ∃ p2, p2 = g.plain.new := ⟨_, rfl⟩
          have hpg : p2.good := by rw [hp2]; exact new_good
          rw [← hp2] at HCA HT
          obtain ⟨gk, gd, gA, gca, gns, gB, gcb, gks⟩ := g
          have d0 := (HBL.out.cell (p := ⟨b, off + (i * 4 + 0), none⟩) hblk).trans (hcell i _ hg 0 _ rfl)
          have d1 := (HBL.out.cell (p := ⟨b, off + (i * 4 + 1), none⟩) hblk).trans (hcell i _ hg 1 _ rfl)
          have d2 := (HBL.out.cell (p := ⟨b, off + (i * 4 + 2), none⟩) hblk).trans (hcell i _ hg 2 _ rfl)
          have d3 := (HBL.out.cell (p := ⟨b, off + (i * 4 + 3), none⟩) hblk).trans (hcell i _ hg 3 _ rfl)
          rw [Nat.add_zero] at d0
          rw [← Nat.add_assoc] at d1 d2 d3
          have hltI : (i : Int) < (n : Int) := by omega
          have HCA := Lib.hid (show ∀ w', Below w.heap.size w w' → Calls Tryz.prog 11 #[.agg #[.int .i64 gk, .int .i64 gd, .slice gA gns.length gca, .slice gB gks.length gcb]] w' (IPost w' p2) from HCA.out)
          obtain ⟨wK, hwK⟩ : ∃ wK, wK = wr.alloc (.cells #[.int .i64 gk, .int .i64 gd, .slice gA gns.length gca, .slice gB gks.length gcb] 25) := ⟨_, rfl⟩
          have hbK : Below wr.heap.size wr wK := by rw [hwK]; exact (Below.refl _ _).alloc (Nat.le_refl _) _
          have HBK := Lib.hid (HBL.out.trans (hbK.mono HBL.out.size))
          have HBKR := Lib.hid hbK
          have HWK := Lib.hid hwK
          have HPG := Lib.hid hpg
          clear hg hmem hcell hik hp2 hbK hwK hpg
          go_upto_region 14 with fail
          rw [← HWK.out]
          have k0 : wK.cell? ⟨wr.heap.size, 0, none⟩ = some (.int .i64 gk) := by rw [HWK.out]; exact (Blk.new wr 25 #[.int .i64 gk, .int .i64 gd, .slice gA gns.length gca, .slice gB gks.length gcb]).cell 0
          have k1' : wK.cell? ⟨wr.heap.size, 1, none⟩ = some (.int .i64 gd) := by rw [HWK.out]; exact (Blk.new wr 25 #[.int .i64 gk, .int .i64 gd, .slice gA gns.length gca, .slice gB gks.length gcb]).cell 1
          have k2' : wK.cell? ⟨wr.heap.size, 2, none⟩ = some (.slice gA gns.length gca) := by rw [HWK.out]; exact (Blk.new wr 25 #[.int .i64 gk, .int .i64 gd, .slice gA gns.length gca, .slice gB gks.length gcb]).cell 2
          have k3' : wK.cell? ⟨wr.heap.size, 3, none⟩ = some (.slice gB gks.length gcb) := by rw [HWK.out]; exact (Blk.new wr 25 #[.int .i64 gk, .int .i64 gd, .slice gA gns.length gca, .slice gB gks.length gcb]).cell 3
          go_wp2_with fail
          refine (HCA.out _ HBK.out).mono ?_
          rintro e9 w5 ⟨⟨k2, d2, A2, ca2, ns2, B2, cb2, ks2⟩, rfl, h5, hp5, hb5⟩
          rw [show (IG.mk k2 d2 A2 ca2 ns2 B2 cb2 ks2).enc.toArray = #[.int .i64 k2, .int .i64 d2, .slice A2 ns2.length ca2, .slice B2 ks2.length cb2] from rfl]
          have hD2 : d2 = ((dm d2 : Nat) : Int) := by
            have h1 := HPG.out
            rw [← hp5, IG.plain_eq, PG.good] at h1
            exact h1.1
          obtain ⟨D2, hDD⟩ : ∃ D2, D2 = dm d2 := ⟨_, rfl⟩
          have hD24 : D2 < 4 := by rw [hDD]; exact dm_lt _
          rw [← hDD] at hD2
          clear hDD
          subst hD2
          have hpk : p2.k = k2 ∧ dm p2.d = D2 := by
            rw [← hp5, IG.plain_eq]
            exact ⟨rfl, dm_nat hD24⟩
          have hfit2 : fk p2 = decide (Z < 0 ∨ Z = k2) := by rw [HFIT.out, hpk.1]
          have HFIT2 := Lib.hid hfit2
          have HPK := Lib.hid hpk
          have hand2 := i64_and ha4 hD24
          obtain ⟨w6, hw6⟩ : ∃ w6, w6 = w5.alloc (.cells #[.int .i64 k2, .int .i64 D2, .slice A2 ns2.length ca2, .slice B2 ks2.length cb2] 25) := ⟨_, rfl⟩
          have hb6 : Below w5.heap.size w5 w6 := by rw [hw6]; exact (Below.refl _ _).alloc (Nat.le_refl _) _
          have hM : Blk w6 w5.heap.size 25 #[.int .i64 k2, .int .i64 D2, .slice A2 ns2.length ca2, .slice B2 ks2.length cb2] := by rw [hw6]; exact Blk.new _ _ _
          have HB6 := Lib.hid (HBKR.out.trans ((hb5.trans (hb6.mono hb5.size)).mono HBKR.out.size))
          have HM := Lib.hid hM
          have HW6 := Lib.hid hw6
          have HO6 := Lib.hid (HOB.out.below HB6.out HOB.out.lt)
          have HIN6 := Lib.hid (IG.up hb6 (IG.less (T := fun a => wK.heap.size ≤ a) (fun a ha => by exact ha) h5))
          have HP5 := Lib.hid hp5
          have HSK := Lib.hid (hb5.size)
          have HS6 := Lib.hid (show w6.heap.size = w5.heap.size + 1 by rw [hw6]; simp)
          clear d0 d1 d2 d3 k0 k1' k2' k3' hfit2 hpk hb6 hM hw6 h5 hp5 hb5
          go_upto_region 15 with fail
          rw [← HW6.out]
          obtain ⟨o0, o1, o2, o3, p0, p1, p2', p3, ol⟩ := cells4 HO6.out
          obtain ⟨m0, m1, m2, m3, -, -, -, -, ml⟩ := cells4 HM.out
          have hc3 : (decide (Z < 0) = true ∧ True ∧ fk p2 = true) ∨ (decide (Z < 0) = false ∧ (Z == k2) = true ∧ fk p2 = true) ∨ (decide (Z < 0) = false ∧ (Z == k2) = false ∧ fk p2 = false) := three_ways HFIT2.out
          rcases hc3 with ⟨c1, c2, c3⟩ | ⟨c1, c2, c3⟩ | ⟨c1, c2, c3⟩
          iterate 2
            have HC3 := Lib.hid c3
            clear c3
            go_wp2_with fail
            go_quiet ((go_at_call 30; exact Calls.quiet_of_same (hKO.out _)))
            obtain ⟨w7, hw7⟩ : ∃ w7, w7 = w6.drewN nq := ⟨_, rfl⟩
            rw [← hw7]
            have hb7 : Below w6.heap.size w6 w7 := by rw [hw7]; exact drewN_below _ _ _
            have hs7 : w7.heap.size = w6.heap.size := by rw [hw7]; rfl
            have HS7 := Lib.hid hs7
            have HB7 := Lib.hid hb7
            clear hw7 hs7 o0 o1 o2 o3 p0 p1 p2' p3 ol m0 m1 m2 m3 ml
            have HO7 := Lib.hid (HO6.out.below hb7 HO6.out.lt)
            have HM7 := Lib.hid (HM.out.below hb7 HM.out.lt)
            have HBR7 := Lib.hid (HB6.out.trans (hb7.mono HB6.out.size))
            have HO8 := Lib.hid (HOWN.out.kept (grown_below (row := none) HBR7.out) (own_row _))
            clear hb7
            obtain ⟨o0, o1, o2, o3, p0, p1, p2', p3, ol⟩ := cells4 HO7.out
            obtain ⟨m0, m1, m2, m3, -, -, -, -, ml⟩ := cells4 HM7.out
            have HBOX := Lib.hid (show ∀ r, (Value.slice A1 l k1).ownBlock = some r → w1.heap.size ≤ r ∧ r < wr.heap.size from fun r hr => HOWN.out.lt r hr)
            have HKP := Lib.hid (show ∀ b, b < w7.heap.size → some b ≠ (Value.slice A1 l k1).ownBlock → ∀ ob w8, (w7.alloc ob).grownBy w8 (Value.slice A1 l k1).ownBlock → w8.heap[b]? = w7.heap[b]? from fun b hb hne ob w8 hg => by
              rw [hg.block b (by simp; omega) hne]
              exact Below.heap_alloc w7 ob b hb)
            have hmne : some w5.heap.size ≠ (Value.slice A1 l k1).ownBlock := fun e => by
              have h1 := (HBOX.out _ e.symm).2
              have h2 := HBKR.out.size
              have h3 := HSK.out
              omega
            have hone : some (w.heap.size + 2) ≠ (Value.slice A1 l k1).ownBlock := fun e => by
              have h1 := (HBOX.out _ e.symm).1
              have h2 := HS1.out
              omega
            have HMN := Lib.hid hmne
            have HON := Lib.hid hone
            clear hmne hone
            go_wp2_with (at_builtin; refine wpList_append_sl _ rfl (.tmp 74) (.tmp 76) 23 rfl w1.heap.size 25 i0 _ 4 64 Tryz.underlying23 hi hz0 hz1 hz2 rfl (by decide) (.slice A1 l k1) l (L.flatMap IG.enc) rfl (HO8.out.alloc _)
                           _ (some ⟨w7.heap.size, 0, none⟩) 1 1 [.int .i64 k2, .int .i64 D2, .slice A2 ns2.length ca2, .slice B2 ks2.length cb2] rfl (slBlk (n := 1) (c := 4) (heap_alloc_new w7 _) rfl (by unfold maxLen; omega)) (IG.enc_one (.mk k2 D2 A2 ca2 ns2 B2 cb2 ks2)) (by have := HKB.out; have := HN.out; unfold maxLen; omega) (by have := HKB.out; have := HN.out; omega) (by have := HS1.out; have := HB7.out.size; have := HB6.out.size; simp; omega) ?_; intro A5 c5 w8 ho8 hg8 hat8
                         have HG8 := Lib.hid hg8
                         have HOO8 := Lib.hid ho8
                         have HAT := Lib.hid hat8
                         have hom := HO7.out.of_heap (HKP.out _ HO7.out.lt HON.out _ _ hg8)
                         have hmm := HM7.out.of_heap (HKP.out _ HM7.out.lt HMN.out _ _ hg8)
                         obtain ⟨q0, q1, q2, q3, r0, r1, r2, r3, rl⟩ := cells4 hom
                         obtain ⟨s0, s1, s2, s3, -, -, -, -, sl⟩ := cells4 hmm
                         clear ho8 hg8 hat8 hom hmm)
            go_roundg (n - (i + 1))
            case measure => have := HIL.out; omega
            case rel =>
              have hs1 := HS1.out
              have hsk := HSK.out
              have hbs := HBKR.out.size
              have hs6 := HS6.out
              have hs7 := HS7.out
              have hcap := own_cap HOO8.out
              have hbA : Below wr.heap.size wr (w7.alloc (.cells #[.int .i64 k2, .int .i64 D2, .slice A2 ns2.length ca2, .slice B2 ks2.length cb2] 25)) := HBR7.out.alloc HBR7.out.size _
              have hsa : (w7.alloc (.cells #[.int .i64 k2, .int .i64 D2, .slice A2 ns2.length ca2, .slice B2 ks2.length cb2] 25)).heap.size = w7.heap.size + 1 := by simp
              have hgeo : ∀ g : IG, g.In (fun a => w1.heap.size ≤ a ∧ some a ≠ (Value.slice A1 l k1).ownBlock) (w7.alloc (.cells #[.int .i64 k2, .int .i64 D2, .slice A2 ns2.length ca2, .slice B2 ks2.length cb2] 25)) → g.In (fun a => w1.heap.size ≤ a ∧ some a ≠ (Value.slice A5 (l + 1) c5).ownBlock) (w8.setCell ⟨w.heap.size + 1 + 1, 3, none⟩ (.slice A5 (l + 1) c5)) := fun g hg => by
                refine IG.less (fun a ha => ⟨ha.1.1, fun e => ?_⟩) (IG.keep ((Keeps.grown HG8.out (fun r hr ha => ha.1.2 hr.symm)).trans (Keeps.set (p := ⟨w.heap.size + 1 + 1, 3, none⟩) (fun h => by have h0 : w1.heap.size ≤ w.heap.size + 1 + 1 := h.1.1; omega) _)) (IG.old hg))
                rcases HAT.out with h | h
                · exact ha.1.2 (e.trans h)
                · rw [h] at e
                  have h1 := Option.some.inj e
                  have h2 := ha.2
                  omega
              have hno : ∀ a, a < w1.heap.size → some a ≠ (Value.slice A1 l k1).ownBlock := fun a ha e => by have := (HBOX.out a e.symm).1; omega
              have hom : Blk w8 (w.heap.size + 2) _ _ := HO7.out.of_heap (HKP.out _ HO7.out.lt HON.out _ _ HG8.out)
              have hrm : Blk w8 (w.heap.size + 1) _ _ := (HRB.out.below HBR7.out HRB.out.lt).of_heap (HKP.out _ (HRB.out.below HBR7.out HRB.out.lt).lt (hno _ (by omega)) _ _ HG8.out)
              refine ⟨i + 1, l + 1, L ++ [.mk k2 D2 A2 ca2 ns2 B2 cb2 ks2], A5, c5, by omega, by go_num, ?_, by simp [HLL.out], by omega, hcap, ?_, ?_, ?_, ?_, ?_, ?_, ?_⟩
              · rw [List.map_append, List.map_cons, List.map_nil, cd_snoc, ← HA.out, HP5.out, HPK.out.2]
              · rw [List.map_append, HLP.out, HT.out, HC3.out, if_pos rfl, List.map_cons, List.map_nil, HP5.out]
              · intro g hg
                rcases List.mem_append.1 hg with hg | hg
                · exact hgeo g (IG.up hbA (HLIN.out g hg))
                · have := List.mem_singleton.1 hg
                  subst this
                  refine hgeo _ (IG.up (HB7.out.alloc HB7.out.size _) (IG.less (fun a ha => ?_) HIN6.out))
                  have h2 : wK.heap.size ≤ a := ha
                  exact ⟨by omega, fun e => by have h1 := (HBOX.out a e.symm).2; omega⟩
              · rw [List.flatMap_append, List.flatMap_cons, List.flatMap_nil, List.append_nil]
                exact HOO8.out.kept (grown_set w8 ⟨w.heap.size + 1 + 1, 3, none⟩ (.slice A5 (l + 1) c5)) (.inr (fun e => by have h1 : w1.heap.size ≤ w.heap.size + 1 + 1 := (HOO8.out.lt _ e).1; omega))
              · have := hom.set_ 3 (.slice A5 (l + 1) c5)
                simpa using this
              · exact hrm.far (p := ⟨w.heap.size + 1 + 1, 3, none⟩) (show w.heap.size + 1 ≠ w.heap.size + 1 + 1 by omega) _
              · have h1 := HBL.out.trans (hbA.mono HBL.out.size)
                exact (h1.grown HG8.out h1.size (fun r hr => Nat.le_trans HB1.out.size (HBOX.out r hr).1)).setCell (show w.heap.size ≤ w.heap.size + 1 + 1 by omega) _
              · have h1 := HG8.out.size
                have h2 := HBR7.out.size
                simp at h1 ⊢
                omega
          · have HC3 := Lib.hid c3
            clear c3
            go_wp2_with fail
            go_quiet ((go_at_call 30; exact Calls.quiet_of_same (hKO.out _)))
            go_wp2_with fail
            go_roundg (n - (i + 1))
            case measure => have := HIL.out; omega
            case rel =>
              have hb8 : Below wr.heap.size wr (w6.drewN nq) := HB6.out.trans (drewN_below _ _ _)
              refine ⟨i + 1, l, L, A1, k1, by omega, by go_num, by rw [HA.out], HLL.out, by omega, hlk, ?_, fun g hg => IG.up hb8 (HLIN.out g hg), HOWN.out.kept (grown_below (row := none) hb8) (own_row _), HOB.out.below hb8 HOB.out.lt, HRB.out.below hb8 HRB.out.lt, HBL.out.trans (hb8.mono HBL.out.size), Nat.le_trans hsr hb8.size⟩
              rw [HT.out, HC3.out, if_neg (by decide), List.append_nil, HLP.out]
        · obtain rfl : i = n := by omega
          have hltI : (i : Int) ≤ (i : Int) := Int.le_refl _
          have htk : kids.take i = kids := List.take_of_length_le (by rw [← HN.out]; exact Nat.le_refl _)
          have hlp := HLP.out
          rw [htk, ← HP.out] at hlp
          have HLP2 := Lib.hid hlp
          clear hlp htk
          obtain ⟨o0, o1, o2, o3, -, -, -, -, ol⟩ := cells4 HOB.out
          obtain ⟨z0, z1, z2, z3, y0, y1, y2, y3, zl⟩ := cells4 HRB.out
          have hs1 := HS1.out
          have hno : ¬ (fun a => w1.heap.size ≤ a) (w.heap.size + 1) := fun h => by have h0 : w1.heap.size ≤ w.heap.size + 1 := h; omega
          have HNO := Lib.hid hno
          have hgr1 : w.heap.size ≤ w.heap.size + 1 := Nat.le_add_right _ _
          have HLIN2 := Lib.hid (fun g hg => IG.less (S := fun a => w1.heap.size ≤ a ∧ some a ≠ (Value.slice A1 l k1).ownBlock) (T := fun a => w1.heap.size ≤ a) (fun a ha => ha.1) (HLIN.out g hg))
          have hb1s := HB1.out.size
          by_cases hl0 : l = 0
          · subst hl0
            clear hs1 hno
            go_wp2_with fail
            have hLn : L = [] := List.length_eq_zero_iff.1 HLL.out
            refine bodyPost_ret (v := .agg #[.int .i64 K, .int .i64 D, .slice none 0 0, .slice A1 0 k1]) (by simp [results, Tryz.results11, go_sem, z0, z1, z2, z3, zl]) rfl ⟨.mk K D none 0 [] A1 k1 [], rfl, ?_, ?_, ((((HBL.out).setCell hgr1 _).setCell hgr1 _).setCell hgr1 _).setCell hgr1 _⟩
            · rw [IG.In]
              exact ⟨⟨hwfK, four_wf hd4⟩, ⟨Nat.zero_le _, Nat.zero_le _⟩, ⟨Nat.le_refl _, Nat.zero_le _⟩, ⟨Sl.nil _ _ _, fun h => absurd h (Nat.lt_irrefl 0)⟩, ⟨⟨rfl, Nat.zero_le _, fun h => absurd h (Nat.lt_irrefl 0)⟩, fun h => absurd h (Nat.lt_irrefl 0)⟩, trivial⟩
            · rw [IG.plain_eq, ← HLP2.out, hLn]; rfl
          · have hlb : ((l : Int) == 0) = false := beq_eq_false_iff_ne.2 (by omega)
            have hPn : P ≠ [] := fun e => by
              have h1 := HLP2.out
              rw [e] at h1
              have h2 := HLL.out
              rw [← List.length_map (f := IG.plain), h1] at h2
              exact hl0 h2.symm
            have hPl : P.length ≤ 1048576 := by
              rw [HP.out]
              refine Nat.le_trans (List.length_filter_le _ _) ?_
              rw [List.length_map]; exact HKB.out
            have hPg : ∀ g ∈ P, g.good ∧ g.fit := fun g hg => by
              rw [HP.out] at hg
              obtain ⟨g', hg', rfl⟩ := List.mem_map.1 (List.mem_filter.1 hg).1
              exact ⟨new_good, new_fit (HFK.out g' hg')⟩
            obtain ⟨m1, m2⟩ := multi_fit (K := K) hd4 hPg hPl
            have HFC := Lib.hid (sforce_calls ha4 (IG.mk K D none 0 [] A1 k1 L) (fun a => w1.heap.size ≤ a) wr (by
              rw [IG.In]
              refine ⟨⟨hwfK, four_wf hd4⟩, ⟨Nat.zero_le _, ?_⟩, ⟨Nat.le_refl _, by rw [HLL.out]; exact hlk⟩, ⟨Sl.nil _ _ _, fun h => absurd h (Nat.lt_irrefl 0)⟩, ?_, IG.inL_iff.2 HLIN2.out⟩
              · rw [← List.length_map (f := IG.plain), HLP2.out]
                exact le_big (Nat.le_trans hPl (by decide))
              · rw [HLL.out]
                exact ⟨Sl.of_own HOWN.out, fun _ a ha => (HOWN.out.lt a.block (by rw [ha]; rfl)).1⟩) (by rw [IG.plain_eq, HLP2.out]; exact m1) (by rw [IG.plain_eq, HLP2.out]; exact m2))
            rw [IG.plain_eq, HLP2.out] at HFC
            have ha2 : a = cd 3 P := by rw [HA.out, HLP2.out]
            have HJJ := Lib.hid (HJ.out P hPn hd4)
            rw [← ha2] at HJJ
            have HFC := Lib.hid (show Calls Tryz.prog 31 #[.agg #[.int .i64 K, .int .i64 D, .slice none 0 0, .slice A1 l k1], .int .i64 a] wr (IPost wr ((PG.mk K D [] P).frc a)) from by rw [← HLL.out]; exact HFC.out)
            obtain ⟨F, hF⟩ : ∃ F, F = (PG.mk K D [] P).frc a := ⟨_, rfl⟩
            rw [← hF] at HFC
            have HFE := Lib.hid (hF.trans HJJ.out.symm)
            clear hPn hPl hPg m1 m2 ha2 HJJ hF hs1 hno
            go_wp2_with fail
            refine HFC.out.mono ?_
            rintro e9 w5 ⟨⟨k2, d2, A2, ca2, ns2, B2, cb2, ks2⟩, rfl, h5, hp5, hb5⟩
            obtain ⟨z0, z1, z2, z3, y0, y1, y2, y3, zl⟩ := cells4 (HRB.out.below hb5 HRB.out.lt)
            have H5 := Lib.hid h5
            have HP5 := Lib.hid hp5
            have HB5 := Lib.hid hb5
            rw [show (IG.mk k2 d2 A2 ca2 ns2 B2 cb2 ks2).enc.toArray = #[.int .i64 k2, .int .i64 d2, .slice A2 ns2.length ca2, .slice B2 ks2.length cb2] from rfl]
            clear h5 hp5 hb5
            go_wp2_with fail
            have hno2 : ¬ (fun a => wr.heap.size ≤ a) (w.heap.size + 1) := fun h => by have h0 : wr.heap.size ≤ w.heap.size + 1 := h; have := HRB.out.lt; omega
            have hks : Keeps (fun a => wr.heap.size ≤ a) w5 ((((w5.setCell ⟨w.heap.size + 1, 0, none⟩ (.int .i64 k2)).setCell ⟨w.heap.size + 1, 1, none⟩ (.int .i64 d2)).setCell ⟨w.heap.size + 1, 2, none⟩ (.slice A2 ns2.length ca2)).setCell ⟨w.heap.size + 1, 3, none⟩ (.slice B2 ks2.length cb2)) :=
              ((((Keeps.refl _ w5).setFar hno2 _).setFar hno2 _).setFar hno2 _).setFar hno2 _
            have hbw := HBL.out.trans (HB5.out.mono HBL.out.size)
            refine bodyPost_ret (v := .agg #[.int .i64 k2, .int .i64 d2, .slice A2 ns2.length ca2, .slice B2 ks2.length cb2]) (by simp [results, Tryz.results11, go_sem, z0, z1, z2, z3, zl]) rfl ⟨.mk k2 d2 A2 ca2 ns2 B2 cb2 ks2, rfl, ?_, HP5.out.trans HFE.out, (((hbw.setCell hgr1 _).setCell hgr1 _).setCell hgr1 _).setCell hgr1 _⟩
            exact IG.less (fun a ha => Nat.le_trans hb1s (Nat.le_trans hsr ha)) (IG.keep hks H5.out)
end Go.Proofs.YtbacakdpfiiblaaGreat.geo
