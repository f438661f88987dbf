/-
  Contracts: the reference's forcing of a type.
-/
import Derived.Test.YtbacakdpfiiblaaGreatGeoQ
import Derived.Deep.DrawnRows
import Derived.Deep.RegionLaw
namespace Go.Proofs.YtbacakdpfiiblaaGreat.geo
open Go.ChangeShapes Go.WideShapes Go.ChangeAt Go.RowKit
open Go.Proofs.YtbacakdpfiiblaaGreat.mem
set_option linter.unusedVariables false
set_option linter.unusedSimpArgs false

theorem places_calls {d : Nat} (hd : d < 4) (A : Option Addr) (n c : Nat) (ns : List Nat) (hn : n ≤ 1073741824) {w : World} (hA : Sl w w.heap.size A n 1 (FL ns)) :
    Calls Tryz.prog 69 #[.slice A n c, .int .i64 d] w (PlPost w (plc d ns)) := by
  obtain rfl | rfl | rfl | rfl := four hd
  · exact places0 A n c ns hn hA
  · exact places1 A n c ns hn hA
  · exact places2 A n c ns hn hA
  · exact places3 A n c ns hn hA
theorem nums_calls {d : Nat} (hd : d < 4) (A : Option Addr) (c : Nat) (l : List Pl) (hn : l.length ≤ 1073741824) {w : World} (hA : Sl w w.heap.size A l.length 4 (l.flatMap encP)) :
    Calls Tryz.prog 68 #[.slice A l.length c, .int .i64 d] w (NumPost w (l.flatMap (emit d))) := by
  obtain rfl | rfl | rfl | rfl := four hd
  · exact nums0 A c l hn hA
  · exact nums1 A c l hn hA
  · exact nums2 A c l hn hA
  · exact nums3 A c l hn hA

/-! ### data that is good and fits -/
mutual
def PG.good : PG → Prop
  | .mk k d ns kids => d = ((dm d : Nat) : Int) ∧ PG.goodL kids
def PG.goodL : List PG → Prop
  | [] => True
  | g :: l => g.good ∧ PG.goodL l
end
theorem goodL_iff : ∀ {l : List PG}, PG.goodL l ↔ ∀ g ∈ l, g.good
  | [] => by simp [PG.goodL]
  | g :: l => by rw [PG.goodL, goodL_iff (l := l)]; simp
mutual
def PG.fit : PG → Prop
  | .mk k d ns kids => (ns.length / wd (dm d) ≤ 1048576 ∧ kids.length ≤ 1048576) ∧ PG.fitL kids
def PG.fitL : List PG → Prop
  | [] => True
  | g :: l => g.fit ∧ PG.fitL l
end
theorem fitL_iff : ∀ {l : List PG}, PG.fitL l ↔ ∀ g ∈ l, g.fit
  | [] => by simp [PG.fitL]
  | g :: l => by rw [PG.fitL, fitL_iff (l := l)]; simp
theorem fit_len {k d : Int} {ns : List Nat} {kids : List PG} (h : (PG.mk k d ns kids).fit) : ns.length ≤ 4194308 := by
  rw [PG.fit] at h
  have h1 := Nat.div_add_mod ns.length (wd (dm d))
  have h2 := wd_two (dm d)
  have h3 := Nat.mod_lt ns.length (show 0 < wd (dm d) by omega)
  have h4 : wd (dm d) * (ns.length / wd (dm d)) ≤ 4 * 1048576 := Nat.mul_le_mul h2.2 h.1.1
  omega
theorem fit_frc {d : Nat} (hd : d < 4) : ∀ {g : PG}, g.fit → (g.frc d).fit := by
  intro g
  induction g using PG.ind with
  | h k d0 ns kids ih =>
    intro h
    rw [PG.fit] at h
    rw [frc_eq, PG.fit]
    have h2 := wd_two d
    refine ⟨⟨?_, by simpa using h.1.2⟩, fitL_iff.2 fun g hg => ?_⟩
    · rw [dm_nat hd, frcN_len hd, Nat.mul_div_cancel _ (by omega)]
      exact h.1.1
    · obtain ⟨g', hg', rfl⟩ := List.mem_map.1 hg
      exact ih g' hg' (fitL_iff.1 h.2 g' hg')
theorem good_frc {d : Nat} (hd : d < 4) : ∀ {g : PG}, (g.frc d).good := by
  intro g
  induction g using PG.ind with
  | h k d0 ns kids ih =>
    rw [frc_eq, PG.good]
    refine ⟨by rw [dm_nat hd], goodL_iff.2 fun g hg => ?_⟩
    obtain ⟨g', hg', rfl⟩ := List.mem_map.1 hg
    exact ih g' hg'
theorem fit_small : ∀ {g : PG}, g.small → g.fit := by
  intro g
  induction g using PG.ind with
  | h k d ns kids ih =>
    intro h
    rw [PG.small] at h
    rw [PG.fit]
    have := Nat.div_le_self ns.length (wd (dm d))
    exact ⟨⟨Nat.le_trans this h.1.1, h.1.2⟩, fitL_iff.2 fun g hg => ih g hg (smallL_iff.1 h.2 g hg)⟩
theorem join_fit {k : Int} {d0 : Nat} {ks : List PG} (hl : ks.length ≤ 1048576) (h : ∀ g ∈ ks, g.fit) : (joinG k d0 ks).fit := by
  unfold joinG
  split
  · rw [PG.fit]; simp [PG.fitL]
  · rw [PG.fit]
    have hc : cd 3 ks < 4 := cd_lt ks 3 (by decide)
    refine ⟨⟨by simp, by simpa using hl⟩, fitL_iff.2 fun g hg => ?_⟩
    obtain ⟨g', hg', rfl⟩ := List.mem_map.1 hg
    exact fit_frc hc (h g' hg')
theorem join_good {k : Int} {d0 : Nat} {ks : List PG} (hd : d0 < 4) : (joinG k d0 ks).good := by
  unfold joinG
  have hc : cd 3 ks < 4 := cd_lt ks 3 (by decide)
  split
  · rw [PG.good]
    exact ⟨by rw [dm_nat hd], trivial⟩
  · rw [PG.good]
    refine ⟨by rw [dm_nat hc], goodL_iff.2 fun g hg => ?_⟩
    obtain ⟨g', hg', rfl⟩ := List.mem_map.1 hg
    exact good_frc hc
theorem new_good : ∀ {g : PG}, g.new.good
  | .mk k d ns kids => by
    rw [new_eq]
    have hd := dm_lt d
    split
    · rw [PG.good]; exact ⟨by rw [dm_nat hd], trivial⟩
    · split
      · rw [PG.good]; exact ⟨by rw [dm_nat hd], trivial⟩
      · exact join_good hd
theorem new_fit : ∀ {g : PG}, g.fit → g.new.fit := by
  intro g
  induction g using PG.ind with
  | h k d ns kids ih =>
    intro h
    have h0 := h
    rw [PG.fit] at h
    rw [new_eq]
    have hd := dm_lt d
    have hle : ∀ m, (ns.take m).length / wd (dm d) ≤ ns.length / wd (dm d) := fun m => Nat.div_le_div_right (by rw [List.length_take]; omega)
    split
    · rw [PG.fit, dm_nat hd]
      exact ⟨⟨Nat.le_trans (hle _) h.1.1, by simp⟩, trivial⟩
    · split
      · rw [PG.fit, dm_nat hd]
        exact ⟨⟨Nat.le_trans (hle _) h.1.1, by simp⟩, trivial⟩
      · refine join_fit ?_ (fun g hg => ?_)
        · refine Nat.le_trans (List.length_filter_le _ _) ?_
          rw [List.length_map]; exact h.1.2
        · obtain ⟨g', hg', rfl⟩ := List.mem_map.1 (List.mem_filter.1 hg).1
          exact ih g' hg' (fitL_iff.1 h.2 g' hg')

theorem Keeps.refl (S : Nat → Prop) (w : World) : Keeps S w w := ⟨Nat.le_refl _, fun _ _ _ => rfl⟩
theorem Keeps.drew {S : Nat → Prop} {w w' : World} (h : Keeps S w w') : Keeps S w w'.drew := h
theorem Keeps.alloc {S : Nat → Prop} {w w' : World} (h : Keeps S w w') (o : Obj) : Keeps S w (w'.alloc o) := h.trans (.of_below ((Below.refl _ _).alloc (Nat.le_refl _) o))
theorem Keeps.below {S : Nat → Prop} {w w' w'' : World} (h : Keeps S w w') (hb : Below w'.heap.size w' w'') : Keeps S w w'' := h.trans (.of_below hb)
theorem Keeps.setFar {S : Nat → Prop} {w w' : World} (h : Keeps S w w') {b o : Nat} (hb : ¬ S b) (u : Value) : Keeps S w (w'.setCell ⟨b, o, none⟩ u) := h.trans (Keeps.set (p := ⟨b, o, none⟩) hb u)
/-- Plain data come back, all new. -/
def IPost (w : World) (p : PG) (e : Ending) (w' : World) : Prop :=
  ∃ g : IG, e = .returned (.agg g.enc.toArray) ∧ g.In (fun a => w.heap.size ≤ a) w' ∧ g.plain = p ∧ Below w.heap.size w w'
theorem infoGm : (Tryz.prog.info? 25).map (fun i => (i.zero, i.size, i.bytes)) = some (some (.agg #[.int .i64 0, .int .i64 0, .slice none 0 0, .slice none 0 0]), 4, 64) := by kernel_rfl

set_option maxHeartbeats 16000000 in
set_option maxRecDepth 100000 in
theorem sforce_calls {d' : Nat} (hd' : d' < 4) : ∀ g : IG, ∀ (S : Nat → Prop) (w : World), g.In S w → g.plain.good → g.plain.fit → Calls Tryz.prog 31 #[.agg g.enc.toArray, .int .i64 d'] w (IPost w (g.plain.frc d')) := by
  intro g
  induction g using IG.ind with
  | h k d A ca ns B cb kids ih =>
    intro S w h hgood hfit
    have hns := by rw [IG.plain_eq] at hfit; exact fit_len hfit
    rw [IG.In] at h
    obtain ⟨hwf, -, -, hA, hB0, hkid0⟩ := h
    have hkid := IG.inL_iff.1 hkid0
    rw [IG.plain_eq, PG.good] at hgood
    rw [IG.plain_eq, PG.fit] at hfit
    obtain ⟨hgd, hgk⟩ := hgood
    have hgk := fun g hg => goodL_iff.1 hgk _ (List.mem_map_of_mem (f := IG.plain) (a := g) hg)
    have hfk := fun g hg => fitL_iff.1 hfit.2 _ (List.mem_map_of_mem (f := IG.plain) (a := g) hg)
    have hkb : kids.length ≤ 1048576 := by have := hfit.1.2; simpa using this
    have hpl := hfit.1.1
    have hd4 := dm_lt d
    obtain ⟨D, hD⟩ : ∃ D, D = dm d := ⟨_, rfl⟩
    rw [← hD] at hgd hpl hd4
    subst hgd
    have hfr : (IG.mk k D A ca ns B cb kids).plain.frc d' = .mk k d' (frcN D d' ns) ((kids.map IG.plain).map (PG.frc d')) := by rw [IG.plain_eq, frc_eq, dm_nat hd4]
    rw [hfr]
    show Calls Tryz.prog 31 #[.agg #[.int .i64 k, .int .i64 D, .slice A ns.length ca, .slice B kids.length cb], .int .i64 d'] w _
    obtain ⟨i0, hi, hz0, hz1, hz2⟩ := info_parts infoGm
    obtain ⟨w1, hw1⟩ : ∃ w1, w1 = ((w.alloc (.cells #[.int .i64 k, .int .i64 D, .slice A ns.length ca, .slice B kids.length cb] 25)).alloc (.cells #[.int .i64 0, .int .i64 0, .slice none 0 0, .slice none 0 0] 25)).alloc (.cells #[.int .i64 k, .int .i64 d', .slice none 0 0, .slice none 0 0] 25) := ⟨_, rfl⟩
    have hb1 : Below w.heap.size w w1 := by rw [hw1]; exact (((Below.refl _ _).alloc (Nat.le_refl _) _).alloc (by simp) _).alloc (by simp; omega) _
    have hX : Blk w1 w.heap.size 25 #[.int .i64 k, .int .i64 D, .slice A ns.length ca, .slice B kids.length cb] := by rw [hw1]; exact ((Blk.new _ _ _).alloc _).alloc _
    have hR : Blk w1 (w.heap.size + 1) 25 #[.int .i64 0, .int .i64 0, .slice none 0 0, .slice none 0 0] := by
      rw [hw1]
      have := (Blk.new (w.alloc (.cells #[.int .i64 k, .int .i64 D, .slice A ns.length ca, .slice B kids.length cb] 25)) 25 #[.int .i64 0, .int .i64 0, .slice none 0 0, .slice none 0 0]).alloc (.cells #[.int .i64 k, .int .i64 d', .slice none 0 0, .slice none 0 0] 25)
      simpa using this
    have hO : Blk w1 (w.heap.size + 2) 25 #[.int .i64 k, .int .i64 d', .slice none 0 0, .slice none 0 0] := by
      rw [hw1]
      have := Blk.new ((w.alloc (.cells #[.int .i64 k, .int .i64 D, .slice A ns.length ca, .slice B kids.length cb] 25)).alloc (.cells #[.int .i64 0, .int .i64 0, .slice none 0 0, .slice none 0 0] 25)) 25 #[.int .i64 k, .int .i64 d', .slice none 0 0, .slice none 0 0]
      simpa using this
    have hs1 : w1.heap.size = w.heap.size + 3 := by rw [hw1]; simp
    have HPL := Lib.hid (places_calls hd4 A ns.length ca ns (by omega) (hA.1.up hb1))
    obtain ⟨N, hNe⟩ : ∃ N, N = frcN D d' ns := ⟨_, rfl⟩
    have hNM : ∀ A c w, Sl w w.heap.size A (plc D ns).length 4 ((plc D ns).flatMap encP) → Calls Tryz.prog 68 #[.slice A (plc D ns).length c, .int .i64 d'] w (NumPost w (frcN D d' ns)) := fun A c w hA => nums_calls (w := w) hd' A c (plc D ns) (by rw [plc_len]; omega) hA
    rw [← hNe] at hNM
    have HNM := Lib.hid hNM
    have HNE := Lib.hid hNe
    obtain ⟨n, hn⟩ : ∃ n, n = kids.length := ⟨_, rfl⟩
    have HSB0 := Lib.hid hB0.1
    have HKID := Lib.hid (fun g hg w' (hb : Below w.heap.size w w') => IG.up hb (hkid g hg))
    have HGK := Lib.hid hgk
    have HFK := Lib.hid hfk
    have HIH := Lib.hid ih
    have HX := Lib.hid hX
    have HR := Lib.hid hR
    have HO := Lib.hid hO
    have HB1 := Lib.hid hb1
    have HW1 := Lib.hid hw1
    have HS1 := Lib.hid hs1
    have HN := Lib.hid hn
    have HPLL := Lib.hid hpl
    have HWF := Lib.hid hwf
    obtain ⟨m, hm⟩ : ∃ m, m = ns.length := ⟨_, rfl⟩
    have HM := Lib.hid hm
    rw [← hn, ← hm] at HW1 HX ⊢
    rw [← hm] at HPL
    rw [← hn] at hkb
    clear hfit hgk hfk hpl hA hB0 hkid0 hkid hb1 hX hR hO hw1 hs1 hn ih hfr hns hm hD hwf hNM hNe
    go_enter Tryz.func31, Tryz.ntmps31
    go_wp2_with fail
    rw [← HW1.out]
    refine HPL.out.mono ?_
    rintro e w2 ⟨A2, c2, rfl, hs2, hb2⟩
    have HB2 := Lib.hid hb2
    have HNM2 := Lib.hid (HNM.out A2 c2 w2 hs2.1)
    clear hs2 hb2
    go_wp2_with fail
    refine HNM2.out.mono ?_
    rintro e w3 ⟨A3, c3, rfl, hc3, hs3, hb3⟩
    have HB3 := Lib.hid (HB2.out.trans (hb3.mono HB2.out.size))
    have HS3 := Lib.hid (hs3.less (T := fun a => w1.heap.size ≤ a) (fun a ha => Nat.le_trans HB2.out.size ha))
    have HC3 := Lib.hid hc3
    obtain ⟨o0, o1, o2, o3, p0, p1, p2, p3, ol⟩ := cells4 (HO.out.below HB3.out HO.out.lt)
    obtain ⟨x0, x1, x2, x3, -, -, -, -, xl⟩ := cells4 (HX.out.below HB3.out HX.out.lt)
    clear hb3 hs3 hc3
    go_wp2_with fail
    obtain ⟨w4, hw4⟩ : ∃ w4, w4 = w3.setCell ⟨w.heap.size + 2, 2, none⟩ (.slice A3 (N).length c3) := ⟨_, rfl⟩
    rw [← hw4]
    have hsz : w4.heap.size = w3.heap.size := by rw [hw4]; simp
    have hO4 : Blk w4 (w.heap.size + 2) 25 #[.int .i64 k, .int .i64 d', .slice A3 (N).length c3, .slice none 0 0] := by
      rw [hw4]
      have := (HO.out.below HB3.out HO.out.lt).set_ 2 (.slice A3 (N).length c3)
      simpa using this
    have hno : w.heap.size + 1 ≠ w.heap.size + 2 := by omega
    have hR4 : Blk w4 (w.heap.size + 1) 25 #[.int .i64 0, .int .i64 0, .slice none 0 0, .slice none 0 0] := by
      rw [hw4]
      exact (HR.out.below HB3.out HR.out.lt).far (p := ⟨w.heap.size + 2, 2, none⟩) hno _
    have hS4 : SlS (fun a => w1.heap.size ≤ a ∧ a < w4.heap.size) w4 A3 (N).length 1 (FL (N)) := by
      have h1 := HS3.out.old
      have hs1 := HS1.out
      refine SlS.less (h1.keep ?_) (fun a ha => ⟨ha.1, by rw [hsz]; exact ha.2⟩)
      rw [hw4]
      exact Keeps.set (p := ⟨w.heap.size + 2, 2, none⟩) (fun h => by have := h.1; show False; simp at this; omega) _
    have hb4 : Below w.heap.size w w4 := by
      rw [hw4]
      exact (HB1.out.trans (HB3.out.mono HB1.out.size)).setCell (by simp) _
    have HO4 := Lib.hid hO4
    have HR4 := Lib.hid hR4
    have HS4 := Lib.hid hS4
    have HB4 := Lib.hid hb4
    have hlt4 := hO4.lt
    clear hw4 hO4 hR4 hS4 hb4 o0 o1 o2 o3 p0 p1 p2 p3 ol x0 x1 x2 x3 xl hno
    go_loopg [23] n (fun q ci wr => ∃ (j : Nat) (L : List IG) (A1 : Option Addr) (k1 : Nat), j + q = n ∧ ci = .int .i64 (j : Nat) ∧ L.length = j ∧ j ≤ k1 ∧ L.map IG.plain = ((kids.take j).map IG.plain).map (PG.frc d') ∧ (∀ g ∈ L, g.In (fun a => w4.heap.size ≤ a ∧ some a ≠ (Value.slice A1 j k1).ownBlock) wr) ∧ wr.ownsRow w4.heap.size 25 4 (.slice A1 j k1) j (L.flatMap IG.enc) ∧
      Blk wr (w.heap.size + 2) 25 #[.int .i64 k, .int .i64 d', .slice A3 (N).length c3, .slice A1 j k1] ∧ Blk wr (w.heap.size + 1) 25 #[.int .i64 0, .int .i64 0, .slice none 0 0, .slice none 0 0] ∧ SlS (fun a => w1.heap.size ≤ a ∧ a < w4.heap.size) wr A3 (N).length 1 (FL (N)) ∧ Below w.heap.size w wr ∧ w4.heap.size ≤ wr.heap.size)
    case atStart => exact ⟨0, [], none, 0, by omega, by go_num, rfl, Nat.le_refl _, rfl, (fun g hg => by cases hg), World.ownsRow_nil _ _ _ _, HO4.out, HR4.out, HS4.out, HB4.out, Nat.le_refl _⟩
    case round =>
      obtain ⟨j, L, A1, k1, hj', rfl, hll, hjk, hlp, hlin, hown, hO, hR, hS, hbl, hsr⟩ := hrel
      have HJL := Lib.hid hj'
      have HLL := Lib.hid hll
      have HLP := Lib.hid hlp
      have HLIN := Lib.hid hlin
      have HOWN := Lib.hid hown
      have HOB := Lib.hid hO
      have HRB := Lib.hid hR
      have HSB := Lib.hid hS
      have HBL := Lib.hid hbl
      have hjn : j ≤ n := by omega
      clear hj' hll hlp hlin hown hO hR hS hbl
      by_cases hlt : j < n
      · have hik : j < kids.length := by rw [← HN.out]; exact hlt
        obtain ⟨g, hg⟩ : ∃ g, kids[j]? = some g := ⟨kids[j], List.getElem?_eq_getElem hik⟩
        have HG := Lib.hid hg
        have hmem := List.mem_of_getElem? hg
        obtain ⟨b, off, hAe, hblk, hcell⟩ := sl_part HSB0.out (fun g _ => g.enc_len) (by omega)
        subst hAe
        have HIN := Lib.hid (HKID.out g hmem)
        have HCA := Lib.hid (fun w' (hb : Below w.heap.size w w') => HIH.out g hmem S w' (HIN.out w' hb) (HGK.out g hmem) (HFK.out g hmem))
        obtain ⟨p2, hp2⟩ : ∃ p2, p2 = g.plain.frc d' := ⟨_, rfl⟩
        rw [← hp2] at HCA
        have HP2 := Lib.hid hp2
        obtain ⟨gk, gd, gA, gca, gns, gB, gcb, gks⟩ := g
        have d0 := (HBL.out.cell (p := ⟨b, off + (j * 4 + 0), none⟩) hblk).trans (hcell j _ hg 0 _ rfl)
        have d1 := (HBL.out.cell (p := ⟨b, off + (j * 4 + 1), none⟩) hblk).trans (hcell j _ hg 1 _ rfl)
        have d2 := (HBL.out.cell (p := ⟨b, off + (j * 4 + 2), none⟩) hblk).trans (hcell j _ hg 2 _ rfl)
        have d3 := (HBL.out.cell (p := ⟨b, off + (j * 4 + 3), none⟩) hblk).trans (hcell j _ hg 3 _ rfl)
        rw [Nat.add_zero] at d0
        rw [← Nat.add_assoc] at d1 d2 d3
        have hltI : (j : Int) < (n : Int) := by omega
        have HCA := Lib.hid (show ∀ w', Below w.heap.size w w' → Calls Tryz.prog 31 #[.agg #[.int .i64 gk, .int .i64 gd, .slice gA gns.length gca, .slice gB gks.length gcb], .int .i64 d'] w' (IPost w' p2) from HCA.out)
        obtain ⟨wK, hwK⟩ : ∃ wK, wK = wr.alloc (.cells #[.int .i64 gk, .int .i64 gd, .slice gA gns.length gca, .slice gB gks.length gcb] 25) := ⟨_, rfl⟩
        have hbK : Below wr.heap.size wr wK := by rw [hwK]; exact (Below.refl _ _).alloc (Nat.le_refl _) _
        have hNK : Blk wK wr.heap.size 25 #[.int .i64 gk, .int .i64 gd, .slice gA gns.length gca, .slice gB gks.length gcb] := by rw [hwK]; exact Blk.new _ _ _
        have hOK := HOB.out.below hbK HOB.out.lt
        have hbox : ∀ r, (Value.slice A1 j k1).ownBlock = some r → w4.heap.size ≤ r ∧ r < wr.heap.size := fun r hr => HOWN.out.lt r hr
        have HKS := Lib.hid (show ∀ w', Keeps (fun a => a < wK.heap.size ∧ some a ≠ (Value.slice A1 j k1).ownBlock) wK w' → w'.cell? ⟨w.heap.size + 1 + 1, 3, none⟩ = some (.slice A1 j k1) ∧ w'.frozen? ⟨w.heap.size + 1 + 1, 3, none⟩ = false ∧ w'.cell? ⟨wr.heap.size, 0, none⟩ = some (.int .i64 gk) ∧ w'.cell? ⟨wr.heap.size, 1, none⟩ = some (.int .i64 gd) ∧ w'.cell? ⟨wr.heap.size, 2, none⟩ = some (.slice gA gns.length gca) ∧ w'.cell? ⟨wr.heap.size, 3, none⟩ = some (.slice gB gks.length gcb) from fun w' hk => by
          have h1 := Blk.keep hOK hk ⟨hOK.lt, fun e => by have := (hbox _ e.symm).1; omega⟩
          have h2 := Blk.keep hNK hk ⟨hNK.lt, fun e => by have := (hbox _ e.symm).2; omega⟩
          exact ⟨h1.cell 3, h1.frozen 3 (show 3 < 4 by omega), h2.cell 0, h2.cell 1, h2.cell 2, h2.cell 3⟩)
        have HKS1 := Lib.hid (show ∀ w', Keeps (fun a => a = wr.heap.size) wK w' → w'.cell? ⟨wr.heap.size, 0, none⟩ = some (.int .i64 gk) ∧ w'.cell? ⟨wr.heap.size, 1, none⟩ = some (.int .i64 gd) ∧ w'.cell? ⟨wr.heap.size, 2, none⟩ = some (.slice gA gns.length gca) ∧ w'.cell? ⟨wr.heap.size, 3, none⟩ = some (.slice gB gks.length gcb) from fun w' hk => by
          have h2 := Blk.keep hNK hk rfl
          exact ⟨h2.cell 0, h2.cell 1, h2.cell 2, h2.cell 3⟩)
        have HNOT := Lib.hid (show ¬ (fun a => a = wr.heap.size) (w.heap.size + 1 + 1) from fun h => by have := HOB.out.lt; have : w.heap.size + 1 + 1 = wr.heap.size := h; omega)
        have HWK := Lib.hid hwK
        have HBK := Lib.hid (HBL.out.trans (hbK.mono HBL.out.size))
        have HOWK := Lib.hid (HOWN.out.kept (grown_below (row := none) hbK) (own_row _))
        have HBOX := Lib.hid hbox
        have HBKR := Lib.hid hbK
        have hsK : w4.heap.size ≤ wK.heap.size := Nat.le_trans hsr hbK.size
        clear hg hmem hcell hik hp2 hbK hNK hOK hwK hbox
        go_wp2_with fail
        rw [← HWK.out]
        obtain ⟨s3, sf, sk0, sk1, sk2, sk3⟩ := HKS.out wK (Keeps.refl _ _)
        go_region_law (first
            | (refine step_append_sl _ (by rfl) _ _ _ (by rfl) w4.heap.size 25 i0 _ 4 64 Tryz.underlying23 hi hz0 hz1 hz2 rfl (by decide) (.slice A1 j k1) j (L.flatMap IG.enc) (by rfl) (ho5.alloc (.cells #[.int .i64 k2, .int .i64 d2', .slice A2' ns2.length ca2, .slice B2' ks2.length cb2] 25))
                   (w5.alloc (.cells #[.int .i64 k2, .int .i64 d2', .slice A2' ns2.length ca2, .slice B2' ks2.length cb2] 25)).heap.size (some ⟨w5.heap.size, 0, none⟩) 1 1 [.int .i64 k2, .int .i64 d2', .slice A2' ns2.length ca2, .slice B2' ks2.length cb2] (by rfl) (slBlk (n := 1) (c := 4) (heap_alloc_new w5 _) rfl (by unfold maxLen; omega)) (IG.enc_one (.mk k2 d2' A2' ca2 ns2 B2' cb2 ks2)) (by unfold maxLen; omega) (by omega) (by have := hbk5.size; have := hsK; simp; omega) ?_; intro A5 c5 w6 ho6 hg6 ha6
               have hk6 : Keeps (fun a => a < wK.heap.size ∧ some a ≠ (Value.slice A1 j k1).ownBlock) wK w6 := (hk5.alloc (.cells #[.int .i64 k2, .int .i64 d2', .slice A2' ns2.length ca2, .slice B2' ks2.length cb2] 25)).trans (Keeps.grown hg6 (fun r hr h => h.2 hr.symm))
               obtain ⟨v3, vf, -, -, -, -⟩ := HKS.out w6 hk6
               have hkk6 : Keeps (fun a => a = wr.heap.size) wK w6 := (hkk5.alloc (.cells #[.int .i64 k2, .int .i64 d2', .slice A2' ns2.length ca2, .slice B2' ks2.length cb2] 25)).trans (Keeps.grown hg6 (fun r hr h => by have h0 : r = wr.heap.size := h; have := (HBOX.out r hr).2; omega)))
            | (go_simp
               go_at_call 31; refine (HCA.out _ (by first | exact HBK.out.drew | exact HBK.out)).mono ?_
               rintro e w5 ⟨⟨k2, d2', A2', ca2, ns2, B2', cb2, ks2⟩, rfl, h5, hp5, hb5⟩
               have hbk5 : Below wK.heap.size wK w5 := by first | exact hb5 | exact ((Below.refl wK.heap.size wK).drew).trans hb5
               have hk5 : Keeps (fun a => a < wK.heap.size ∧ some a ≠ (Value.slice A1 j k1).ownBlock) wK w5 := .of_below hbk5
               obtain ⟨t3, tf, -, -, -, -⟩ := HKS.out w5 hk5
               have t3a : ∀ ob, (w5.alloc ob).cell? ⟨w.heap.size + 1 + 1, 3, none⟩ = some (.slice A1 j k1) := fun ob => (HKS.out (w5.alloc ob) (hk5.alloc ob)).1
               have t3d : ∀ ob, (w5.alloc ob).drew.cell? ⟨w.heap.size + 1 + 1, 3, none⟩ = some (.slice A1 j k1) := fun ob => (HKS.out (w5.alloc ob).drew (hk5.alloc ob).drew).1
               have hkk5 : Keeps (fun a => a = wr.heap.size) wK w5 := .of_below hbk5
               have ho5 := HOWK.out.kept (grown_below (row := none) hbk5) (own_row _)
               have HH5 : Hid ((IG.mk k2 d2' A2' ca2 ns2 B2' cb2 ks2).In (fun a => wK.heap.size ≤ a) w5) := Lib.hid (IG.less (fun a ha => by exact ha) h5)
               rw [show (IG.mk k2 d2' A2' ca2 ns2 B2' cb2 ks2).enc.toArray = #[.int .i64 k2, .int .i64 d2', .slice A2' ns2.length ca2, .slice B2' ks2.length cb2] from rfl]
               try dsimp only))
        all_goals
          go_wp2_with fail
          go_roundg (n - (j + 1))
          case measure => have := HJL.out; omega
          case rel =>
            have hob := HOB.out.lt
            have hkr := HBKR.out.size
            have hk5s := hbk5.size
            have ho4 : w.heap.size + 1 + 1 < w4.heap.size := hlt4
            have hcap : j + 1 ≤ c5 := by
              rcases ho6.2 with ⟨hbad, h0⟩ | ⟨g, cap, cur, hv, _, _, h1, _⟩
              · omega
              · simp only [Value.slice.injEq] at hv
                omega
            have hb5a : Below wr.heap.size wr (w5.alloc (.cells #[.int .i64 k2, .int .i64 d2', .slice A2' ns2.length ca2, .slice B2' ks2.length cb2] 25)) := by
              have h1 := HBKR.out.trans (hbk5.mono HBKR.out.size)
              exact h1.alloc h1.size _
            have hsa : (w5.alloc (.cells #[.int .i64 k2, .int .i64 d2', .slice A2' ns2.length ca2, .slice B2' ks2.length cb2] 25)).heap.size = w5.heap.size + 1 := by simp
            have hall : Keeps (fun a => some a ≠ (Value.slice A1 j k1).ownBlock) wr w6 := (Keeps.of_below hb5a).trans (Keeps.grown hg6 (fun r hr h => h hr.symm))
            have hno : ∀ a, a < w4.heap.size → some a ≠ (Value.slice A1 j k1).ownBlock := fun a ha e => by have := (HBOX.out a e.symm).1; omega
            have hgeo : ∀ g : IG, g.In (fun a => w4.heap.size ≤ a ∧ some a ≠ (Value.slice A1 j k1).ownBlock) (w5.alloc (.cells #[.int .i64 k2, .int .i64 d2', .slice A2' ns2.length ca2, .slice B2' ks2.length cb2] 25)) → g.In (fun a => w4.heap.size ≤ a ∧ some a ≠ (Value.slice A5 (j + 1) c5).ownBlock) (w6.setCell ⟨w.heap.size + 1 + 1, 3, none⟩ (.slice A5 (j + 1) c5)) := fun g hg => by
              refine IG.less (fun a ha => ⟨ha.1.1, fun e => ?_⟩) (IG.keep ((Keeps.grown hg6 (fun r hr ha => ha.1.2 hr.symm)).trans (Keeps.set (p := ⟨w.heap.size + 1 + 1, 3, none⟩) (fun h => by have h0 : w4.heap.size ≤ w.heap.size + 1 + 1 := h.1.1; omega) _)) (IG.old hg))
              rcases ha6 with h | h
              · exact ha.1.2 (e.trans h)
              · rw [h] at e
                have h1 := Option.some.inj e
                have h2 := ha.2
                omega
            have hbw : Below w.heap.size w (w6.setCell ⟨w.heap.size + 1 + 1, 3, none⟩ (.slice A5 (j + 1) c5)) := by
              have h1 := HBL.out.trans (hb5a.mono HBL.out.size)
              exact (h1.grown hg6 h1.size (fun r hr => Nat.le_trans HB4.out.size (HBOX.out r hr).1)).setCell (by simp; omega) _
            refine ⟨j + 1, L ++ [.mk k2 d2' A2' ca2 ns2 B2' cb2 ks2], A5, c5, by omega, by go_num, by rw [List.length_append, HLL.out]; rfl, hcap, ?_, ?_, ?_, ?_, ?_, ?_, hbw, by have := hg6.size; simp at this ⊢; omega⟩
            · rw [List.take_add_one, HG.out, List.map_append, List.map_append, List.map_append, HLP.out, List.map_cons, hp5, HP2.out]
              rfl
            · intro g hg
              rcases List.mem_append.1 hg with hg | hg
              · exact hgeo g (IG.up hb5a (HLIN.out g hg))
              · have := List.mem_singleton.1 hg
                subst this
                refine hgeo _ (IG.up ((Below.refl _ _).alloc (Nat.le_refl _) _) (IG.less (fun a ha => ?_) HH5.out))
                exact ⟨Nat.le_trans hsK ha, fun e => by have h1 := (HBOX.out a e.symm).2; have h2 : wK.heap.size ≤ a := ha; omega⟩
            · rw [List.flatMap_append, List.flatMap_cons, List.flatMap_nil, List.append_nil]
              exact ho6.kept (grown_set w6 ⟨w.heap.size + 1 + 1, 3, none⟩ (.slice A5 (j + 1) c5)) (.inr (fun e => by have h1 : w4.heap.size ≤ w.heap.size + 1 + 1 := (ho6.lt _ e).1; omega))
            · have := (Blk.keep HOB.out hall (hno _ hlt4)).set_ 3 (.slice A5 (j + 1) c5)
              simpa using this
            · exact (Blk.keep HRB.out hall (hno _ (by omega))).far (p := ⟨w.heap.size + 1 + 1, 3, none⟩) (show w.heap.size + 1 ≠ w.heap.size + 1 + 1 by omega) _
            · have hs1 := HS1.out
              exact HSB.out.keep ((hall.less (fun a ha => hno a ha.2)).trans (Keeps.set (p := ⟨w.heap.size + 1 + 1, 3, none⟩) (fun h => by have h0 : w1.heap.size ≤ w.heap.size + 1 + 1 := h.1; omega) _))
      · obtain rfl : j = n := by omega
        have hltI : (j : Int) ≤ (j : Int) := Int.le_refl _
        have htk : kids.take j = kids := List.take_of_length_le (by rw [← HN.out]; exact Nat.le_refl _)
        obtain ⟨o0, o1, o2, o3, -, -, -, -, ol⟩ := cells4 HOB.out
        obtain ⟨z0, z1, z2, z3, y0, y1, y2, y3, zl⟩ := cells4 HRB.out
        have HLP2 := Lib.hid (show L.map IG.plain = (kids.map IG.plain).map (PG.frc d') from by rw [HLP.out, htk])
        clear htk
        go_wp2_with fail
        have hs1 := HS1.out
        have hno1 : ∀ (T : Nat → Prop), (∀ a, T a → w1.heap.size ≤ a) → ¬ T (w.heap.size + 1) := fun T hT h => by have := hT _ h; omega
        have hks : ∀ (T : Nat → Prop) (hT : ∀ a, T a → w1.heap.size ≤ a) u0 u1 u2 u3, Keeps T wr ((((wr.setCell ⟨w.heap.size + 1, 0, none⟩ u0).setCell ⟨w.heap.size + 1, 1, none⟩ u1).setCell ⟨w.heap.size + 1, 2, none⟩ u2).setCell ⟨w.heap.size + 1, 3, none⟩ u3) := fun T hT u0 u1 u2 u3 =>
          (((Keeps.set (p := ⟨w.heap.size + 1, 0, none⟩) (hno1 T hT) u0).trans (.set (p := ⟨w.heap.size + 1, 1, none⟩) (hno1 T hT) u1)).trans (.set (p := ⟨w.heap.size + 1, 2, none⟩) (hno1 T hT) u2)).trans (.set (p := ⟨w.heap.size + 1, 3, none⟩) (hno1 T hT) u3)
        have hgr : w.heap.size ≤ w.heap.size + 1 := by omega
        have hw14 : w1.heap.size ≤ w4.heap.size := by rw [hsz]; exact HB3.out.size
        have hNl : N.length ≤ 4194304 := by
          rw [HNE.out, frcN_len hd']
          have h1 := wd_two d'
          exact Nat.mul_le_mul HPLL.out h1.2
        refine bodyPost_ret (v := .agg #[.int .i64 k, .int .i64 d', .slice A3 N.length c3, .slice A1 j k1]) (by simp [results, Tryz.results31, go_sem, z0, z1, z2, z3, zl]) rfl ⟨.mk k d' A3 c3 N A1 k1 L, by rw [IG.enc, HLL.out], ?_, ?_, (((HBL.out.setCell hgr _).setCell hgr _).setCell hgr _).setCell hgr _⟩
        · rw [IG.In]
          refine ⟨⟨HWF.out.1, ?_⟩, ⟨by unfold big; omega, by rw [HLL.out]; unfold big; omega⟩, ⟨HC3.out, by rw [HLL.out]; exact hjk⟩, ?_, ?_, IG.inL_iff.2 fun g hg => ?_⟩
          · have : d' < 4 := hd'
            obtain rfl | rfl | rfl | rfl := four this <;> decide
          · exact SlS.less (HSB.out.keep (hks _ (fun a ha => ha.1) _ _ _ _)) (fun a ha => Nat.le_trans HB1.out.size ha.1)
          · rw [HLL.out]
            have h1 : SlS (fun a => w4.heap.size ≤ a) wr A1 j 4 (L.flatMap IG.enc) := ⟨Sl.of_own HOWN.out, fun _ a ha => (HOWN.out.lt a.block (by rw [ha]; rfl)).1⟩
            exact SlS.less (h1.keep (hks _ (fun a ha => Nat.le_trans hw14 ha) _ _ _ _)) (fun a ha => Nat.le_trans (Nat.le_trans HB1.out.size hw14) ha)
          · exact IG.less (fun a ha => Nat.le_trans (Nat.le_trans HB1.out.size hw14) ha.1) (IG.keep (hks _ (fun a ha => Nat.le_trans hw14 ha.1) _ _ _ _) (HLIN.out g hg))
        · rw [IG.plain_eq, HLP2.out, HNE.out]
end Go.Proofs.YtbacakdpfiiblaaGreat.geo
