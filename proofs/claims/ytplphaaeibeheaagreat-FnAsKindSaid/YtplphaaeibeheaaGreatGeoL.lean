/-
  Contracts: collections and geometries of any kind made of plain data.
-/
import Derived.Test.YtplphaaeibeheaaGreatGeoK
namespace Go.Proofs.YtplphaaeibeheaaGreat.geo
open Go.ChangeShapes Go.WideShapes Go.ChangeAt Go.RowKit
open Go.Proofs.YtplphaaeibeheaaGreat.mem
set_option linter.unusedVariables false
set_option linter.unusedSimpArgs false

/-- Geometries come back in a slice, all new. -/
def GeosPost (w : World) (kids : List IG) (e : Ending) (w' : World) : Prop :=
  ∃ (A : Option Addr) (L : List MG), e = .returned (.slice A L.length L.length) ∧ SlS (fun a => w.heap.size ≤ a) w' A L.length 2 (L.flatMap MG.enc) ∧ MG.InL (fun a => w.heap.size ≤ a) w' 7 L ∧ L.map MG.plain = (kids.map IG.plain).map PG.new ∧ L.length = kids.length ∧ Below w.heap.size w w'

set_option maxHeartbeats 8000000 in
set_option maxRecDepth 100000 in
theorem geometries_calls {B : Option Addr} {cb : Nat} {kids : List IG} (hM : ∀ g ∈ kids, MadeC 21 7 g) {S : Nat → Prop} {w : World} (hB0 : SlS S w B kids.length 4 (kids.flatMap IG.enc)) (hkid0 : IG.InL S w kids) (hs : ∀ g ∈ kids, g.plain.small) (hkb : kids.length ≤ 1048576) :
    Calls Tryz.prog 110 #[.slice B kids.length cb] w (GeosPost w kids) := by
  obtain ⟨i0, hi, hz0, hz1, hz2⟩ := info_parts infoG0
  obtain ⟨n, hn⟩ : ∃ n, n = kids.length := ⟨_, rfl⟩
  have HSL := Lib.hid hB0.1
  have HKID := Lib.hid (fun g hg w' (hb : Below w.heap.size w w') => IG.up hb (IG.inL_iff.1 hkid0 g hg))
  have HSM := Lib.hid hs
  have HM := Lib.hid hM
  have HN := Lib.hid hn
  have hb48 : i0.bytes * n ≤ 281474976710656 := by rw [hz2, hn]; omega
  rw [← hn] at hkb ⊢
  clear hB0 hkid0 hs hM hn
  go_enter Tryz.func110, Tryz.ntmps110
  go_wp2_with (at_make; refine wpList_make_full _ rfl (.tmp 7) (.tmp 7) 82 rfl w.heap.size 39 i0 _ 2 Tryz.underlying82 hi hz0 hz1 .i64 .i64 _ _ n rfl rfl rfl rfl hb48 (by unfold maxLen; omega) (Nat.le_refl _) ?_; intro w2 hown hgrow
               obtain ⟨hrow2, hxl⟩ := make_row hown
               have HROW := Lib.hid hrow2
               have HXL := Lib.hid hxl
               have HB2 := Lib.hid ((Below.refl w.heap.size w).grown hgrow (Nat.le_refl _) (fun q hq => by cases hq))
               clear hown hgrow hrow2 hxl)
  go_loopg [11] n (fun q ci wr => ∃ (i : Nat) (L : List MG) (R : List Value), i + q = n ∧ ci = .int .i64 (i : Nat) ∧ L.length = i ∧ L.map MG.plain = ((kids.take i).map IG.plain).map PG.new ∧ (∀ g ∈ L, g.kind = 7 ∧ g.In (fun a => w.heap.size < a) wr) ∧ Row wr w.heap.size 39 (L.flatMap MG.enc ++ R) ∧ R.length = (n - i) * 2 ∧ Below w.heap.size w wr)
  case atStart => exact ⟨0, [], _, by omega, by go_num, rfl, rfl, (fun g hg => by cases hg), HROW.out, by rw [HXL.out]; omega, HB2.out⟩
  case round =>
    obtain ⟨i, L, R, hi', rfl, hll, hlp, hlin, hrow, hrl, hbl⟩ := hrel
    have HIL := Lib.hid hi'
    have HLL := Lib.hid hll
    have HLP := Lib.hid hlp
    have HLIN := Lib.hid hlin
    have HRW0 := Lib.hid hrow
    have HRL := Lib.hid hrl
    have HBL2 := Lib.hid hbl
    have hin : i ≤ n := by omega
    have hlw := hrow.lt
    have sr := hbl.size
    clear hi' hll hlp hlin hrow hrl hbl
    by_cases hlt : i < n
    · have hik : i < kids.length := by rw [← HN.out]; exact hlt
      obtain ⟨g, hg⟩ : ∃ g, kids[i]? = some g := ⟨kids[i], List.getElem?_eq_getElem hik⟩
      have HG := Lib.hid hg
      have hmem := List.mem_of_getElem? hg
      obtain ⟨b, off, hAe, hblk, hcell⟩ := sl_part HSL.out (fun g _ => g.enc_len) (by omega)
      subst hAe
      obtain ⟨gk, gd, gA, gca, gns, gB, gcb, gks⟩ := g
      have hba : ∀ o, Below wr.heap.size wr (wr.alloc o) := fun o => (Below.refl _ _).alloc (Nat.le_refl _) _
      have d0 := (HBL2.out.cell (p := ⟨b, off + (i * 4 + 0), none⟩) hblk).trans (hcell i _ hg 0 _ rfl)
      have d1 := (HBL2.out.cell (p := ⟨b, off + (i * 4 + 1), none⟩) hblk).trans (hcell i _ hg 1 _ rfl)
      have d2 := (HBL2.out.cell (p := ⟨b, off + (i * 4 + 2), none⟩) hblk).trans (hcell i _ hg 2 _ rfl)
      have d3 := (HBL2.out.cell (p := ⟨b, off + (i * 4 + 3), none⟩) hblk).trans (hcell i _ hg 3 _ rfl)
      rw [Nat.add_zero] at d0
      rw [← Nat.add_assoc] at d1 d2 d3
      have hltI : (i : Int) < (n : Int) := by omega
      have HEL := Lib.hid (show ∀ o, Calls Tryz.prog 21 #[.agg #[.int .i64 gk, .int .i64 gd, .slice gA gns.length gca, .slice gB gks.length gcb]] (wr.alloc o) (MadePost (wr.alloc o) 7 (IG.mk gk gd gA gca gns gB gcb gks).plain) from fun o => HM.out _ hmem S (wr.alloc o) (HKID.out _ hmem _ (HBL2.out.trans ((hba o).mono HBL2.out.size))) (HSM.out _ hmem))
      obtain ⟨r0, r1, R2, rfl, hr2⟩ := cut2 (n := (n - (i + 1)) * 2) (show R.length = _ by rw [HRL.out]; omega)
      have HR2 := Lib.hid hr2
      have hdl : (L.flatMap MG.enc).length = i * 2 := by
        rw [flatE_len (s := 2) (fun g hg => ?_), HLL.out]
        obtain ⟨e1, e2⟩ := HLIN.out g hg
        obtain ⟨u', v', e3⟩ := MG.enc_two e2 (by rw [e1]; decide)
        rw [e3]; rfl
      have HDL := Lib.hid hdl
      have HBA := Lib.hid hba
      clear hg hmem hcell hr2 hdl hik hba
      go_wp2_with fail
      refine (HEL.out _).mono ?_
      rintro e w3 ⟨g2, rfl, h2, hk2, hp2, hb3⟩
      obtain ⟨a2, m2, rfl⟩ := MG.is_bx hk2 h2
      rw [show (MG.bx a2 m2).enc.toArray = #[.int .i64 m2.kind, .iface (pT m2.kind) (.pointer (some ⟨a2, 0, none⟩))] from rfl]
      have HP2 := Lib.hid hp2
      have H2 := Lib.hid h2
      have HB3 := Lib.hid ((HBA.out _).trans (hb3.mono (HBA.out _).size))
      have HROW3 := Lib.hid (HRW0.out.below HB3.out)
      have HBL3 := Lib.hid (HBL2.out.trans (HB3.out.mono HBL2.out.size))
      have hwr3 : wr.heap.size + 1 ≤ w3.heap.size := by have := hb3.size; simpa using this
      have f0 := HROW3.out.frozen_at HDL.out 0 (by simp)
      have g0 := HROW3.out.some_at HDL.out 0 (by simp)
      have f1 := HROW3.out.frozen_at HDL.out 1 (by simp)
      have g1 := HROW3.out.some_at HDL.out 1 (by simp)
      simp only [List.getElem_cons_zero, List.getElem_cons_succ, Nat.add_zero] at f0 g0 f1 g1
      have hlr := HROW3.out.lt
      clear hb3 h2 hp2 hk2 d0 d1 d2 d3
      go_wp2_with fail
      go_roundg (n - (i + 1))
      case measure => have := HIL.out; omega
      case rel =>
        have hnT : ¬ (fun a => w.heap.size < a) w.heap.size := fun h => Nat.lt_irrefl _ h
        have hkeep : ∀ (T : Nat → Prop) (hT : ¬ T w.heap.size), Keeps T w3 ((w3.setCell ⟨w.heap.size, i * 2, none⟩ (.int .i64 m2.kind)).setCell ⟨w.heap.size, i * 2 + 1, none⟩ (.iface (pT m2.kind) (.pointer (some ⟨a2, 0, none⟩)))) := fun T hT => (Keeps.set (p := ⟨w.heap.size, i * 2, none⟩) hT _).trans (.set (p := ⟨w.heap.size, i * 2 + 1, none⟩) hT _)
        refine ⟨i + 1, L ++ [.bx a2 m2], R2, by omega, by go_num, by rw [List.length_append, HLL.out]; rfl, ?_, ?_, ?_, HR2.out, (HBL3.out.setCell (Nat.le_refl _) _).setCell (Nat.le_refl _) _⟩
        · rw [List.take_add_one, HG.out, List.map_append, List.map_append, List.map_append, HLP.out, List.map_cons, HP2.out]
          rfl
        · intro g hg
          rcases List.mem_append.1 hg with hg | hg
          · obtain ⟨e1, e2⟩ := HLIN.out g hg
            exact ⟨e1, MG.keep (hkeep _ hnT) (MG.up HB3.out e2)⟩
          · have := List.mem_singleton.1 hg
            subst this
            refine ⟨rfl, MG.keep (hkeep _ hnT) (MG.less (fun a ha => ?_) H2.out)⟩
            have ha' : wr.heap.size + 1 ≤ a := by simpa using ha
            show w.heap.size < a
            omega
        · rw [List.flatMap_append]
          have := HROW3.out.put2 HDL.out (.int .i64 m2.kind) (.iface (pT m2.kind) (.pointer (some ⟨a2, 0, none⟩)))
          simpa [MG.enc] using this
    · obtain rfl : i = n := by omega
      have hR0 : R = [] := List.eq_nil_of_length_eq_zero (by rw [HRL.out]; omega)
      have hrow := HRW0.out
      rw [hR0, List.append_nil] at hrow
      have HRW := Lib.hid hrow
      clear hR0 hrow
      go_wp2_with fail
      have hlen : (L.flatMap MG.enc).length = i * 2 := by
        rw [flatE_len (s := 2) (fun g hg => ?_), HLL.out]
        obtain ⟨e1, e2⟩ := HLIN.out g hg
        obtain ⟨u', v', e3⟩ := MG.enc_two e2 (by rw [e1]; decide)
        rw [e3]; rfl
      refine bodyPost_ret (v := .slice (some ⟨w.heap.size, 0, none⟩) i i) (by simp [results, go_sem]) rfl ⟨some ⟨w.heap.size, 0, none⟩, L, by rw [HLL.out], ⟨?_, fun _ a ha => by have := Option.some.inj ha; subst this; exact Nat.le_refl _⟩, MG.inL_iff.2 fun g hg => ?_, ?_, by rw [HLL.out]; exact HN.out, HBL2.out⟩
      · exact HRW.out.sl (by rw [hlen, HLL.out]) (by rw [HLL.out]; unfold maxLen; omega)
      · obtain ⟨e1, e2⟩ := HLIN.out g hg
        exact ⟨e1, MG.less (fun a ha => Nat.le_of_lt ha) e2⟩
      · rw [HLP.out, List.take_of_length_le (by rw [← HN.out]; exact Nat.le_refl _)]

theorem fits_all (l : List PG) : l.filter (fitsK 0) = l := by
  apply List.filter_eq_self.2
  intro g _
  unfold fitsK
  exact decide_eq_true (.inl (by decide))

set_option maxHeartbeats 8000000 in
set_option maxRecDepth 100000 in
theorem collection_calls {k d : Int} {A : Option Addr} {ca : Nat} {ns : List Nat} {B : Option Addr} {cb : Nat} {kids : List IG} (hk : kd k = 0) (hM : ∀ g ∈ kids, MadeC 21 7 g) : MadeC 54 0 (.mk k d A ca ns B cb kids) := fun S w h hs => by
  rw [IG.In] at h
  obtain ⟨-, ⟨-, hkb⟩, -, -, hB0, hkid0⟩ := h
  rw [IG.plain_eq] at hs ⊢
  rw [PG.small] at hs
  have hkb2 : kids.length ≤ 1048576 := by have := hs.1.2; simpa using this
  have hsm : ∀ g ∈ kids, g.plain.small := fun g hg => smallL_iff.1 hs.2 _ (List.mem_map_of_mem hg)
  show Calls Tryz.prog 54 #[.agg #[.int .i64 k, .int .i64 d, .slice A ns.length ca, .slice B kids.length cb]] w _
  obtain ⟨wA, hwA⟩ : ∃ wA, wA = (w.alloc (.cells #[.int .i64 k, .int .i64 d, .slice A ns.length ca, .slice B kids.length cb] 25)).alloc (.cells #[.slice none 0 0, .int .u8 0] 84) := ⟨_, rfl⟩
  have hbl : Below w.heap.size w wA := by rw [hwA]; exact ((Below.refl _ _).alloc (Nat.le_refl _) _).alloc (by simp) _
  have hBx : Blk wA w.heap.size 25 #[.int .i64 k, .int .i64 d, .slice A ns.length ca, .slice B kids.length cb] := by rw [hwA]; exact (Blk.new _ _ _).alloc _
  have hD : Blk wA (w.heap.size + 1) 84 #[.slice none 0 0, .int .u8 0] := by
    rw [hwA]
    have := Blk.new (w.alloc (.cells #[.int .i64 k, .int .i64 d, .slice A ns.length ca, .slice B kids.length cb] 25)) 84 #[.slice none 0 0, .int .u8 0]
    simpa using this
  have hsz : wA.heap.size = w.heap.size + 2 := by rw [hwA]; simp
  have hnew : (PG.mk k d ns (kids.map IG.plain)).new = joinG 0 (dm d) ((kids.map IG.plain).map PG.new) := by rw [new_eq, hk, if_neg (by decide), if_neg (by decide), fits_all]
  have HGS := Lib.hid (geometries_calls (cb := cb) hM (hB0.keep (.of_below hbl)) (IG.inL_iff.2 fun g hg => IG.up hbl (IG.inL_iff.1 hkid0 g hg)) hsm hkb2)
  obtain ⟨n, hn⟩ : ∃ n, n = kids.length := ⟨_, rfl⟩
  have HNEW := Lib.hid hnew
  have HBX := Lib.hid hBx
  have HD := Lib.hid hD
  have HBL := Lib.hid hbl
  have HWA := Lib.hid hwA
  have HSZ := Lib.hid hsz
  have HN := Lib.hid hn
  have hn2 : n ≤ 1048576 := by rw [hn]; exact hkb2
  rw [← hn] at HWA HGS ⊢
  rw [← hn] at HBX
  have hdo := dimOf_calls d
  obtain ⟨x, hxe⟩ : ∃ x, x = dm d := ⟨_, rfl⟩
  have hx4 : x < 4 := by rw [hxe]; exact dm_lt d
  rw [← hxe] at hdo
  have HX := Lib.hid hxe
  have HFIN := Lib.hid (show ∀ w', Below wA.heap.size wA w' → Below w.heap.size w w' ∧ Blk w' (w.heap.size + 1) 84 #[.slice none 0 0, .int .u8 0] from fun w' hb' => ⟨hbl.trans (hb'.mono hbl.size), hD.below hb' hD.lt⟩)
  clear hB0 hkid0 hsm hnew hBx hD hbl hwA hsz hn hs hkb2 hkb hM hk hxe
  by_cases h0 : n = 0
  · subst h0
    have HFC := Lib.hid (show ∀ w', Calls Tryz.prog 108 #[.agg #[.slice none 0 0, .int .u8 0], .int .u8 x] w' (ForcePost (fun _ => False) w' x (.mu 0 0 none 0 [])) from fun w' => colForceK x hx4 (fun _ => False) w' (by
      rw [MG.In]
      exact ⟨by decide, by decide, by simp, ⟨by simp [Sl], fun h => absurd h (by simp)⟩, trivial⟩))
    go_enter Tryz.func54, Tryz.ntmps54
    go_wp2_with fail
    refine (hdo _).mono ?_
    rintro e w9 ⟨rfl, hw9⟩
    replace hw9 := hw9.symm
    subst hw9
    go_wp2_with fail
    rw [← HWA.out]
    refine (HFC.out _).mono ?_
    rintro e w3 ⟨g2, rfl, h2, hk2, hp2, hb3⟩
    obtain ⟨d3, A3, c3, ks3, rfl⟩ := MG.is_mu (S := S) (w := w) (k := 0) hk2 (by decide) (by decide) (by decide)
    rw [show (MG.mu 0 d3 A3 c3 ks3).enc.toArray = #[.slice A3 ks3.length c3, .int .u8 d3] from rfl]
    obtain ⟨hbw, hDw⟩ := HFIN.out w3 hb3
    obtain ⟨z0, z1, y0, y1, zl⟩ := cells2 hDw
    have HBW := Lib.hid hbw
    have H2 := Lib.hid h2
    have HP2 := Lib.hid hp2
    clear h2 hk2 hp2 hb3 hbw hDw
    go_wp2_with fail
    have hno : ¬ Fresh (fun _ => False) wA (w.heap.size + 1) := fun h => by
      rcases h with h | h
      · exact h
      · have := HSZ.out; omega
    refine bodyPost_ret (v := .agg #[.slice A3 ks3.length c3, .int .u8 d3]) (by simp [results, Tryz.results54, go_sem, z0, z1, zl]) rfl ⟨.mu 0 d3 A3 c3 ks3, rfl, ?_, rfl, ?_, (HBW.out.setCell (by simp) _).setCell (by simp) _⟩
    · refine MG.less (fun a ha => ?_) (MG.keep ((Keeps.set (p := ⟨w.heap.size + 1, 0, none⟩) hno _).trans (.set (p := ⟨w.heap.size + 1, 1, none⟩) hno _)) H2.out)
      rcases ha with ha | ha
      · exact ha.elim
      · have := HBL.out.size; show w.heap.size ≤ a; omega
    · have hk0 : kids = [] := List.eq_nil_of_length_eq_zero HN.out.symm
      rw [HNEW.out, hk0, HP2.out, MG.plain_mu, frc_eq, frcN_nil, ← HX.out]
      simp [joinG]
  · have hpos : 0 < n := by omega
    have hposE : ((n : Int) == 0) = false := beq_eq_false_iff_ne.2 (by omega)
    clear h0
    go_enter Tryz.func54, Tryz.ntmps54
    go_wp2_with fail
    rw [← HWA.out]
    refine HGS.out.mono ?_
    rintro e w1 ⟨A1, L, rfl, hs1, hl1, hp1, hn1, hb1⟩
    rw [← HN.out] at hn1
    have HNP := Lib.hid (new0 (c := L.length) (d0 := x) (by rw [hn1]; exact hpos) (by rw [hn1]; unfold kbig; omega) hs1 hl1)
    have HB1 := Lib.hid hb1
    have HP1 := Lib.hid hp1
    clear hs1 hl1 hp1 hb1 hn1
    go_wp2_with fail
    refine HNP.out.mono ?_
    rintro e w3 ⟨g2, rfl, h2, hk2, hp2, hb3⟩
    obtain ⟨d3, A3, c3, ks3, rfl⟩ := MG.is_mu (S := S) (w := w) (k := 0) hk2 (by decide) (by decide) (by decide)
    rw [show (MG.mu 0 d3 A3 c3 ks3).enc.toArray = #[.slice A3 ks3.length c3, .int .u8 d3] from rfl]
    obtain ⟨hbw, hDw⟩ := HFIN.out w3 (HB1.out.trans (hb3.mono HB1.out.size))
    obtain ⟨z0, z1, y0, y1, zl⟩ := cells2 hDw
    have HBW := Lib.hid hbw
    have H2 := Lib.hid h2
    have HP2 := Lib.hid hp2
    clear h2 hk2 hp2 hb3 hbw hDw
    go_wp2_with fail
    have hs1 := HB1.out.size
    have hno : ¬ Fresh (fun a => wA.heap.size ≤ a) w1 (w.heap.size + 1) := fun h => by
      rcases h with h | h
      · have := HSZ.out; omega
      · have := HSZ.out; omega
    refine bodyPost_ret (v := .agg #[.slice A3 ks3.length c3, .int .u8 d3]) (by simp [results, Tryz.results54, go_sem, z0, z1, zl]) rfl ⟨.mu 0 d3 A3 c3 ks3, rfl, ?_, rfl, ?_, (HBW.out.setCell (by simp) _).setCell (by simp) _⟩
    · refine MG.less (fun a ha => ?_) (MG.keep ((Keeps.set (p := ⟨w.heap.size + 1, 0, none⟩) hno _).trans (.set (p := ⟨w.heap.size + 1, 1, none⟩) hno _)) H2.out)
      have hs0 := HBL.out.size
      rcases ha with ha | ha
      · show w.heap.size ≤ a; omega
      · show w.heap.size ≤ a; omega
    · rw [HNEW.out, HP2.out, HP1.out, ← HX.out]
      rfl

set_option maxHeartbeats 8000000 in
set_option maxRecDepth 100000 in
theorem geoM1 {d : Int} {A : Option Addr} {ca : Nat} {ns : List Nat} {B : Option Addr} {cb : Nat} {kids : List IG} (hM : MadeC 42 1 (.mk 1 d A ca ns B cb kids)) : MadeC 21 7 (.mk 1 d A ca ns B cb kids) := fun S w h hs => by
  obtain ⟨n, hn⟩ : ∃ n, n = kids.length := ⟨_, rfl⟩
  obtain ⟨m, hm⟩ : ∃ m, m = ns.length := ⟨_, rfl⟩
  show Calls Tryz.prog 21 #[.agg #[.int .i64 1, .int .i64 d, .slice A ns.length ca, .slice B kids.length cb]] w _
  obtain ⟨wA, hwA⟩ : ∃ wA, wA = (w.alloc (.cells #[.int .i64 1, .int .i64 d, .slice A ns.length ca, .slice B kids.length cb] 25)).alloc (.cells #[.int .i64 0, .nilIface] 39) := ⟨_, rfl⟩
  have hbl : Below w.heap.size w wA := by rw [hwA]; exact ((Below.refl _ _).alloc (Nat.le_refl _) _).alloc (by simp) _
  have hD : Blk wA (w.heap.size + 1) 39 #[.int .i64 0, .nilIface] := by
    rw [hwA]
    have := Blk.new (w.alloc (.cells #[.int .i64 1, .int .i64 d, .slice A ns.length ca, .slice B kids.length cb] 25)) 39 #[.int .i64 0, .nilIface]
    simpa using this
  have hsz : wA.heap.size = w.heap.size + 2 := by rw [hwA]; simp
  have HM := Lib.hid (show Calls Tryz.prog 42 #[.agg #[.int .i64 1, .int .i64 d, .slice A ns.length ca, .slice B kids.length cb]] wA (MadePost wA 1 (IG.mk 1 d A ca ns B cb kids).plain) from hM S wA (IG.up hbl h) hs)
  have HD := Lib.hid hD
  have HBL := Lib.hid hbl
  have HWA := Lib.hid hwA
  have HSZ := Lib.hid hsz
  obtain ⟨pg, hpg⟩ : ∃ pg, pg = (IG.mk 1 d A ca ns B cb kids).plain := ⟨_, rfl⟩
  rw [← hpg] at HM ⊢
  rw [← hn, ← hm] at HWA HM ⊢
  clear hD hbl hwA hsz hM h hs hn hm hpg
  go_enter Tryz.func21, Tryz.ntmps21
  go_wp2_with fail
  rw [← HWA.out]
  refine HM.out.mono ?_
  rintro e w2 ⟨g2, rfl, h2, hk2, hp2, hb2⟩
  have HB2 := Lib.hid hb2
  have H2 := Lib.hid h2
  have HP2 := Lib.hid hp2

  obtain ⟨d2, full2, p2, rfl⟩ := MG.is_pt hk2 h2
  clear hb2 h2 hk2 hp2
  rw [show (MG.pt d2 full2 p2).enc.toArray = #[.float .f64 p2.x, .float .f64 p2.y, .float .f64 p2.z, .float .f64 p2.m, .int .u8 d2, .bool full2] from rfl]
  go_wp2_with fail
  refine (asGeo1 _ _ _ _ _ _ _).mono ?_
  rintro e w3 ⟨a3, rfl, hbk, ha3, hb3⟩
  have HBK := Lib.hid hbk
  have HA3 := Lib.hid ha3
  have HB3 := Lib.hid hb3
  have hb02 := HBL.out.trans (HB2.out.mono HBL.out.size)
  have HB03 := Lib.hid (hb02.trans (hb3.mono hb02.size))
  obtain ⟨z0, z1, y0, y1, zl⟩ := cells2 ((HD.out.below HB2.out HD.out.lt).below hb3 (Nat.lt_of_lt_of_le HD.out.lt HB2.out.size))
  clear hbk ha3 hb3 hb02
  go_wp2_with fail
  have hs2 := HB2.out.size
  have hsz := HSZ.out
  have ha3 := HA3.out
  have hno : ¬ (fun a => wA.heap.size ≤ a) (w.heap.size + 1) := by show ¬ wA.heap.size ≤ _; omega
  have hne : a3 ≠ w.heap.size + 1 := by omega
  refine bodyPost_ret (v := .agg #[.int .i64 1, .iface 130 (.pointer (some ⟨a3, 0, none⟩))]) (by simp [results, Tryz.results21, go_sem, z0, z1, zl, pT]) rfl ⟨.bx a3 (.pt d2 full2 p2), ?_, ?_, rfl, HP2.out, (HB03.out.setCell (by simp) _).setCell (by simp) _⟩
  · rfl
  · rw [MG.In]
    refine ⟨by show (1 : Nat) < 7; decide, (show w.heap.size ≤ a3 by omega), ?_, MG.less (fun a ha => Nat.le_trans HBL.out.size ha) (MG.keep ((Keeps.set (p := ⟨w.heap.size + 1, 0, none⟩) hno _).trans (.set (p := ⟨w.heap.size + 1, 1, none⟩) hno _)) (MG.up HB3.out H2.out))⟩
    skip
    exact (HBK.out.far (p := ⟨w.heap.size + 1, 0, none⟩) hne _).far (p := ⟨w.heap.size + 1, 1, none⟩) hne _

set_option maxHeartbeats 8000000 in
set_option maxRecDepth 100000 in
theorem geoM2 {d : Int} {A : Option Addr} {ca : Nat} {ns : List Nat} {B : Option Addr} {cb : Nat} {kids : List IG} (hM : MadeC 44 2 (.mk 2 d A ca ns B cb kids)) : MadeC 21 7 (.mk 2 d A ca ns B cb kids) := fun S w h hs => by
  obtain ⟨n, hn⟩ : ∃ n, n = kids.length := ⟨_, rfl⟩
  obtain ⟨m, hm⟩ : ∃ m, m = ns.length := ⟨_, rfl⟩
  show Calls Tryz.prog 21 #[.agg #[.int .i64 2, .int .i64 d, .slice A ns.length ca, .slice B kids.length cb]] w _
  obtain ⟨wA, hwA⟩ : ∃ wA, wA = (w.alloc (.cells #[.int .i64 2, .int .i64 d, .slice A ns.length ca, .slice B kids.length cb] 25)).alloc (.cells #[.int .i64 0, .nilIface] 39) := ⟨_, rfl⟩
  have hbl : Below w.heap.size w wA := by rw [hwA]; exact ((Below.refl _ _).alloc (Nat.le_refl _) _).alloc (by simp) _
  have hD : Blk wA (w.heap.size + 1) 39 #[.int .i64 0, .nilIface] := by
    rw [hwA]
    have := Blk.new (w.alloc (.cells #[.int .i64 2, .int .i64 d, .slice A ns.length ca, .slice B kids.length cb] 25)) 39 #[.int .i64 0, .nilIface]
    simpa using this
  have hsz : wA.heap.size = w.heap.size + 2 := by rw [hwA]; simp
  have HM := Lib.hid (show Calls Tryz.prog 44 #[.agg #[.int .i64 2, .int .i64 d, .slice A ns.length ca, .slice B kids.length cb]] wA (MadePost wA 2 (IG.mk 2 d A ca ns B cb kids).plain) from hM S wA (IG.up hbl h) hs)
  have HD := Lib.hid hD
  have HBL := Lib.hid hbl
  have HWA := Lib.hid hwA
  have HSZ := Lib.hid hsz
  obtain ⟨pg, hpg⟩ : ∃ pg, pg = (IG.mk 2 d A ca ns B cb kids).plain := ⟨_, rfl⟩
  rw [← hpg] at HM ⊢
  rw [← hn, ← hm] at HWA HM ⊢
  clear hD hbl hwA hsz hM h hs hn hm hpg
  go_enter Tryz.func21, Tryz.ntmps21
  go_wp2_with fail
  rw [← HWA.out]
  refine HM.out.mono ?_
  rintro e w2 ⟨g2, rfl, h2, hk2, hp2, hb2⟩
  have HB2 := Lib.hid hb2
  have H2 := Lib.hid h2
  have HP2 := Lib.hid hp2

  obtain ⟨u, v, huv⟩ := MG.enc_two h2 (by rw [hk2]; decide)
  rw [huv]
  have HUV := Lib.hid huv
  have HK2 := Lib.hid hk2
  clear hb2 h2 hk2 hp2 huv
  go_wp2_with fail
  refine (asGeo2 u v _).mono ?_
  rintro e w3 ⟨a3, rfl, hbk, ha3, hb3⟩
  have HBK := Lib.hid hbk
  have HA3 := Lib.hid ha3
  have HB3 := Lib.hid hb3
  have hb02 := HBL.out.trans (HB2.out.mono HBL.out.size)
  have HB03 := Lib.hid (hb02.trans (hb3.mono hb02.size))
  obtain ⟨z0, z1, y0, y1, zl⟩ := cells2 ((HD.out.below HB2.out HD.out.lt).below hb3 (Nat.lt_of_lt_of_le HD.out.lt HB2.out.size))
  clear hbk ha3 hb3 hb02
  go_wp2_with fail
  have hs2 := HB2.out.size
  have hsz := HSZ.out
  have ha3 := HA3.out
  have hno : ¬ (fun a => wA.heap.size ≤ a) (w.heap.size + 1) := by show ¬ wA.heap.size ≤ _; omega
  have hne : a3 ≠ w.heap.size + 1 := by omega
  refine bodyPost_ret (v := .agg #[.int .i64 2, .iface 132 (.pointer (some ⟨a3, 0, none⟩))]) (by simp [results, Tryz.results21, go_sem, z0, z1, zl, pT]) rfl ⟨.bx a3 g2, ?_, ?_, rfl, HP2.out, (HB03.out.setCell (by simp) _).setCell (by simp) _⟩
  · rw [MG.enc, HK2.out]; rfl
  · rw [MG.In, HK2.out]
    refine ⟨by skip; decide, (show w.heap.size ≤ a3 by omega), ?_, MG.less (fun a ha => Nat.le_trans HBL.out.size ha) (MG.keep ((Keeps.set (p := ⟨w.heap.size + 1, 0, none⟩) hno _).trans (.set (p := ⟨w.heap.size + 1, 1, none⟩) hno _)) (MG.up HB3.out H2.out))⟩
    rw [HUV.out]
    exact (HBK.out.far (p := ⟨w.heap.size + 1, 0, none⟩) hne _).far (p := ⟨w.heap.size + 1, 1, none⟩) hne _

set_option maxHeartbeats 8000000 in
set_option maxRecDepth 100000 in
theorem geoM3 {d : Int} {A : Option Addr} {ca : Nat} {ns : List Nat} {B : Option Addr} {cb : Nat} {kids : List IG} (hM : MadeC 46 3 (.mk 3 d A ca ns B cb kids)) : MadeC 21 7 (.mk 3 d A ca ns B cb kids) := fun S w h hs => by
  obtain ⟨n, hn⟩ : ∃ n, n = kids.length := ⟨_, rfl⟩
  obtain ⟨m, hm⟩ : ∃ m, m = ns.length := ⟨_, rfl⟩
  show Calls Tryz.prog 21 #[.agg #[.int .i64 3, .int .i64 d, .slice A ns.length ca, .slice B kids.length cb]] w _
  obtain ⟨wA, hwA⟩ : ∃ wA, wA = (w.alloc (.cells #[.int .i64 3, .int .i64 d, .slice A ns.length ca, .slice B kids.length cb] 25)).alloc (.cells #[.int .i64 0, .nilIface] 39) := ⟨_, rfl⟩
  have hbl : Below w.heap.size w wA := by rw [hwA]; exact ((Below.refl _ _).alloc (Nat.le_refl _) _).alloc (by simp) _
  have hD : Blk wA (w.heap.size + 1) 39 #[.int .i64 0, .nilIface] := by
    rw [hwA]
    have := Blk.new (w.alloc (.cells #[.int .i64 3, .int .i64 d, .slice A ns.length ca, .slice B kids.length cb] 25)) 39 #[.int .i64 0, .nilIface]
    simpa using this
  have hsz : wA.heap.size = w.heap.size + 2 := by rw [hwA]; simp
  have HM := Lib.hid (show Calls Tryz.prog 46 #[.agg #[.int .i64 3, .int .i64 d, .slice A ns.length ca, .slice B kids.length cb]] wA (MadePost wA 3 (IG.mk 3 d A ca ns B cb kids).plain) from hM S wA (IG.up hbl h) hs)
  have HD := Lib.hid hD
  have HBL := Lib.hid hbl
  have HWA := Lib.hid hwA
  have HSZ := Lib.hid hsz
  obtain ⟨pg, hpg⟩ : ∃ pg, pg = (IG.mk 3 d A ca ns B cb kids).plain := ⟨_, rfl⟩
  rw [← hpg] at HM ⊢
  rw [← hn, ← hm] at HWA HM ⊢
  clear hD hbl hwA hsz hM h hs hn hm hpg
  go_enter Tryz.func21, Tryz.ntmps21
  go_wp2_with fail
  rw [← HWA.out]
  refine HM.out.mono ?_
  rintro e w2 ⟨g2, rfl, h2, hk2, hp2, hb2⟩
  have HB2 := Lib.hid hb2
  have H2 := Lib.hid h2
  have HP2 := Lib.hid hp2

  obtain ⟨u, v, huv⟩ := MG.enc_two h2 (by rw [hk2]; decide)
  rw [huv]
  have HUV := Lib.hid huv
  have HK2 := Lib.hid hk2
  clear hb2 h2 hk2 hp2 huv
  go_wp2_with fail
  refine (asGeo3 u v _).mono ?_
  rintro e w3 ⟨a3, rfl, hbk, ha3, hb3⟩
  have HBK := Lib.hid hbk
  have HA3 := Lib.hid ha3
  have HB3 := Lib.hid hb3
  have hb02 := HBL.out.trans (HB2.out.mono HBL.out.size)
  have HB03 := Lib.hid (hb02.trans (hb3.mono hb02.size))
  obtain ⟨z0, z1, y0, y1, zl⟩ := cells2 ((HD.out.below HB2.out HD.out.lt).below hb3 (Nat.lt_of_lt_of_le HD.out.lt HB2.out.size))
  clear hbk ha3 hb3 hb02
  go_wp2_with fail
  have hs2 := HB2.out.size
  have hsz := HSZ.out
  have ha3 := HA3.out
  have hno : ¬ (fun a => wA.heap.size ≤ a) (w.heap.size + 1) := by show ¬ wA.heap.size ≤ _; omega
  have hne : a3 ≠ w.heap.size + 1 := by omega
  refine bodyPost_ret (v := .agg #[.int .i64 3, .iface 135 (.pointer (some ⟨a3, 0, none⟩))]) (by simp [results, Tryz.results21, go_sem, z0, z1, zl, pT]) rfl ⟨.bx a3 g2, ?_, ?_, rfl, HP2.out, (HB03.out.setCell (by simp) _).setCell (by simp) _⟩
  · rw [MG.enc, HK2.out]; rfl
  · rw [MG.In, HK2.out]
    refine ⟨by skip; decide, (show w.heap.size ≤ a3 by omega), ?_, MG.less (fun a ha => Nat.le_trans HBL.out.size ha) (MG.keep ((Keeps.set (p := ⟨w.heap.size + 1, 0, none⟩) hno _).trans (.set (p := ⟨w.heap.size + 1, 1, none⟩) hno _)) (MG.up HB3.out H2.out))⟩
    rw [HUV.out]
    exact (HBK.out.far (p := ⟨w.heap.size + 1, 0, none⟩) hne _).far (p := ⟨w.heap.size + 1, 1, none⟩) hne _

set_option maxHeartbeats 8000000 in
set_option maxRecDepth 100000 in
theorem geoM4 {d : Int} {A : Option Addr} {ca : Nat} {ns : List Nat} {B : Option Addr} {cb : Nat} {kids : List IG} (hM : MadeC 48 4 (.mk 4 d A ca ns B cb kids)) : MadeC 21 7 (.mk 4 d A ca ns B cb kids) := fun S w h hs => by
  obtain ⟨n, hn⟩ : ∃ n, n = kids.length := ⟨_, rfl⟩
  obtain ⟨m, hm⟩ : ∃ m, m = ns.length := ⟨_, rfl⟩
  show Calls Tryz.prog 21 #[.agg #[.int .i64 4, .int .i64 d, .slice A ns.length ca, .slice B kids.length cb]] w _
  obtain ⟨wA, hwA⟩ : ∃ wA, wA = (w.alloc (.cells #[.int .i64 4, .int .i64 d, .slice A ns.length ca, .slice B kids.length cb] 25)).alloc (.cells #[.int .i64 0, .nilIface] 39) := ⟨_, rfl⟩
  have hbl : Below w.heap.size w wA := by rw [hwA]; exact ((Below.refl _ _).alloc (Nat.le_refl _) _).alloc (by simp) _
  have hD : Blk wA (w.heap.size + 1) 39 #[.int .i64 0, .nilIface] := by
    rw [hwA]
    have := Blk.new (w.alloc (.cells #[.int .i64 4, .int .i64 d, .slice A ns.length ca, .slice B kids.length cb] 25)) 39 #[.int .i64 0, .nilIface]
    simpa using this
  have hsz : wA.heap.size = w.heap.size + 2 := by rw [hwA]; simp
  have HM := Lib.hid (show Calls Tryz.prog 48 #[.agg #[.int .i64 4, .int .i64 d, .slice A ns.length ca, .slice B kids.length cb]] wA (MadePost wA 4 (IG.mk 4 d A ca ns B cb kids).plain) from hM S wA (IG.up hbl h) hs)
  have HD := Lib.hid hD
  have HBL := Lib.hid hbl
  have HWA := Lib.hid hwA
  have HSZ := Lib.hid hsz
  obtain ⟨pg, hpg⟩ : ∃ pg, pg = (IG.mk 4 d A ca ns B cb kids).plain := ⟨_, rfl⟩
  rw [← hpg] at HM ⊢
  rw [← hn, ← hm] at HWA HM ⊢
  clear hD hbl hwA hsz hM h hs hn hm hpg
  go_enter Tryz.func21, Tryz.ntmps21
  go_wp2_with fail
  rw [← HWA.out]
  refine HM.out.mono ?_
  rintro e w2 ⟨g2, rfl, h2, hk2, hp2, hb2⟩
  have HB2 := Lib.hid hb2
  have H2 := Lib.hid h2
  have HP2 := Lib.hid hp2

  obtain ⟨u, v, huv⟩ := MG.enc_two h2 (by rw [hk2]; decide)
  rw [huv]
  have HUV := Lib.hid huv
  have HK2 := Lib.hid hk2
  clear hb2 h2 hk2 hp2 huv
  go_wp2_with fail
  refine (asGeo4 u v _).mono ?_
  rintro e w3 ⟨a3, rfl, hbk, ha3, hb3⟩
  have HBK := Lib.hid hbk
  have HA3 := Lib.hid ha3
  have HB3 := Lib.hid hb3
  have hb02 := HBL.out.trans (HB2.out.mono HBL.out.size)
  have HB03 := Lib.hid (hb02.trans (hb3.mono hb02.size))
  obtain ⟨z0, z1, y0, y1, zl⟩ := cells2 ((HD.out.below HB2.out HD.out.lt).below hb3 (Nat.lt_of_lt_of_le HD.out.lt HB2.out.size))
  clear hbk ha3 hb3 hb02
  go_wp2_with fail
  have hs2 := HB2.out.size
  have hsz := HSZ.out
  have ha3 := HA3.out
  have hno : ¬ (fun a => wA.heap.size ≤ a) (w.heap.size + 1) := by show ¬ wA.heap.size ≤ _; omega
  have hne : a3 ≠ w.heap.size + 1 := by omega
  refine bodyPost_ret (v := .agg #[.int .i64 4, .iface 138 (.pointer (some ⟨a3, 0, none⟩))]) (by simp [results, Tryz.results21, go_sem, z0, z1, zl, pT]) rfl ⟨.bx a3 g2, ?_, ?_, rfl, HP2.out, (HB03.out.setCell (by simp) _).setCell (by simp) _⟩
  · rw [MG.enc, HK2.out]; rfl
  · rw [MG.In, HK2.out]
    refine ⟨by skip; decide, (show w.heap.size ≤ a3 by omega), ?_, MG.less (fun a ha => Nat.le_trans HBL.out.size ha) (MG.keep ((Keeps.set (p := ⟨w.heap.size + 1, 0, none⟩) hno _).trans (.set (p := ⟨w.heap.size + 1, 1, none⟩) hno _)) (MG.up HB3.out H2.out))⟩
    rw [HUV.out]
    exact (HBK.out.far (p := ⟨w.heap.size + 1, 0, none⟩) hne _).far (p := ⟨w.heap.size + 1, 1, none⟩) hne _

set_option maxHeartbeats 8000000 in
set_option maxRecDepth 100000 in
theorem geoM5 {d : Int} {A : Option Addr} {ca : Nat} {ns : List Nat} {B : Option Addr} {cb : Nat} {kids : List IG} (hM : MadeC 50 5 (.mk 5 d A ca ns B cb kids)) : MadeC 21 7 (.mk 5 d A ca ns B cb kids) := fun S w h hs => by
  obtain ⟨n, hn⟩ : ∃ n, n = kids.length := ⟨_, rfl⟩
  obtain ⟨m, hm⟩ : ∃ m, m = ns.length := ⟨_, rfl⟩
  show Calls Tryz.prog 21 #[.agg #[.int .i64 5, .int .i64 d, .slice A ns.length ca, .slice B kids.length cb]] w _
  obtain ⟨wA, hwA⟩ : ∃ wA, wA = (w.alloc (.cells #[.int .i64 5, .int .i64 d, .slice A ns.length ca, .slice B kids.length cb] 25)).alloc (.cells #[.int .i64 0, .nilIface] 39) := ⟨_, rfl⟩
  have hbl : Below w.heap.size w wA := by rw [hwA]; exact ((Below.refl _ _).alloc (Nat.le_refl _) _).alloc (by simp) _
  have hD : Blk wA (w.heap.size + 1) 39 #[.int .i64 0, .nilIface] := by
    rw [hwA]
    have := Blk.new (w.alloc (.cells #[.int .i64 5, .int .i64 d, .slice A ns.length ca, .slice B kids.length cb] 25)) 39 #[.int .i64 0, .nilIface]
    simpa using this
  have hsz : wA.heap.size = w.heap.size + 2 := by rw [hwA]; simp
  have HM := Lib.hid (show Calls Tryz.prog 50 #[.agg #[.int .i64 5, .int .i64 d, .slice A ns.length ca, .slice B kids.length cb]] wA (MadePost wA 5 (IG.mk 5 d A ca ns B cb kids).plain) from hM S wA (IG.up hbl h) hs)
  have HD := Lib.hid hD
  have HBL := Lib.hid hbl
  have HWA := Lib.hid hwA
  have HSZ := Lib.hid hsz
  obtain ⟨pg, hpg⟩ : ∃ pg, pg = (IG.mk 5 d A ca ns B cb kids).plain := ⟨_, rfl⟩
  rw [← hpg] at HM ⊢
  rw [← hn, ← hm] at HWA HM ⊢
  clear hD hbl hwA hsz hM h hs hn hm hpg
  go_enter Tryz.func21, Tryz.ntmps21
  go_wp2_with fail
  rw [← HWA.out]
  refine HM.out.mono ?_
  rintro e w2 ⟨g2, rfl, h2, hk2, hp2, hb2⟩
  have HB2 := Lib.hid hb2
  have H2 := Lib.hid h2
  have HP2 := Lib.hid hp2

  obtain ⟨u, v, huv⟩ := MG.enc_two h2 (by rw [hk2]; decide)
  rw [huv]
  have HUV := Lib.hid huv
  have HK2 := Lib.hid hk2
  clear hb2 h2 hk2 hp2 huv
  go_wp2_with fail
  refine (asGeo5 u v _).mono ?_
  rintro e w3 ⟨a3, rfl, hbk, ha3, hb3⟩
  have HBK := Lib.hid hbk
  have HA3 := Lib.hid ha3
  have HB3 := Lib.hid hb3
  have hb02 := HBL.out.trans (HB2.out.mono HBL.out.size)
  have HB03 := Lib.hid (hb02.trans (hb3.mono hb02.size))
  obtain ⟨z0, z1, y0, y1, zl⟩ := cells2 ((HD.out.below HB2.out HD.out.lt).below hb3 (Nat.lt_of_lt_of_le HD.out.lt HB2.out.size))
  clear hbk ha3 hb3 hb02
  go_wp2_with fail
  have hs2 := HB2.out.size
  have hsz := HSZ.out
  have ha3 := HA3.out
  have hno : ¬ (fun a => wA.heap.size ≤ a) (w.heap.size + 1) := by show ¬ wA.heap.size ≤ _; omega
  have hne : a3 ≠ w.heap.size + 1 := by omega
  refine bodyPost_ret (v := .agg #[.int .i64 5, .iface 141 (.pointer (some ⟨a3, 0, none⟩))]) (by simp [results, Tryz.results21, go_sem, z0, z1, zl, pT]) rfl ⟨.bx a3 g2, ?_, ?_, rfl, HP2.out, (HB03.out.setCell (by simp) _).setCell (by simp) _⟩
  · rw [MG.enc, HK2.out]; rfl
  · rw [MG.In, HK2.out]
    refine ⟨by skip; decide, (show w.heap.size ≤ a3 by omega), ?_, MG.less (fun a ha => Nat.le_trans HBL.out.size ha) (MG.keep ((Keeps.set (p := ⟨w.heap.size + 1, 0, none⟩) hno _).trans (.set (p := ⟨w.heap.size + 1, 1, none⟩) hno _)) (MG.up HB3.out H2.out))⟩
    rw [HUV.out]
    exact (HBK.out.far (p := ⟨w.heap.size + 1, 0, none⟩) hne _).far (p := ⟨w.heap.size + 1, 1, none⟩) hne _

set_option maxHeartbeats 8000000 in
set_option maxRecDepth 100000 in
theorem geoM6 {d : Int} {A : Option Addr} {ca : Nat} {ns : List Nat} {B : Option Addr} {cb : Nat} {kids : List IG} (hM : MadeC 52 6 (.mk 6 d A ca ns B cb kids)) : MadeC 21 7 (.mk 6 d A ca ns B cb kids) := fun S w h hs => by
  obtain ⟨n, hn⟩ : ∃ n, n = kids.length := ⟨_, rfl⟩
  obtain ⟨m, hm⟩ : ∃ m, m = ns.length := ⟨_, rfl⟩
  show Calls Tryz.prog 21 #[.agg #[.int .i64 6, .int .i64 d, .slice A ns.length ca, .slice B kids.length cb]] w _
  obtain ⟨wA, hwA⟩ : ∃ wA, wA = (w.alloc (.cells #[.int .i64 6, .int .i64 d, .slice A ns.length ca, .slice B kids.length cb] 25)).alloc (.cells #[.int .i64 0, .nilIface] 39) := ⟨_, rfl⟩
  have hbl : Below w.heap.size w wA := by rw [hwA]; exact ((Below.refl _ _).alloc (Nat.le_refl _) _).alloc (by simp) _
  have hD : Blk wA (w.heap.size + 1) 39 #[.int .i64 0, .nilIface] := by
    rw [hwA]
    have := Blk.new (w.alloc (.cells #[.int .i64 6, .int .i64 d, .slice A ns.length ca, .slice B kids.length cb] 25)) 39 #[.int .i64 0, .nilIface]
    simpa using this
  have hsz : wA.heap.size = w.heap.size + 2 := by rw [hwA]; simp
  have HM := Lib.hid (show Calls Tryz.prog 52 #[.agg #[.int .i64 6, .int .i64 d, .slice A ns.length ca, .slice B kids.length cb]] wA (MadePost wA 6 (IG.mk 6 d A ca ns B cb kids).plain) from hM S wA (IG.up hbl h) hs)
  have HD := Lib.hid hD
  have HBL := Lib.hid hbl
  have HWA := Lib.hid hwA
  have HSZ := Lib.hid hsz
  obtain ⟨pg, hpg⟩ : ∃ pg, pg = (IG.mk 6 d A ca ns B cb kids).plain := ⟨_, rfl⟩
  rw [← hpg] at HM ⊢
  rw [← hn, ← hm] at HWA HM ⊢
  clear hD hbl hwA hsz hM h hs hn hm hpg
  go_enter Tryz.func21, Tryz.ntmps21
  go_wp2_with fail
  rw [← HWA.out]
  refine HM.out.mono ?_
  rintro e w2 ⟨g2, rfl, h2, hk2, hp2, hb2⟩
  have HB2 := Lib.hid hb2
  have H2 := Lib.hid h2
  have HP2 := Lib.hid hp2

  obtain ⟨u, v, huv⟩ := MG.enc_two h2 (by rw [hk2]; decide)
  rw [huv]
  have HUV := Lib.hid huv
  have HK2 := Lib.hid hk2
  clear hb2 h2 hk2 hp2 huv
  go_wp2_with fail
  refine (asGeo6 u v _).mono ?_
  rintro e w3 ⟨a3, rfl, hbk, ha3, hb3⟩
  have HBK := Lib.hid hbk
  have HA3 := Lib.hid ha3
  have HB3 := Lib.hid hb3
  have hb02 := HBL.out.trans (HB2.out.mono HBL.out.size)
  have HB03 := Lib.hid (hb02.trans (hb3.mono hb02.size))
  obtain ⟨z0, z1, y0, y1, zl⟩ := cells2 ((HD.out.below HB2.out HD.out.lt).below hb3 (Nat.lt_of_lt_of_le HD.out.lt HB2.out.size))
  clear hbk ha3 hb3 hb02
  go_wp2_with fail
  have hs2 := HB2.out.size
  have hsz := HSZ.out
  have ha3 := HA3.out
  have hno : ¬ (fun a => wA.heap.size ≤ a) (w.heap.size + 1) := by show ¬ wA.heap.size ≤ _; omega
  have hne : a3 ≠ w.heap.size + 1 := by omega
  refine bodyPost_ret (v := .agg #[.int .i64 6, .iface 144 (.pointer (some ⟨a3, 0, none⟩))]) (by simp [results, Tryz.results21, go_sem, z0, z1, zl, pT]) rfl ⟨.bx a3 g2, ?_, ?_, rfl, HP2.out, (HB03.out.setCell (by simp) _).setCell (by simp) _⟩
  · rw [MG.enc, HK2.out]; rfl
  · rw [MG.In, HK2.out]
    refine ⟨by skip; decide, (show w.heap.size ≤ a3 by omega), ?_, MG.less (fun a ha => Nat.le_trans HBL.out.size ha) (MG.keep ((Keeps.set (p := ⟨w.heap.size + 1, 0, none⟩) hno _).trans (.set (p := ⟨w.heap.size + 1, 1, none⟩) hno _)) (MG.up HB3.out H2.out))⟩
    rw [HUV.out]
    exact (HBK.out.far (p := ⟨w.heap.size + 1, 0, none⟩) hne _).far (p := ⟨w.heap.size + 1, 1, none⟩) hne _

set_option maxHeartbeats 8000000 in
set_option maxRecDepth 100000 in
theorem geoM0 {k d : Int} {A : Option Addr} {ca : Nat} {ns : List Nat} {B : Option Addr} {cb : Nat} {kids : List IG} (e1 : (k == 1) = false) (e2 : (k == 2) = false) (e3 : (k == 3) = false) (e4 : (k == 4) = false) (e5 : (k == 5) = false) (e6 : (k == 6) = false) (hM : MadeC 54 0 (.mk k d A ca ns B cb kids)) : MadeC 21 7 (.mk k d A ca ns B cb kids) := fun S w h hs => by
  obtain ⟨n, hn⟩ : ∃ n, n = kids.length := ⟨_, rfl⟩
  obtain ⟨m, hm⟩ : ∃ m, m = ns.length := ⟨_, rfl⟩
  show Calls Tryz.prog 21 #[.agg #[.int .i64 k, .int .i64 d, .slice A ns.length ca, .slice B kids.length cb]] w _
  obtain ⟨wA, hwA⟩ : ∃ wA, wA = (w.alloc (.cells #[.int .i64 k, .int .i64 d, .slice A ns.length ca, .slice B kids.length cb] 25)).alloc (.cells #[.int .i64 0, .nilIface] 39) := ⟨_, rfl⟩
  have hbl : Below w.heap.size w wA := by rw [hwA]; exact ((Below.refl _ _).alloc (Nat.le_refl _) _).alloc (by simp) _
  have hD : Blk wA (w.heap.size + 1) 39 #[.int .i64 0, .nilIface] := by
    rw [hwA]
    have := Blk.new (w.alloc (.cells #[.int .i64 k, .int .i64 d, .slice A ns.length ca, .slice B kids.length cb] 25)) 39 #[.int .i64 0, .nilIface]
    simpa using this
  have hsz : wA.heap.size = w.heap.size + 2 := by rw [hwA]; simp
  have HM := Lib.hid (show Calls Tryz.prog 54 #[.agg #[.int .i64 k, .int .i64 d, .slice A ns.length ca, .slice B kids.length cb]] wA (MadePost wA 0 (IG.mk k d A ca ns B cb kids).plain) from hM S wA (IG.up hbl h) hs)
  have HD := Lib.hid hD
  have HBL := Lib.hid hbl
  have HWA := Lib.hid hwA
  have HSZ := Lib.hid hsz
  obtain ⟨pg, hpg⟩ : ∃ pg, pg = (IG.mk k d A ca ns B cb kids).plain := ⟨_, rfl⟩
  rw [← hpg] at HM ⊢
  rw [← hn, ← hm] at HWA HM ⊢
  clear hD hbl hwA hsz hM h hs hn hm hpg
  go_enter Tryz.func21, Tryz.ntmps21
  go_wp2_with fail
  rw [← HWA.out]
  refine HM.out.mono ?_
  rintro e w2 ⟨g2, rfl, h2, hk2, hp2, hb2⟩
  have HB2 := Lib.hid hb2
  have H2 := Lib.hid h2
  have HP2 := Lib.hid hp2

  obtain ⟨u, v, huv⟩ := MG.enc_two h2 (by rw [hk2]; decide)
  rw [huv]
  have HUV := Lib.hid huv
  have HK2 := Lib.hid hk2
  clear hb2 h2 hk2 hp2 huv
  go_wp2_with fail
  refine (asGeo0 u v _).mono ?_
  rintro e w3 ⟨a3, rfl, hbk, ha3, hb3⟩
  have HBK := Lib.hid hbk
  have HA3 := Lib.hid ha3
  have HB3 := Lib.hid hb3
  have hb02 := HBL.out.trans (HB2.out.mono HBL.out.size)
  have HB03 := Lib.hid (hb02.trans (hb3.mono hb02.size))
  obtain ⟨z0, z1, y0, y1, zl⟩ := cells2 ((HD.out.below HB2.out HD.out.lt).below hb3 (Nat.lt_of_lt_of_le HD.out.lt HB2.out.size))
  clear hbk ha3 hb3 hb02
  go_wp2_with fail
  have hs2 := HB2.out.size
  have hsz := HSZ.out
  have ha3 := HA3.out
  have hno : ¬ (fun a => wA.heap.size ≤ a) (w.heap.size + 1) := by show ¬ wA.heap.size ≤ _; omega
  have hne : a3 ≠ w.heap.size + 1 := by omega
  refine bodyPost_ret (v := .agg #[.int .i64 0, .iface 148 (.pointer (some ⟨a3, 0, none⟩))]) (by simp [results, Tryz.results21, go_sem, z0, z1, zl, pT]) rfl ⟨.bx a3 g2, ?_, ?_, rfl, HP2.out, (HB03.out.setCell (by simp) _).setCell (by simp) _⟩
  · rw [MG.enc, HK2.out]; rfl
  · rw [MG.In, HK2.out]
    refine ⟨by skip; decide, (show w.heap.size ≤ a3 by omega), ?_, MG.less (fun a ha => Nat.le_trans HBL.out.size ha) (MG.keep ((Keeps.set (p := ⟨w.heap.size + 1, 0, none⟩) hno _).trans (.set (p := ⟨w.heap.size + 1, 1, none⟩) hno _)) (MG.up HB3.out H2.out))⟩
    rw [HUV.out]
    exact (HBK.out.far (p := ⟨w.heap.size + 1, 0, none⟩) hne _).far (p := ⟨w.heap.size + 1, 1, none⟩) hne _

theorem geometry_calls : ∀ g : IG, MadeC 21 7 g := by
  intro g
  induction g using IG.ind with
  | h k d A ca ns B cb kids ih =>
    by_cases h1 : k = 1
    · subst h1; exact geoM1 point_calls
    by_cases h2 : k = 2
    · subst h2; exact geoM2 line_calls
    by_cases h3 : k = 3
    · subst h3; exact geoM3 polygon_calls
    by_cases h4 : k = 4
    · subst h4; exact geoM4 multiPoint_calls
    by_cases h5 : k = 5
    · subst h5; exact geoM5 multiLine_calls
    by_cases h6 : k = 6
    · subst h6; exact geoM6 multiPolygon_calls
    have hk : kd k = 0 := by unfold kd; split <;> omega
    exact geoM0 (beq_eq_false_iff_ne.2 h1) (beq_eq_false_iff_ne.2 h2) (beq_eq_false_iff_ne.2 h3) (beq_eq_false_iff_ne.2 h4) (beq_eq_false_iff_ne.2 h5) (beq_eq_false_iff_ne.2 h6) (collection_calls hk ih)
end Go.Proofs.YtplphaaeibeheaaGreat.geo
