/-
  Contracts: polygons, multis and collections made of parts.
-/
import Derived.Test.YtbacakdpfiiblaaGreatGeoH
namespace Go.Proofs.YtbacakdpfiiblaaGreat.geo
open Go.ChangeShapes Go.WideShapes Go.ChangeAt Go.RowKit
open Go.Proofs.YtbacakdpfiiblaaGreat.mem
set_option linter.unusedVariables false
set_option linter.unusedSimpArgs false

theorem u8_and {x y : Nat} (hx : x < 4) (hy : y < 4) : bits .and .u8 (x : Int) (y : Int) = ((x &&& y : Nat) : Int) := by
  obtain rfl | rfl | rfl | rfl := four hx <;> obtain rfl | rfl | rfl | rfl := four hy <;> decide
/-- A geometry of a kind comes back, made of parts. -/
def NewPost (S : Nat → Prop) (w : World) (k d0 : Nat) (kids : List MG) (e : Ending) (w' : World) : Prop :=
  ∃ g : MG, e = .returned (.agg g.enc.toArray) ∧ g.In (Fresh S w) w' ∧ g.kind = k ∧ g.plain = joinG k d0 (kids.map MG.plain) ∧ Below w.heap.size w w'

set_option maxHeartbeats 8000000 in
set_option maxRecDepth 100000 in
theorem new3 {A : Option Addr} {c d0 : Nat} {kids : List MG} (hpos : 0 < kids.length) (hkb : kids.length ≤ kbig) {S : Nat → Prop} {w : World} (hA0 : SlS S w A kids.length 2 (kids.flatMap MG.enc)) (hkid0 : MG.InL S w 2 kids) :
    Calls Tryz.prog 119 #[.slice A kids.length c] w (NewPost S w 3 d0 kids) := by
  have hA := hA0.old
  have hkid : ∀ g ∈ kids, g.kind = 2 ∧ g.In (Old S w) w := fun g hg => ⟨(MG.inL_iff.1 hkid0 g hg).1, MG.old (MG.inL_iff.1 hkid0 g hg).2⟩
  have hesz : ∀ g ∈ kids, g.enc.length = 2 := fun g hg => by
    obtain ⟨u, v, e⟩ := MG.enc_two (hkid g hg).2 (by rw [(hkid g hg).1]; decide)
    rw [e]; rfl
  obtain ⟨i0, hi, hz0, hz1, hz2⟩ := info_parts infoG3
  unfold kbig at hkb
  obtain ⟨wA, hwA⟩ : ∃ wA, wA = w.alloc (.cells #[.slice none 0 0, .int .u8 0] 87) := ⟨_, rfl⟩
  have hbl : Below w.heap.size w wA := by rw [hwA]; exact (Below.refl _ _).alloc (Nat.le_refl _) _
  have hD : Blk wA w.heap.size 87 #[.slice none 0 0, .int .u8 0] := by rw [hwA]; exact Blk.new _ _ _
  have hsz : wA.heap.size = w.heap.size + 1 := by rw [hwA]; simp
  obtain ⟨n, hn⟩ : ∃ n, n = kids.length := ⟨_, rfl⟩
  obtain ⟨b, off, hAe, hblk, hcell⟩ := sl_part hA.1 hesz hpos
  subst hAe
  have HA := Lib.hid (hA.1.up hbl)
  have HKID := Lib.hid hkid
  have HESZ := Lib.hid hesz
  have HCELL := Lib.hid hcell
  have HD := Lib.hid hD
  have HBL := Lib.hid hbl
  have HWA := Lib.hid hwA
  have HSZ := Lib.hid hsz
  have HN := Lib.hid hn
  have HONE : Hid (∀ u ∈ kids.flatMap MG.enc, u.oneCell' = true) := Lib.hid (fun u hu => by
    obtain ⟨g, _, h⟩ := List.mem_flatMap.1 hu
    exact MG.enc_one g u h)
  rw [← hn] at hkb hpos ⊢
  have hposI : (0 : Int) < (n : Int) := by omega
  have hposE : ((n : Int) == 0) = false := beq_eq_false_iff_ne.2 (by omega)
  clear hA hA0 hkid hkid0 hesz hcell hbl hD hwA hsz hn
  go_enter Tryz.func119, Tryz.ntmps119
  go_wp2_with fail
  rw [← HWA.out]
  go_loopg [3, 12] n (fun q ct ci wr => ∃ (i : Nat), i + q = n ∧ ci = .int .i64 (i : Nat) ∧ ct = .int .u8 (cd 3 ((kids.take i).map MG.plain) : Nat) ∧ Below wA.heap.size wA wr)
  case atStart => exact ⟨0, by omega, by go_num, rfl, Below.refl _ _⟩
  case round =>
    obtain ⟨i, hi', rfl, rfl, hbl⟩ := hrel
    have HIL := Lib.hid hi'
    have HBL2 := Lib.hid hbl
    have hin : i ≤ n := by omega
    have sr := hbl.size
    have hx := cd_lt ((kids.take i).map MG.plain) 3 (by decide)
    clear hi' hbl
    by_cases hlt : i < n
    · have hik : i < kids.length := by rw [← HN.out]; exact hlt
      obtain ⟨g, hg⟩ : ∃ g, kids[i]? = some g := ⟨kids[i], List.getElem?_eq_getElem hik⟩
      have HG := Lib.hid hg
      have hmem := List.mem_of_getElem? hg
      obtain ⟨hkk, hgin⟩ := HKID.out g hmem
      obtain ⟨d2, A2, c2, ns2, rfl⟩ := MG.is_ln (hkk) hgin
      have huv : (MG.ln d2 A2 c2 ns2).enc = [.int .u8 d2, .slice A2 ns2.length c2] := rfl
      have hbb := HBL.out.trans (HBL2.out.mono HBL.out.size)
      have d0 := (hbb.cell (p := ⟨b, off + (i * 2 + 0), none⟩) hblk).trans (HCELL.out i _ hg 0 _ rfl)
      have d1 := (hbb.cell (p := ⟨b, off + (i * 2 + 1), none⟩) hblk).trans (HCELL.out i _ hg 1 _ rfl)
      rw [Nat.add_zero] at d0
      rw [← Nat.add_assoc] at d1
      have hba : ∀ o, Below wr.heap.size wr (wr.alloc o) := fun o => (Below.refl _ _).alloc (Nat.le_refl _) _
      have HTY := Lib.hid (show ∀ o, Calls Tryz.prog 156 #[.agg #[.int .u8 d2, .slice A2 ns2.length c2]] (wr.alloc o) (Gives (wr.alloc o) (.int .u8 (dm (MG.ln d2 A2 c2 ns2).plain.d : Nat))) from fun o => by
        have := lnTypeK hkk (Old S w) (wr.alloc o) (MG.up (hba o) (MG.up hbb hgin))
        rw [huv] at this
        exact this)
      obtain ⟨x, hxe⟩ : ∃ x, x = cd 3 ((kids.take i).map MG.plain) := ⟨_, rfl⟩
      obtain ⟨y, hye⟩ : ∃ y, y = dm (MG.ln d2 A2 c2 ns2).plain.d := ⟨_, rfl⟩
      have hand := u8_and (x := x) (y := y) (by rw [hxe]; exact hx) (by rw [hye]; exact dm_lt _)
      have hcd : cd 3 ((kids.take (i + 1)).map MG.plain) = x &&& y := by
        rw [List.take_add_one, hg, List.map_append]
        show cd 3 (_ ++ [(MG.ln d2 A2 c2 ns2).plain]) = _
        rw [cd_snoc, hxe, hye]
      rw [← hxe]
      rw [← hye] at HTY
      have HCD := Lib.hid hcd
      have HBA := Lib.hid (fun o => HBL2.out.trans ((hba o).mono HBL2.out.size))
      have hltI : (i : Int) < (n : Int) := by omega
      clear hg hmem hkk hgin huv hbb hba hcd hxe hye hx hik
      go_wp2_with fail
      refine (HTY.out _).mono ?_
      rintro e w3 ⟨rfl, hb3⟩
      have HB3 := Lib.hid hb3
      clear hb3 d0 d1
      go_wp2_with fail
      go_roundg (n - (i + 1))
      case measure => have := HIL.out; omega
      case rel => exact ⟨i + 1, by omega, by go_num, by rw [HCD.out], (HBA.out _).trans (HB3.out.mono (HBA.out _).size)⟩
    · obtain rfl : i = n := by omega
      have hne := HN.out
      have htk : kids.take i = kids := List.take_of_length_le (by rw [← hne]; exact Nat.le_refl _)
      rw [htk] at hx ⊢
      obtain ⟨x, hxe⟩ : ∃ x, x = cd 3 (kids.map MG.plain) := ⟨_, rfl⟩
      rw [← hxe] at hx ⊢
      have HX := Lib.hid hxe
      have HSA := Lib.hid (HA.out.up HBL2.out)
      obtain ⟨wC, hwC⟩ : ∃ wC, wC = wr := ⟨_, rfl⟩
      subst hwC
      have hltI : (i : Int) ≤ (i : Int) := Int.le_refl _
      clear hne htk hxe
      go_wp2_with (at_builtin; refine wpList_append_sl _ rfl _ (.tmp 21) 85 rfl wC.heap.size 83 i0 _ 2 32 Tryz.underlying85 hi hz0 hz1 hz2 rfl (by decide) (.slice none 0 0) 0 [] rfl (World.ownsRow_nil _ _ _ _)
                     _ (some ⟨b, off, none⟩) i c (kids.flatMap MG.enc) rfl (by rw [HN.out]; exact HSA.out) HONE.out (by unfold maxLen; omega) (by omega) (Nat.le_refl _) ?_; intro A5 c5 w5 ho5 hg5 _
                   have HO5 := Lib.hid ho5
                   have HB5 := Lib.hid ((Below.refl wC.heap.size wC).grown hg5 (Nat.le_refl _) (fun q hq => by cases hq))
                   clear ho5 hg5)
      have ho5 := HO5.out
      rw [Nat.zero_add, List.nil_append] at ho5
      obtain ⟨g5, rfl, hbg, hrow5⟩ := own_row2 ho5 hpos (by rw [flatE_len HESZ.out, ← HN.out])
      have HROW := Lib.hid hrow5
      have hlt5 := hrow5.lt
      have hsw := HBL2.out.size
      have hsb := HB5.out.size
      have hw1 := HD.out.lt
      clear ho5 hrow5
      go_wp2_with fail
      go_loopg [25] i (fun q ci wr => ∃ (j : Nat) (L : List MG), j + q = i ∧ ci = .int .i64 (j : Nat) ∧ L.length = j ∧ L.map MG.plain = (kids.take j).map (fun g => g.plain.frc x) ∧ (∀ g ∈ L, g.kind = 2 ∧ g.In (fun a => Old S w a ∨ w5.heap.size ≤ a) wr) ∧ Row wr g5 83 (L.flatMap MG.enc ++ (kids.drop j).flatMap MG.enc) ∧ Below wC.heap.size wC wr ∧ w5.heap.size ≤ wr.heap.size)
      case atStart => exact ⟨0, [], by omega, by go_num, rfl, rfl, (fun g hg => by cases hg), HROW.out, HB5.out, Nat.le_refl _⟩
      case round =>
        obtain ⟨j, L, hj', rfl, hll, hlp, hlin, hrow, hbl, hw5⟩ := hrel
        have HJL := Lib.hid hj'
        have HLL := Lib.hid hll
        have HLP := Lib.hid hlp
        have HLIN := Lib.hid hlin
        have HRW0 := Lib.hid hrow
        have HBL3 := Lib.hid hbl
        have hjn : j ≤ i := by omega
        have hlw := hrow.lt
        clear hj' hll hlp hlin hrow hbl
        by_cases hlt : j < i
        · have hik : j < kids.length := by rw [← HN.out]; exact hlt
          obtain ⟨g, hg⟩ : ∃ g, kids[j]? = some g := ⟨kids[j], List.getElem?_eq_getElem hik⟩
          have HG := Lib.hid hg
          have hmem := List.mem_of_getElem? hg
          obtain ⟨hkk, hgin⟩ := HKID.out g hmem
          obtain ⟨u, v, huv⟩ := MG.enc_two hgin (by rw [hkk]; decide)
          have hdr : (kids.drop j).flatMap MG.enc = [u, v] ++ (kids.drop (j + 1)).flatMap MG.enc := by
            obtain ⟨h, e⟩ := List.getElem?_eq_some_iff.1 hg
            rw [List.drop_eq_getElem_cons h, e, List.flatMap_cons, huv]
          have HROWD := HRW0.out
          rw [hdr] at HROWD
          have hdl : (L.flatMap MG.enc).length = j * 2 := by
            rw [flatE_len (s := 2) (fun g hg => ?_), HLL.out]
            obtain ⟨e1, e2⟩ := HLIN.out g hg
            obtain ⟨u', v', e3⟩ := MG.enc_two e2 (by rw [e1]; decide)
            rw [e3]; rfl
          have d0 := HROWD.some_at hdl 0 (by simp)
          have d1 := HROWD.some_at hdl 1 (by simp)
          simp only [List.getElem_cons_zero, List.getElem_cons_succ, Nat.add_zero] at d0 d1
          have HRD := Lib.hid HROWD
          have HDL := Lib.hid hdl
          have HFG := Lib.hid (show Calls Tryz.prog 132 #[.agg #[u, v], .int .u8 x] wr (ForcePost (Old S w) wr x g) from by
            have := lnForceK hkk x hx (Old S w) wr (MG.up (HBL.out.trans ((HBL2.out.trans (HBL3.out.mono HBL2.out.size)).mono HBL.out.size)) hgin)
            rw [huv] at this
            exact this)
          have HKK := Lib.hid hkk
          have hltI : (j : Int) < (i : Int) := by omega
          clear hg hmem hkk hgin huv hdr HROWD hdl hik
          go_wp2_with fail
          refine HFG.out.mono ?_
          rintro e w3 ⟨g2, rfl, h2, hk2, hp2, hb3⟩
          have hkk := HKK.out
          obtain ⟨d2, A2, c2, ns2, rfl⟩ := MG.is_ln (hk2.trans hkk) h2
          rw [show (MG.ln d2 A2 c2 ns2).enc.toArray = #[.int .u8 d2, .slice A2 ns2.length c2] from rfl]
          have HK2 := Lib.hid (hk2.trans hkk)
          have HP2 := Lib.hid hp2
          have H2 := Lib.hid h2
          have HB3 := Lib.hid hb3
          have HROW3 := Lib.hid (HRD.out.below hb3)
          have HBL4 := Lib.hid (HBL3.out.trans (hb3.mono HBL3.out.size))
          have f0 := HROW3.out.frozen_at HDL.out 0 (by simp)
          have g0 := HROW3.out.some_at HDL.out 0 (by simp)
          have f1 := HROW3.out.frozen_at HDL.out 1 (by simp)
          have g1 := HROW3.out.some_at HDL.out 1 (by simp)
          simp only [List.getElem_cons_zero, List.getElem_cons_succ, Nat.add_zero] at f0 g0 f1 g1
          have hl3 := hb3.size
          have hlr := HROW3.out.lt
          clear hb3 h2 hp2 hk2 hkk d0 d1
          go_wp2_with fail
          go_roundg (i - (j + 1))
          case measure => have := HJL.out; omega
          case rel =>
            have hszA := HBL.out.size
            have hnT : ¬ (fun a => Old S w a ∨ w5.heap.size ≤ a) g5 := fun h => by
              rcases h with h | h
              · have := h.2; omega
              · omega
            have hkeep : ∀ (T : Nat → Prop) (hT : ¬ T g5), Keeps T w3 ((w3.setCell ⟨g5, j * 2, none⟩ (.int .u8 d2)).setCell ⟨g5, j * 2 + 1, none⟩ (.slice A2 ns2.length c2)) := fun T hT => (Keeps.set (p := ⟨g5, j * 2, none⟩) hT _).trans (.set (p := ⟨g5, j * 2 + 1, none⟩) hT _)
            refine ⟨j + 1, L ++ [MG.ln d2 A2 c2 ns2], by omega, by go_num, by rw [List.length_append, HLL.out]; rfl, ?_, ?_, ?_, (HBL4.out.setCell hbg _).setCell hbg _, by simp; omega⟩
            · rw [List.take_add_one, HG.out, List.map_append, List.map_append, HLP.out]
              simp [HP2.out]
            · intro g hg
              rcases List.mem_append.1 hg with hg | hg
              · obtain ⟨e1, e2⟩ := HLIN.out g hg
                exact ⟨e1, MG.keep (hkeep _ hnT) (MG.up HB3.out e2)⟩
              · have := List.mem_singleton.1 hg
                subst this
                exact ⟨HK2.out, MG.keep (hkeep _ hnT) (MG.less (fun a ha => ha.imp id (fun h => Nat.le_trans hw5 h)) H2.out)⟩
            · rw [List.flatMap_append]
              have := HROW3.out.put2 HDL.out (.int .u8 d2) (.slice A2 ns2.length c2)
              simpa [MG.enc] using this
        · obtain rfl : j = i := by omega
          have hrow := HRW0.out
          rw [List.drop_of_length_le (by rw [← HN.out]; exact Nat.le_refl _), List.flatMap_nil, List.append_nil] at hrow
          have HRW := Lib.hid hrow
          obtain ⟨z0, z1, y0, y1, zl⟩ := cells2 ((HD.out.below HBL2.out HD.out.lt).below HBL3.out (Nat.lt_of_lt_of_le HD.out.lt HBL2.out.size))
          clear hrow
          go_wp2_with fail
          have hlen : (L.flatMap MG.enc).length = j * 2 := by
            rw [flatE_len (s := 2) (fun g hg => ?_), HLL.out]
            obtain ⟨e1, e2⟩ := HLIN.out g hg
            obtain ⟨u', v', e3⟩ := MG.enc_two e2 (by rw [e1]; decide)
            rw [e3]; rfl
          have hszA := HBL.out.size
          have hsT : ∀ a, (fun a => Old S w a ∨ w5.heap.size ≤ a) a → Fresh S w a := fun a ha => by
            rcases ha with ha | ha
            · exact .inl ha.1
            · exact .inr (by omega)
          have hnT : ¬ (fun a => Old S w a ∨ w5.heap.size ≤ a) w.heap.size := fun h => by
            rcases h with h | h
            · have := h.2; omega
            · omega
          have hne : g5 ≠ w.heap.size := by omega
          have hkeep : ∀ (T : Nat → Prop) (hT : ¬ T w.heap.size) u v, Keeps T wr ((wr.setCell ⟨w.heap.size, 0, none⟩ u).setCell ⟨w.heap.size, 1, none⟩ v) := fun T hT u v => (Keeps.set (p := ⟨w.heap.size, 0, none⟩) hT _).trans (.set (p := ⟨w.heap.size, 1, none⟩) hT _)
          have hbw := (HBL.out.trans ((HBL2.out.trans (HBL3.out.mono HBL2.out.size)).mono HBL.out.size))
          refine bodyPost_ret (v := .agg #[.slice (some ⟨g5, 0, none⟩) j c5, .int .u8 x]) (by simp [results, Tryz.results119, go_sem, z0, z1, zl]) rfl ⟨.mu 3 x (some ⟨g5, 0, none⟩) c5 L, by rw [MG.enc, HLL.out], ?_, rfl, ?_, (hbw.setCell (Nat.le_refl _) _).setCell (Nat.le_refl _) _⟩
          · rw [MG.In]
            refine ⟨hx, by decide, by rw [HLL.out]; unfold kbig; omega, ⟨?_, fun _ a ha => by have := Option.some.inj ha; subst this; exact .inr (show w.heap.size ≤ g5 by omega)⟩, MG.inL_iff.2 fun g hg => ?_⟩
            · exact ((HRW.out.far (p := ⟨w.heap.size, 0, none⟩) hne _).far (p := ⟨w.heap.size, 1, none⟩) hne _).sl (by rw [hlen, HLL.out]; rfl) (by rw [HLL.out]; unfold maxLen; omega)
            · obtain ⟨e1, e2⟩ := HLIN.out g hg
              exact ⟨e1, MG.less hsT (MG.keep (hkeep _ hnT _ _) e2)⟩
          · rw [MG.plain_mu, HLP.out, List.take_of_length_le (by rw [← HN.out]; exact Nat.le_refl _)]
            unfold joinG
            rw [if_neg (fun h => by rw [List.map_eq_nil_iff] at h; have := HN.out; rw [h] at this; simp at this; omega), ← HX.out, List.map_map]
            rfl

set_option maxHeartbeats 8000000 in
set_option maxRecDepth 100000 in
theorem new5 {A : Option Addr} {c d0 : Nat} {kids : List MG} (hpos : 0 < kids.length) (hkb : kids.length ≤ kbig) {S : Nat → Prop} {w : World} (hA0 : SlS S w A kids.length 2 (kids.flatMap MG.enc)) (hkid0 : MG.InL S w 2 kids) :
    Calls Tryz.prog 123 #[.slice A kids.length c] w (NewPost S w 5 d0 kids) := by
  have hA := hA0.old
  have hkid : ∀ g ∈ kids, g.kind = 2 ∧ g.In (Old S w) w := fun g hg => ⟨(MG.inL_iff.1 hkid0 g hg).1, MG.old (MG.inL_iff.1 hkid0 g hg).2⟩
  have hesz : ∀ g ∈ kids, g.enc.length = 2 := fun g hg => by
    obtain ⟨u, v, e⟩ := MG.enc_two (hkid g hg).2 (by rw [(hkid g hg).1]; decide)
    rw [e]; rfl
  obtain ⟨i0, hi, hz0, hz1, hz2⟩ := info_parts infoG5
  unfold kbig at hkb
  obtain ⟨wA, hwA⟩ : ∃ wA, wA = w.alloc (.cells #[.slice none 0 0, .int .u8 0] 94) := ⟨_, rfl⟩
  have hbl : Below w.heap.size w wA := by rw [hwA]; exact (Below.refl _ _).alloc (Nat.le_refl _) _
  have hD : Blk wA w.heap.size 94 #[.slice none 0 0, .int .u8 0] := by rw [hwA]; exact Blk.new _ _ _
  have hsz : wA.heap.size = w.heap.size + 1 := by rw [hwA]; simp
  obtain ⟨n, hn⟩ : ∃ n, n = kids.length := ⟨_, rfl⟩
  obtain ⟨b, off, hAe, hblk, hcell⟩ := sl_part hA.1 hesz hpos
  subst hAe
  have HA := Lib.hid (hA.1.up hbl)
  have HKID := Lib.hid hkid
  have HESZ := Lib.hid hesz
  have HCELL := Lib.hid hcell
  have HD := Lib.hid hD
  have HBL := Lib.hid hbl
  have HWA := Lib.hid hwA
  have HSZ := Lib.hid hsz
  have HN := Lib.hid hn
  have HONE : Hid (∀ u ∈ kids.flatMap MG.enc, u.oneCell' = true) := Lib.hid (fun u hu => by
    obtain ⟨g, _, h⟩ := List.mem_flatMap.1 hu
    exact MG.enc_one g u h)
  rw [← hn] at hkb hpos ⊢
  have hposI : (0 : Int) < (n : Int) := by omega
  have hposE : ((n : Int) == 0) = false := beq_eq_false_iff_ne.2 (by omega)
  clear hA hA0 hkid hkid0 hesz hcell hbl hD hwA hsz hn
  go_enter Tryz.func123, Tryz.ntmps123
  go_wp2_with fail
  rw [← HWA.out]
  go_loopg [3, 13] n (fun q ct ci wr => ∃ (i : Nat), i + q = n ∧ ci = .int .i64 (i : Nat) ∧ ct = .int .u8 (cd 3 ((kids.take i).map MG.plain) : Nat) ∧ Below wA.heap.size wA wr)
  case atStart => exact ⟨0, by omega, by go_num, rfl, Below.refl _ _⟩
  case round =>
    obtain ⟨i, hi', rfl, rfl, hbl⟩ := hrel
    have HIL := Lib.hid hi'
    have HBL2 := Lib.hid hbl
    have hin : i ≤ n := by omega
    have sr := hbl.size
    have hx := cd_lt ((kids.take i).map MG.plain) 3 (by decide)
    clear hi' hbl
    by_cases hlt : i < n
    · have hik : i < kids.length := by rw [← HN.out]; exact hlt
      obtain ⟨g, hg⟩ : ∃ g, kids[i]? = some g := ⟨kids[i], List.getElem?_eq_getElem hik⟩
      have HG := Lib.hid hg
      have hmem := List.mem_of_getElem? hg
      obtain ⟨hkk, hgin⟩ := HKID.out g hmem
      obtain ⟨d2, A2, c2, ns2, rfl⟩ := MG.is_ln (hkk) hgin
      have huv : (MG.ln d2 A2 c2 ns2).enc = [.int .u8 d2, .slice A2 ns2.length c2] := rfl
      have hbb := HBL.out.trans (HBL2.out.mono HBL.out.size)
      have d0 := (hbb.cell (p := ⟨b, off + (i * 2 + 0), none⟩) hblk).trans (HCELL.out i _ hg 0 _ rfl)
      have d1 := (hbb.cell (p := ⟨b, off + (i * 2 + 1), none⟩) hblk).trans (HCELL.out i _ hg 1 _ rfl)
      rw [Nat.add_zero] at d0
      rw [← Nat.add_assoc] at d1
      have hba : ∀ o, Below wr.heap.size wr (wr.alloc o) := fun o => (Below.refl _ _).alloc (Nat.le_refl _) _
      have HTY := Lib.hid (show ∀ o, Calls Tryz.prog 156 #[.agg #[.int .u8 d2, .slice A2 ns2.length c2]] (wr.alloc o) (Gives (wr.alloc o) (.int .u8 (dm (MG.ln d2 A2 c2 ns2).plain.d : Nat))) from fun o => by
        have := lnTypeK hkk (Old S w) (wr.alloc o) (MG.up (hba o) (MG.up hbb hgin))
        rw [huv] at this
        exact this)
      obtain ⟨x, hxe⟩ : ∃ x, x = cd 3 ((kids.take i).map MG.plain) := ⟨_, rfl⟩
      obtain ⟨y, hye⟩ : ∃ y, y = dm (MG.ln d2 A2 c2 ns2).plain.d := ⟨_, rfl⟩
      have hand := u8_and (x := x) (y := y) (by rw [hxe]; exact hx) (by rw [hye]; exact dm_lt _)
      have hcd : cd 3 ((kids.take (i + 1)).map MG.plain) = x &&& y := by
        rw [List.take_add_one, hg, List.map_append]
        show cd 3 (_ ++ [(MG.ln d2 A2 c2 ns2).plain]) = _
        rw [cd_snoc, hxe, hye]
      rw [← hxe]
      rw [← hye] at HTY
      have HCD := Lib.hid hcd
      have HBA := Lib.hid (fun o => HBL2.out.trans ((hba o).mono HBL2.out.size))
      have hltI : (i : Int) < (n : Int) := by omega
      clear hg hmem hkk hgin huv hbb hba hcd hxe hye hx hik
      go_wp2_with fail
      refine (HTY.out _).mono ?_
      rintro e w3 ⟨rfl, hb3⟩
      have HB3 := Lib.hid hb3
      clear hb3 d0 d1
      go_wp2_with fail
      go_roundg (n - (i + 1))
      case measure => have := HIL.out; omega
      case rel => exact ⟨i + 1, by omega, by go_num, by rw [HCD.out], (HBA.out _).trans (HB3.out.mono (HBA.out _).size)⟩
    · obtain rfl : i = n := by omega
      have hne := HN.out
      have htk : kids.take i = kids := List.take_of_length_le (by rw [← hne]; exact Nat.le_refl _)
      rw [htk] at hx ⊢
      obtain ⟨x, hxe⟩ : ∃ x, x = cd 3 (kids.map MG.plain) := ⟨_, rfl⟩
      rw [← hxe] at hx ⊢
      have HX := Lib.hid hxe
      have HSA := Lib.hid (HA.out.up HBL2.out)
      obtain ⟨wC, hwC⟩ : ∃ wC, wC = wr := ⟨_, rfl⟩
      subst hwC
      have hltI : (i : Int) ≤ (i : Int) := Int.le_refl _
      clear hne htk hxe
      go_wp2_with (at_builtin; refine wpList_append_sl _ rfl _ (.tmp 22) 85 rfl wC.heap.size 83 i0 _ 2 32 Tryz.underlying85 hi hz0 hz1 hz2 rfl (by decide) (.slice none 0 0) 0 [] rfl (World.ownsRow_nil _ _ _ _)
                     _ (some ⟨b, off, none⟩) i c (kids.flatMap MG.enc) rfl (by rw [HN.out]; exact HSA.out) HONE.out (by unfold maxLen; omega) (by omega) (Nat.le_refl _) ?_; intro A5 c5 w5 ho5 hg5 _
                   have HO5 := Lib.hid ho5
                   have HB5 := Lib.hid ((Below.refl wC.heap.size wC).grown hg5 (Nat.le_refl _) (fun q hq => by cases hq))
                   clear ho5 hg5)
      have ho5 := HO5.out
      rw [Nat.zero_add, List.nil_append] at ho5
      obtain ⟨g5, rfl, hbg, hrow5⟩ := own_row2 ho5 hpos (by rw [flatE_len HESZ.out, ← HN.out])
      have HROW := Lib.hid hrow5
      have hlt5 := hrow5.lt
      have hsw := HBL2.out.size
      have hsb := HB5.out.size
      have hw1 := HD.out.lt
      clear ho5 hrow5
      go_wp2_with fail
      go_loopg [26] i (fun q ci wr => ∃ (j : Nat) (L : List MG), j + q = i ∧ ci = .int .i64 (j : Nat) ∧ L.length = j ∧ L.map MG.plain = (kids.take j).map (fun g => g.plain.frc x) ∧ (∀ g ∈ L, g.kind = 2 ∧ g.In (fun a => Old S w a ∨ w5.heap.size ≤ a) wr) ∧ Row wr g5 83 (L.flatMap MG.enc ++ (kids.drop j).flatMap MG.enc) ∧ Below wC.heap.size wC wr ∧ w5.heap.size ≤ wr.heap.size)
      case atStart => exact ⟨0, [], by omega, by go_num, rfl, rfl, (fun g hg => by cases hg), HROW.out, HB5.out, Nat.le_refl _⟩
      case round =>
        obtain ⟨j, L, hj', rfl, hll, hlp, hlin, hrow, hbl, hw5⟩ := hrel
        have HJL := Lib.hid hj'
        have HLL := Lib.hid hll
        have HLP := Lib.hid hlp
        have HLIN := Lib.hid hlin
        have HRW0 := Lib.hid hrow
        have HBL3 := Lib.hid hbl
        have hjn : j ≤ i := by omega
        have hlw := hrow.lt
        clear hj' hll hlp hlin hrow hbl
        by_cases hlt : j < i
        · have hik : j < kids.length := by rw [← HN.out]; exact hlt
          obtain ⟨g, hg⟩ : ∃ g, kids[j]? = some g := ⟨kids[j], List.getElem?_eq_getElem hik⟩
          have HG := Lib.hid hg
          have hmem := List.mem_of_getElem? hg
          obtain ⟨hkk, hgin⟩ := HKID.out g hmem
          obtain ⟨u, v, huv⟩ := MG.enc_two hgin (by rw [hkk]; decide)
          have hdr : (kids.drop j).flatMap MG.enc = [u, v] ++ (kids.drop (j + 1)).flatMap MG.enc := by
            obtain ⟨h, e⟩ := List.getElem?_eq_some_iff.1 hg
            rw [List.drop_eq_getElem_cons h, e, List.flatMap_cons, huv]
          have HROWD := HRW0.out
          rw [hdr] at HROWD
          have hdl : (L.flatMap MG.enc).length = j * 2 := by
            rw [flatE_len (s := 2) (fun g hg => ?_), HLL.out]
            obtain ⟨e1, e2⟩ := HLIN.out g hg
            obtain ⟨u', v', e3⟩ := MG.enc_two e2 (by rw [e1]; decide)
            rw [e3]; rfl
          have d0 := HROWD.some_at hdl 0 (by simp)
          have d1 := HROWD.some_at hdl 1 (by simp)
          simp only [List.getElem_cons_zero, List.getElem_cons_succ, Nat.add_zero] at d0 d1
          have HRD := Lib.hid HROWD
          have HDL := Lib.hid hdl
          have HFG := Lib.hid (show Calls Tryz.prog 132 #[.agg #[u, v], .int .u8 x] wr (ForcePost (Old S w) wr x g) from by
            have := lnForceK hkk x hx (Old S w) wr (MG.up (HBL.out.trans ((HBL2.out.trans (HBL3.out.mono HBL2.out.size)).mono HBL.out.size)) hgin)
            rw [huv] at this
            exact this)
          have HKK := Lib.hid hkk
          have hltI : (j : Int) < (i : Int) := by omega
          clear hg hmem hkk hgin huv hdr HROWD hdl hik
          go_wp2_with fail
          refine HFG.out.mono ?_
          rintro e w3 ⟨g2, rfl, h2, hk2, hp2, hb3⟩
          have hkk := HKK.out
          obtain ⟨d2, A2, c2, ns2, rfl⟩ := MG.is_ln (hk2.trans hkk) h2
          rw [show (MG.ln d2 A2 c2 ns2).enc.toArray = #[.int .u8 d2, .slice A2 ns2.length c2] from rfl]
          have HK2 := Lib.hid (hk2.trans hkk)
          have HP2 := Lib.hid hp2
          have H2 := Lib.hid h2
          have HB3 := Lib.hid hb3
          have HROW3 := Lib.hid (HRD.out.below hb3)
          have HBL4 := Lib.hid (HBL3.out.trans (hb3.mono HBL3.out.size))
          have f0 := HROW3.out.frozen_at HDL.out 0 (by simp)
          have g0 := HROW3.out.some_at HDL.out 0 (by simp)
          have f1 := HROW3.out.frozen_at HDL.out 1 (by simp)
          have g1 := HROW3.out.some_at HDL.out 1 (by simp)
          simp only [List.getElem_cons_zero, List.getElem_cons_succ, Nat.add_zero] at f0 g0 f1 g1
          have hl3 := hb3.size
          have hlr := HROW3.out.lt
          clear hb3 h2 hp2 hk2 hkk d0 d1
          go_wp2_with fail
          go_roundg (i - (j + 1))
          case measure => have := HJL.out; omega
          case rel =>
            have hszA := HBL.out.size
            have hnT : ¬ (fun a => Old S w a ∨ w5.heap.size ≤ a) g5 := fun h => by
              rcases h with h | h
              · have := h.2; omega
              · omega
            have hkeep : ∀ (T : Nat → Prop) (hT : ¬ T g5), Keeps T w3 ((w3.setCell ⟨g5, j * 2, none⟩ (.int .u8 d2)).setCell ⟨g5, j * 2 + 1, none⟩ (.slice A2 ns2.length c2)) := fun T hT => (Keeps.set (p := ⟨g5, j * 2, none⟩) hT _).trans (.set (p := ⟨g5, j * 2 + 1, none⟩) hT _)
            refine ⟨j + 1, L ++ [MG.ln d2 A2 c2 ns2], by omega, by go_num, by rw [List.length_append, HLL.out]; rfl, ?_, ?_, ?_, (HBL4.out.setCell hbg _).setCell hbg _, by simp; omega⟩
            · rw [List.take_add_one, HG.out, List.map_append, List.map_append, HLP.out]
              simp [HP2.out]
            · intro g hg
              rcases List.mem_append.1 hg with hg | hg
              · obtain ⟨e1, e2⟩ := HLIN.out g hg
                exact ⟨e1, MG.keep (hkeep _ hnT) (MG.up HB3.out e2)⟩
              · have := List.mem_singleton.1 hg
                subst this
                exact ⟨HK2.out, MG.keep (hkeep _ hnT) (MG.less (fun a ha => ha.imp id (fun h => Nat.le_trans hw5 h)) H2.out)⟩
            · rw [List.flatMap_append]
              have := HROW3.out.put2 HDL.out (.int .u8 d2) (.slice A2 ns2.length c2)
              simpa [MG.enc] using this
        · obtain rfl : j = i := by omega
          have hrow := HRW0.out
          rw [List.drop_of_length_le (by rw [← HN.out]; exact Nat.le_refl _), List.flatMap_nil, List.append_nil] at hrow
          have HRW := Lib.hid hrow
          obtain ⟨z0, z1, y0, y1, zl⟩ := cells2 ((HD.out.below HBL2.out HD.out.lt).below HBL3.out (Nat.lt_of_lt_of_le HD.out.lt HBL2.out.size))
          clear hrow
          go_wp2_with fail
          have hlen : (L.flatMap MG.enc).length = j * 2 := by
            rw [flatE_len (s := 2) (fun g hg => ?_), HLL.out]
            obtain ⟨e1, e2⟩ := HLIN.out g hg
            obtain ⟨u', v', e3⟩ := MG.enc_two e2 (by rw [e1]; decide)
            rw [e3]; rfl
          have hszA := HBL.out.size
          have hsT : ∀ a, (fun a => Old S w a ∨ w5.heap.size ≤ a) a → Fresh S w a := fun a ha => by
            rcases ha with ha | ha
            · exact .inl ha.1
            · exact .inr (by omega)
          have hnT : ¬ (fun a => Old S w a ∨ w5.heap.size ≤ a) w.heap.size := fun h => by
            rcases h with h | h
            · have := h.2; omega
            · omega
          have hne : g5 ≠ w.heap.size := by omega
          have hkeep : ∀ (T : Nat → Prop) (hT : ¬ T w.heap.size) u v, Keeps T wr ((wr.setCell ⟨w.heap.size, 0, none⟩ u).setCell ⟨w.heap.size, 1, none⟩ v) := fun T hT u v => (Keeps.set (p := ⟨w.heap.size, 0, none⟩) hT _).trans (.set (p := ⟨w.heap.size, 1, none⟩) hT _)
          have hbw := (HBL.out.trans ((HBL2.out.trans (HBL3.out.mono HBL2.out.size)).mono HBL.out.size))
          refine bodyPost_ret (v := .agg #[.slice (some ⟨g5, 0, none⟩) j c5, .int .u8 x]) (by simp [results, Tryz.results123, go_sem, z0, z1, zl]) rfl ⟨.mu 5 x (some ⟨g5, 0, none⟩) c5 L, by rw [MG.enc, HLL.out], ?_, rfl, ?_, (hbw.setCell (Nat.le_refl _) _).setCell (Nat.le_refl _) _⟩
          · rw [MG.In]
            refine ⟨hx, by decide, by rw [HLL.out]; unfold kbig; omega, ⟨?_, fun _ a ha => by have := Option.some.inj ha; subst this; exact .inr (show w.heap.size ≤ g5 by omega)⟩, MG.inL_iff.2 fun g hg => ?_⟩
            · exact ((HRW.out.far (p := ⟨w.heap.size, 0, none⟩) hne _).far (p := ⟨w.heap.size, 1, none⟩) hne _).sl (by rw [hlen, HLL.out]; rfl) (by rw [HLL.out]; unfold maxLen; omega)
            · obtain ⟨e1, e2⟩ := HLIN.out g hg
              exact ⟨e1, MG.less hsT (MG.keep (hkeep _ hnT _ _) e2)⟩
          · rw [MG.plain_mu, HLP.out, List.take_of_length_le (by rw [← HN.out]; exact Nat.le_refl _)]
            unfold joinG
            rw [if_neg (fun h => by rw [List.map_eq_nil_iff] at h; have := HN.out; rw [h] at this; simp at this; omega), ← HX.out, List.map_map]
            rfl

set_option maxHeartbeats 8000000 in
set_option maxRecDepth 100000 in
theorem new6 {A : Option Addr} {c d0 : Nat} {kids : List MG} (hpos : 0 < kids.length) (hkb : kids.length ≤ kbig) {S : Nat → Prop} {w : World} (hA0 : SlS S w A kids.length 2 (kids.flatMap MG.enc)) (hkid0 : MG.InL S w 3 kids) :
    Calls Tryz.prog 125 #[.slice A kids.length c] w (NewPost S w 6 d0 kids) := by
  have hA := hA0.old
  have hkid : ∀ g ∈ kids, g.kind = 3 ∧ g.In (Old S w) w := fun g hg => ⟨(MG.inL_iff.1 hkid0 g hg).1, MG.old (MG.inL_iff.1 hkid0 g hg).2⟩
  have hesz : ∀ g ∈ kids, g.enc.length = 2 := fun g hg => by
    obtain ⟨u, v, e⟩ := MG.enc_two (hkid g hg).2 (by rw [(hkid g hg).1]; decide)
    rw [e]; rfl
  obtain ⟨i0, hi, hz0, hz1, hz2⟩ := info_parts infoG6
  unfold kbig at hkb
  obtain ⟨wA, hwA⟩ : ∃ wA, wA = w.alloc (.cells #[.slice none 0 0, .int .u8 0] 98) := ⟨_, rfl⟩
  have hbl : Below w.heap.size w wA := by rw [hwA]; exact (Below.refl _ _).alloc (Nat.le_refl _) _
  have hD : Blk wA w.heap.size 98 #[.slice none 0 0, .int .u8 0] := by rw [hwA]; exact Blk.new _ _ _
  have hsz : wA.heap.size = w.heap.size + 1 := by rw [hwA]; simp
  obtain ⟨n, hn⟩ : ∃ n, n = kids.length := ⟨_, rfl⟩
  obtain ⟨b, off, hAe, hblk, hcell⟩ := sl_part hA.1 hesz hpos
  subst hAe
  have HA := Lib.hid (hA.1.up hbl)
  have HKID := Lib.hid hkid
  have HESZ := Lib.hid hesz
  have HCELL := Lib.hid hcell
  have HD := Lib.hid hD
  have HBL := Lib.hid hbl
  have HWA := Lib.hid hwA
  have HSZ := Lib.hid hsz
  have HN := Lib.hid hn
  have HONE : Hid (∀ u ∈ kids.flatMap MG.enc, u.oneCell' = true) := Lib.hid (fun u hu => by
    obtain ⟨g, _, h⟩ := List.mem_flatMap.1 hu
    exact MG.enc_one g u h)
  rw [← hn] at hkb hpos ⊢
  have hposI : (0 : Int) < (n : Int) := by omega
  have hposE : ((n : Int) == 0) = false := beq_eq_false_iff_ne.2 (by omega)
  clear hA hA0 hkid hkid0 hesz hcell hbl hD hwA hsz hn
  go_enter Tryz.func125, Tryz.ntmps125
  go_wp2_with fail
  rw [← HWA.out]
  go_loopg [3, 12] n (fun q ct ci wr => ∃ (i : Nat), i + q = n ∧ ci = .int .i64 (i : Nat) ∧ ct = .int .u8 (cd 3 ((kids.take i).map MG.plain) : Nat) ∧ Below wA.heap.size wA wr)
  case atStart => exact ⟨0, by omega, by go_num, rfl, Below.refl _ _⟩
  case round =>
    obtain ⟨i, hi', rfl, rfl, hbl⟩ := hrel
    have HIL := Lib.hid hi'
    have HBL2 := Lib.hid hbl
    have hin : i ≤ n := by omega
    have sr := hbl.size
    have hx := cd_lt ((kids.take i).map MG.plain) 3 (by decide)
    clear hi' hbl
    by_cases hlt : i < n
    · have hik : i < kids.length := by rw [← HN.out]; exact hlt
      obtain ⟨g, hg⟩ : ∃ g, kids[i]? = some g := ⟨kids[i], List.getElem?_eq_getElem hik⟩
      have HG := Lib.hid hg
      have hmem := List.mem_of_getElem? hg
      obtain ⟨hkk, hgin⟩ := HKID.out g hmem
      obtain ⟨d2, A2, c2, ks2, rfl⟩ := MG.is_mu (S := S) (w := w) (k := 3) (hkk) (by decide) (by decide) (by decide)
      have huv : (MG.mu 3 d2 A2 c2 ks2).enc = [.slice A2 ks2.length c2, .int .u8 d2] := rfl
      have hbb := HBL.out.trans (HBL2.out.mono HBL.out.size)
      have d0 := (hbb.cell (p := ⟨b, off + (i * 2 + 0), none⟩) hblk).trans (HCELL.out i _ hg 0 _ rfl)
      have d1 := (hbb.cell (p := ⟨b, off + (i * 2 + 1), none⟩) hblk).trans (HCELL.out i _ hg 1 _ rfl)
      rw [Nat.add_zero] at d0
      rw [← Nat.add_assoc] at d1
      have hba : ∀ o, Below wr.heap.size wr (wr.alloc o) := fun o => (Below.refl _ _).alloc (Nat.le_refl _) _
      have HTY := Lib.hid (show ∀ o, Calls Tryz.prog 138 #[.agg #[.slice A2 ks2.length c2, .int .u8 d2]] (wr.alloc o) (Gives (wr.alloc o) (.int .u8 (dm (MG.mu 3 d2 A2 c2 ks2).plain.d : Nat))) from fun o => by
        have := polyTypeK hkk (Old S w) (wr.alloc o) (MG.up (hba o) (MG.up hbb hgin))
        rw [huv] at this
        exact this)
      obtain ⟨x, hxe⟩ : ∃ x, x = cd 3 ((kids.take i).map MG.plain) := ⟨_, rfl⟩
      obtain ⟨y, hye⟩ : ∃ y, y = dm (MG.mu 3 d2 A2 c2 ks2).plain.d := ⟨_, rfl⟩
      have hand := u8_and (x := x) (y := y) (by rw [hxe]; exact hx) (by rw [hye]; exact dm_lt _)
      have hcd : cd 3 ((kids.take (i + 1)).map MG.plain) = x &&& y := by
        rw [List.take_add_one, hg, List.map_append]
        show cd 3 (_ ++ [(MG.mu 3 d2 A2 c2 ks2).plain]) = _
        rw [cd_snoc, hxe, hye]
      rw [← hxe]
      rw [← hye] at HTY
      have HCD := Lib.hid hcd
      have HBA := Lib.hid (fun o => HBL2.out.trans ((hba o).mono HBL2.out.size))
      have hltI : (i : Int) < (n : Int) := by omega
      clear hg hmem hkk hgin huv hbb hba hcd hxe hye hx hik
      go_wp2_with fail
      refine (HTY.out _).mono ?_
      rintro e w3 ⟨rfl, hb3⟩
      have HB3 := Lib.hid hb3
      clear hb3 d0 d1
      go_wp2_with fail
      go_roundg (n - (i + 1))
      case measure => have := HIL.out; omega
      case rel => exact ⟨i + 1, by omega, by go_num, by rw [HCD.out], (HBA.out _).trans (HB3.out.mono (HBA.out _).size)⟩
    · obtain rfl : i = n := by omega
      have hne := HN.out
      have htk : kids.take i = kids := List.take_of_length_le (by rw [← hne]; exact Nat.le_refl _)
      rw [htk] at hx ⊢
      obtain ⟨x, hxe⟩ : ∃ x, x = cd 3 (kids.map MG.plain) := ⟨_, rfl⟩
      rw [← hxe] at hx ⊢
      have HX := Lib.hid hxe
      have HSA := Lib.hid (HA.out.up HBL2.out)
      obtain ⟨wC, hwC⟩ : ∃ wC, wC = wr := ⟨_, rfl⟩
      subst hwC
      have hltI : (i : Int) ≤ (i : Int) := Int.le_refl _
      clear hne htk hxe
      go_wp2_with (at_builtin; refine wpList_append_sl _ rfl _ (.tmp 21) 96 rfl wC.heap.size 87 i0 _ 2 32 Tryz.underlying96 hi hz0 hz1 hz2 rfl (by decide) (.slice none 0 0) 0 [] rfl (World.ownsRow_nil _ _ _ _)
                     _ (some ⟨b, off, none⟩) i c (kids.flatMap MG.enc) rfl (by rw [HN.out]; exact HSA.out) HONE.out (by unfold maxLen; omega) (by omega) (Nat.le_refl _) ?_; intro A5 c5 w5 ho5 hg5 _
                   have HO5 := Lib.hid ho5
                   have HB5 := Lib.hid ((Below.refl wC.heap.size wC).grown hg5 (Nat.le_refl _) (fun q hq => by cases hq))
                   clear ho5 hg5)
      have ho5 := HO5.out
      rw [Nat.zero_add, List.nil_append] at ho5
      obtain ⟨g5, rfl, hbg, hrow5⟩ := own_row2 ho5 hpos (by rw [flatE_len HESZ.out, ← HN.out])
      have HROW := Lib.hid hrow5
      have hlt5 := hrow5.lt
      have hsw := HBL2.out.size
      have hsb := HB5.out.size
      have hw1 := HD.out.lt
      clear ho5 hrow5
      go_wp2_with fail
      go_loopg [25] i (fun q ci wr => ∃ (j : Nat) (L : List MG), j + q = i ∧ ci = .int .i64 (j : Nat) ∧ L.length = j ∧ L.map MG.plain = (kids.take j).map (fun g => g.plain.frc x) ∧ (∀ g ∈ L, g.kind = 3 ∧ g.In (fun a => Old S w a ∨ w5.heap.size ≤ a) wr) ∧ Row wr g5 87 (L.flatMap MG.enc ++ (kids.drop j).flatMap MG.enc) ∧ Below wC.heap.size wC wr ∧ w5.heap.size ≤ wr.heap.size)
      case atStart => exact ⟨0, [], by omega, by go_num, rfl, rfl, (fun g hg => by cases hg), HROW.out, HB5.out, Nat.le_refl _⟩
      case round =>
        obtain ⟨j, L, hj', rfl, hll, hlp, hlin, hrow, hbl, hw5⟩ := hrel
        have HJL := Lib.hid hj'
        have HLL := Lib.hid hll
        have HLP := Lib.hid hlp
        have HLIN := Lib.hid hlin
        have HRW0 := Lib.hid hrow
        have HBL3 := Lib.hid hbl
        have hjn : j ≤ i := by omega
        have hlw := hrow.lt
        clear hj' hll hlp hlin hrow hbl
        by_cases hlt : j < i
        · have hik : j < kids.length := by rw [← HN.out]; exact hlt
          obtain ⟨g, hg⟩ : ∃ g, kids[j]? = some g := ⟨kids[j], List.getElem?_eq_getElem hik⟩
          have HG := Lib.hid hg
          have hmem := List.mem_of_getElem? hg
          obtain ⟨hkk, hgin⟩ := HKID.out g hmem
          obtain ⟨u, v, huv⟩ := MG.enc_two hgin (by rw [hkk]; decide)
          have hdr : (kids.drop j).flatMap MG.enc = [u, v] ++ (kids.drop (j + 1)).flatMap MG.enc := by
            obtain ⟨h, e⟩ := List.getElem?_eq_some_iff.1 hg
            rw [List.drop_eq_getElem_cons h, e, List.flatMap_cons, huv]
          have HROWD := HRW0.out
          rw [hdr] at HROWD
          have hdl : (L.flatMap MG.enc).length = j * 2 := by
            rw [flatE_len (s := 2) (fun g hg => ?_), HLL.out]
            obtain ⟨e1, e2⟩ := HLIN.out g hg
            obtain ⟨u', v', e3⟩ := MG.enc_two e2 (by rw [e1]; decide)
            rw [e3]; rfl
          have d0 := HROWD.some_at hdl 0 (by simp)
          have d1 := HROWD.some_at hdl 1 (by simp)
          simp only [List.getElem_cons_zero, List.getElem_cons_succ, Nat.add_zero] at d0 d1
          have HRD := Lib.hid HROWD
          have HDL := Lib.hid hdl
          have HFG := Lib.hid (show Calls Tryz.prog 118 #[.agg #[u, v], .int .u8 x] wr (ForcePost (Old S w) wr x g) from by
            have := polyForceK hkk x hx (Old S w) wr (MG.up (HBL.out.trans ((HBL2.out.trans (HBL3.out.mono HBL2.out.size)).mono HBL.out.size)) hgin)
            rw [huv] at this
            exact this)
          have HKK := Lib.hid hkk
          have hltI : (j : Int) < (i : Int) := by omega
          clear hg hmem hkk hgin huv hdr HROWD hdl hik
          go_wp2_with fail
          refine HFG.out.mono ?_
          rintro e w3 ⟨g2, rfl, h2, hk2, hp2, hb3⟩
          have hkk := HKK.out
          obtain ⟨d2, A2, c2, ks2, rfl⟩ := MG.is_mu (S := S) (w := w) (k := 3) (hk2.trans hkk) (by decide) (by decide) (by decide)
          rw [show (MG.mu 3 d2 A2 c2 ks2).enc.toArray = #[.slice A2 ks2.length c2, .int .u8 d2] from rfl]
          have HK2 := Lib.hid (hk2.trans hkk)
          have HP2 := Lib.hid hp2
          have H2 := Lib.hid h2
          have HB3 := Lib.hid hb3
          have HROW3 := Lib.hid (HRD.out.below hb3)
          have HBL4 := Lib.hid (HBL3.out.trans (hb3.mono HBL3.out.size))
          have f0 := HROW3.out.frozen_at HDL.out 0 (by simp)
          have g0 := HROW3.out.some_at HDL.out 0 (by simp)
          have f1 := HROW3.out.frozen_at HDL.out 1 (by simp)
          have g1 := HROW3.out.some_at HDL.out 1 (by simp)
          simp only [List.getElem_cons_zero, List.getElem_cons_succ, Nat.add_zero] at f0 g0 f1 g1
          have hl3 := hb3.size
          have hlr := HROW3.out.lt
          clear hb3 h2 hp2 hk2 hkk d0 d1
          go_wp2_with fail
          go_roundg (i - (j + 1))
          case measure => have := HJL.out; omega
          case rel =>
            have hszA := HBL.out.size
            have hnT : ¬ (fun a => Old S w a ∨ w5.heap.size ≤ a) g5 := fun h => by
              rcases h with h | h
              · have := h.2; omega
              · omega
            have hkeep : ∀ (T : Nat → Prop) (hT : ¬ T g5), Keeps T w3 ((w3.setCell ⟨g5, j * 2, none⟩ (.slice A2 ks2.length c2)).setCell ⟨g5, j * 2 + 1, none⟩ (.int .u8 d2)) := fun T hT => (Keeps.set (p := ⟨g5, j * 2, none⟩) hT _).trans (.set (p := ⟨g5, j * 2 + 1, none⟩) hT _)
            refine ⟨j + 1, L ++ [MG.mu 3 d2 A2 c2 ks2], by omega, by go_num, by rw [List.length_append, HLL.out]; rfl, ?_, ?_, ?_, (HBL4.out.setCell hbg _).setCell hbg _, by simp; omega⟩
            · rw [List.take_add_one, HG.out, List.map_append, List.map_append, HLP.out]
              simp [HP2.out]
            · intro g hg
              rcases List.mem_append.1 hg with hg | hg
              · obtain ⟨e1, e2⟩ := HLIN.out g hg
                exact ⟨e1, MG.keep (hkeep _ hnT) (MG.up HB3.out e2)⟩
              · have := List.mem_singleton.1 hg
                subst this
                exact ⟨HK2.out, MG.keep (hkeep _ hnT) (MG.less (fun a ha => ha.imp id (fun h => Nat.le_trans hw5 h)) H2.out)⟩
            · rw [List.flatMap_append]
              have := HROW3.out.put2 HDL.out (.slice A2 ks2.length c2) (.int .u8 d2)
              simpa [MG.enc] using this
        · obtain rfl : j = i := by omega
          have hrow := HRW0.out
          rw [List.drop_of_length_le (by rw [← HN.out]; exact Nat.le_refl _), List.flatMap_nil, List.append_nil] at hrow
          have HRW := Lib.hid hrow
          obtain ⟨z0, z1, y0, y1, zl⟩ := cells2 ((HD.out.below HBL2.out HD.out.lt).below HBL3.out (Nat.lt_of_lt_of_le HD.out.lt HBL2.out.size))
          clear hrow
          go_wp2_with fail
          have hlen : (L.flatMap MG.enc).length = j * 2 := by
            rw [flatE_len (s := 2) (fun g hg => ?_), HLL.out]
            obtain ⟨e1, e2⟩ := HLIN.out g hg
            obtain ⟨u', v', e3⟩ := MG.enc_two e2 (by rw [e1]; decide)
            rw [e3]; rfl
          have hszA := HBL.out.size
          have hsT : ∀ a, (fun a => Old S w a ∨ w5.heap.size ≤ a) a → Fresh S w a := fun a ha => by
            rcases ha with ha | ha
            · exact .inl ha.1
            · exact .inr (by omega)
          have hnT : ¬ (fun a => Old S w a ∨ w5.heap.size ≤ a) w.heap.size := fun h => by
            rcases h with h | h
            · have := h.2; omega
            · omega
          have hne : g5 ≠ w.heap.size := by omega
          have hkeep : ∀ (T : Nat → Prop) (hT : ¬ T w.heap.size) u v, Keeps T wr ((wr.setCell ⟨w.heap.size, 0, none⟩ u).setCell ⟨w.heap.size, 1, none⟩ v) := fun T hT u v => (Keeps.set (p := ⟨w.heap.size, 0, none⟩) hT _).trans (.set (p := ⟨w.heap.size, 1, none⟩) hT _)
          have hbw := (HBL.out.trans ((HBL2.out.trans (HBL3.out.mono HBL2.out.size)).mono HBL.out.size))
          refine bodyPost_ret (v := .agg #[.slice (some ⟨g5, 0, none⟩) j c5, .int .u8 x]) (by simp [results, Tryz.results125, go_sem, z0, z1, zl]) rfl ⟨.mu 6 x (some ⟨g5, 0, none⟩) c5 L, by rw [MG.enc, HLL.out], ?_, rfl, ?_, (hbw.setCell (Nat.le_refl _) _).setCell (Nat.le_refl _) _⟩
          · rw [MG.In]
            refine ⟨hx, by decide, by rw [HLL.out]; unfold kbig; omega, ⟨?_, fun _ a ha => by have := Option.some.inj ha; subst this; exact .inr (show w.heap.size ≤ g5 by omega)⟩, MG.inL_iff.2 fun g hg => ?_⟩
            · exact ((HRW.out.far (p := ⟨w.heap.size, 0, none⟩) hne _).far (p := ⟨w.heap.size, 1, none⟩) hne _).sl (by rw [hlen, HLL.out]; rfl) (by rw [HLL.out]; unfold maxLen; omega)
            · obtain ⟨e1, e2⟩ := HLIN.out g hg
              exact ⟨e1, MG.less hsT (MG.keep (hkeep _ hnT _ _) e2)⟩
          · rw [MG.plain_mu, HLP.out, List.take_of_length_le (by rw [← HN.out]; exact Nat.le_refl _)]
            unfold joinG
            rw [if_neg (fun h => by rw [List.map_eq_nil_iff] at h; have := HN.out; rw [h] at this; simp at this; omega), ← HX.out, List.map_map]
            rfl

set_option maxHeartbeats 8000000 in
set_option maxRecDepth 100000 in
theorem new0 {A : Option Addr} {c d0 : Nat} {kids : List MG} (hpos : 0 < kids.length) (hkb : kids.length ≤ kbig) {S : Nat → Prop} {w : World} (hA0 : SlS S w A kids.length 2 (kids.flatMap MG.enc)) (hkid0 : MG.InL S w 7 kids) :
    Calls Tryz.prog 127 #[.slice A kids.length c] w (NewPost S w 0 d0 kids) := by
  have hA := hA0.old
  have hkid : ∀ g ∈ kids, g.kind = 7 ∧ g.In (Old S w) w := fun g hg => ⟨(MG.inL_iff.1 hkid0 g hg).1, MG.old (MG.inL_iff.1 hkid0 g hg).2⟩
  have hesz : ∀ g ∈ kids, g.enc.length = 2 := fun g hg => by
    obtain ⟨u, v, e⟩ := MG.enc_two (hkid g hg).2 (by rw [(hkid g hg).1]; decide)
    rw [e]; rfl
  obtain ⟨i0, hi, hz0, hz1, hz2⟩ := info_parts infoG0
  unfold kbig at hkb
  obtain ⟨wA, hwA⟩ : ∃ wA, wA = w.alloc (.cells #[.slice none 0 0, .int .u8 0] 102) := ⟨_, rfl⟩
  have hbl : Below w.heap.size w wA := by rw [hwA]; exact (Below.refl _ _).alloc (Nat.le_refl _) _
  have hD : Blk wA w.heap.size 102 #[.slice none 0 0, .int .u8 0] := by rw [hwA]; exact Blk.new _ _ _
  have hsz : wA.heap.size = w.heap.size + 1 := by rw [hwA]; simp
  obtain ⟨n, hn⟩ : ∃ n, n = kids.length := ⟨_, rfl⟩
  obtain ⟨b, off, hAe, hblk, hcell⟩ := sl_part hA.1 hesz hpos
  subst hAe
  have HA := Lib.hid (hA.1.up hbl)
  have HKID := Lib.hid hkid
  have HESZ := Lib.hid hesz
  have HCELL := Lib.hid hcell
  have HD := Lib.hid hD
  have HBL := Lib.hid hbl
  have HWA := Lib.hid hwA
  have HSZ := Lib.hid hsz
  have HN := Lib.hid hn
  have HONE : Hid (∀ u ∈ kids.flatMap MG.enc, u.oneCell' = true) := Lib.hid (fun u hu => by
    obtain ⟨g, _, h⟩ := List.mem_flatMap.1 hu
    exact MG.enc_one g u h)
  rw [← hn] at hkb hpos ⊢
  have hposI : (0 : Int) < (n : Int) := by omega
  have hposE : ((n : Int) == 0) = false := beq_eq_false_iff_ne.2 (by omega)
  clear hA hA0 hkid hkid0 hesz hcell hbl hD hwA hsz hn
  go_enter Tryz.func127, Tryz.ntmps127
  go_wp2_with fail
  rw [← HWA.out]
  go_loopg [3, 13] n (fun q ct ci wr => ∃ (i : Nat), i + q = n ∧ ci = .int .i64 (i : Nat) ∧ ct = .int .u8 (cd 3 ((kids.take i).map MG.plain) : Nat) ∧ Below wA.heap.size wA wr)
  case atStart => exact ⟨0, by omega, by go_num, rfl, Below.refl _ _⟩
  case round =>
    obtain ⟨i, hi', rfl, rfl, hbl⟩ := hrel
    have HIL := Lib.hid hi'
    have HBL2 := Lib.hid hbl
    have hin : i ≤ n := by omega
    have sr := hbl.size
    have hx := cd_lt ((kids.take i).map MG.plain) 3 (by decide)
    clear hi' hbl
    by_cases hlt : i < n
    · have hik : i < kids.length := by rw [← HN.out]; exact hlt
      obtain ⟨g, hg⟩ : ∃ g, kids[i]? = some g := ⟨kids[i], List.getElem?_eq_getElem hik⟩
      have HG := Lib.hid hg
      have hmem := List.mem_of_getElem? hg
      obtain ⟨hkk, hgin⟩ := HKID.out g hmem
      obtain ⟨a2, m2, rfl⟩ := MG.is_bx (hkk) hgin
      have huv : (MG.bx a2 m2).enc = [.int .i64 m2.kind, .iface (pT m2.kind) (.pointer (some ⟨a2, 0, none⟩))] := rfl
      have hbb := HBL.out.trans (HBL2.out.mono HBL.out.size)
      have d0 := (hbb.cell (p := ⟨b, off + (i * 2 + 0), none⟩) hblk).trans (HCELL.out i _ hg 0 _ rfl)
      have d1 := (hbb.cell (p := ⟨b, off + (i * 2 + 1), none⟩) hblk).trans (HCELL.out i _ hg 1 _ rfl)
      rw [Nat.add_zero] at d0
      rw [← Nat.add_assoc] at d1
      have hba : ∀ o, Below wr.heap.size wr (wr.alloc o) := fun o => (Below.refl _ _).alloc (Nat.le_refl _) _
      have HTY := Lib.hid (show ∀ o, Calls Tryz.prog 159 #[.agg #[.int .i64 m2.kind, .iface (pT m2.kind) (.pointer (some ⟨a2, 0, none⟩))]] (wr.alloc o) (Gives (wr.alloc o) (.int .u8 (dm (MG.bx a2 m2).plain.d : Nat))) from fun o => by
        have := geoTypeK hkk (Old S w) (wr.alloc o) (MG.up (hba o) (MG.up hbb hgin))
        rw [huv] at this
        exact this)
      obtain ⟨x, hxe⟩ : ∃ x, x = cd 3 ((kids.take i).map MG.plain) := ⟨_, rfl⟩
      obtain ⟨y, hye⟩ : ∃ y, y = dm (MG.bx a2 m2).plain.d := ⟨_, rfl⟩
      have hand := u8_and (x := x) (y := y) (by rw [hxe]; exact hx) (by rw [hye]; exact dm_lt _)
      have hcd : cd 3 ((kids.take (i + 1)).map MG.plain) = x &&& y := by
        rw [List.take_add_one, hg, List.map_append]
        show cd 3 (_ ++ [(MG.bx a2 m2).plain]) = _
        rw [cd_snoc, hxe, hye]
      rw [← hxe]
      rw [← hye] at HTY
      have HCD := Lib.hid hcd
      have HBA := Lib.hid (fun o => HBL2.out.trans ((hba o).mono HBL2.out.size))
      have hltI : (i : Int) < (n : Int) := by omega
      clear hg hmem hkk hgin huv hbb hba hcd hxe hye hx hik
      go_wp2_with fail
      refine (HTY.out _).mono ?_
      rintro e w3 ⟨rfl, hb3⟩
      have HB3 := Lib.hid hb3
      clear hb3 d0 d1
      go_wp2_with fail
      go_roundg (n - (i + 1))
      case measure => have := HIL.out; omega
      case rel => exact ⟨i + 1, by omega, by go_num, by rw [HCD.out], (HBA.out _).trans (HB3.out.mono (HBA.out _).size)⟩
    · obtain rfl : i = n := by omega
      have hne := HN.out
      have htk : kids.take i = kids := List.take_of_length_le (by rw [← hne]; exact Nat.le_refl _)
      rw [htk] at hx ⊢
      obtain ⟨x, hxe⟩ : ∃ x, x = cd 3 (kids.map MG.plain) := ⟨_, rfl⟩
      rw [← hxe] at hx ⊢
      have HX := Lib.hid hxe
      have HSA := Lib.hid (HA.out.up HBL2.out)
      obtain ⟨wC, hwC⟩ : ∃ wC, wC = wr := ⟨_, rfl⟩
      subst hwC
      have hltI : (i : Int) ≤ (i : Int) := Int.le_refl _
      clear hne htk hxe
      go_wp2_with (at_builtin; refine wpList_append_sl _ rfl _ (.tmp 22) 100 rfl wC.heap.size 47 i0 _ 2 24 Tryz.underlying100 hi hz0 hz1 hz2 rfl (by decide) (.slice none 0 0) 0 [] rfl (World.ownsRow_nil _ _ _ _)
                     _ (some ⟨b, off, none⟩) i c (kids.flatMap MG.enc) rfl (by rw [HN.out]; exact HSA.out) HONE.out (by unfold maxLen; omega) (by omega) (Nat.le_refl _) ?_; intro A5 c5 w5 ho5 hg5 _
                   have HO5 := Lib.hid ho5
                   have HB5 := Lib.hid ((Below.refl wC.heap.size wC).grown hg5 (Nat.le_refl _) (fun q hq => by cases hq))
                   clear ho5 hg5)
      have ho5 := HO5.out
      rw [Nat.zero_add, List.nil_append] at ho5
      obtain ⟨g5, rfl, hbg, hrow5⟩ := own_row2 ho5 hpos (by rw [flatE_len HESZ.out, ← HN.out])
      have HROW := Lib.hid hrow5
      have hlt5 := hrow5.lt
      have hsw := HBL2.out.size
      have hsb := HB5.out.size
      have hw1 := HD.out.lt
      clear ho5 hrow5
      go_wp2_with fail
      go_loopg [26] i (fun q ci wr => ∃ (j : Nat) (L : List MG), j + q = i ∧ ci = .int .i64 (j : Nat) ∧ L.length = j ∧ L.map MG.plain = (kids.take j).map (fun g => g.plain.frc x) ∧ (∀ g ∈ L, g.kind = 7 ∧ g.In (fun a => Old S w a ∨ w5.heap.size ≤ a) wr) ∧ Row wr g5 47 (L.flatMap MG.enc ++ (kids.drop j).flatMap MG.enc) ∧ Below wC.heap.size wC wr ∧ w5.heap.size ≤ wr.heap.size)
      case atStart => exact ⟨0, [], by omega, by go_num, rfl, rfl, (fun g hg => by cases hg), HROW.out, HB5.out, Nat.le_refl _⟩
      case round =>
        obtain ⟨j, L, hj', rfl, hll, hlp, hlin, hrow, hbl, hw5⟩ := hrel
        have HJL := Lib.hid hj'
        have HLL := Lib.hid hll
        have HLP := Lib.hid hlp
        have HLIN := Lib.hid hlin
        have HRW0 := Lib.hid hrow
        have HBL3 := Lib.hid hbl
        have hjn : j ≤ i := by omega
        have hlw := hrow.lt
        clear hj' hll hlp hlin hrow hbl
        by_cases hlt : j < i
        · have hik : j < kids.length := by rw [← HN.out]; exact hlt
          obtain ⟨g, hg⟩ : ∃ g, kids[j]? = some g := ⟨kids[j], List.getElem?_eq_getElem hik⟩
          have HG := Lib.hid hg
          have hmem := List.mem_of_getElem? hg
          obtain ⟨hkk, hgin⟩ := HKID.out g hmem
          obtain ⟨u, v, huv⟩ := MG.enc_two hgin (by rw [hkk]; decide)
          have hdr : (kids.drop j).flatMap MG.enc = [u, v] ++ (kids.drop (j + 1)).flatMap MG.enc := by
            obtain ⟨h, e⟩ := List.getElem?_eq_some_iff.1 hg
            rw [List.drop_eq_getElem_cons h, e, List.flatMap_cons, huv]
          have HROWD := HRW0.out
          rw [hdr] at HROWD
          have hdl : (L.flatMap MG.enc).length = j * 2 := by
            rw [flatE_len (s := 2) (fun g hg => ?_), HLL.out]
            obtain ⟨e1, e2⟩ := HLIN.out g hg
            obtain ⟨u', v', e3⟩ := MG.enc_two e2 (by rw [e1]; decide)
            rw [e3]; rfl
          have d0 := HROWD.some_at hdl 0 (by simp)
          have d1 := HROWD.some_at hdl 1 (by simp)
          simp only [List.getElem_cons_zero, List.getElem_cons_succ, Nat.add_zero] at d0 d1
          have HRD := Lib.hid HROWD
          have HDL := Lib.hid hdl
          have HFG := Lib.hid (show Calls Tryz.prog 158 #[.agg #[u, v], .int .u8 x] wr (ForcePost (Old S w) wr x g) from by
            have := geoForceK hkk x hx (Old S w) wr (MG.up (HBL.out.trans ((HBL2.out.trans (HBL3.out.mono HBL2.out.size)).mono HBL.out.size)) hgin)
            rw [huv] at this
            exact this)
          have HKK := Lib.hid hkk
          have hltI : (j : Int) < (i : Int) := by omega
          clear hg hmem hkk hgin huv hdr HROWD hdl hik
          go_wp2_with fail
          refine HFG.out.mono ?_
          rintro e w3 ⟨g2, rfl, h2, hk2, hp2, hb3⟩
          have hkk := HKK.out
          obtain ⟨a2, m2, rfl⟩ := MG.is_bx (hk2.trans hkk) h2
          rw [show (MG.bx a2 m2).enc.toArray = #[.int .i64 m2.kind, .iface (pT m2.kind) (.pointer (some ⟨a2, 0, none⟩))] from rfl]
          have HK2 := Lib.hid (hk2.trans hkk)
          have HP2 := Lib.hid hp2
          have H2 := Lib.hid h2
          have HB3 := Lib.hid hb3
          have HROW3 := Lib.hid (HRD.out.below hb3)
          have HBL4 := Lib.hid (HBL3.out.trans (hb3.mono HBL3.out.size))
          have f0 := HROW3.out.frozen_at HDL.out 0 (by simp)
          have g0 := HROW3.out.some_at HDL.out 0 (by simp)
          have f1 := HROW3.out.frozen_at HDL.out 1 (by simp)
          have g1 := HROW3.out.some_at HDL.out 1 (by simp)
          simp only [List.getElem_cons_zero, List.getElem_cons_succ, Nat.add_zero] at f0 g0 f1 g1
          have hl3 := hb3.size
          have hlr := HROW3.out.lt
          clear hb3 h2 hp2 hk2 hkk d0 d1
          go_wp2_with fail
          go_roundg (i - (j + 1))
          case measure => have := HJL.out; omega
          case rel =>
            have hszA := HBL.out.size
            have hnT : ¬ (fun a => Old S w a ∨ w5.heap.size ≤ a) g5 := fun h => by
              rcases h with h | h
              · have := h.2; omega
              · omega
            have hkeep : ∀ (T : Nat → Prop) (hT : ¬ T g5), Keeps T w3 ((w3.setCell ⟨g5, j * 2, none⟩ (.int .i64 m2.kind)).setCell ⟨g5, j * 2 + 1, none⟩ (.iface (pT m2.kind) (.pointer (some ⟨a2, 0, none⟩)))) := fun T hT => (Keeps.set (p := ⟨g5, j * 2, none⟩) hT _).trans (.set (p := ⟨g5, j * 2 + 1, none⟩) hT _)
            refine ⟨j + 1, L ++ [MG.bx a2 m2], by omega, by go_num, by rw [List.length_append, HLL.out]; rfl, ?_, ?_, ?_, (HBL4.out.setCell hbg _).setCell hbg _, by simp; omega⟩
            · rw [List.take_add_one, HG.out, List.map_append, List.map_append, HLP.out]
              simp [HP2.out]
            · intro g hg
              rcases List.mem_append.1 hg with hg | hg
              · obtain ⟨e1, e2⟩ := HLIN.out g hg
                exact ⟨e1, MG.keep (hkeep _ hnT) (MG.up HB3.out e2)⟩
              · have := List.mem_singleton.1 hg
                subst this
                exact ⟨HK2.out, MG.keep (hkeep _ hnT) (MG.less (fun a ha => ha.imp id (fun h => Nat.le_trans hw5 h)) H2.out)⟩
            · rw [List.flatMap_append]
              have := HROW3.out.put2 HDL.out (.int .i64 m2.kind) (.iface (pT m2.kind) (.pointer (some ⟨a2, 0, none⟩)))
              simpa [MG.enc] using this
        · obtain rfl : j = i := by omega
          have hrow := HRW0.out
          rw [List.drop_of_length_le (by rw [← HN.out]; exact Nat.le_refl _), List.flatMap_nil, List.append_nil] at hrow
          have HRW := Lib.hid hrow
          obtain ⟨z0, z1, y0, y1, zl⟩ := cells2 ((HD.out.below HBL2.out HD.out.lt).below HBL3.out (Nat.lt_of_lt_of_le HD.out.lt HBL2.out.size))
          clear hrow
          go_wp2_with fail
          have hlen : (L.flatMap MG.enc).length = j * 2 := by
            rw [flatE_len (s := 2) (fun g hg => ?_), HLL.out]
            obtain ⟨e1, e2⟩ := HLIN.out g hg
            obtain ⟨u', v', e3⟩ := MG.enc_two e2 (by rw [e1]; decide)
            rw [e3]; rfl
          have hszA := HBL.out.size
          have hsT : ∀ a, (fun a => Old S w a ∨ w5.heap.size ≤ a) a → Fresh S w a := fun a ha => by
            rcases ha with ha | ha
            · exact .inl ha.1
            · exact .inr (by omega)
          have hnT : ¬ (fun a => Old S w a ∨ w5.heap.size ≤ a) w.heap.size := fun h => by
            rcases h with h | h
            · have := h.2; omega
            · omega
          have hne : g5 ≠ w.heap.size := by omega
          have hkeep : ∀ (T : Nat → Prop) (hT : ¬ T w.heap.size) u v, Keeps T wr ((wr.setCell ⟨w.heap.size, 0, none⟩ u).setCell ⟨w.heap.size, 1, none⟩ v) := fun T hT u v => (Keeps.set (p := ⟨w.heap.size, 0, none⟩) hT _).trans (.set (p := ⟨w.heap.size, 1, none⟩) hT _)
          have hbw := (HBL.out.trans ((HBL2.out.trans (HBL3.out.mono HBL2.out.size)).mono HBL.out.size))
          refine bodyPost_ret (v := .agg #[.slice (some ⟨g5, 0, none⟩) j c5, .int .u8 x]) (by simp [results, Tryz.results127, go_sem, z0, z1, zl]) rfl ⟨.mu 0 x (some ⟨g5, 0, none⟩) c5 L, by rw [MG.enc, HLL.out], ?_, rfl, ?_, (hbw.setCell (Nat.le_refl _) _).setCell (Nat.le_refl _) _⟩
          · rw [MG.In]
            refine ⟨hx, by decide, by rw [HLL.out]; unfold kbig; omega, ⟨?_, fun _ a ha => by have := Option.some.inj ha; subst this; exact .inr (show w.heap.size ≤ g5 by omega)⟩, MG.inL_iff.2 fun g hg => ?_⟩
            · exact ((HRW.out.far (p := ⟨w.heap.size, 0, none⟩) hne _).far (p := ⟨w.heap.size, 1, none⟩) hne _).sl (by rw [hlen, HLL.out]; rfl) (by rw [HLL.out]; unfold maxLen; omega)
            · obtain ⟨e1, e2⟩ := HLIN.out g hg
              exact ⟨e1, MG.less hsT (MG.keep (hkeep _ hnT _ _) e2)⟩
          · rw [MG.plain_mu, HLP.out, List.take_of_length_le (by rw [← HN.out]; exact Nat.le_refl _)]
            unfold joinG
            rw [if_neg (fun h => by rw [List.map_eq_nil_iff] at h; have := HN.out; rw [h] at this; simp at this; omega), ← HX.out, List.map_map]
            rfl

end Go.Proofs.YtbacakdpfiiblaaGreat.geo
