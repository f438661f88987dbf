/-
  Contracts: what forces the parts of a polygon, a multi, a collection to a type.
-/
import Derived.Test.YtbacakdpfiiblaaGreatGeoF
namespace Go.Proofs.YtbacakdpfiiblaaGreat.geo
open Go.ChangeShapes Go.WideShapes Go.ChangeAt Go.RowKit
open Go.Proofs.YtbacakdpfiiblaaGreat.mem
set_option linter.unusedVariables false
set_option linter.unusedSimpArgs false

theorem infoG3 : (Tryz.prog.info? 83).map (fun i => (i.zero, i.size, i.bytes)) = some (some (.agg #[.int .u8 0, .slice none 0 0]), 2, 32) := by kernel_rfl
set_option maxHeartbeats 8000000 in
set_option maxRecDepth 100000 in
theorem force3 {d : Nat} {A : Option Addr} {c : Nat} {kids : List MG} (hF : ∀ g ∈ kids, g.kind = pk 3 → ForceC 132 g) : ForceC 118 (.mu 3 d A c kids) := fun d' hd' S w h0 => by
  have h := MG.old h0
  rw [MG.In] at h
  obtain ⟨hd4, -, hkb, hA, hkid⟩ := h
  have hesz : ∀ g ∈ kids, g.enc.length = 2 := MG.enc_esz hkid (by decide)
  obtain ⟨i0, hi, hz0, hz1, hz2⟩ := info_parts infoG3
  unfold kbig at hkb
  obtain ⟨wA, hwA⟩ : ∃ wA, wA = (w.alloc (.cells #[.slice A kids.length c, .int .u8 d] 87)).alloc (.cells #[.slice none 0 0, .int .u8 0] 87) := ⟨_, rfl⟩
  have hbl : Below w.heap.size w wA := by rw [hwA]; exact ((Below.refl _ _).alloc (Nat.le_refl _) _).alloc (by simp) _
  have hB : Blk wA w.heap.size 87 #[.slice A kids.length c, .int .u8 d] := by rw [hwA]; exact (Blk.new _ _ _).alloc _
  have hD : Blk wA (w.heap.size + 1) 87 #[.slice none 0 0, .int .u8 0] := by
    rw [hwA]
    have := Blk.new (w.alloc (.cells #[.slice A kids.length c, .int .u8 d] 87)) 87 #[.slice none 0 0, .int .u8 0]
    simpa using this
  have hsz : wA.heap.size = w.heap.size + 2 := by rw [hwA]; simp
  have hP : ∃ n, n = kids.length := ⟨_, rfl⟩
  obtain ⟨n, hn⟩ := hP
  have HA := Lib.hid (hA.1.up hbl)
  have HKID := Lib.hid (fun g hg => MG.inL_iff.1 hkid g hg)
  have HF := Lib.hid hF
  have HESZ := Lib.hid hesz
  have HB := Lib.hid hB
  have HD := Lib.hid hD
  have HBL := Lib.hid hbl
  have HWA := Lib.hid hwA
  have HSZ := Lib.hid hsz
  have HN := Lib.hid hn
  have hb48 : i0.bytes * n ≤ 281474976710656 := by rw [hz2, hn]; omega
  obtain ⟨c0, c1, -, -, cl⟩ := cells2 hB
  rw [← hn] at hkb c0
  show Calls Tryz.prog 118 #[.agg #[.slice A kids.length c, .int .u8 d], .int .u8 d'] w _
  rw [← hn]
  rw [← hn] at HWA
  clear hF hA h0 hkid hesz hbl hB hD hwA hsz hn
  go_enter Tryz.func118, Tryz.ntmps118
  go_wp2_with (at_make; rw [← HWA.out]; refine wpList_make_full _ rfl (.tmp 9) (.tmp 9) 85 rfl wA.heap.size 83 i0 _ 2 Tryz.underlying85 hi hz0 hz1 .i64 .i64 _ _ n rfl rfl rfl rfl hb48 (by unfold maxLen; omega) (Nat.le_refl _) ?_; intro w2 hown hgrow
               obtain ⟨hrow2, hxl⟩ := make_row hown
               have HROW := Lib.hid hrow2
               have HXL := Lib.hid hxl
               have hb2 := (Below.refl wA.heap.size wA).grown hgrow (Nat.le_refl _) (fun q hq => by cases hq)
               have HB2 := Lib.hid hb2
               have c0 := (hb2.cell (p := ⟨w.heap.size, 0, none⟩) cl).trans c0
               clear hown hgrow hrow2 hxl hb2)
  have hLT : w.heap.size + 1 < wA.heap.size := HD.out.lt

  go_loopg [14] n (fun q ci wr => ∃ (i : Nat) (L : List MG) (R : List Value), i + q = n ∧ ci = .int .i64 (i : Nat) ∧ L.length = i ∧ L.map MG.plain = (kids.take i).map (fun g => g.plain.frc d') ∧ (∀ g ∈ L, g.kind = pk 3 ∧ g.In (fun a => Old S w a ∨ wA.heap.size < a) wr) ∧ Row wr wA.heap.size 83 (L.flatMap MG.enc ++ R) ∧ R.length = (n - i) * 2 ∧ Below wA.heap.size wA wr)
  case atStart => exact ⟨0, [], _, by omega, by go_num, rfl, rfl, (fun g hg => by cases hg), HROW.out, by rw [HXL.out]; omega, HB2.out⟩
  case round =>
    obtain ⟨i, L, R, hi', rfl, hll, hlp, hlin, hrow, hrl, hbl⟩ := hrel
    have HIL := Lib.hid hi'
    have HLL := Lib.hid hll
    have HLP := Lib.hid hlp
    have HLIN := Lib.hid hlin
    have HRW0 := Lib.hid hrow
    have HRL := Lib.hid hrl
    have HBL2 := Lib.hid hbl
    have hin : i ≤ n := by omega
    have hlw := hrow.lt
    have sr := hbl.size
    have c0 := (hbl.cell (p := ⟨w.heap.size, 0, none⟩) cl).trans (HB.out.cell 0)
    simp only [List.getElem?_toArray, List.getElem?_cons_zero] at c0
    rw [← HN.out] at c0
    clear hi' hll hlp hlin hrow hrl hbl
    by_cases hlt : i < n
    · have hik : i < kids.length := by rw [← HN.out]; exact hlt
      obtain ⟨g, hg⟩ : ∃ g, kids[i]? = some g := ⟨kids[i], List.getElem?_eq_getElem hik⟩
      have HG := Lib.hid hg
      have hmem := List.mem_of_getElem? hg
      obtain ⟨hkk, hgin⟩ := HKID.out g hmem
      obtain ⟨b, off, hAe, hbl, hcell⟩ := sl_part HA.out HESZ.out (by omega)
      subst hAe
      have hgen : ∃ u v, g.enc = [u, v] := MG.enc_two hgin (by rw [hkk]; decide)
      obtain ⟨u, v, huv⟩ := hgen
      have d0 := (HBL2.out.cell (p := ⟨b, off + (i * 2 + 0), none⟩) hbl).trans (hcell i g hg 0 u (by rw [huv]; rfl))
      have d1 := (HBL2.out.cell (p := ⟨b, off + (i * 2 + 1), none⟩) hbl).trans (hcell i g hg 1 v (by rw [huv]; rfl))
      rw [Nat.add_zero] at d0
      rw [← Nat.add_assoc] at d1
      have HFG := Lib.hid (show ∀ S' w', g.In S' w' → Calls Tryz.prog 132 #[.agg #[u, v], .int .u8 d'] w' (ForcePost S' w' d' g) from fun S' w' hi => by
        have := HF.out g hmem hkk d' hd' S' w' hi
        rw [huv] at this
        exact this)
      have HGIN := Lib.hid (MG.up HBL2.out (MG.up HBL.out hgin))
      have HKK := Lib.hid hkk
      obtain ⟨r0, r1, R2, rfl, hr2⟩ := cut2 (n := (n - (i + 1)) * 2) (show R.length = _ by rw [HRL.out]; omega)
      have HR2 := Lib.hid hr2
      have hdl : (L.flatMap MG.enc).length = i * 2 := by
        rw [flatE_len (s := 2) (fun g hg => ?_), HLL.out]
        obtain ⟨e1, e2⟩ := HLIN.out g hg
        obtain ⟨u', v', e3⟩ := MG.enc_two e2 (by rw [e1]; decide)
        rw [e3]; rfl
      have HDL := Lib.hid hdl
      have hltI : (i : Int) < (n : Int) := by omega
      clear hg hmem hkk hgin hcell huv hr2 hdl hik
      go_wp2_with fail
      refine (HFG.out _ _ HGIN.out).mono ?_
      rintro e w3 ⟨g2, rfl, h2, hk2, hp2, hb3⟩
      have hkk := HKK.out
      obtain ⟨d2, A2, c2, ns2, rfl⟩ := MG.is_ln (hk2.trans hkk) h2
      rw [show (MG.ln d2 A2 c2 ns2).enc.toArray = #[.int .u8 d2, .slice A2 ns2.length c2] from rfl]
      have HK2 := Lib.hid (hk2.trans hkk)
      have HP2 := Lib.hid hp2
      have H2 := Lib.hid h2
      have HB3 := Lib.hid hb3
      have HROW3 := Lib.hid (HRW0.out.below hb3)
      have HBL3 := Lib.hid (HBL2.out.trans (hb3.mono HBL2.out.size))
      have f0 := HROW3.out.frozen_at HDL.out 0 (by simp)
      have g0 := HROW3.out.some_at HDL.out 0 (by simp)
      have f1 := HROW3.out.frozen_at HDL.out 1 (by simp)
      have g1 := HROW3.out.some_at HDL.out 1 (by simp)
      simp only [List.getElem_cons_zero, List.getElem_cons_succ, Nat.add_zero] at f0 g0 f1 g1
      have hl3 := hb3.size
      have hlr := HROW3.out.lt
      clear hb3 h2 hp2 hk2 hkk c0 d0 d1
      go_wp2_with fail
      go_roundg (n - (i + 1))
      case measure => have := HIL.out; omega
      case rel =>
        have hnT : ¬ (fun a => Old S w a ∨ wA.heap.size < a) wA.heap.size := fun h => by
          rcases h with h | h
          · have := h.2; omega
          · omega
        have hkeep : ∀ (T : Nat → Prop) (hT : ¬ T wA.heap.size), Keeps T w3 ((w3.setCell ⟨wA.heap.size, i * 2, none⟩ (.int .u8 d2)).setCell ⟨wA.heap.size, i * 2 + 1, none⟩ (.slice A2 ns2.length c2)) := fun T hT => (Keeps.set (p := ⟨wA.heap.size, i * 2, none⟩) hT _).trans (.set (p := ⟨wA.heap.size, i * 2 + 1, none⟩) hT _)
        refine ⟨i + 1, L ++ [MG.ln d2 A2 c2 ns2], R2, by omega, by go_num, by rw [List.length_append, HLL.out]; rfl, ?_, ?_, ?_, HR2.out, (HBL3.out.setCell (Nat.le_refl _) _).setCell (Nat.le_refl _) _⟩
        · rw [List.take_add_one, HG.out, List.map_append, List.map_append, HLP.out]
          simp [HP2.out]
        · intro g hg
          rcases List.mem_append.1 hg with hg | hg
          · obtain ⟨e1, e2⟩ := HLIN.out g hg
            exact ⟨e1, MG.keep (hkeep _ hnT) (MG.up HB3.out e2)⟩
          · have := List.mem_singleton.1 hg
            subst this
            exact ⟨HK2.out, MG.keep (hkeep _ hnT) (MG.less (fun a ha => ha.imp id (fun h => Nat.lt_of_lt_of_le hlw h)) H2.out)⟩
        · rw [List.flatMap_append]
          have := HROW3.out.put2 HDL.out (.int .u8 d2) (.slice A2 ns2.length c2)
          simpa [MG.enc] using this
    · obtain rfl : i = n := by omega
      have hR0 : R = [] := List.eq_nil_of_length_eq_zero (by rw [HRL.out]; omega)
      have hrow := HRW0.out
      rw [hR0, List.append_nil] at hrow
      have HRW := Lib.hid hrow
      obtain ⟨z0, z1, y0, y1, zl⟩ := cells2 (HD.out.below HBL2.out HD.out.lt)
      clear hR0 hrow
      go_wp2_with fail
      have hlen : (L.flatMap MG.enc).length = i * 2 := by
        rw [flatE_len (s := 2) (fun g hg => ?_), HLL.out]
        obtain ⟨e1, e2⟩ := HLIN.out g hg
        obtain ⟨u', v', e3⟩ := MG.enc_two e2 (by rw [e1]; decide)
        rw [e3]; rfl
      have hsT : ∀ a, (fun a => Old S w a ∨ wA.heap.size < a) a → Fresh S w a := fun a ha => by
        rcases ha with ha | ha
        · exact .inl ha.1
        · have := HSZ.out
          exact .inr (by omega)
      have hnT : ¬ (fun a => Old S w a ∨ wA.heap.size < a) (w.heap.size + 1) := fun h => by
        rcases h with h | h
        · have := h.2; omega
        · omega
      have hne : wA.heap.size ≠ w.heap.size + 1 := by omega
      have hkeep : ∀ (T : Nat → Prop) (hT : ¬ T (w.heap.size + 1)) u v, Keeps T wr ((wr.setCell ⟨w.heap.size + 1, 0, none⟩ u).setCell ⟨w.heap.size + 1, 1, none⟩ v) := fun T hT u v => (Keeps.set (p := ⟨w.heap.size + 1, 0, none⟩) hT _).trans (.set (p := ⟨w.heap.size + 1, 1, none⟩) hT _)
      refine bodyPost_ret (v := .agg #[.slice (some ⟨wA.heap.size, 0, none⟩) i i, .int .u8 d']) (by simp [results, Tryz.results118, go_sem, z0, z1, zl]) rfl ⟨.mu 3 d' (some ⟨wA.heap.size, 0, none⟩) i L, by rw [MG.enc, HLL.out], ?_, rfl, ?_, ((HBL.out.trans (HBL2.out.mono HBL.out.size)).setCell (by simp) _).setCell (by simp) _⟩
      · rw [MG.In]
        refine ⟨hd', by decide, by rw [HLL.out]; unfold kbig; omega, ⟨?_, fun _ a ha => by have := Option.some.inj ha; subst this; exact .inr HBL.out.size⟩, MG.inL_iff.2 fun g hg => ?_⟩
        · exact ((HRW.out.far (p := ⟨w.heap.size + 1, 0, none⟩) hne _).far (p := ⟨w.heap.size + 1, 1, none⟩) hne _).sl (by rw [hlen, HLL.out]; rfl) (by rw [HLL.out]; unfold maxLen; omega)
        · obtain ⟨e1, e2⟩ := HLIN.out g hg
          exact ⟨e1, MG.less hsT (MG.keep (hkeep _ hnT _ _) e2)⟩
      · rw [MG.plain_mu, MG.plain_mu, frc_eq, frcN_nil, HLP.out, List.take_of_length_le (by rw [HN.out]; exact Nat.le_refl _), List.map_map]
        rfl

theorem infoG5 : (Tryz.prog.info? 83).map (fun i => (i.zero, i.size, i.bytes)) = some (some (.agg #[.int .u8 0, .slice none 0 0]), 2, 32) := by kernel_rfl
set_option maxHeartbeats 8000000 in
set_option maxRecDepth 100000 in
theorem force5 {d : Nat} {A : Option Addr} {c : Nat} {kids : List MG} (hF : ∀ g ∈ kids, g.kind = pk 5 → ForceC 132 g) : ForceC 122 (.mu 5 d A c kids) := fun d' hd' S w h0 => by
  have h := MG.old h0
  rw [MG.In] at h
  obtain ⟨hd4, -, hkb, hA, hkid⟩ := h
  have hesz : ∀ g ∈ kids, g.enc.length = 2 := MG.enc_esz hkid (by decide)
  obtain ⟨i0, hi, hz0, hz1, hz2⟩ := info_parts infoG5
  unfold kbig at hkb
  obtain ⟨wA, hwA⟩ : ∃ wA, wA = (w.alloc (.cells #[.slice A kids.length c, .int .u8 d] 94)).alloc (.cells #[.slice none 0 0, .int .u8 0] 94) := ⟨_, rfl⟩
  have hbl : Below w.heap.size w wA := by rw [hwA]; exact ((Below.refl _ _).alloc (Nat.le_refl _) _).alloc (by simp) _
  have hB : Blk wA w.heap.size 94 #[.slice A kids.length c, .int .u8 d] := by rw [hwA]; exact (Blk.new _ _ _).alloc _
  have hD : Blk wA (w.heap.size + 1) 94 #[.slice none 0 0, .int .u8 0] := by
    rw [hwA]
    have := Blk.new (w.alloc (.cells #[.slice A kids.length c, .int .u8 d] 94)) 94 #[.slice none 0 0, .int .u8 0]
    simpa using this
  have hsz : wA.heap.size = w.heap.size + 2 := by rw [hwA]; simp
  have hP : ∃ n, n = kids.length := ⟨_, rfl⟩
  obtain ⟨n, hn⟩ := hP
  have HA := Lib.hid (hA.1.up hbl)
  have HKID := Lib.hid (fun g hg => MG.inL_iff.1 hkid g hg)
  have HF := Lib.hid hF
  have HESZ := Lib.hid hesz
  have HB := Lib.hid hB
  have HD := Lib.hid hD
  have HBL := Lib.hid hbl
  have HWA := Lib.hid hwA
  have HSZ := Lib.hid hsz
  have HN := Lib.hid hn
  have hb48 : i0.bytes * n ≤ 281474976710656 := by rw [hz2, hn]; omega
  obtain ⟨c0, c1, -, -, cl⟩ := cells2 hB
  rw [← hn] at hkb c0
  show Calls Tryz.prog 122 #[.agg #[.slice A kids.length c, .int .u8 d], .int .u8 d'] w _
  rw [← hn]
  rw [← hn] at HWA
  clear hF hA h0 hkid hesz hbl hB hD hwA hsz hn
  go_enter Tryz.func122, Tryz.ntmps122
  go_wp2_with (at_make; rw [← HWA.out]; refine wpList_make_full _ rfl (.tmp 9) (.tmp 9) 85 rfl wA.heap.size 83 i0 _ 2 Tryz.underlying85 hi hz0 hz1 .i64 .i64 _ _ n rfl rfl rfl rfl hb48 (by unfold maxLen; omega) (Nat.le_refl _) ?_; intro w2 hown hgrow
               obtain ⟨hrow2, hxl⟩ := make_row hown
               have HROW := Lib.hid hrow2
               have HXL := Lib.hid hxl
               have hb2 := (Below.refl wA.heap.size wA).grown hgrow (Nat.le_refl _) (fun q hq => by cases hq)
               have HB2 := Lib.hid hb2
               have c0 := (hb2.cell (p := ⟨w.heap.size, 0, none⟩) cl).trans c0
               clear hown hgrow hrow2 hxl hb2)
  have hLT : w.heap.size + 1 < wA.heap.size := HD.out.lt

  go_loopg [14] n (fun q ci wr => ∃ (i : Nat) (L : List MG) (R : List Value), i + q = n ∧ ci = .int .i64 (i : Nat) ∧ L.length = i ∧ L.map MG.plain = (kids.take i).map (fun g => g.plain.frc d') ∧ (∀ g ∈ L, g.kind = pk 5 ∧ g.In (fun a => Old S w a ∨ wA.heap.size < a) wr) ∧ Row wr wA.heap.size 83 (L.flatMap MG.enc ++ R) ∧ R.length = (n - i) * 2 ∧ Below wA.heap.size wA wr)
  case atStart => exact ⟨0, [], _, by omega, by go_num, rfl, rfl, (fun g hg => by cases hg), HROW.out, by rw [HXL.out]; omega, HB2.out⟩
  case round =>
    obtain ⟨i, L, R, hi', rfl, hll, hlp, hlin, hrow, hrl, hbl⟩ := hrel
    have HIL := Lib.hid hi'
    have HLL := Lib.hid hll
    have HLP := Lib.hid hlp
    have HLIN := Lib.hid hlin
    have HRW0 := Lib.hid hrow
    have HRL := Lib.hid hrl
    have HBL2 := Lib.hid hbl
    have hin : i ≤ n := by omega
    have hlw := hrow.lt
    have sr := hbl.size
    have c0 := (hbl.cell (p := ⟨w.heap.size, 0, none⟩) cl).trans (HB.out.cell 0)
    simp only [List.getElem?_toArray, List.getElem?_cons_zero] at c0
    rw [← HN.out] at c0
    clear hi' hll hlp hlin hrow hrl hbl
    by_cases hlt : i < n
    · have hik : i < kids.length := by rw [← HN.out]; exact hlt
      obtain ⟨g, hg⟩ : ∃ g, kids[i]? = some g := ⟨kids[i], List.getElem?_eq_getElem hik⟩
      have HG := Lib.hid hg
      have hmem := List.mem_of_getElem? hg
      obtain ⟨hkk, hgin⟩ := HKID.out g hmem
      obtain ⟨b, off, hAe, hbl, hcell⟩ := sl_part HA.out HESZ.out (by omega)
      subst hAe
      have hgen : ∃ u v, g.enc = [u, v] := MG.enc_two hgin (by rw [hkk]; decide)
      obtain ⟨u, v, huv⟩ := hgen
      have d0 := (HBL2.out.cell (p := ⟨b, off + (i * 2 + 0), none⟩) hbl).trans (hcell i g hg 0 u (by rw [huv]; rfl))
      have d1 := (HBL2.out.cell (p := ⟨b, off + (i * 2 + 1), none⟩) hbl).trans (hcell i g hg 1 v (by rw [huv]; rfl))
      rw [Nat.add_zero] at d0
      rw [← Nat.add_assoc] at d1
      have HFG := Lib.hid (show ∀ S' w', g.In S' w' → Calls Tryz.prog 132 #[.agg #[u, v], .int .u8 d'] w' (ForcePost S' w' d' g) from fun S' w' hi => by
        have := HF.out g hmem hkk d' hd' S' w' hi
        rw [huv] at this
        exact this)
      have HGIN := Lib.hid (MG.up HBL2.out (MG.up HBL.out hgin))
      have HKK := Lib.hid hkk
      obtain ⟨r0, r1, R2, rfl, hr2⟩ := cut2 (n := (n - (i + 1)) * 2) (show R.length = _ by rw [HRL.out]; omega)
      have HR2 := Lib.hid hr2
      have hdl : (L.flatMap MG.enc).length = i * 2 := by
        rw [flatE_len (s := 2) (fun g hg => ?_), HLL.out]
        obtain ⟨e1, e2⟩ := HLIN.out g hg
        obtain ⟨u', v', e3⟩ := MG.enc_two e2 (by rw [e1]; decide)
        rw [e3]; rfl
      have HDL := Lib.hid hdl
      have hltI : (i : Int) < (n : Int) := by omega
      clear hg hmem hkk hgin hcell huv hr2 hdl hik
      go_wp2_with fail
      refine (HFG.out _ _ HGIN.out).mono ?_
      rintro e w3 ⟨g2, rfl, h2, hk2, hp2, hb3⟩
      have hkk := HKK.out
      obtain ⟨d2, A2, c2, ns2, rfl⟩ := MG.is_ln (hk2.trans hkk) h2
      rw [show (MG.ln d2 A2 c2 ns2).enc.toArray = #[.int .u8 d2, .slice A2 ns2.length c2] from rfl]
      have HK2 := Lib.hid (hk2.trans hkk)
      have HP2 := Lib.hid hp2
      have H2 := Lib.hid h2
      have HB3 := Lib.hid hb3
      have HROW3 := Lib.hid (HRW0.out.below hb3)
      have HBL3 := Lib.hid (HBL2.out.trans (hb3.mono HBL2.out.size))
      have f0 := HROW3.out.frozen_at HDL.out 0 (by simp)
      have g0 := HROW3.out.some_at HDL.out 0 (by simp)
      have f1 := HROW3.out.frozen_at HDL.out 1 (by simp)
      have g1 := HROW3.out.some_at HDL.out 1 (by simp)
      simp only [List.getElem_cons_zero, List.getElem_cons_succ, Nat.add_zero] at f0 g0 f1 g1
      have hl3 := hb3.size
      have hlr := HROW3.out.lt
      clear hb3 h2 hp2 hk2 hkk c0 d0 d1
      go_wp2_with fail
      go_roundg (n - (i + 1))
      case measure => have := HIL.out; omega
      case rel =>
        have hnT : ¬ (fun a => Old S w a ∨ wA.heap.size < a) wA.heap.size := fun h => by
          rcases h with h | h
          · have := h.2; omega
          · omega
        have hkeep : ∀ (T : Nat → Prop) (hT : ¬ T wA.heap.size), Keeps T w3 ((w3.setCell ⟨wA.heap.size, i * 2, none⟩ (.int .u8 d2)).setCell ⟨wA.heap.size, i * 2 + 1, none⟩ (.slice A2 ns2.length c2)) := fun T hT => (Keeps.set (p := ⟨wA.heap.size, i * 2, none⟩) hT _).trans (.set (p := ⟨wA.heap.size, i * 2 + 1, none⟩) hT _)
        refine ⟨i + 1, L ++ [MG.ln d2 A2 c2 ns2], R2, by omega, by go_num, by rw [List.length_append, HLL.out]; rfl, ?_, ?_, ?_, HR2.out, (HBL3.out.setCell (Nat.le_refl _) _).setCell (Nat.le_refl _) _⟩
        · rw [List.take_add_one, HG.out, List.map_append, List.map_append, HLP.out]
          simp [HP2.out]
        · intro g hg
          rcases List.mem_append.1 hg with hg | hg
          · obtain ⟨e1, e2⟩ := HLIN.out g hg
            exact ⟨e1, MG.keep (hkeep _ hnT) (MG.up HB3.out e2)⟩
          · have := List.mem_singleton.1 hg
            subst this
            exact ⟨HK2.out, MG.keep (hkeep _ hnT) (MG.less (fun a ha => ha.imp id (fun h => Nat.lt_of_lt_of_le hlw h)) H2.out)⟩
        · rw [List.flatMap_append]
          have := HROW3.out.put2 HDL.out (.int .u8 d2) (.slice A2 ns2.length c2)
          simpa [MG.enc] using this
    · obtain rfl : i = n := by omega
      have hR0 : R = [] := List.eq_nil_of_length_eq_zero (by rw [HRL.out]; omega)
      have hrow := HRW0.out
      rw [hR0, List.append_nil] at hrow
      have HRW := Lib.hid hrow
      obtain ⟨z0, z1, y0, y1, zl⟩ := cells2 (HD.out.below HBL2.out HD.out.lt)
      clear hR0 hrow
      go_wp2_with fail
      have hlen : (L.flatMap MG.enc).length = i * 2 := by
        rw [flatE_len (s := 2) (fun g hg => ?_), HLL.out]
        obtain ⟨e1, e2⟩ := HLIN.out g hg
        obtain ⟨u', v', e3⟩ := MG.enc_two e2 (by rw [e1]; decide)
        rw [e3]; rfl
      have hsT : ∀ a, (fun a => Old S w a ∨ wA.heap.size < a) a → Fresh S w a := fun a ha => by
        rcases ha with ha | ha
        · exact .inl ha.1
        · have := HSZ.out
          exact .inr (by omega)
      have hnT : ¬ (fun a => Old S w a ∨ wA.heap.size < a) (w.heap.size + 1) := fun h => by
        rcases h with h | h
        · have := h.2; omega
        · omega
      have hne : wA.heap.size ≠ w.heap.size + 1 := by omega
      have hkeep : ∀ (T : Nat → Prop) (hT : ¬ T (w.heap.size + 1)) u v, Keeps T wr ((wr.setCell ⟨w.heap.size + 1, 0, none⟩ u).setCell ⟨w.heap.size + 1, 1, none⟩ v) := fun T hT u v => (Keeps.set (p := ⟨w.heap.size + 1, 0, none⟩) hT _).trans (.set (p := ⟨w.heap.size + 1, 1, none⟩) hT _)
      refine bodyPost_ret (v := .agg #[.slice (some ⟨wA.heap.size, 0, none⟩) i i, .int .u8 d']) (by simp [results, Tryz.results122, go_sem, z0, z1, zl]) rfl ⟨.mu 5 d' (some ⟨wA.heap.size, 0, none⟩) i L, by rw [MG.enc, HLL.out], ?_, rfl, ?_, ((HBL.out.trans (HBL2.out.mono HBL.out.size)).setCell (by simp) _).setCell (by simp) _⟩
      · rw [MG.In]
        refine ⟨hd', by decide, by rw [HLL.out]; unfold kbig; omega, ⟨?_, fun _ a ha => by have := Option.some.inj ha; subst this; exact .inr HBL.out.size⟩, MG.inL_iff.2 fun g hg => ?_⟩
        · exact ((HRW.out.far (p := ⟨w.heap.size + 1, 0, none⟩) hne _).far (p := ⟨w.heap.size + 1, 1, none⟩) hne _).sl (by rw [hlen, HLL.out]; rfl) (by rw [HLL.out]; unfold maxLen; omega)
        · obtain ⟨e1, e2⟩ := HLIN.out g hg
          exact ⟨e1, MG.less hsT (MG.keep (hkeep _ hnT _ _) e2)⟩
      · rw [MG.plain_mu, MG.plain_mu, frc_eq, frcN_nil, HLP.out, List.take_of_length_le (by rw [HN.out]; exact Nat.le_refl _), List.map_map]
        rfl

theorem infoG6 : (Tryz.prog.info? 87).map (fun i => (i.zero, i.size, i.bytes)) = some (some (.agg #[.slice none 0 0, .int .u8 0]), 2, 32) := by kernel_rfl
set_option maxHeartbeats 8000000 in
set_option maxRecDepth 100000 in
theorem force6 {d : Nat} {A : Option Addr} {c : Nat} {kids : List MG} (hF : ∀ g ∈ kids, g.kind = pk 6 → ForceC 118 g) : ForceC 124 (.mu 6 d A c kids) := fun d' hd' S w h0 => by
  have h := MG.old h0
  rw [MG.In] at h
  obtain ⟨hd4, -, hkb, hA, hkid⟩ := h
  have hesz : ∀ g ∈ kids, g.enc.length = 2 := MG.enc_esz hkid (by decide)
  obtain ⟨i0, hi, hz0, hz1, hz2⟩ := info_parts infoG6
  unfold kbig at hkb
  obtain ⟨wA, hwA⟩ : ∃ wA, wA = (w.alloc (.cells #[.slice A kids.length c, .int .u8 d] 98)).alloc (.cells #[.slice none 0 0, .int .u8 0] 98) := ⟨_, rfl⟩
  have hbl : Below w.heap.size w wA := by rw [hwA]; exact ((Below.refl _ _).alloc (Nat.le_refl _) _).alloc (by simp) _
  have hB : Blk wA w.heap.size 98 #[.slice A kids.length c, .int .u8 d] := by rw [hwA]; exact (Blk.new _ _ _).alloc _
  have hD : Blk wA (w.heap.size + 1) 98 #[.slice none 0 0, .int .u8 0] := by
    rw [hwA]
    have := Blk.new (w.alloc (.cells #[.slice A kids.length c, .int .u8 d] 98)) 98 #[.slice none 0 0, .int .u8 0]
    simpa using this
  have hsz : wA.heap.size = w.heap.size + 2 := by rw [hwA]; simp
  have hP : ∃ n, n = kids.length := ⟨_, rfl⟩
  obtain ⟨n, hn⟩ := hP
  have HA := Lib.hid (hA.1.up hbl)
  have HKID := Lib.hid (fun g hg => MG.inL_iff.1 hkid g hg)
  have HF := Lib.hid hF
  have HESZ := Lib.hid hesz
  have HB := Lib.hid hB
  have HD := Lib.hid hD
  have HBL := Lib.hid hbl
  have HWA := Lib.hid hwA
  have HSZ := Lib.hid hsz
  have HN := Lib.hid hn
  have hb48 : i0.bytes * n ≤ 281474976710656 := by rw [hz2, hn]; omega
  obtain ⟨c0, c1, -, -, cl⟩ := cells2 hB
  rw [← hn] at hkb c0
  show Calls Tryz.prog 124 #[.agg #[.slice A kids.length c, .int .u8 d], .int .u8 d'] w _
  rw [← hn]
  rw [← hn] at HWA
  clear hF hA h0 hkid hesz hbl hB hD hwA hsz hn
  go_enter Tryz.func124, Tryz.ntmps124
  go_wp2_with (at_make; rw [← HWA.out]; refine wpList_make_full _ rfl (.tmp 9) (.tmp 9) 96 rfl wA.heap.size 87 i0 _ 2 Tryz.underlying96 hi hz0 hz1 .i64 .i64 _ _ n rfl rfl rfl rfl hb48 (by unfold maxLen; omega) (Nat.le_refl _) ?_; intro w2 hown hgrow
               obtain ⟨hrow2, hxl⟩ := make_row hown
               have HROW := Lib.hid hrow2
               have HXL := Lib.hid hxl
               have hb2 := (Below.refl wA.heap.size wA).grown hgrow (Nat.le_refl _) (fun q hq => by cases hq)
               have HB2 := Lib.hid hb2
               have c0 := (hb2.cell (p := ⟨w.heap.size, 0, none⟩) cl).trans c0
               clear hown hgrow hrow2 hxl hb2)
  have hLT : w.heap.size + 1 < wA.heap.size := HD.out.lt

  go_loopg [14] n (fun q ci wr => ∃ (i : Nat) (L : List MG) (R : List Value), i + q = n ∧ ci = .int .i64 (i : Nat) ∧ L.length = i ∧ L.map MG.plain = (kids.take i).map (fun g => g.plain.frc d') ∧ (∀ g ∈ L, g.kind = pk 6 ∧ g.In (fun a => Old S w a ∨ wA.heap.size < a) wr) ∧ Row wr wA.heap.size 87 (L.flatMap MG.enc ++ R) ∧ R.length = (n - i) * 2 ∧ Below wA.heap.size wA wr)
  case atStart => exact ⟨0, [], _, by omega, by go_num, rfl, rfl, (fun g hg => by cases hg), HROW.out, by rw [HXL.out]; omega, HB2.out⟩
  case round =>
    obtain ⟨i, L, R, hi', rfl, hll, hlp, hlin, hrow, hrl, hbl⟩ := hrel
    have HIL := Lib.hid hi'
    have HLL := Lib.hid hll
    have HLP := Lib.hid hlp
    have HLIN := Lib.hid hlin
    have HRW0 := Lib.hid hrow
    have HRL := Lib.hid hrl
    have HBL2 := Lib.hid hbl
    have hin : i ≤ n := by omega
    have hlw := hrow.lt
    have sr := hbl.size
    have c0 := (hbl.cell (p := ⟨w.heap.size, 0, none⟩) cl).trans (HB.out.cell 0)
    simp only [List.getElem?_toArray, List.getElem?_cons_zero] at c0
    rw [← HN.out] at c0
    clear hi' hll hlp hlin hrow hrl hbl
    by_cases hlt : i < n
    · have hik : i < kids.length := by rw [← HN.out]; exact hlt
      obtain ⟨g, hg⟩ : ∃ g, kids[i]? = some g := ⟨kids[i], List.getElem?_eq_getElem hik⟩
      have HG := Lib.hid hg
      have hmem := List.mem_of_getElem? hg
      obtain ⟨hkk, hgin⟩ := HKID.out g hmem
      obtain ⟨b, off, hAe, hbl, hcell⟩ := sl_part HA.out HESZ.out (by omega)
      subst hAe
      have hgen : ∃ u v, g.enc = [u, v] := MG.enc_two hgin (by rw [hkk]; decide)
      obtain ⟨u, v, huv⟩ := hgen
      have d0 := (HBL2.out.cell (p := ⟨b, off + (i * 2 + 0), none⟩) hbl).trans (hcell i g hg 0 u (by rw [huv]; rfl))
      have d1 := (HBL2.out.cell (p := ⟨b, off + (i * 2 + 1), none⟩) hbl).trans (hcell i g hg 1 v (by rw [huv]; rfl))
      rw [Nat.add_zero] at d0
      rw [← Nat.add_assoc] at d1
      have HFG := Lib.hid (show ∀ S' w', g.In S' w' → Calls Tryz.prog 118 #[.agg #[u, v], .int .u8 d'] w' (ForcePost S' w' d' g) from fun S' w' hi => by
        have := HF.out g hmem hkk d' hd' S' w' hi
        rw [huv] at this
        exact this)
      have HGIN := Lib.hid (MG.up HBL2.out (MG.up HBL.out hgin))
      have HKK := Lib.hid hkk
      obtain ⟨r0, r1, R2, rfl, hr2⟩ := cut2 (n := (n - (i + 1)) * 2) (show R.length = _ by rw [HRL.out]; omega)
      have HR2 := Lib.hid hr2
      have hdl : (L.flatMap MG.enc).length = i * 2 := by
        rw [flatE_len (s := 2) (fun g hg => ?_), HLL.out]
        obtain ⟨e1, e2⟩ := HLIN.out g hg
        obtain ⟨u', v', e3⟩ := MG.enc_two e2 (by rw [e1]; decide)
        rw [e3]; rfl
      have HDL := Lib.hid hdl
      have hltI : (i : Int) < (n : Int) := by omega
      clear hg hmem hkk hgin hcell huv hr2 hdl hik
      go_wp2_with fail
      refine (HFG.out _ _ HGIN.out).mono ?_
      rintro e w3 ⟨g2, rfl, h2, hk2, hp2, hb3⟩
      have hkk := HKK.out
      obtain ⟨d2, A2, c2, ks2, rfl⟩ := MG.is_mu (S := S) (w := w) (k := 3) (hk2.trans hkk) (by decide) (by decide) (by decide)
      rw [show (MG.mu 3 d2 A2 c2 ks2).enc.toArray = #[.slice A2 ks2.length c2, .int .u8 d2] from rfl]
      have HK2 := Lib.hid (hk2.trans hkk)
      have HP2 := Lib.hid hp2
      have H2 := Lib.hid h2
      have HB3 := Lib.hid hb3
      have HROW3 := Lib.hid (HRW0.out.below hb3)
      have HBL3 := Lib.hid (HBL2.out.trans (hb3.mono HBL2.out.size))
      have f0 := HROW3.out.frozen_at HDL.out 0 (by simp)
      have g0 := HROW3.out.some_at HDL.out 0 (by simp)
      have f1 := HROW3.out.frozen_at HDL.out 1 (by simp)
      have g1 := HROW3.out.some_at HDL.out 1 (by simp)
      simp only [List.getElem_cons_zero, List.getElem_cons_succ, Nat.add_zero] at f0 g0 f1 g1
      have hl3 := hb3.size
      have hlr := HROW3.out.lt
      clear hb3 h2 hp2 hk2 hkk c0 d0 d1
      go_wp2_with fail
      go_roundg (n - (i + 1))
      case measure => have := HIL.out; omega
      case rel =>
        have hnT : ¬ (fun a => Old S w a ∨ wA.heap.size < a) wA.heap.size := fun h => by
          rcases h with h | h
          · have := h.2; omega
          · omega
        have hkeep : ∀ (T : Nat → Prop) (hT : ¬ T wA.heap.size), Keeps T w3 ((w3.setCell ⟨wA.heap.size, i * 2, none⟩ (.slice A2 ks2.length c2)).setCell ⟨wA.heap.size, i * 2 + 1, none⟩ (.int .u8 d2)) := fun T hT => (Keeps.set (p := ⟨wA.heap.size, i * 2, none⟩) hT _).trans (.set (p := ⟨wA.heap.size, i * 2 + 1, none⟩) hT _)
        refine ⟨i + 1, L ++ [MG.mu 3 d2 A2 c2 ks2], R2, by omega, by go_num, by rw [List.length_append, HLL.out]; rfl, ?_, ?_, ?_, HR2.out, (HBL3.out.setCell (Nat.le_refl _) _).setCell (Nat.le_refl _) _⟩
        · rw [List.take_add_one, HG.out, List.map_append, List.map_append, HLP.out]
          simp [HP2.out]
        · intro g hg
          rcases List.mem_append.1 hg with hg | hg
          · obtain ⟨e1, e2⟩ := HLIN.out g hg
            exact ⟨e1, MG.keep (hkeep _ hnT) (MG.up HB3.out e2)⟩
          · have := List.mem_singleton.1 hg
            subst this
            exact ⟨HK2.out, MG.keep (hkeep _ hnT) (MG.less (fun a ha => ha.imp id (fun h => Nat.lt_of_lt_of_le hlw h)) H2.out)⟩
        · rw [List.flatMap_append]
          have := HROW3.out.put2 HDL.out (.slice A2 ks2.length c2) (.int .u8 d2)
          simpa [MG.enc] using this
    · obtain rfl : i = n := by omega
      have hR0 : R = [] := List.eq_nil_of_length_eq_zero (by rw [HRL.out]; omega)
      have hrow := HRW0.out
      rw [hR0, List.append_nil] at hrow
      have HRW := Lib.hid hrow
      obtain ⟨z0, z1, y0, y1, zl⟩ := cells2 (HD.out.below HBL2.out HD.out.lt)
      clear hR0 hrow
      go_wp2_with fail
      have hlen : (L.flatMap MG.enc).length = i * 2 := by
        rw [flatE_len (s := 2) (fun g hg => ?_), HLL.out]
        obtain ⟨e1, e2⟩ := HLIN.out g hg
        obtain ⟨u', v', e3⟩ := MG.enc_two e2 (by rw [e1]; decide)
        rw [e3]; rfl
      have hsT : ∀ a, (fun a => Old S w a ∨ wA.heap.size < a) a → Fresh S w a := fun a ha => by
        rcases ha with ha | ha
        · exact .inl ha.1
        · have := HSZ.out
          exact .inr (by omega)
      have hnT : ¬ (fun a => Old S w a ∨ wA.heap.size < a) (w.heap.size + 1) := fun h => by
        rcases h with h | h
        · have := h.2; omega
        · omega
      have hne : wA.heap.size ≠ w.heap.size + 1 := by omega
      have hkeep : ∀ (T : Nat → Prop) (hT : ¬ T (w.heap.size + 1)) u v, Keeps T wr ((wr.setCell ⟨w.heap.size + 1, 0, none⟩ u).setCell ⟨w.heap.size + 1, 1, none⟩ v) := fun T hT u v => (Keeps.set (p := ⟨w.heap.size + 1, 0, none⟩) hT _).trans (.set (p := ⟨w.heap.size + 1, 1, none⟩) hT _)
      refine bodyPost_ret (v := .agg #[.slice (some ⟨wA.heap.size, 0, none⟩) i i, .int .u8 d']) (by simp [results, Tryz.results124, go_sem, z0, z1, zl]) rfl ⟨.mu 6 d' (some ⟨wA.heap.size, 0, none⟩) i L, by rw [MG.enc, HLL.out], ?_, rfl, ?_, ((HBL.out.trans (HBL2.out.mono HBL.out.size)).setCell (by simp) _).setCell (by simp) _⟩
      · rw [MG.In]
        refine ⟨hd', by decide, by rw [HLL.out]; unfold kbig; omega, ⟨?_, fun _ a ha => by have := Option.some.inj ha; subst this; exact .inr HBL.out.size⟩, MG.inL_iff.2 fun g hg => ?_⟩
        · exact ((HRW.out.far (p := ⟨w.heap.size + 1, 0, none⟩) hne _).far (p := ⟨w.heap.size + 1, 1, none⟩) hne _).sl (by rw [hlen, HLL.out]; rfl) (by rw [HLL.out]; unfold maxLen; omega)
        · obtain ⟨e1, e2⟩ := HLIN.out g hg
          exact ⟨e1, MG.less hsT (MG.keep (hkeep _ hnT _ _) e2)⟩
      · rw [MG.plain_mu, MG.plain_mu, frc_eq, frcN_nil, HLP.out, List.take_of_length_le (by rw [HN.out]; exact Nat.le_refl _), List.map_map]
        rfl

theorem infoG0 : (Tryz.prog.info? 47).map (fun i => (i.zero, i.size, i.bytes)) = some (some (.agg #[.int .i64 0, .nilIface]), 2, 24) := by kernel_rfl
set_option maxHeartbeats 8000000 in
set_option maxRecDepth 100000 in
theorem force0 {d : Nat} {A : Option Addr} {c : Nat} {kids : List MG} (hF : ∀ g ∈ kids, g.kind = pk 0 → ForceC 158 g) : ForceC 126 (.mu 0 d A c kids) := fun d' hd' S w h0 => by
  have h := MG.old h0
  rw [MG.In] at h
  obtain ⟨hd4, -, hkb, hA, hkid⟩ := h
  have hesz : ∀ g ∈ kids, g.enc.length = 2 := MG.enc_esz hkid (by decide)
  obtain ⟨i0, hi, hz0, hz1, hz2⟩ := info_parts infoG0
  unfold kbig at hkb
  obtain ⟨wA, hwA⟩ : ∃ wA, wA = (w.alloc (.cells #[.slice A kids.length c, .int .u8 d] 102)).alloc (.cells #[.slice none 0 0, .int .u8 0] 102) := ⟨_, rfl⟩
  have hbl : Below w.heap.size w wA := by rw [hwA]; exact ((Below.refl _ _).alloc (Nat.le_refl _) _).alloc (by simp) _
  have hB : Blk wA w.heap.size 102 #[.slice A kids.length c, .int .u8 d] := by rw [hwA]; exact (Blk.new _ _ _).alloc _
  have hD : Blk wA (w.heap.size + 1) 102 #[.slice none 0 0, .int .u8 0] := by
    rw [hwA]
    have := Blk.new (w.alloc (.cells #[.slice A kids.length c, .int .u8 d] 102)) 102 #[.slice none 0 0, .int .u8 0]
    simpa using this
  have hsz : wA.heap.size = w.heap.size + 2 := by rw [hwA]; simp
  have hP : ∃ n, n = kids.length := ⟨_, rfl⟩
  obtain ⟨n, hn⟩ := hP
  have HA := Lib.hid (hA.1.up hbl)
  have HKID := Lib.hid (fun g hg => MG.inL_iff.1 hkid g hg)
  have HF := Lib.hid hF
  have HESZ := Lib.hid hesz
  have HB := Lib.hid hB
  have HD := Lib.hid hD
  have HBL := Lib.hid hbl
  have HWA := Lib.hid hwA
  have HSZ := Lib.hid hsz
  have HN := Lib.hid hn
  have hb48 : i0.bytes * n ≤ 281474976710656 := by rw [hz2, hn]; omega
  obtain ⟨c0, c1, -, -, cl⟩ := cells2 hB
  rw [← hn] at hkb c0
  show Calls Tryz.prog 126 #[.agg #[.slice A kids.length c, .int .u8 d], .int .u8 d'] w _
  rw [← hn]
  rw [← hn] at HWA
  clear hF hA h0 hkid hesz hbl hB hD hwA hsz hn
  go_enter Tryz.func126, Tryz.ntmps126
  go_wp2_with (at_make; rw [← HWA.out]; refine wpList_make_full _ rfl (.tmp 9) (.tmp 9) 100 rfl wA.heap.size 47 i0 _ 2 Tryz.underlying100 hi hz0 hz1 .i64 .i64 _ _ n rfl rfl rfl rfl hb48 (by unfold maxLen; omega) (Nat.le_refl _) ?_; intro w2 hown hgrow
               obtain ⟨hrow2, hxl⟩ := make_row hown
               have HROW := Lib.hid hrow2
               have HXL := Lib.hid hxl
               have hb2 := (Below.refl wA.heap.size wA).grown hgrow (Nat.le_refl _) (fun q hq => by cases hq)
               have HB2 := Lib.hid hb2
               have c0 := (hb2.cell (p := ⟨w.heap.size, 0, none⟩) cl).trans c0
               clear hown hgrow hrow2 hxl hb2)
  have hLT : w.heap.size + 1 < wA.heap.size := HD.out.lt

  go_loopg [14] n (fun q ci wr => ∃ (i : Nat) (L : List MG) (R : List Value), i + q = n ∧ ci = .int .i64 (i : Nat) ∧ L.length = i ∧ L.map MG.plain = (kids.take i).map (fun g => g.plain.frc d') ∧ (∀ g ∈ L, g.kind = pk 0 ∧ g.In (fun a => Old S w a ∨ wA.heap.size < a) wr) ∧ Row wr wA.heap.size 47 (L.flatMap MG.enc ++ R) ∧ R.length = (n - i) * 2 ∧ Below wA.heap.size wA wr)
  case atStart => exact ⟨0, [], _, by omega, by go_num, rfl, rfl, (fun g hg => by cases hg), HROW.out, by rw [HXL.out]; omega, HB2.out⟩
  case round =>
    obtain ⟨i, L, R, hi', rfl, hll, hlp, hlin, hrow, hrl, hbl⟩ := hrel
    have HIL := Lib.hid hi'
    have HLL := Lib.hid hll
    have HLP := Lib.hid hlp
    have HLIN := Lib.hid hlin
    have HRW0 := Lib.hid hrow
    have HRL := Lib.hid hrl
    have HBL2 := Lib.hid hbl
    have hin : i ≤ n := by omega
    have hlw := hrow.lt
    have sr := hbl.size
    have c0 := (hbl.cell (p := ⟨w.heap.size, 0, none⟩) cl).trans (HB.out.cell 0)
    simp only [List.getElem?_toArray, List.getElem?_cons_zero] at c0
    rw [← HN.out] at c0
    clear hi' hll hlp hlin hrow hrl hbl
    by_cases hlt : i < n
    · have hik : i < kids.length := by rw [← HN.out]; exact hlt
      obtain ⟨g, hg⟩ : ∃ g, kids[i]? = some g := ⟨kids[i], List.getElem?_eq_getElem hik⟩
      have HG := Lib.hid hg
      have hmem := List.mem_of_getElem? hg
      obtain ⟨hkk, hgin⟩ := HKID.out g hmem
      obtain ⟨b, off, hAe, hbl, hcell⟩ := sl_part HA.out HESZ.out (by omega)
      subst hAe
      have hgen : ∃ u v, g.enc = [u, v] := MG.enc_two hgin (by rw [hkk]; decide)
      obtain ⟨u, v, huv⟩ := hgen
      have d0 := (HBL2.out.cell (p := ⟨b, off + (i * 2 + 0), none⟩) hbl).trans (hcell i g hg 0 u (by rw [huv]; rfl))
      have d1 := (HBL2.out.cell (p := ⟨b, off + (i * 2 + 1), none⟩) hbl).trans (hcell i g hg 1 v (by rw [huv]; rfl))
      rw [Nat.add_zero] at d0
      rw [← Nat.add_assoc] at d1
      have HFG := Lib.hid (show ∀ S' w', g.In S' w' → Calls Tryz.prog 158 #[.agg #[u, v], .int .u8 d'] w' (ForcePost S' w' d' g) from fun S' w' hi => by
        have := HF.out g hmem hkk d' hd' S' w' hi
        rw [huv] at this
        exact this)
      have HGIN := Lib.hid (MG.up HBL2.out (MG.up HBL.out hgin))
      have HKK := Lib.hid hkk
      obtain ⟨r0, r1, R2, rfl, hr2⟩ := cut2 (n := (n - (i + 1)) * 2) (show R.length = _ by rw [HRL.out]; omega)
      have HR2 := Lib.hid hr2
      have hdl : (L.flatMap MG.enc).length = i * 2 := by
        rw [flatE_len (s := 2) (fun g hg => ?_), HLL.out]
        obtain ⟨e1, e2⟩ := HLIN.out g hg
        obtain ⟨u', v', e3⟩ := MG.enc_two e2 (by rw [e1]; decide)
        rw [e3]; rfl
      have HDL := Lib.hid hdl
      have hltI : (i : Int) < (n : Int) := by omega
      clear hg hmem hkk hgin hcell huv hr2 hdl hik
      go_wp2_with fail
      refine (HFG.out _ _ HGIN.out).mono ?_
      rintro e w3 ⟨g2, rfl, h2, hk2, hp2, hb3⟩
      have hkk := HKK.out
      obtain ⟨a2, m2, rfl⟩ := MG.is_bx (hk2.trans hkk) h2
      rw [show (MG.bx a2 m2).enc.toArray = #[.int .i64 m2.kind, .iface (pT m2.kind) (.pointer (some ⟨a2, 0, none⟩))] from rfl]
      have HK2 := Lib.hid (hk2.trans hkk)
      have HP2 := Lib.hid hp2
      have H2 := Lib.hid h2
      have HB3 := Lib.hid hb3
      have HROW3 := Lib.hid (HRW0.out.below hb3)
      have HBL3 := Lib.hid (HBL2.out.trans (hb3.mono HBL2.out.size))
      have f0 := HROW3.out.frozen_at HDL.out 0 (by simp)
      have g0 := HROW3.out.some_at HDL.out 0 (by simp)
      have f1 := HROW3.out.frozen_at HDL.out 1 (by simp)
      have g1 := HROW3.out.some_at HDL.out 1 (by simp)
      simp only [List.getElem_cons_zero, List.getElem_cons_succ, Nat.add_zero] at f0 g0 f1 g1
      have hl3 := hb3.size
      have hlr := HROW3.out.lt
      clear hb3 h2 hp2 hk2 hkk c0 d0 d1
      go_wp2_with fail
      go_roundg (n - (i + 1))
      case measure => have := HIL.out; omega
      case rel =>
        have hnT : ¬ (fun a => Old S w a ∨ wA.heap.size < a) wA.heap.size := fun h => by
          rcases h with h | h
          · have := h.2; omega
          · omega
        have hkeep : ∀ (T : Nat → Prop) (hT : ¬ T wA.heap.size), Keeps T w3 ((w3.setCell ⟨wA.heap.size, i * 2, none⟩ (.int .i64 m2.kind)).setCell ⟨wA.heap.size, i * 2 + 1, none⟩ (.iface (pT m2.kind) (.pointer (some ⟨a2, 0, none⟩)))) := fun T hT => (Keeps.set (p := ⟨wA.heap.size, i * 2, none⟩) hT _).trans (.set (p := ⟨wA.heap.size, i * 2 + 1, none⟩) hT _)
        refine ⟨i + 1, L ++ [MG.bx a2 m2], R2, by omega, by go_num, by rw [List.length_append, HLL.out]; rfl, ?_, ?_, ?_, HR2.out, (HBL3.out.setCell (Nat.le_refl _) _).setCell (Nat.le_refl _) _⟩
        · rw [List.take_add_one, HG.out, List.map_append, List.map_append, HLP.out]
          simp [HP2.out]
        · intro g hg
          rcases List.mem_append.1 hg with hg | hg
          · obtain ⟨e1, e2⟩ := HLIN.out g hg
            exact ⟨e1, MG.keep (hkeep _ hnT) (MG.up HB3.out e2)⟩
          · have := List.mem_singleton.1 hg
            subst this
            exact ⟨HK2.out, MG.keep (hkeep _ hnT) (MG.less (fun a ha => ha.imp id (fun h => Nat.lt_of_lt_of_le hlw h)) H2.out)⟩
        · rw [List.flatMap_append]
          have := HROW3.out.put2 HDL.out (.int .i64 m2.kind) (.iface (pT m2.kind) (.pointer (some ⟨a2, 0, none⟩)))
          simpa [MG.enc] using this
    · obtain rfl : i = n := by omega
      have hR0 : R = [] := List.eq_nil_of_length_eq_zero (by rw [HRL.out]; omega)
      have hrow := HRW0.out
      rw [hR0, List.append_nil] at hrow
      have HRW := Lib.hid hrow
      obtain ⟨z0, z1, y0, y1, zl⟩ := cells2 (HD.out.below HBL2.out HD.out.lt)
      clear hR0 hrow
      go_wp2_with fail
      have hlen : (L.flatMap MG.enc).length = i * 2 := by
        rw [flatE_len (s := 2) (fun g hg => ?_), HLL.out]
        obtain ⟨e1, e2⟩ := HLIN.out g hg
        obtain ⟨u', v', e3⟩ := MG.enc_two e2 (by rw [e1]; decide)
        rw [e3]; rfl
      have hsT : ∀ a, (fun a => Old S w a ∨ wA.heap.size < a) a → Fresh S w a := fun a ha => by
        rcases ha with ha | ha
        · exact .inl ha.1
        · have := HSZ.out
          exact .inr (by omega)
      have hnT : ¬ (fun a => Old S w a ∨ wA.heap.size < a) (w.heap.size + 1) := fun h => by
        rcases h with h | h
        · have := h.2; omega
        · omega
      have hne : wA.heap.size ≠ w.heap.size + 1 := by omega
      have hkeep : ∀ (T : Nat → Prop) (hT : ¬ T (w.heap.size + 1)) u v, Keeps T wr ((wr.setCell ⟨w.heap.size + 1, 0, none⟩ u).setCell ⟨w.heap.size + 1, 1, none⟩ v) := fun T hT u v => (Keeps.set (p := ⟨w.heap.size + 1, 0, none⟩) hT _).trans (.set (p := ⟨w.heap.size + 1, 1, none⟩) hT _)
      refine bodyPost_ret (v := .agg #[.slice (some ⟨wA.heap.size, 0, none⟩) i i, .int .u8 d']) (by simp [results, Tryz.results126, go_sem, z0, z1, zl]) rfl ⟨.mu 0 d' (some ⟨wA.heap.size, 0, none⟩) i L, by rw [MG.enc, HLL.out], ?_, rfl, ?_, ((HBL.out.trans (HBL2.out.mono HBL.out.size)).setCell (by simp) _).setCell (by simp) _⟩
      · rw [MG.In]
        refine ⟨hd', by decide, by rw [HLL.out]; unfold kbig; omega, ⟨?_, fun _ a ha => by have := Option.some.inj ha; subst this; exact .inr HBL.out.size⟩, MG.inL_iff.2 fun g hg => ?_⟩
        · exact ((HRW.out.far (p := ⟨w.heap.size + 1, 0, none⟩) hne _).far (p := ⟨w.heap.size + 1, 1, none⟩) hne _).sl (by rw [hlen, HLL.out]; rfl) (by rw [HLL.out]; unfold maxLen; omega)
        · obtain ⟨e1, e2⟩ := HLIN.out g hg
          exact ⟨e1, MG.less hsT (MG.keep (hkeep _ hnT _ _) e2)⟩
      · rw [MG.plain_mu, MG.plain_mu, frc_eq, frcN_nil, HLP.out, List.take_of_length_le (by rw [HN.out]; exact Nat.le_refl _), List.map_map]
        rfl

theorem infoP : (Tryz.prog.info? 77).map (fun i => (i.zero, i.size, i.bytes)) = some (some (.agg #[.float .f64 0, .float .f64 0, .float .f64 0, .float .f64 0, .int .u8 0, .bool false]), 6, 48) := by kernel_rfl

/-- Points come back in a slice of their own. -/
def PtsPost (w : World) (d' : Nat) (kids : List MG) (e : Ending) (w' : World) : Prop :=
  ∃ (A : Option Addr) (L : List MG), e = .returned (.slice A L.length L.length) ∧ SlS (fun a => w.heap.size ≤ a) w' A L.length 6 (L.flatMap MG.enc) ∧ (∀ g ∈ L, g.kind = 1 ∧ ∀ S w'', g.In S w'') ∧ L.map MG.plain = kids.map (fun g => g.plain.frc d') ∧ L.length = kids.length ∧ Below w.heap.size w w'

set_option maxHeartbeats 8000000 in
set_option maxRecDepth 100000 in
theorem forcePts {A : Option Addr} {c : Nat} {kids : List MG} {d' : Nat} (hd' : d' < 4) {w : World} (hkb : kids.length ≤ kbig) (hA : Sl w w.heap.size A kids.length 6 (kids.flatMap MG.enc)) (hkid : ∀ g ∈ kids, ∃ d full p, g = .pt d full p ∧ d < 4 ∧ clip d p = p) :
    Calls Tryz.prog 157 #[.slice A kids.length c, .int .u8 d'] w (PtsPost w d' kids) := by
  have hesz : ∀ g ∈ kids, g.enc.length = 6 := fun g hg => by obtain ⟨d, full, p, rfl, -⟩ := hkid g hg; rfl
  obtain ⟨i0, hi, hz0, hz1, hz2⟩ := info_parts infoP
  unfold kbig at hkb
  obtain ⟨n, hn⟩ : ∃ n, n = kids.length := ⟨_, rfl⟩
  have HA := Lib.hid hA
  have HKID := Lib.hid hkid
  have HESZ := Lib.hid hesz
  have HN := Lib.hid hn
  have hb48 : i0.bytes * n ≤ 281474976710656 := by rw [hz2, hn]; omega
  rw [← hn] at hkb ⊢
  clear hA hkid hesz hn
  go_enter Tryz.func157, Tryz.ntmps157
  go_wp2_with (at_make; refine wpList_make_full _ rfl (.tmp 9) (.tmp 9) 89 rfl w.heap.size 77 i0 _ 6 Tryz.underlying89 hi hz0 hz1 .i64 .i64 _ _ n rfl rfl rfl rfl hb48 (by unfold maxLen; omega) (Nat.le_refl _) ?_; intro w2 hown hgrow
               obtain ⟨hrow2, hxl⟩ := make_row hown
               have HROW := Lib.hid hrow2
               have HXL := Lib.hid hxl
               have HB2 := Lib.hid ((Below.refl w.heap.size w).grown hgrow (Nat.le_refl _) (fun q hq => by cases hq))
               clear hown hgrow hrow2 hxl)
  go_loopg [13] n (fun q ci wr => ∃ (i : Nat) (L : List MG) (R : List Value), i + q = n ∧ ci = .int .i64 (i : Nat) ∧ L.length = i ∧ L.map MG.plain = (kids.take i).map (fun g => g.plain.frc d') ∧ (∀ g ∈ L, g.kind = 1 ∧ ∀ S w'', g.In S w'') ∧ Row wr w.heap.size 77 (L.flatMap MG.enc ++ R) ∧ R.length = (n - i) * 6 ∧ Below w.heap.size w wr)
  case atStart => exact ⟨0, [], _, by omega, by go_num, rfl, rfl, (fun g hg => by cases hg), HROW.out, by rw [HXL.out]; omega, HB2.out⟩
  case round =>
    obtain ⟨i, L, R, hi', rfl, hll, hlp, hlin, hrow, hrl, hbl⟩ := hrel
    have HIL := Lib.hid hi'
    have HLL := Lib.hid hll
    have HLP := Lib.hid hlp
    have HLIN := Lib.hid hlin
    have HRW0 := Lib.hid hrow
    have HRL := Lib.hid hrl
    have HBL2 := Lib.hid hbl
    have hin : i ≤ n := by omega
    have hlw := hrow.lt
    have sr := hbl.size
    clear hi' hll hlp hlin hrow hrl hbl
    by_cases hlt : i < n
    · have hik : i < kids.length := by rw [← HN.out]; exact hlt
      obtain ⟨g, hg⟩ : ∃ g, kids[i]? = some g := ⟨kids[i], List.getElem?_eq_getElem hik⟩
      have HG := Lib.hid hg
      have hmem := List.mem_of_getElem? hg
      obtain ⟨d, full, p, rfl, hd4, hcl⟩ := HKID.out g hmem
      obtain ⟨b, off, hAe, hbl, hcell⟩ := sl_part HA.out HESZ.out (by omega)
      subst hAe
      have d0 := (HBL2.out.cell (p := ⟨b, off + (i * 6 + 0), none⟩) hbl).trans (hcell i _ hg 0 _ rfl)
      have d1 := (HBL2.out.cell (p := ⟨b, off + (i * 6 + 1), none⟩) hbl).trans (hcell i _ hg 1 _ rfl)
      have d2 := (HBL2.out.cell (p := ⟨b, off + (i * 6 + 2), none⟩) hbl).trans (hcell i _ hg 2 _ rfl)
      have d3 := (HBL2.out.cell (p := ⟨b, off + (i * 6 + 3), none⟩) hbl).trans (hcell i _ hg 3 _ rfl)
      have d4 := (HBL2.out.cell (p := ⟨b, off + (i * 6 + 4), none⟩) hbl).trans (hcell i _ hg 4 _ rfl)
      have d5 := (HBL2.out.cell (p := ⟨b, off + (i * 6 + 5), none⟩) hbl).trans (hcell i _ hg 5 _ rfl)
      rw [Nat.add_zero] at d0
      rw [← Nat.add_assoc] at d1 d2 d3 d4 d5
      have HFG := Lib.hid (fun w' => ptForceC d full p d' hd' (fun _ => True) w' (by rw [MG.In]; exact ⟨hd4, hcl⟩))
      obtain ⟨r0, r1, r2, r3, r4, r5, R2, rfl, hr2⟩ := cut6 (n := (n - (i + 1)) * 6) (show R.length = _ by rw [HRL.out]; omega)
      have HR2 := Lib.hid hr2
      have hdl : (L.flatMap MG.enc).length = i * 6 := by
        rw [flatE_len (s := 6) (fun g hg => ?_), HLL.out]
        obtain ⟨e1, e2⟩ := HLIN.out g hg
        obtain ⟨d, full, p, rfl⟩ := MG.is_pt e1 (e2 (fun _ => True) w)
        rfl
      have HDL := Lib.hid hdl
      have hltI : (i : Int) < (n : Int) := by omega
      have HDC := Lib.hid (And.intro hd4 hcl)
      clear hg hmem hcell hr2 hdl hik hd4 hcl
      go_wp2_with fail
      refine (HFG.out _).mono ?_
      rintro e w3 ⟨g2, rfl, h2, hk2, hp2, hb3⟩
      have HP2 := Lib.hid hp2
      obtain ⟨d2', full2, p2, rfl⟩ := MG.is_pt hk2 h2
      have HI2 := Lib.hid (show ∀ S w'', (MG.pt d2' full2 p2).In S w'' from fun S w'' => by rw [MG.In] at h2 ⊢; exact h2)
      rw [show (MG.pt d2' full2 p2).enc.toArray = #[.float .f64 p2.x, .float .f64 p2.y, .float .f64 p2.z, .float .f64 p2.m, .int .u8 d2', .bool full2] from rfl]
      have hba : ∀ o, Below wr.heap.size wr (wr.alloc o) := fun o => (Below.refl _ _).alloc (Nat.le_refl _) _
      have HROW3 := Lib.hid ((HRW0.out.alloc _).below hb3)
      have HBL3 := Lib.hid (HBL2.out.trans (((hba _).trans (hb3.mono (hba _).size)).mono HBL2.out.size))
      have f0 := HROW3.out.frozen_at HDL.out 0 (by simp)
      have g0 := HROW3.out.some_at HDL.out 0 (by simp)
      have f1 := HROW3.out.frozen_at HDL.out 1 (by simp)
      have g1 := HROW3.out.some_at HDL.out 1 (by simp)
      have f2 := HROW3.out.frozen_at HDL.out 2 (by simp)
      have g2 := HROW3.out.some_at HDL.out 2 (by simp)
      have f3 := HROW3.out.frozen_at HDL.out 3 (by simp)
      have g3 := HROW3.out.some_at HDL.out 3 (by simp)
      have f4 := HROW3.out.frozen_at HDL.out 4 (by simp)
      have g4 := HROW3.out.some_at HDL.out 4 (by simp)
      have f5 := HROW3.out.frozen_at HDL.out 5 (by simp)
      have g5 := HROW3.out.some_at HDL.out 5 (by simp)
      simp only [List.getElem_cons_zero, List.getElem_cons_succ, Nat.add_zero] at f0 g0 f1 g1 f2 g2 f3 g3 f4 g4 f5 g5
      have hl3 := hb3.size
      have hlr := HROW3.out.lt
      clear hb3 h2 hp2 hk2 d0 d1 d2 d3 d4 d5 hba
      go_wp2_with fail
      go_roundg (n - (i + 1))
      case measure => have := HIL.out; omega
      case rel =>
        refine ⟨i + 1, L ++ [.pt d2' full2 p2], R2, by omega, by go_num, by rw [List.length_append, HLL.out]; rfl, ?_, ?_, ?_, HR2.out, ?_⟩
        · rw [List.take_add_one, HG.out, List.map_append, List.map_append, HLP.out]
          simp [HP2.out]
        · intro g hg
          rcases List.mem_append.1 hg with hg | hg
          · exact HLIN.out g hg
          · have := List.mem_singleton.1 hg
            subst this
            exact ⟨rfl, HI2.out⟩
        · rw [List.flatMap_append]
          have := HROW3.out.put6 HDL.out (.float .f64 p2.x) (.float .f64 p2.y) (.float .f64 p2.z) (.float .f64 p2.m) (.int .u8 d2') (.bool full2)
          simpa [MG.enc] using this
        · exact (((((HBL3.out.setCell (Nat.le_refl _) _).setCell (Nat.le_refl _) _).setCell (Nat.le_refl _) _).setCell (Nat.le_refl _) _).setCell (Nat.le_refl _) _).setCell (Nat.le_refl _) _
    · obtain rfl : i = n := by omega
      have hR0 : R = [] := List.eq_nil_of_length_eq_zero (by rw [HRL.out]; omega)
      have hrow := HRW0.out
      rw [hR0, List.append_nil] at hrow
      have HRW := Lib.hid hrow
      clear hR0 hrow
      go_wp2_with fail
      have hlen : (L.flatMap MG.enc).length = i * 6 := by
        rw [flatE_len (s := 6) (fun g hg => ?_), HLL.out]
        obtain ⟨e1, e2⟩ := HLIN.out g hg
        obtain ⟨d, full, p, rfl⟩ := MG.is_pt e1 (e2 (fun _ => True) w)
        rfl
      refine bodyPost_ret (v := .slice (some ⟨w.heap.size, 0, none⟩) i i) (by simp [results, go_sem]) rfl ⟨some ⟨w.heap.size, 0, none⟩, L, by rw [HLL.out], ⟨?_, fun _ a ha => by have := Option.some.inj ha; subst this; exact Nat.le_refl _⟩, HLIN.out, ?_, by rw [HLL.out]; exact HN.out, HBL2.out⟩
      · exact HRW.out.sl (by rw [hlen, HLL.out]) (by rw [HLL.out]; unfold maxLen; omega)
      · rw [HLP.out, List.take_of_length_le (by rw [HN.out]; exact Nat.le_refl _)]

theorem ptForceMulti {d : Nat} {A : Option Addr} {c : Nat} {kids : List MG} : ForceC 120 (.mu 4 d A c kids) := fun d' hd' S w h0 => by
  have h := h0
  rw [MG.In] at h
  obtain ⟨hd4, -, hkb, hA, hkid⟩ := h
  obtain ⟨wA, hwA⟩ : ∃ wA, wA = (w.alloc (.cells #[.slice A kids.length c, .int .u8 d] 91)).alloc (.cells #[.slice none 0 0, .int .u8 0] 91) := ⟨_, rfl⟩
  have hbl : Below w.heap.size w wA := by rw [hwA]; exact ((Below.refl _ _).alloc (Nat.le_refl _) _).alloc (by simp) _
  have hD : Blk wA (w.heap.size + 1) 91 #[.slice none 0 0, .int .u8 0] := by
    rw [hwA]
    have := Blk.new (w.alloc (.cells #[.slice A kids.length c, .int .u8 d] 91)) 91 #[.slice none 0 0, .int .u8 0]
    simpa using this
  have hsz : wA.heap.size = w.heap.size + 2 := by rw [hwA]; simp
  have HC := Lib.hid (forcePts (c := c) hd' hkb (hA.1.up hbl) (fun g hg => by
    obtain ⟨e1, e2⟩ := MG.inL_iff.1 hkid g hg
    obtain ⟨d, full, p, rfl⟩ := MG.is_pt e1 e2
    rw [MG.In] at e2
    exact ⟨d, full, p, rfl, e2⟩))
  have HKB := Lib.hid hkb
  have HD := Lib.hid hD
  have HBL := Lib.hid hbl
  have HWA := Lib.hid hwA
  have HSZ := Lib.hid hsz
  show Calls Tryz.prog 120 #[.agg #[.slice A kids.length c, .int .u8 d], .int .u8 d'] w _
  clear h0 hbl hD hwA hsz hA hkid hkb
  go_enter Tryz.func120, Tryz.ntmps120
  go_wp2_with fail
  rw [← HWA.out]
  refine HC.out.mono ?_
  rintro e w1 ⟨A1, L, rfl, hs1, hl1, hp1, hn1, hb1⟩
  have HBL1 := Lib.hid (HBL.out.trans (hb1.mono HBL.out.size))
  obtain ⟨z0, z1, y0, y1, zl⟩ := cells2 (HD.out.below hb1 HD.out.lt)
  have HS1 := Lib.hid hs1
  have HL1 := Lib.hid hl1
  have HP1 := Lib.hid hp1
  have HN1 := Lib.hid hn1
  clear hb1 hs1 hl1 hp1 hn1
  go_wp2_with fail
  have hno : ¬ (fun a => wA.heap.size ≤ a) (w.heap.size + 1) := by have := HSZ.out; show ¬ wA.heap.size ≤ _; omega
  refine bodyPost_ret (v := .agg #[.slice A1 L.length L.length, .int .u8 d']) (by simp [results, Tryz.results120, go_sem, z0, z1, zl]) rfl ⟨.mu 4 d' A1 L.length L, rfl, ?_, rfl, ?_, (HBL1.out.setCell (by simp) _).setCell (by simp) _⟩
  · rw [MG.In]
    refine ⟨hd', by decide, by rw [HN1.out]; exact HKB.out, ?_, MG.inL_iff.2 fun g hg => ⟨(HL1.out g hg).1, (HL1.out g hg).2 _ _⟩⟩
    exact (HS1.out.keep ((Keeps.set (p := ⟨w.heap.size + 1, 0, none⟩) hno _).trans (.set (p := ⟨w.heap.size + 1, 1, none⟩) hno _))).less (fun a ha => .inr (Nat.le_trans HBL.out.size ha))
  · rw [MG.plain_mu, MG.plain_mu, frc_eq, frcN_nil, HP1.out, List.map_map]
    rfl

end Go.Proofs.YtbacakdpfiiblaaGreat.geo
