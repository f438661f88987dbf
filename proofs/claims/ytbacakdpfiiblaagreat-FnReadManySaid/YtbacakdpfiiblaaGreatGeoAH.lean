/-
  Contracts: a polygon, told as plain data.
-/
import Derived.Test.YtbacakdpfiiblaaGreatGeoAG
namespace Go.Proofs.YtbacakdpfiiblaaGreat.geo
open Go.ChangeShapes Go.WideShapes Go.ChangeAt Go.RowKit
open Go.Proofs.YtbacakdpfiiblaaGreat.mem
set_option linter.unusedVariables false
set_option linter.unusedSimpArgs false

set_option maxHeartbeats 16000000 in
set_option maxRecDepth 100000 in
theorem plainPolygonC {d : Nat} {A : Option Addr} {c : Nat} {kids : List MG} (hC : ∀ g ∈ kids, g.kind = 2 → PlainC 88 g) : PlainC 89 (.mu 3 d A c kids) := fun S w h0 => by
  have h := h0
  rw [MG.In] at h
  obtain ⟨hd, -, hkb, hA0, hkid0⟩ := h
  have hE : ∀ g ∈ kids, g.enc.length = 2 := MG.enc_esz hkid0 (by decide)
  have hkid := MG.inL_iff.1 hkid0
  have hwf : (Lit.int .i64 (d : Int)).wf = true := by
    obtain rfl | rfl | rfl | rfl := four hd <;> decide
  have hcv : IntKind.i64.wrap (d : Int) = d := IntWalk.i64_in _ (by omega)
  rw [MG.plain_mu]
  obtain ⟨i0, hi, hz0, hz1, hz2⟩ := info_parts infoGm
  obtain ⟨n, hn⟩ : ∃ n, n = kids.length := ⟨_, rfl⟩
  have hDR := fun (w' : World) (hb : Below w.heap.size w w') => dumpRings_calls (c := c) (d := .int .u8 d) (hA0.1.up hb) hkb
  unfold RingsPost at hDR
  rw [← hn] at hDR
  show Calls Tryz.prog 89 #[.agg #[.slice A kids.length c, .int .u8 d]] w _
  rw [← hn]
  obtain ⟨wA, hwA⟩ : ∃ wA, wA = (w.alloc (.cells #[.slice A n c, .int .u8 d] 87)).alloc (.cells #[.int .i64 0, .int .i64 0, .slice none 0 0, .slice none 0 0] 25) := ⟨_, rfl⟩
  have hbl : Below w.heap.size w wA := by rw [hwA]; exact ((Below.refl _ _).alloc (Nat.le_refl _) _).alloc (by simp) _
  have hB : Blk wA w.heap.size 87 #[.slice A n c, .int .u8 d] := by rw [hwA]; exact (Blk.new _ _ _).alloc _
  have hD : Blk wA (w.heap.size + 1) 25 #[.int .i64 0, .int .i64 0, .slice none 0 0, .slice none 0 0] := by
    rw [hwA]
    have := Blk.new (w.alloc (.cells #[.slice A n c, .int .u8 d] 87)) 25 #[.int .i64 0, .int .i64 0, .slice none 0 0, .slice none 0 0]
    simpa using this
  have HDR := Lib.hid hDR
  have HLN := Lib.hid (fun g (hg : g ∈ kids) => MG.is_ln (hkid g hg).1 (hkid g hg).2)
  have HE := Lib.hid hE
  have HPLC := Lib.hid (fun g hg w' (hb : Below w.heap.size w w') => hC g hg (hkid g hg).1 S w' (MG.up hb (hkid g hg).2))
  have HN := Lib.hid hn
  have HB := Lib.hid hB
  have HD := Lib.hid hD
  have HBL := Lib.hid hbl
  have HWA := Lib.hid hwA
  have HWF := Lib.hid hwf
  have hn2 : n ≤ 1099511627776 := by rw [hn]; exact hkb
  clear h0 hA0 hkid0 hkid hE hwf hDR hB hD hbl hwA hn hkb hC hd
  go_enter Tryz.func89, Tryz.ntmps89
  go_wp2_with fail
  rw [← HWA.out]
  refine (ctype3 _ _ _).mono ?_
  rintro e w1 ⟨rfl, hb1⟩
  have HB1 := Lib.hid (HB.out.below hb1 HB.out.lt)
  have HD1 := Lib.hid (HD.out.below hb1 HD.out.lt)
  have HBL1 := Lib.hid (HBL.out.trans (hb1.mono HBL.out.size))
  clear hb1 HB HD HBL HWA
  obtain ⟨wL, hwL⟩ : ∃ wL, wL = w1.alloc (.cells #[.int .i64 3, .int .i64 d, .slice none 0 0, .slice none 0 0] 25) := ⟨_, rfl⟩
  have hG : Blk wL w1.heap.size 25 #[.int .i64 3, .int .i64 d, .slice none 0 0, .slice none 0 0] := by rw [hwL]; exact Blk.new _ _ _
  have hbL : Below w1.heap.size w1 wL := by rw [hwL]; exact (Below.refl _ _).alloc (Nat.le_refl _) _
  have hszL : wL.heap.size = w1.heap.size + 1 := by rw [hwL]; simp
  have HWL := Lib.hid hwL
  have HG := Lib.hid hG
  have HBL2 := Lib.hid hbL
  have HSZ := Lib.hid hszL
  clear hwL hG hbL hszL
  obtain ⟨b0, b1, -, -, bl⟩ := cells2 HB1.out
  go_wp2_with fail
  rw [← HWL.out]
  refine (HDR.out _ (HBL1.out.trans (HBL2.out.mono HBL1.out.size))).mono ?_
  rintro e w3 ⟨AR, rfl, hs3, hb3⟩
  have HS3 := Lib.hid (hs3.old.less (T := fun a => w1.heap.size < a ∧ a < w3.heap.size) (fun a ha => ⟨by have h1 : wL.heap.size ≤ a := ha.1; have := HSZ.out; omega, ha.2⟩))
  have HG3 := Lib.hid (HG.out.below hb3 HG.out.lt)
  have HBL3 := Lib.hid (HBL2.out.trans (hb3.mono HBL2.out.size))
  have hs13 : w1.heap.size < w3.heap.size := by have := hb3.size; have := HSZ.out; omega
  clear hs3 hb3 b0 b1 bl
  go_wp2_with fail
  go_loopg [13] n (fun q ci wr => ∃ (j : Nat) (L : List IG) (A1 : Option Addr) (k1 : Nat), j + q = n ∧ ci = .int .i64 (j : Nat) ∧ L.length = j ∧ j ≤ k1 ∧ L.map IG.plain = (kids.take j).map MG.plain ∧ (∀ g ∈ L, g.In (fun a => w3.heap.size ≤ a ∧ some a ≠ (Value.slice A1 j k1).ownBlock) wr) ∧ wr.ownsRow w3.heap.size 25 4 (.slice A1 j k1) j (L.flatMap IG.enc) ∧
      Blk wr w1.heap.size 25 #[.int .i64 3, .int .i64 d, .slice none 0 0, .slice A1 j k1] ∧ SlS (fun a => w1.heap.size < a ∧ a < w3.heap.size) wr AR n 2 (kids.flatMap MG.enc) ∧ Below w1.heap.size w1 wr ∧ w3.heap.size ≤ wr.heap.size)
  case atStart => exact ⟨0, [], none, 0, by omega, by go_num, rfl, Nat.le_refl _, rfl, (fun g hg => by cases hg), World.ownsRow_nil _ _ _ _, HG3.out, HS3.out, HBL3.out, Nat.le_refl _⟩
  case round =>
    obtain ⟨j, L, A1, k1, hj', rfl, hll, hjk, hlp, hlin, hown, hO, hsl, hbl, hsr⟩ := hrel
    have HJL := Lib.hid hj'
    have HLL := Lib.hid hll
    have HLP := Lib.hid hlp
    have HLIN := Lib.hid hlin
    have HOWN := Lib.hid hown
    have HOB := Lib.hid hO
    have HSL := Lib.hid hsl
    have HBLR := Lib.hid hbl
    have hjn : j ≤ n := by omega
    clear hj' hll hlp hlin hown hO hbl hsl
    by_cases hlt : j < n
    · have hik : j < kids.length := by rw [← HN.out]; exact hlt
      obtain ⟨g, hg⟩ : ∃ g, kids[j]? = some g := ⟨kids[j], List.getElem?_eq_getElem hik⟩
      have HGE := Lib.hid hg
      have hmem := List.mem_of_getElem? hg
      have hltI : (j : Int) < (n : Int) := by omega
      have HBW := Lib.hid (HBL1.out.trans (HBLR.out.mono HBL1.out.size))
      obtain ⟨b, off, hAe, hblk, hcell⟩ := sl_part (l := kids) (E := MG.enc) (by rw [← HN.out]; exact HSL.out.1) HE.out (by omega)
      subst hAe
      have HPC := Lib.hid (fun w' (hb : Below wr.heap.size wr w') => HPLC.out g hmem w' (HBW.out.trans (hb.mono HBW.out.size)))
      obtain ⟨gd, gA, gc, gns, rfl⟩ := HLN.out g hmem
      have d0 := hcell j _ hg 0 _ rfl
      have d1 := hcell j _ hg 1 _ rfl
      rw [Nat.add_zero] at d0
      rw [← Nat.add_assoc] at d1
      have HPC := Lib.hid (show ∀ w', Below wr.heap.size wr w' → Calls Tryz.prog 88 #[.agg #[.int .u8 gd, .slice gA gns.length gc]] w' (IPost w' (MG.ln gd gA gc gns).plain) from HPC.out)
      obtain ⟨gp, hgp⟩ : ∃ gp, gp = (MG.ln gd gA gc gns).plain := ⟨_, rfl⟩
      rw [← hgp] at HPC
      have HGP := Lib.hid hgp
      obtain ⟨w2, hw2⟩ : ∃ w2, w2 = wr.alloc (.cells #[.int .u8 gd, .slice gA gns.length gc] 83) := ⟨_, rfl⟩
      have hb2 : Below wr.heap.size wr w2 := by rw [hw2]; exact (Below.refl _ _).alloc (Nat.le_refl _) _
      have hNK : Blk w2 wr.heap.size 83 #[.int .u8 gd, .slice gA gns.length gc] := by rw [hw2]; exact Blk.new _ _ _
      have HB2 := Lib.hid hb2
      have HOWK := Lib.hid (HOWN.out.kept (grown_below (row := none) hb2) (own_row _))
      have HOK := Lib.hid (HOB.out.below hb2 HOB.out.lt)
      have hs2 := hb2.size
      have hsK : w3.heap.size ≤ w2.heap.size := Nat.le_trans hsr hs2
      have hbox : ∀ r, (Value.slice A1 j k1).ownBlock = some r → w3.heap.size ≤ r ∧ r < wr.heap.size := fun r hr => HOWN.out.lt r hr
      have HKS := Lib.hid (show ∀ w', Keeps (fun a => a < w2.heap.size ∧ some a ≠ (Value.slice A1 j k1).ownBlock) w2 w' → w'.cell? ⟨w1.heap.size, 3, none⟩ = some (.slice A1 j k1) ∧ w'.frozen? ⟨w1.heap.size, 3, none⟩ = false ∧ w'.cell? ⟨wr.heap.size, 0, none⟩ = some (.int .u8 gd) ∧ w'.cell? ⟨wr.heap.size, 1, none⟩ = some (.slice gA gns.length gc) from fun w' hk => by
        have h1 := Blk.keep HOK.out hk ⟨HOK.out.lt, fun e => by have := (hbox _ e.symm).1; omega⟩
        have h2 := Blk.keep hNK hk ⟨hNK.lt, fun e => by have := (hbox _ e.symm).2; omega⟩
        exact ⟨h1.cell 3, h1.frozen 3 (show 3 < 4 by omega), h2.cell 0, h2.cell 1⟩)
      have HBOX := Lib.hid hbox
      have HWK := Lib.hid hw2
      obtain ⟨s3, sf, sk0, sk1⟩ := HKS.out w2 (Keeps.refl _ _)
      clear hg hmem hik hgp hbox hw2 hb2 hNK hcell
      go_wp2_with fail
      rw [← HWK.out]
      go_region_law (first
            | (refine step_append_sl _ (by rfl) _ _ _ (by rfl) w3.heap.size 25 i0 _ 4 64 Tryz.underlying23 hi hz0 hz1 hz2 rfl (by decide) (.slice A1 j k1) j (L.flatMap IG.enc) (by rfl) (ho5.alloc (.cells #[.int .i64 k2, .int .i64 d2', .slice A2' ns2.length ca2, .slice B2' ks2.length cb2] 25))
                   (w5.alloc (.cells #[.int .i64 k2, .int .i64 d2', .slice A2' ns2.length ca2, .slice B2' ks2.length cb2] 25)).heap.size (some ⟨w5.heap.size, 0, none⟩) 1 1 [.int .i64 k2, .int .i64 d2', .slice A2' ns2.length ca2, .slice B2' ks2.length cb2] (by rfl) (slBlk (n := 1) (c := 4) (heap_alloc_new w5 _) rfl (by unfold maxLen; omega)) (IG.enc_one (.mk k2 d2' A2' ca2 ns2 B2' cb2 ks2)) (by unfold maxLen; omega) (by omega) (by have := hbk5.size; have := hsK; simp; omega) ?_; intro A5 c5 w6 ho6 hg6 ha6
               have hk6 : Keeps (fun a => a < w2.heap.size ∧ some a ≠ (Value.slice A1 j k1).ownBlock) w2 w6 := (hk5.alloc (.cells #[.int .i64 k2, .int .i64 d2', .slice A2' ns2.length ca2, .slice B2' ks2.length cb2] 25)).trans (Keeps.grown hg6 (fun r hr h => h.2 hr.symm))
               obtain ⟨v3, vf, -, -⟩ := HKS.out w6 hk6)
            | (go_simp
               go_at_call 88; refine (HPC.out _ (by first | exact HB2.out.drew | exact HB2.out)).mono ?_
               rintro e w5 ⟨⟨k2, d2', A2', ca2, ns2, B2', cb2, ks2⟩, rfl, h5, hp5, hb5⟩
               have hbk5 : Below w2.heap.size w2 w5 := by first | exact hb5 | exact ((Below.refl w2.heap.size w2).drew).trans hb5
               have hk5 : Keeps (fun a => a < w2.heap.size ∧ some a ≠ (Value.slice A1 j k1).ownBlock) w2 w5 := .of_below hbk5
               obtain ⟨t3, tf, -, -⟩ := HKS.out w5 hk5
               have t3a : ∀ ob, (w5.alloc ob).cell? ⟨w1.heap.size, 3, none⟩ = some (.slice A1 j k1) := fun ob => (HKS.out (w5.alloc ob) (hk5.alloc ob)).1
               have t3d : ∀ ob, (w5.alloc ob).drew.cell? ⟨w1.heap.size, 3, none⟩ = some (.slice A1 j k1) := fun ob => (HKS.out (w5.alloc ob).drew (hk5.alloc ob).drew).1
               have ho5 := HOWK.out.kept (grown_below (row := none) hbk5) (own_row _)
               have HH5 : Hid ((IG.mk k2 d2' A2' ca2 ns2 B2' cb2 ks2).In (fun a => w2.heap.size ≤ a) w5) := Lib.hid (IG.less (fun a ha => by exact ha) h5)
               rw [show (IG.mk k2 d2' A2' ca2 ns2 B2' cb2 ks2).enc.toArray = #[.int .i64 k2, .int .i64 d2', .slice A2' ns2.length ca2, .slice B2' ks2.length cb2] from rfl]
               try dsimp only))
      all_goals
        go_wp2_with fail
        go_roundg (n - (j + 1))
        case measure => have := HJL.out; omega
        case rel =>
          have hob := HOB.out.lt
          have hcap : j + 1 ≤ c5 := by
            rcases ho6.2 with ⟨hbad, h0⟩ | ⟨g, cap, cur, hv, _, _, h1, _⟩
            · omega
            · simp only [Value.slice.injEq] at hv
              omega
          have hb5a : Below w2.heap.size w2 (w5.alloc (.cells #[.int .i64 k2, .int .i64 d2', .slice A2' ns2.length ca2, .slice B2' ks2.length cb2] 25)) := hbk5.alloc hbk5.size _
          have hbra : Below wr.heap.size wr (w5.alloc (.cells #[.int .i64 k2, .int .i64 d2', .slice A2' ns2.length ca2, .slice B2' ks2.length cb2] 25)) := HB2.out.trans (hb5a.mono hs2)
          have hall : Keeps (fun a => some a ≠ (Value.slice A1 j k1).ownBlock) wr w6 := (Keeps.of_below hbra).trans (Keeps.grown hg6 (fun r hr h => h hr.symm))
          have hno : ∀ a, a < w3.heap.size → some a ≠ (Value.slice A1 j k1).ownBlock := fun a ha e => by have := (HBOX.out a e.symm).1; omega
          have hgeo : ∀ g : IG, g.In (fun a => w3.heap.size ≤ a ∧ some a ≠ (Value.slice A1 j k1).ownBlock) (w5.alloc (.cells #[.int .i64 k2, .int .i64 d2', .slice A2' ns2.length ca2, .slice B2' ks2.length cb2] 25)) → g.In (fun a => w3.heap.size ≤ a ∧ some a ≠ (Value.slice A5 (j + 1) c5).ownBlock) (w6.setCell ⟨w1.heap.size, 3, none⟩ (.slice A5 (j + 1) c5)) := fun g hg => by
            refine IG.less (fun a ha => ⟨ha.1.1, fun e => ?_⟩) (IG.keep ((Keeps.grown hg6 (fun r hr ha => ha.1.2 hr.symm)).trans (Keeps.set (p := ⟨w1.heap.size, 3, none⟩) (fun h => by have h0 : w3.heap.size ≤ w1.heap.size := h.1.1; omega) _)) (IG.old hg))
            rcases ha6 with h | h
            · exact ha.1.2 (e.trans h)
            · rw [h] at e
              have h1 := Option.some.inj e
              have h2 := ha.2
              omega
          have hbw : Below w1.heap.size w1 (w6.setCell ⟨w1.heap.size, 3, none⟩ (.slice A5 (j + 1) c5)) := by
            have h1 := HBLR.out.trans (hbra.mono HBLR.out.size)
            exact (h1.grown hg6 h1.size (fun r hr => by have := (HBOX.out r hr).1; omega)).setCell (Nat.le_refl _) _
          refine ⟨j + 1, L ++ [.mk k2 d2' A2' ca2 ns2 B2' cb2 ks2], A5, c5, by omega, by go_num, by rw [List.length_append, HLL.out]; rfl, hcap, ?_, ?_, ?_, ?_, ?_, hbw, by have := hg6.size; have := hbk5.size; simp at *; omega⟩
          · rw [List.take_add_one, HGE.out, List.map_append, List.map_append, HLP.out, List.map_cons, hp5, HGP.out]
            rfl
          · intro g hg
            rcases List.mem_append.1 hg with hg | hg
            · exact hgeo g (IG.up hbra (HLIN.out g hg))
            · have := List.mem_singleton.1 hg
              subst this
              refine hgeo _ (IG.up ((Below.refl _ _).alloc (Nat.le_refl _) _) (IG.less (fun a ha => ?_) HH5.out))
              exact ⟨Nat.le_trans hsK ha, fun e => by have h1 := (HBOX.out a e.symm).2; have h2 : w2.heap.size ≤ a := ha; omega⟩
          · rw [List.flatMap_append, List.flatMap_cons, List.flatMap_nil, List.append_nil]
            exact ho6.kept (grown_set w6 ⟨w1.heap.size, 3, none⟩ (.slice A5 (j + 1) c5)) (.inr (fun e => by have h1 : w3.heap.size ≤ w1.heap.size := (ho6.lt _ e).1; omega))
          · have := (Blk.keep HOB.out hall (hno _ (by omega))).set_ 3 (.slice A5 (j + 1) c5)
            simpa using this
          · exact HSL.out.keep ((hall.less (fun a ha => hno a ha.2)).trans (Keeps.set (p := ⟨w1.heap.size, 3, none⟩) (fun h => by have h0 : w1.heap.size < w1.heap.size := h.1; omega) _))
    · obtain rfl : j = n := by omega
      have hltI : (j : Int) ≤ (j : Int) := Int.le_refl _
      have htk : kids.take j = kids := List.take_of_length_le (by rw [← HN.out]; exact Nat.le_refl _)
      obtain ⟨o0, o1, o2, o3, -, -, -, -, ol⟩ := cells4 HOB.out
      obtain ⟨z0, z1, z2, z3, y0, y1, y2, y3, zl⟩ := cells4 (HD1.out.below HBLR.out HD1.out.lt)
      have HLP2 := Lib.hid (show L.map IG.plain = kids.map MG.plain from by rw [HLP.out, htk])
      clear htk
      go_wp2_with fail
      have hd1 := HD1.out.lt
      refine bodyPost_ret (v := .agg #[.int .i64 3, .int .i64 d, .slice none 0 0, .slice A1 j k1]) (by simp [results, Tryz.results89, go_sem, z0, z1, z2, z3, zl]) rfl ?_
      have hfin := IPost.store (g := .mk 3 d none 0 [] A1 k1 L) (w := w) (w' := wr) (p := .mk 3 d [] (kids.map MG.plain)) (R := w.heap.size + 1) ?_ (by rw [IG.plain_eq, HLP2.out]) (HBL1.out.trans (HBLR.out.mono HBL1.out.size)) (Nat.le_add_right _ 1) (.int .i64 3) (.int .i64 d) (.slice none 0 0) (.slice A1 j k1)
      · rw [IG.enc, HLL.out] at hfin
        exact hfin
      · rw [IG.In]
        refine ⟨⟨by decide, HWF.out⟩, ⟨by simp, by rw [HLL.out]; unfold big; omega⟩, ⟨by simp, by rw [HLL.out]; exact hjk⟩, ⟨by simp [Sl, FL], fun h => absurd h (by simp)⟩, ?_, IG.inL_iff.2 fun g hg => ?_⟩
        · rw [HLL.out]
          have h1 : SlS (fun a => w3.heap.size ≤ a) wr A1 j 4 (L.flatMap IG.enc) := ⟨Sl.of_own HOWN.out, fun _ a ha => (HOWN.out.lt a.block (by rw [ha]; rfl)).1⟩
          exact SlS.less h1 (fun a ha => by have h2 : w3.heap.size ≤ a := ha; show w.heap.size + 1 < a; omega)
        · exact IG.less (fun a ha => by have h2 : w3.heap.size ≤ a := ha.1; show w.heap.size + 1 < a; omega) (HLIN.out g hg)

end Go.Proofs.YtbacakdpfiiblaaGreat.geo
