/-
  Contracts: multis and collections, told as plain data.
-/
import Derived.Test.YtbacakdpfiiblaaGreatGeoAE
import Derived.Deep.DrawnRows
import Derived.Deep.RegionLaw
namespace Go.Proofs.YtbacakdpfiiblaaGreat.geo
open Go.ChangeShapes Go.WideShapes Go.ChangeAt Go.RowKit
open Go.Proofs.YtbacakdpfiiblaaGreat.mem
set_option linter.unusedVariables false
set_option linter.unusedSimpArgs false


set_option maxHeartbeats 16000000 in
set_option maxRecDepth 100000 in
theorem plainMultiPointC {d : Nat} {A : Option Addr} {c : Nat} {kids : List MG} (hC : ∀ g ∈ kids, g.kind = 1 → PlainC 86 g) : PlainC 90 (.mu 4 d A c kids) := fun S w h0 => by
  have h := h0
  rw [MG.In] at h
  obtain ⟨hd, -, hkb, hA0, hkid0⟩ := h
  have hE : ∀ g ∈ kids, g.enc.length = 6 := MG.enc_esz hkid0 (by decide)
  have hkid := MG.inL_iff.1 hkid0
  have hwf : (Lit.int .i64 (d : Int)).wf = true := by
    obtain rfl | rfl | rfl | rfl := four hd <;> decide
  have hcv : IntKind.i64.wrap (d : Int) = d := IntWalk.i64_in _ (by omega)
  rw [MG.plain_mu]
  obtain ⟨i0, hi, hz0, hz1, hz2⟩ := info_parts infoGm
  obtain ⟨n, hn⟩ : ∃ n, n = kids.length := ⟨_, rfl⟩
  have hNTH := fun (w' : World) (hb : Below w.heap.size w w') (i : Nat) (g : MG) (hi : kids[i]? = some g) => nth4 (c := c) (d := .int .u8 d) (hA0.1.up hb) hE hkb hi (hkid g (List.mem_of_getElem? hi)).1 (hkid g (List.mem_of_getElem? hi)).2
  rw [← hn] at hNTH
  show Calls Tryz.prog 90 #[.agg #[.slice A kids.length c, .int .u8 d]] w _
  rw [← hn]
  obtain ⟨wA, hwA⟩ : ∃ wA, wA = (w.alloc (.cells #[.slice A n c, .int .u8 d] 91)).alloc (.cells #[.int .i64 0, .int .i64 0, .slice none 0 0, .slice none 0 0] 25) := ⟨_, rfl⟩
  have hbl : Below w.heap.size w wA := by rw [hwA]; exact ((Below.refl _ _).alloc (Nat.le_refl _) _).alloc (by simp) _
  have hB : Blk wA w.heap.size 91 #[.slice A n c, .int .u8 d] := by rw [hwA]; exact (Blk.new _ _ _).alloc _
  have hD : Blk wA (w.heap.size + 1) 25 #[.int .i64 0, .int .i64 0, .slice none 0 0, .slice none 0 0] := by
    rw [hwA]
    have := Blk.new (w.alloc (.cells #[.slice A n c, .int .u8 d] 91)) 25 #[.int .i64 0, .int .i64 0, .slice none 0 0, .slice none 0 0]
    simpa using this
  have HNTH := Lib.hid hNTH
  have HPLC := Lib.hid (fun g hg w' (hb : Below w.heap.size w w') => hC g hg (hkid g hg).1 S w' (MG.up hb (hkid g hg).2))
  have HN := Lib.hid hn
  have HB := Lib.hid hB
  have HD := Lib.hid hD
  have HBL := Lib.hid hbl
  have HWA := Lib.hid hwA
  have HWF := Lib.hid hwf
  have hn2 : n ≤ 1099511627776 := by rw [hn]; exact hkb
  clear h0 hA0 hkid0 hkid hE hwf hNTH hB hD hbl hwA hn hkb hC hd
  go_enter Tryz.func90, Tryz.ntmps90
  go_wp2_with fail
  rw [← HWA.out]
  refine (ctype4 _ _ _).mono ?_
  rintro e w1 ⟨rfl, hb1⟩
  have HB1 := Lib.hid (HB.out.below hb1 HB.out.lt)
  have HD1 := Lib.hid (HD.out.below hb1 HD.out.lt)
  have HBL1 := Lib.hid (HBL.out.trans (hb1.mono HBL.out.size))
  clear hb1 HB HD HBL HWA
  obtain ⟨wL, hwL⟩ : ∃ wL, wL = w1.alloc (.cells #[.int .i64 4, .int .i64 d, .slice none 0 0, .slice none 0 0] 25) := ⟨_, rfl⟩
  have hG : Blk wL w1.heap.size 25 #[.int .i64 4, .int .i64 d, .slice none 0 0, .slice none 0 0] := by rw [hwL]; exact Blk.new _ _ _
  have hbL : Below w1.heap.size w1 wL := by rw [hwL]; exact (Below.refl _ _).alloc (Nat.le_refl _) _
  have hszL : wL.heap.size = w1.heap.size + 1 := by rw [hwL]; simp
  have HWL := Lib.hid hwL
  have HG := Lib.hid hG
  have HBL2 := Lib.hid hbL
  have HSZ := Lib.hid hszL
  clear hwL hG hbL hszL
  go_wp2_with fail
  rw [← HWL.out]
  go_loopg [4] n (fun q ci wr => ∃ (j : Nat) (L : List IG) (A1 : Option Addr) (k1 : Nat), j + q = n ∧ ci = .int .i64 (j : Nat) ∧ L.length = j ∧ j ≤ k1 ∧ L.map IG.plain = (kids.take j).map MG.plain ∧ (∀ g ∈ L, g.In (fun a => wL.heap.size ≤ a ∧ some a ≠ (Value.slice A1 j k1).ownBlock) wr) ∧ wr.ownsRow wL.heap.size 25 4 (.slice A1 j k1) j (L.flatMap IG.enc) ∧
      Blk wr w1.heap.size 25 #[.int .i64 4, .int .i64 d, .slice none 0 0, .slice A1 j k1] ∧ Below w1.heap.size w1 wr ∧ wL.heap.size ≤ wr.heap.size)
  case atStart => exact ⟨0, [], none, 0, by omega, by go_num, rfl, Nat.le_refl _, rfl, (fun g hg => by cases hg), World.ownsRow_nil _ _ _ _, HG.out, HBL2.out, Nat.le_refl _⟩
  case round =>
    obtain ⟨j, L, A1, k1, hj', rfl, hll, hjk, hlp, hlin, hown, hO, hbl, hsr⟩ := hrel
    have HJL := Lib.hid hj'
    have HLL := Lib.hid hll
    have HLP := Lib.hid hlp
    have HLIN := Lib.hid hlin
    have HOWN := Lib.hid hown
    have HOB := Lib.hid hO
    have HBLR := Lib.hid hbl
    have hjn : j ≤ n := by omega
    obtain ⟨s0, s1, -, -, sl⟩ := cells2 (HB1.out.below hbl HB1.out.lt)
    clear hj' hll hlp hlin hown hO hbl
    go_wp2_with fail
    refine (num4 _ _ _ _ _).mono ?_
    rintro e w2 ⟨rfl, hb2⟩
    have HB2 := Lib.hid hb2
    have HBLK := Lib.hid (HBLR.out.trans (hb2.mono HBLR.out.size))
    have HOWK := Lib.hid (HOWN.out.kept (grown_below (row := none) hb2) (own_row _))
    have HOK := Lib.hid (HOB.out.below hb2 HOB.out.lt)
    have hs2 := hb2.size
    have hsK : wL.heap.size ≤ w2.heap.size := Nat.le_trans hsr hs2
    clear hb2 s0 s1 sl
    by_cases hlt : j < n
    · have hik : j < kids.length := by rw [← HN.out]; exact hlt
      obtain ⟨g, hg⟩ : ∃ g, kids[j]? = some g := ⟨kids[j], List.getElem?_eq_getElem hik⟩
      have HGE := Lib.hid hg
      have hmem := List.mem_of_getElem? hg
      have hltI : (j : Int) < (n : Int) := by omega
      have HBW := Lib.hid (HBL1.out.trans (HBLK.out.mono HBL1.out.size))
      have HNT := Lib.hid (fun w' (hb : Below w2.heap.size w2 w') => HNTH.out w' (HBW.out.trans (hb.mono HBW.out.size)) j g hg)
      have HPC := Lib.hid (fun w' (hb : Below w2.heap.size w2 w') => HPLC.out g hmem w' (HBW.out.trans (hb.mono HBW.out.size)))
      obtain ⟨ge, hge⟩ : ∃ ge, ge = g.enc.toArray := ⟨_, rfl⟩
      obtain ⟨gp, hgp⟩ : ∃ gp, gp = g.plain := ⟨_, rfl⟩
      rw [← hge] at HNT HPC
      rw [← hgp] at HPC
      have HGP := Lib.hid hgp
      obtain ⟨s0, s1, -, -, sl⟩ := cells2 (HB1.out.below HBLK.out HB1.out.lt)
      have hbox : ∀ r, (Value.slice A1 j k1).ownBlock = some r → wL.heap.size ≤ r ∧ r < w2.heap.size := fun r hr => HOWK.out.lt r hr
      have HKS := Lib.hid (show ∀ w', Keeps (fun a => a < w2.heap.size ∧ some a ≠ (Value.slice A1 j k1).ownBlock) w2 w' → w'.cell? ⟨w1.heap.size, 3, none⟩ = some (.slice A1 j k1) ∧ w'.frozen? ⟨w1.heap.size, 3, none⟩ = false from fun w' hk => by
        have h1 := Blk.keep HOK.out hk ⟨HOK.out.lt, fun e => by have := (hbox _ e.symm).1; have := HSZ.out; omega⟩
        exact ⟨h1.cell 3, h1.frozen 3 (show 3 < 4 by omega)⟩)
      have HBOX := Lib.hid hbox
      obtain ⟨s3, sf⟩ := HKS.out w2 (Keeps.refl _ _)
      clear hg hmem hik hge hgp hbox
      go_wp2_with fail
      go_region_law (first
            | (refine step_append_sl _ (by rfl) _ _ _ (by rfl) wL.heap.size 25 i0 _ 4 64 Tryz.underlying23 hi hz0 hz1 hz2 rfl (by decide) (.slice A1 j k1) j (L.flatMap IG.enc) (by rfl) (ho5.alloc (.cells #[.int .i64 k2, .int .i64 d2', .slice A2' ns2.length ca2, .slice B2' ks2.length cb2] 25))
                   (w5.alloc (.cells #[.int .i64 k2, .int .i64 d2', .slice A2' ns2.length ca2, .slice B2' ks2.length cb2] 25)).heap.size (some ⟨w5.heap.size, 0, none⟩) 1 1 [.int .i64 k2, .int .i64 d2', .slice A2' ns2.length ca2, .slice B2' ks2.length cb2] (by rfl) (slBlk (n := 1) (c := 4) (heap_alloc_new w5 _) rfl (by unfold maxLen; omega)) (IG.enc_one (.mk k2 d2' A2' ca2 ns2 B2' cb2 ks2)) (by unfold maxLen; omega) (by omega) (by have := hbk5.size; have := hsK; simp; omega) ?_; intro A5 c5 w6 ho6 hg6 ha6
               have hk6 : Keeps (fun a => a < w2.heap.size ∧ some a ≠ (Value.slice A1 j k1).ownBlock) w2 w6 := (hk5.alloc (.cells #[.int .i64 k2, .int .i64 d2', .slice A2' ns2.length ca2, .slice B2' ks2.length cb2] 25)).trans (Keeps.grown hg6 (fun r hr h => h.2 hr.symm))
               obtain ⟨v3, vf⟩ := HKS.out w6 hk6)
            | (go_simp
               go_at_call 79; refine (HNT.out _ (by first | exact (Below.refl _ _).drew | exact Below.refl _ _)).mono ?_
               rintro e w3 ⟨rfl, hb3⟩
               have hbk3 : Below w2.heap.size w2 w3 := by first | exact hb3 | exact ((Below.refl w2.heap.size w2).drew).trans hb3
               have hk3 : Keeps (fun a => a < w2.heap.size ∧ some a ≠ (Value.slice A1 j k1).ownBlock) w2 w3 := .of_below hbk3
               obtain ⟨r3, rf⟩ := HKS.out w3 hk3
               try dsimp only)
            | (go_simp
               go_at_call 86; refine (HPC.out _ (by first | exact hbk3 | exact hbk3.drew)).mono ?_
               rintro e w5 ⟨⟨k2, d2', A2', ca2, ns2, B2', cb2, ks2⟩, rfl, h5, hp5, hb5⟩
               have hbk5 : Below w2.heap.size w2 w5 := by first | exact hbk3.trans (hb5.mono hbk3.size) | exact hbk3.drew.trans (hb5.mono hbk3.size)
               have hk5 : Keeps (fun a => a < w2.heap.size ∧ some a ≠ (Value.slice A1 j k1).ownBlock) w2 w5 := .of_below hbk5
               obtain ⟨t3, tf⟩ := HKS.out w5 hk5
               have t3a : ∀ ob, (w5.alloc ob).cell? ⟨w1.heap.size, 3, none⟩ = some (.slice A1 j k1) := fun ob => (HKS.out (w5.alloc ob) (hk5.alloc ob)).1
               have t3d : ∀ ob, (w5.alloc ob).drew.cell? ⟨w1.heap.size, 3, none⟩ = some (.slice A1 j k1) := fun ob => (HKS.out (w5.alloc ob).drew (hk5.alloc ob).drew).1
               have ho5 := HOWK.out.kept (grown_below (row := none) hbk5) (own_row _)
               have HH5 : Hid ((IG.mk k2 d2' A2' ca2 ns2 B2' cb2 ks2).In (fun a => w2.heap.size ≤ a) w5) := Lib.hid (IG.less (fun a ha => Nat.le_trans hbk3.size ha) h5)
               rw [show (IG.mk k2 d2' A2' ca2 ns2 B2' cb2 ks2).enc.toArray = #[.int .i64 k2, .int .i64 d2', .slice A2' ns2.length ca2, .slice B2' ks2.length cb2] from rfl]
               try dsimp only))
      all_goals
        go_wp2_with fail
        go_roundg (n - (j + 1))
        case measure => have := HJL.out; omega
        case rel =>
          have hob := HOB.out.lt
          have hszv := HSZ.out
          have hcap : j + 1 ≤ c5 := by
            rcases ho6.2 with ⟨hbad, h0⟩ | ⟨g, cap, cur, hv, _, _, h1, _⟩
            · omega
            · simp only [Value.slice.injEq] at hv
              omega
          have hb5a : Below w2.heap.size w2 (w5.alloc (.cells #[.int .i64 k2, .int .i64 d2', .slice A2' ns2.length ca2, .slice B2' ks2.length cb2] 25)) := hbk5.alloc hbk5.size _
          have hbra : Below wr.heap.size wr (w5.alloc (.cells #[.int .i64 k2, .int .i64 d2', .slice A2' ns2.length ca2, .slice B2' ks2.length cb2] 25)) := HB2.out.trans (hb5a.mono hs2)
          have hall : Keeps (fun a => some a ≠ (Value.slice A1 j k1).ownBlock) wr w6 := (Keeps.of_below hbra).trans (Keeps.grown hg6 (fun r hr h => h hr.symm))
          have hno : ∀ a, a < wL.heap.size → some a ≠ (Value.slice A1 j k1).ownBlock := fun a ha e => by have := (HBOX.out a e.symm).1; omega
          have hgeo : ∀ g : IG, g.In (fun a => wL.heap.size ≤ a ∧ some a ≠ (Value.slice A1 j k1).ownBlock) (w5.alloc (.cells #[.int .i64 k2, .int .i64 d2', .slice A2' ns2.length ca2, .slice B2' ks2.length cb2] 25)) → g.In (fun a => wL.heap.size ≤ a ∧ some a ≠ (Value.slice A5 (j + 1) c5).ownBlock) (w6.setCell ⟨w1.heap.size, 3, none⟩ (.slice A5 (j + 1) c5)) := fun g hg => by
            refine IG.less (fun a ha => ⟨ha.1.1, fun e => ?_⟩) (IG.keep ((Keeps.grown hg6 (fun r hr ha => ha.1.2 hr.symm)).trans (Keeps.set (p := ⟨w1.heap.size, 3, none⟩) (fun h => by have h0 : wL.heap.size ≤ w1.heap.size := h.1.1; omega) _)) (IG.old hg))
            rcases ha6 with h | h
            · exact ha.1.2 (e.trans h)
            · rw [h] at e
              have h1 := Option.some.inj e
              have h2 := ha.2
              omega
          have hbw : Below w1.heap.size w1 (w6.setCell ⟨w1.heap.size, 3, none⟩ (.slice A5 (j + 1) c5)) := by
            have h1 := HBLR.out.trans (hbra.mono HBLR.out.size)
            exact (h1.grown hg6 h1.size (fun r hr => by have := (HBOX.out r hr).1; omega)).setCell (Nat.le_refl _) _
          refine ⟨j + 1, L ++ [.mk k2 d2' A2' ca2 ns2 B2' cb2 ks2], A5, c5, by omega, by go_num, by rw [List.length_append, HLL.out]; rfl, hcap, ?_, ?_, ?_, ?_, hbw, by have := hg6.size; have := hbk5.size; simp at *; omega⟩
          · rw [List.take_add_one, HGE.out, List.map_append, List.map_append, HLP.out, List.map_cons, hp5, HGP.out]
            rfl
          · intro g hg
            rcases List.mem_append.1 hg with hg | hg
            · exact hgeo g (IG.up hbra (HLIN.out g hg))
            · have := List.mem_singleton.1 hg
              subst this
              refine hgeo _ (IG.up ((Below.refl _ _).alloc (Nat.le_refl _) _) (IG.less (fun a ha => ?_) HH5.out))
              exact ⟨Nat.le_trans hsK ha, fun e => by have h1 := (HBOX.out a e.symm).2; have h2 : w2.heap.size ≤ a := ha; omega⟩
          · rw [List.flatMap_append, List.flatMap_cons, List.flatMap_nil, List.append_nil]
            exact ho6.kept (grown_set w6 ⟨w1.heap.size, 3, none⟩ (.slice A5 (j + 1) c5)) (.inr (fun e => by have h1 : wL.heap.size ≤ w1.heap.size := (ho6.lt _ e).1; omega))
          · have := (Blk.keep HOB.out hall (hno _ (by omega))).set_ 3 (.slice A5 (j + 1) c5)
            simpa using this
    · obtain rfl : j = n := by omega
      have hltI : (j : Int) ≤ (j : Int) := Int.le_refl _
      have htk : kids.take j = kids := List.take_of_length_le (by rw [← HN.out]; exact Nat.le_refl _)
      obtain ⟨o0, o1, o2, o3, -, -, -, -, ol⟩ := cells4 HOK.out
      obtain ⟨z0, z1, z2, z3, y0, y1, y2, y3, zl⟩ := cells4 (HD1.out.below HBLK.out HD1.out.lt)
      have HLP2 := Lib.hid (show L.map IG.plain = kids.map MG.plain from by rw [HLP.out, htk])
      clear htk
      go_wp2_with fail
      have hszv := HSZ.out
      have hd1 := HD1.out.lt
      refine bodyPost_ret (v := .agg #[.int .i64 4, .int .i64 d, .slice none 0 0, .slice A1 j k1]) (by simp [results, Tryz.results90, go_sem, z0, z1, z2, z3, zl]) rfl ?_
      have hfin := IPost.store (g := .mk 4 d none 0 [] A1 k1 L) (w := w) (w' := w2) (p := .mk 4 d [] (kids.map MG.plain)) (R := w.heap.size + 1) ?_ (by rw [IG.plain_eq, HLP2.out]) (HBL1.out.trans (HBLK.out.mono HBL1.out.size)) (Nat.le_add_right _ 1) (.int .i64 4) (.int .i64 d) (.slice none 0 0) (.slice A1 j k1)
      · rw [IG.enc, HLL.out] at hfin
        exact hfin
      · rw [IG.In]
        refine ⟨⟨by decide, HWF.out⟩, ⟨by simp, by rw [HLL.out]; unfold big; omega⟩, ⟨by simp, by rw [HLL.out]; exact hjk⟩, ⟨by simp [Sl, FL], fun h => absurd h (by simp)⟩, ?_, IG.inL_iff.2 fun g hg => ?_⟩
        · rw [HLL.out]
          have h1 : SlS (fun a => wL.heap.size ≤ a) w2 A1 j 4 (L.flatMap IG.enc) := ⟨Sl.of_own HOWK.out, fun _ a ha => (HOWK.out.lt a.block (by rw [ha]; rfl)).1⟩
          exact SlS.less h1 (fun a ha => by have h2 : wL.heap.size ≤ a := ha; show w.heap.size + 1 < a; omega)
        · exact IG.less (fun a ha => by have h2 : wL.heap.size ≤ a := ha.1; show w.heap.size + 1 < a; omega) (IG.up HB2.out (HLIN.out g hg))


set_option maxHeartbeats 16000000 in
set_option maxRecDepth 100000 in
theorem plainMultiLineC {d : Nat} {A : Option Addr} {c : Nat} {kids : List MG} (hC : ∀ g ∈ kids, g.kind = 2 → PlainC 88 g) : PlainC 91 (.mu 5 d A c kids) := fun S w h0 => by
  have h := h0
  rw [MG.In] at h
  obtain ⟨hd, -, hkb, hA0, hkid0⟩ := h
  have hE : ∀ g ∈ kids, g.enc.length = 2 := MG.enc_esz hkid0 (by decide)
  have hkid := MG.inL_iff.1 hkid0
  have hwf : (Lit.int .i64 (d : Int)).wf = true := by
    obtain rfl | rfl | rfl | rfl := four hd <;> decide
  have hcv : IntKind.i64.wrap (d : Int) = d := IntWalk.i64_in _ (by omega)
  rw [MG.plain_mu]
  obtain ⟨i0, hi, hz0, hz1, hz2⟩ := info_parts infoGm
  obtain ⟨n, hn⟩ : ∃ n, n = kids.length := ⟨_, rfl⟩
  have hNTH := fun (w' : World) (hb : Below w.heap.size w w') (i : Nat) (g : MG) (hi : kids[i]? = some g) => nth5 (c := c) (d := .int .u8 d) (hA0.1.up hb) hE hkb hi (hkid g (List.mem_of_getElem? hi)).1 (hkid g (List.mem_of_getElem? hi)).2
  rw [← hn] at hNTH
  show Calls Tryz.prog 91 #[.agg #[.slice A kids.length c, .int .u8 d]] w _
  rw [← hn]
  obtain ⟨wA, hwA⟩ : ∃ wA, wA = (w.alloc (.cells #[.slice A n c, .int .u8 d] 94)).alloc (.cells #[.int .i64 0, .int .i64 0, .slice none 0 0, .slice none 0 0] 25) := ⟨_, rfl⟩
  have hbl : Below w.heap.size w wA := by rw [hwA]; exact ((Below.refl _ _).alloc (Nat.le_refl _) _).alloc (by simp) _
  have hB : Blk wA w.heap.size 94 #[.slice A n c, .int .u8 d] := by rw [hwA]; exact (Blk.new _ _ _).alloc _
  have hD : Blk wA (w.heap.size + 1) 25 #[.int .i64 0, .int .i64 0, .slice none 0 0, .slice none 0 0] := by
    rw [hwA]
    have := Blk.new (w.alloc (.cells #[.slice A n c, .int .u8 d] 94)) 25 #[.int .i64 0, .int .i64 0, .slice none 0 0, .slice none 0 0]
    simpa using this
  have HNTH := Lib.hid hNTH
  have HPLC := Lib.hid (fun g hg w' (hb : Below w.heap.size w w') => hC g hg (hkid g hg).1 S w' (MG.up hb (hkid g hg).2))
  have HN := Lib.hid hn
  have HB := Lib.hid hB
  have HD := Lib.hid hD
  have HBL := Lib.hid hbl
  have HWA := Lib.hid hwA
  have HWF := Lib.hid hwf
  have hn2 : n ≤ 1099511627776 := by rw [hn]; exact hkb
  clear h0 hA0 hkid0 hkid hE hwf hNTH hB hD hbl hwA hn hkb hC hd
  go_enter Tryz.func91, Tryz.ntmps91
  go_wp2_with fail
  rw [← HWA.out]
  refine (ctype5 _ _ _).mono ?_
  rintro e w1 ⟨rfl, hb1⟩
  have HB1 := Lib.hid (HB.out.below hb1 HB.out.lt)
  have HD1 := Lib.hid (HD.out.below hb1 HD.out.lt)
  have HBL1 := Lib.hid (HBL.out.trans (hb1.mono HBL.out.size))
  clear hb1 HB HD HBL HWA
  obtain ⟨wL, hwL⟩ : ∃ wL, wL = w1.alloc (.cells #[.int .i64 5, .int .i64 d, .slice none 0 0, .slice none 0 0] 25) := ⟨_, rfl⟩
  have hG : Blk wL w1.heap.size 25 #[.int .i64 5, .int .i64 d, .slice none 0 0, .slice none 0 0] := by rw [hwL]; exact Blk.new _ _ _
  have hbL : Below w1.heap.size w1 wL := by rw [hwL]; exact (Below.refl _ _).alloc (Nat.le_refl _) _
  have hszL : wL.heap.size = w1.heap.size + 1 := by rw [hwL]; simp
  have HWL := Lib.hid hwL
  have HG := Lib.hid hG
  have HBL2 := Lib.hid hbL
  have HSZ := Lib.hid hszL
  clear hwL hG hbL hszL
  go_wp2_with fail
  rw [← HWL.out]
  go_loopg [4] n (fun q ci wr => ∃ (j : Nat) (L : List IG) (A1 : Option Addr) (k1 : Nat), j + q = n ∧ ci = .int .i64 (j : Nat) ∧ L.length = j ∧ j ≤ k1 ∧ L.map IG.plain = (kids.take j).map MG.plain ∧ (∀ g ∈ L, g.In (fun a => wL.heap.size ≤ a ∧ some a ≠ (Value.slice A1 j k1).ownBlock) wr) ∧ wr.ownsRow wL.heap.size 25 4 (.slice A1 j k1) j (L.flatMap IG.enc) ∧
      Blk wr w1.heap.size 25 #[.int .i64 5, .int .i64 d, .slice none 0 0, .slice A1 j k1] ∧ Below w1.heap.size w1 wr ∧ wL.heap.size ≤ wr.heap.size)
  case atStart => exact ⟨0, [], none, 0, by omega, by go_num, rfl, Nat.le_refl _, rfl, (fun g hg => by cases hg), World.ownsRow_nil _ _ _ _, HG.out, HBL2.out, Nat.le_refl _⟩
  case round =>
    obtain ⟨j, L, A1, k1, hj', rfl, hll, hjk, hlp, hlin, hown, hO, hbl, hsr⟩ := hrel
    have HJL := Lib.hid hj'
    have HLL := Lib.hid hll
    have HLP := Lib.hid hlp
    have HLIN := Lib.hid hlin
    have HOWN := Lib.hid hown
    have HOB := Lib.hid hO
    have HBLR := Lib.hid hbl
    have hjn : j ≤ n := by omega
    obtain ⟨s0, s1, -, -, sl⟩ := cells2 (HB1.out.below hbl HB1.out.lt)
    clear hj' hll hlp hlin hown hO hbl
    go_wp2_with fail
    refine (num5 _ _ _ _ _).mono ?_
    rintro e w2 ⟨rfl, hb2⟩
    have HB2 := Lib.hid hb2
    have HBLK := Lib.hid (HBLR.out.trans (hb2.mono HBLR.out.size))
    have HOWK := Lib.hid (HOWN.out.kept (grown_below (row := none) hb2) (own_row _))
    have HOK := Lib.hid (HOB.out.below hb2 HOB.out.lt)
    have hs2 := hb2.size
    have hsK : wL.heap.size ≤ w2.heap.size := Nat.le_trans hsr hs2
    clear hb2 s0 s1 sl
    by_cases hlt : j < n
    · have hik : j < kids.length := by rw [← HN.out]; exact hlt
      obtain ⟨g, hg⟩ : ∃ g, kids[j]? = some g := ⟨kids[j], List.getElem?_eq_getElem hik⟩
      have HGE := Lib.hid hg
      have hmem := List.mem_of_getElem? hg
      have hltI : (j : Int) < (n : Int) := by omega
      have HBW := Lib.hid (HBL1.out.trans (HBLK.out.mono HBL1.out.size))
      have HNT := Lib.hid (fun w' (hb : Below w2.heap.size w2 w') => HNTH.out w' (HBW.out.trans (hb.mono HBW.out.size)) j g hg)
      have HPC := Lib.hid (fun w' (hb : Below w2.heap.size w2 w') => HPLC.out g hmem w' (HBW.out.trans (hb.mono HBW.out.size)))
      obtain ⟨ge, hge⟩ : ∃ ge, ge = g.enc.toArray := ⟨_, rfl⟩
      obtain ⟨gp, hgp⟩ : ∃ gp, gp = g.plain := ⟨_, rfl⟩
      rw [← hge] at HNT HPC
      rw [← hgp] at HPC
      have HGP := Lib.hid hgp
      obtain ⟨s0, s1, -, -, sl⟩ := cells2 (HB1.out.below HBLK.out HB1.out.lt)
      have hbox : ∀ r, (Value.slice A1 j k1).ownBlock = some r → wL.heap.size ≤ r ∧ r < w2.heap.size := fun r hr => HOWK.out.lt r hr
      have HKS := Lib.hid (show ∀ w', Keeps (fun a => a < w2.heap.size ∧ some a ≠ (Value.slice A1 j k1).ownBlock) w2 w' → w'.cell? ⟨w1.heap.size, 3, none⟩ = some (.slice A1 j k1) ∧ w'.frozen? ⟨w1.heap.size, 3, none⟩ = false from fun w' hk => by
        have h1 := Blk.keep HOK.out hk ⟨HOK.out.lt, fun e => by have := (hbox _ e.symm).1; have := HSZ.out; omega⟩
        exact ⟨h1.cell 3, h1.frozen 3 (show 3 < 4 by omega)⟩)
      have HBOX := Lib.hid hbox
      obtain ⟨s3, sf⟩ := HKS.out w2 (Keeps.refl _ _)
      clear hg hmem hik hge hgp hbox
      go_wp2_with fail
      go_region_law (first
            | (refine step_append_sl _ (by rfl) _ _ _ (by rfl) wL.heap.size 25 i0 _ 4 64 Tryz.underlying23 hi hz0 hz1 hz2 rfl (by decide) (.slice A1 j k1) j (L.flatMap IG.enc) (by rfl) (ho5.alloc (.cells #[.int .i64 k2, .int .i64 d2', .slice A2' ns2.length ca2, .slice B2' ks2.length cb2] 25))
                   (w5.alloc (.cells #[.int .i64 k2, .int .i64 d2', .slice A2' ns2.length ca2, .slice B2' ks2.length cb2] 25)).heap.size (some ⟨w5.heap.size, 0, none⟩) 1 1 [.int .i64 k2, .int .i64 d2', .slice A2' ns2.length ca2, .slice B2' ks2.length cb2] (by rfl) (slBlk (n := 1) (c := 4) (heap_alloc_new w5 _) rfl (by unfold maxLen; omega)) (IG.enc_one (.mk k2 d2' A2' ca2 ns2 B2' cb2 ks2)) (by unfold maxLen; omega) (by omega) (by have := hbk5.size; have := hsK; simp; omega) ?_; intro A5 c5 w6 ho6 hg6 ha6
               have hk6 : Keeps (fun a => a < w2.heap.size ∧ some a ≠ (Value.slice A1 j k1).ownBlock) w2 w6 := (hk5.alloc (.cells #[.int .i64 k2, .int .i64 d2', .slice A2' ns2.length ca2, .slice B2' ks2.length cb2] 25)).trans (Keeps.grown hg6 (fun r hr h => h.2 hr.symm))
               obtain ⟨v3, vf⟩ := HKS.out w6 hk6)
            | (go_simp
               go_at_call 81; refine (HNT.out _ (by first | exact (Below.refl _ _).drew | exact Below.refl _ _)).mono ?_
               rintro e w3 ⟨rfl, hb3⟩
               have hbk3 : Below w2.heap.size w2 w3 := by first | exact hb3 | exact ((Below.refl w2.heap.size w2).drew).trans hb3
               have hk3 : Keeps (fun a => a < w2.heap.size ∧ some a ≠ (Value.slice A1 j k1).ownBlock) w2 w3 := .of_below hbk3
               obtain ⟨r3, rf⟩ := HKS.out w3 hk3
               try dsimp only)
            | (go_simp
               go_at_call 88; refine (HPC.out _ (by first | exact hbk3 | exact hbk3.drew)).mono ?_
               rintro e w5 ⟨⟨k2, d2', A2', ca2, ns2, B2', cb2, ks2⟩, rfl, h5, hp5, hb5⟩
               have hbk5 : Below w2.heap.size w2 w5 := by first | exact hbk3.trans (hb5.mono hbk3.size) | exact hbk3.drew.trans (hb5.mono hbk3.size)
               have hk5 : Keeps (fun a => a < w2.heap.size ∧ some a ≠ (Value.slice A1 j k1).ownBlock) w2 w5 := .of_below hbk5
               obtain ⟨t3, tf⟩ := HKS.out w5 hk5
               have t3a : ∀ ob, (w5.alloc ob).cell? ⟨w1.heap.size, 3, none⟩ = some (.slice A1 j k1) := fun ob => (HKS.out (w5.alloc ob) (hk5.alloc ob)).1
               have t3d : ∀ ob, (w5.alloc ob).drew.cell? ⟨w1.heap.size, 3, none⟩ = some (.slice A1 j k1) := fun ob => (HKS.out (w5.alloc ob).drew (hk5.alloc ob).drew).1
               have ho5 := HOWK.out.kept (grown_below (row := none) hbk5) (own_row _)
               have HH5 : Hid ((IG.mk k2 d2' A2' ca2 ns2 B2' cb2 ks2).In (fun a => w2.heap.size ≤ a) w5) := Lib.hid (IG.less (fun a ha => Nat.le_trans hbk3.size ha) h5)
               rw [show (IG.mk k2 d2' A2' ca2 ns2 B2' cb2 ks2).enc.toArray = #[.int .i64 k2, .int .i64 d2', .slice A2' ns2.length ca2, .slice B2' ks2.length cb2] from rfl]
               try dsimp only))
      all_goals
        go_wp2_with fail
        go_roundg (n - (j + 1))
        case measure => have := HJL.out; omega
        case rel =>
          have hob := HOB.out.lt
          have hszv := HSZ.out
          have hcap : j + 1 ≤ c5 := by
            rcases ho6.2 with ⟨hbad, h0⟩ | ⟨g, cap, cur, hv, _, _, h1, _⟩
            · omega
            · simp only [Value.slice.injEq] at hv
              omega
          have hb5a : Below w2.heap.size w2 (w5.alloc (.cells #[.int .i64 k2, .int .i64 d2', .slice A2' ns2.length ca2, .slice B2' ks2.length cb2] 25)) := hbk5.alloc hbk5.size _
          have hbra : Below wr.heap.size wr (w5.alloc (.cells #[.int .i64 k2, .int .i64 d2', .slice A2' ns2.length ca2, .slice B2' ks2.length cb2] 25)) := HB2.out.trans (hb5a.mono hs2)
          have hall : Keeps (fun a => some a ≠ (Value.slice A1 j k1).ownBlock) wr w6 := (Keeps.of_below hbra).trans (Keeps.grown hg6 (fun r hr h => h hr.symm))
          have hno : ∀ a, a < wL.heap.size → some a ≠ (Value.slice A1 j k1).ownBlock := fun a ha e => by have := (HBOX.out a e.symm).1; omega
          have hgeo : ∀ g : IG, g.In (fun a => wL.heap.size ≤ a ∧ some a ≠ (Value.slice A1 j k1).ownBlock) (w5.alloc (.cells #[.int .i64 k2, .int .i64 d2', .slice A2' ns2.length ca2, .slice B2' ks2.length cb2] 25)) → g.In (fun a => wL.heap.size ≤ a ∧ some a ≠ (Value.slice A5 (j + 1) c5).ownBlock) (w6.setCell ⟨w1.heap.size, 3, none⟩ (.slice A5 (j + 1) c5)) := fun g hg => by
            refine IG.less (fun a ha => ⟨ha.1.1, fun e => ?_⟩) (IG.keep ((Keeps.grown hg6 (fun r hr ha => ha.1.2 hr.symm)).trans (Keeps.set (p := ⟨w1.heap.size, 3, none⟩) (fun h => by have h0 : wL.heap.size ≤ w1.heap.size := h.1.1; omega) _)) (IG.old hg))
            rcases ha6 with h | h
            · exact ha.1.2 (e.trans h)
            · rw [h] at e
              have h1 := Option.some.inj e
              have h2 := ha.2
              omega
          have hbw : Below w1.heap.size w1 (w6.setCell ⟨w1.heap.size, 3, none⟩ (.slice A5 (j + 1) c5)) := by
            have h1 := HBLR.out.trans (hbra.mono HBLR.out.size)
            exact (h1.grown hg6 h1.size (fun r hr => by have := (HBOX.out r hr).1; omega)).setCell (Nat.le_refl _) _
          refine ⟨j + 1, L ++ [.mk k2 d2' A2' ca2 ns2 B2' cb2 ks2], A5, c5, by omega, by go_num, by rw [List.length_append, HLL.out]; rfl, hcap, ?_, ?_, ?_, ?_, hbw, by have := hg6.size; have := hbk5.size; simp at *; omega⟩
          · rw [List.take_add_one, HGE.out, List.map_append, List.map_append, HLP.out, List.map_cons, hp5, HGP.out]
            rfl
          · intro g hg
            rcases List.mem_append.1 hg with hg | hg
            · exact hgeo g (IG.up hbra (HLIN.out g hg))
            · have := List.mem_singleton.1 hg
              subst this
              refine hgeo _ (IG.up ((Below.refl _ _).alloc (Nat.le_refl _) _) (IG.less (fun a ha => ?_) HH5.out))
              exact ⟨Nat.le_trans hsK ha, fun e => by have h1 := (HBOX.out a e.symm).2; have h2 : w2.heap.size ≤ a := ha; omega⟩
          · rw [List.flatMap_append, List.flatMap_cons, List.flatMap_nil, List.append_nil]
            exact ho6.kept (grown_set w6 ⟨w1.heap.size, 3, none⟩ (.slice A5 (j + 1) c5)) (.inr (fun e => by have h1 : wL.heap.size ≤ w1.heap.size := (ho6.lt _ e).1; omega))
          · have := (Blk.keep HOB.out hall (hno _ (by omega))).set_ 3 (.slice A5 (j + 1) c5)
            simpa using this
    · obtain rfl : j = n := by omega
      have hltI : (j : Int) ≤ (j : Int) := Int.le_refl _
      have htk : kids.take j = kids := List.take_of_length_le (by rw [← HN.out]; exact Nat.le_refl _)
      obtain ⟨o0, o1, o2, o3, -, -, -, -, ol⟩ := cells4 HOK.out
      obtain ⟨z0, z1, z2, z3, y0, y1, y2, y3, zl⟩ := cells4 (HD1.out.below HBLK.out HD1.out.lt)
      have HLP2 := Lib.hid (show L.map IG.plain = kids.map MG.plain from by rw [HLP.out, htk])
      clear htk
      go_wp2_with fail
      have hszv := HSZ.out
      have hd1 := HD1.out.lt
      refine bodyPost_ret (v := .agg #[.int .i64 5, .int .i64 d, .slice none 0 0, .slice A1 j k1]) (by simp [results, Tryz.results91, go_sem, z0, z1, z2, z3, zl]) rfl ?_
      have hfin := IPost.store (g := .mk 5 d none 0 [] A1 k1 L) (w := w) (w' := w2) (p := .mk 5 d [] (kids.map MG.plain)) (R := w.heap.size + 1) ?_ (by rw [IG.plain_eq, HLP2.out]) (HBL1.out.trans (HBLK.out.mono HBL1.out.size)) (Nat.le_add_right _ 1) (.int .i64 5) (.int .i64 d) (.slice none 0 0) (.slice A1 j k1)
      · rw [IG.enc, HLL.out] at hfin
        exact hfin
      · rw [IG.In]
        refine ⟨⟨by decide, HWF.out⟩, ⟨by simp, by rw [HLL.out]; unfold big; omega⟩, ⟨by simp, by rw [HLL.out]; exact hjk⟩, ⟨by simp [Sl, FL], fun h => absurd h (by simp)⟩, ?_, IG.inL_iff.2 fun g hg => ?_⟩
        · rw [HLL.out]
          have h1 : SlS (fun a => wL.heap.size ≤ a) w2 A1 j 4 (L.flatMap IG.enc) := ⟨Sl.of_own HOWK.out, fun _ a ha => (HOWK.out.lt a.block (by rw [ha]; rfl)).1⟩
          exact SlS.less h1 (fun a ha => by have h2 : wL.heap.size ≤ a := ha; show w.heap.size + 1 < a; omega)
        · exact IG.less (fun a ha => by have h2 : wL.heap.size ≤ a := ha.1; show w.heap.size + 1 < a; omega) (IG.up HB2.out (HLIN.out g hg))


set_option maxHeartbeats 16000000 in
set_option maxRecDepth 100000 in
theorem plainMultiPolygonC {d : Nat} {A : Option Addr} {c : Nat} {kids : List MG} (hC : ∀ g ∈ kids, g.kind = 3 → PlainC 89 g) : PlainC 92 (.mu 6 d A c kids) := fun S w h0 => by
  have h := h0
  rw [MG.In] at h
  obtain ⟨hd, -, hkb, hA0, hkid0⟩ := h
  have hE : ∀ g ∈ kids, g.enc.length = 2 := MG.enc_esz hkid0 (by decide)
  have hkid := MG.inL_iff.1 hkid0
  have hwf : (Lit.int .i64 (d : Int)).wf = true := by
    obtain rfl | rfl | rfl | rfl := four hd <;> decide
  have hcv : IntKind.i64.wrap (d : Int) = d := IntWalk.i64_in _ (by omega)
  rw [MG.plain_mu]
  obtain ⟨i0, hi, hz0, hz1, hz2⟩ := info_parts infoGm
  obtain ⟨n, hn⟩ : ∃ n, n = kids.length := ⟨_, rfl⟩
  have hNTH := fun (w' : World) (hb : Below w.heap.size w w') (i : Nat) (g : MG) (hi : kids[i]? = some g) => nth6 (c := c) (d := .int .u8 d) (hA0.1.up hb) hE hkb hi (hkid g (List.mem_of_getElem? hi)).1 (hkid g (List.mem_of_getElem? hi)).2
  rw [← hn] at hNTH
  show Calls Tryz.prog 92 #[.agg #[.slice A kids.length c, .int .u8 d]] w _
  rw [← hn]
  obtain ⟨wA, hwA⟩ : ∃ wA, wA = (w.alloc (.cells #[.slice A n c, .int .u8 d] 98)).alloc (.cells #[.int .i64 0, .int .i64 0, .slice none 0 0, .slice none 0 0] 25) := ⟨_, rfl⟩
  have hbl : Below w.heap.size w wA := by rw [hwA]; exact ((Below.refl _ _).alloc (Nat.le_refl _) _).alloc (by simp) _
  have hB : Blk wA w.heap.size 98 #[.slice A n c, .int .u8 d] := by rw [hwA]; exact (Blk.new _ _ _).alloc _
  have hD : Blk wA (w.heap.size + 1) 25 #[.int .i64 0, .int .i64 0, .slice none 0 0, .slice none 0 0] := by
    rw [hwA]
    have := Blk.new (w.alloc (.cells #[.slice A n c, .int .u8 d] 98)) 25 #[.int .i64 0, .int .i64 0, .slice none 0 0, .slice none 0 0]
    simpa using this
  have HNTH := Lib.hid hNTH
  have HPLC := Lib.hid (fun g hg w' (hb : Below w.heap.size w w') => hC g hg (hkid g hg).1 S w' (MG.up hb (hkid g hg).2))
  have HN := Lib.hid hn
  have HB := Lib.hid hB
  have HD := Lib.hid hD
  have HBL := Lib.hid hbl
  have HWA := Lib.hid hwA
  have HWF := Lib.hid hwf
  have hn2 : n ≤ 1099511627776 := by rw [hn]; exact hkb
  clear h0 hA0 hkid0 hkid hE hwf hNTH hB hD hbl hwA hn hkb hC hd
  go_enter Tryz.func92, Tryz.ntmps92
  go_wp2_with fail
  rw [← HWA.out]
  refine (ctype6 _ _ _).mono ?_
  rintro e w1 ⟨rfl, hb1⟩
  have HB1 := Lib.hid (HB.out.below hb1 HB.out.lt)
  have HD1 := Lib.hid (HD.out.below hb1 HD.out.lt)
  have HBL1 := Lib.hid (HBL.out.trans (hb1.mono HBL.out.size))
  clear hb1 HB HD HBL HWA
  obtain ⟨wL, hwL⟩ : ∃ wL, wL = w1.alloc (.cells #[.int .i64 6, .int .i64 d, .slice none 0 0, .slice none 0 0] 25) := ⟨_, rfl⟩
  have hG : Blk wL w1.heap.size 25 #[.int .i64 6, .int .i64 d, .slice none 0 0, .slice none 0 0] := by rw [hwL]; exact Blk.new _ _ _
  have hbL : Below w1.heap.size w1 wL := by rw [hwL]; exact (Below.refl _ _).alloc (Nat.le_refl _) _
  have hszL : wL.heap.size = w1.heap.size + 1 := by rw [hwL]; simp
  have HWL := Lib.hid hwL
  have HG := Lib.hid hG
  have HBL2 := Lib.hid hbL
  have HSZ := Lib.hid hszL
  clear hwL hG hbL hszL
  go_wp2_with fail
  rw [← HWL.out]
  go_loopg [4] n (fun q ci wr => ∃ (j : Nat) (L : List IG) (A1 : Option Addr) (k1 : Nat), j + q = n ∧ ci = .int .i64 (j : Nat) ∧ L.length = j ∧ j ≤ k1 ∧ L.map IG.plain = (kids.take j).map MG.plain ∧ (∀ g ∈ L, g.In (fun a => wL.heap.size ≤ a ∧ some a ≠ (Value.slice A1 j k1).ownBlock) wr) ∧ wr.ownsRow wL.heap.size 25 4 (.slice A1 j k1) j (L.flatMap IG.enc) ∧
      Blk wr w1.heap.size 25 #[.int .i64 6, .int .i64 d, .slice none 0 0, .slice A1 j k1] ∧ Below w1.heap.size w1 wr ∧ wL.heap.size ≤ wr.heap.size)
  case atStart => exact ⟨0, [], none, 0, by omega, by go_num, rfl, Nat.le_refl _, rfl, (fun g hg => by cases hg), World.ownsRow_nil _ _ _ _, HG.out, HBL2.out, Nat.le_refl _⟩
  case round =>
    obtain ⟨j, L, A1, k1, hj', rfl, hll, hjk, hlp, hlin, hown, hO, hbl, hsr⟩ := hrel
    have HJL := Lib.hid hj'
    have HLL := Lib.hid hll
    have HLP := Lib.hid hlp
    have HLIN := Lib.hid hlin
    have HOWN := Lib.hid hown
    have HOB := Lib.hid hO
    have HBLR := Lib.hid hbl
    have hjn : j ≤ n := by omega
    obtain ⟨s0, s1, -, -, sl⟩ := cells2 (HB1.out.below hbl HB1.out.lt)
    clear hj' hll hlp hlin hown hO hbl
    go_wp2_with fail
    refine (num6 _ _ _ _ _).mono ?_
    rintro e w2 ⟨rfl, hb2⟩
    have HB2 := Lib.hid hb2
    have HBLK := Lib.hid (HBLR.out.trans (hb2.mono HBLR.out.size))
    have HOWK := Lib.hid (HOWN.out.kept (grown_below (row := none) hb2) (own_row _))
    have HOK := Lib.hid (HOB.out.below hb2 HOB.out.lt)
    have hs2 := hb2.size
    have hsK : wL.heap.size ≤ w2.heap.size := Nat.le_trans hsr hs2
    clear hb2 s0 s1 sl
    by_cases hlt : j < n
    · have hik : j < kids.length := by rw [← HN.out]; exact hlt
      obtain ⟨g, hg⟩ : ∃ g, kids[j]? = some g := ⟨kids[j], List.getElem?_eq_getElem hik⟩
      have HGE := Lib.hid hg
      have hmem := List.mem_of_getElem? hg
      have hltI : (j : Int) < (n : Int) := by omega
      have HBW := Lib.hid (HBL1.out.trans (HBLK.out.mono HBL1.out.size))
      have HNT := Lib.hid (fun w' (hb : Below w2.heap.size w2 w') => HNTH.out w' (HBW.out.trans (hb.mono HBW.out.size)) j g hg)
      have HPC := Lib.hid (fun w' (hb : Below w2.heap.size w2 w') => HPLC.out g hmem w' (HBW.out.trans (hb.mono HBW.out.size)))
      obtain ⟨ge, hge⟩ : ∃ ge, ge = g.enc.toArray := ⟨_, rfl⟩
      obtain ⟨gp, hgp⟩ : ∃ gp, gp = g.plain := ⟨_, rfl⟩
      rw [← hge] at HNT HPC
      rw [← hgp] at HPC
      have HGP := Lib.hid hgp
      obtain ⟨s0, s1, -, -, sl⟩ := cells2 (HB1.out.below HBLK.out HB1.out.lt)
      have hbox : ∀ r, (Value.slice A1 j k1).ownBlock = some r → wL.heap.size ≤ r ∧ r < w2.heap.size := fun r hr => HOWK.out.lt r hr
      have HKS := Lib.hid (show ∀ w', Keeps (fun a => a < w2.heap.size ∧ some a ≠ (Value.slice A1 j k1).ownBlock) w2 w' → w'.cell? ⟨w1.heap.size, 3, none⟩ = some (.slice A1 j k1) ∧ w'.frozen? ⟨w1.heap.size, 3, none⟩ = false from fun w' hk => by
        have h1 := Blk.keep HOK.out hk ⟨HOK.out.lt, fun e => by have := (hbox _ e.symm).1; have := HSZ.out; omega⟩
        exact ⟨h1.cell 3, h1.frozen 3 (show 3 < 4 by omega)⟩)
      have HBOX := Lib.hid hbox
      obtain ⟨s3, sf⟩ := HKS.out w2 (Keeps.refl _ _)
      clear hg hmem hik hge hgp hbox
      go_wp2_with fail
      go_region_law (first
            | (refine step_append_sl _ (by rfl) _ _ _ (by rfl) wL.heap.size 25 i0 _ 4 64 Tryz.underlying23 hi hz0 hz1 hz2 rfl (by decide) (.slice A1 j k1) j (L.flatMap IG.enc) (by rfl) (ho5.alloc (.cells #[.int .i64 k2, .int .i64 d2', .slice A2' ns2.length ca2, .slice B2' ks2.length cb2] 25))
                   (w5.alloc (.cells #[.int .i64 k2, .int .i64 d2', .slice A2' ns2.length ca2, .slice B2' ks2.length cb2] 25)).heap.size (some ⟨w5.heap.size, 0, none⟩) 1 1 [.int .i64 k2, .int .i64 d2', .slice A2' ns2.length ca2, .slice B2' ks2.length cb2] (by rfl) (slBlk (n := 1) (c := 4) (heap_alloc_new w5 _) rfl (by unfold maxLen; omega)) (IG.enc_one (.mk k2 d2' A2' ca2 ns2 B2' cb2 ks2)) (by unfold maxLen; omega) (by omega) (by have := hbk5.size; have := hsK; simp; omega) ?_; intro A5 c5 w6 ho6 hg6 ha6
               have hk6 : Keeps (fun a => a < w2.heap.size ∧ some a ≠ (Value.slice A1 j k1).ownBlock) w2 w6 := (hk5.alloc (.cells #[.int .i64 k2, .int .i64 d2', .slice A2' ns2.length ca2, .slice B2' ks2.length cb2] 25)).trans (Keeps.grown hg6 (fun r hr h => h.2 hr.symm))
               obtain ⟨v3, vf⟩ := HKS.out w6 hk6)
            | (go_simp
               go_at_call 83; refine (HNT.out _ (by first | exact (Below.refl _ _).drew | exact Below.refl _ _)).mono ?_
               rintro e w3 ⟨rfl, hb3⟩
               have hbk3 : Below w2.heap.size w2 w3 := by first | exact hb3 | exact ((Below.refl w2.heap.size w2).drew).trans hb3
               have hk3 : Keeps (fun a => a < w2.heap.size ∧ some a ≠ (Value.slice A1 j k1).ownBlock) w2 w3 := .of_below hbk3
               obtain ⟨r3, rf⟩ := HKS.out w3 hk3
               try dsimp only)
            | (go_simp
               go_at_call 89; refine (HPC.out _ (by first | exact hbk3 | exact hbk3.drew)).mono ?_
               rintro e w5 ⟨⟨k2, d2', A2', ca2, ns2, B2', cb2, ks2⟩, rfl, h5, hp5, hb5⟩
               have hbk5 : Below w2.heap.size w2 w5 := by first | exact hbk3.trans (hb5.mono hbk3.size) | exact hbk3.drew.trans (hb5.mono hbk3.size)
               have hk5 : Keeps (fun a => a < w2.heap.size ∧ some a ≠ (Value.slice A1 j k1).ownBlock) w2 w5 := .of_below hbk5
               obtain ⟨t3, tf⟩ := HKS.out w5 hk5
               have t3a : ∀ ob, (w5.alloc ob).cell? ⟨w1.heap.size, 3, none⟩ = some (.slice A1 j k1) := fun ob => (HKS.out (w5.alloc ob) (hk5.alloc ob)).1
               have t3d : ∀ ob, (w5.alloc ob).drew.cell? ⟨w1.heap.size, 3, none⟩ = some (.slice A1 j k1) := fun ob => (HKS.out (w5.alloc ob).drew (hk5.alloc ob).drew).1
               have ho5 := HOWK.out.kept (grown_below (row := none) hbk5) (own_row _)
               have HH5 : Hid ((IG.mk k2 d2' A2' ca2 ns2 B2' cb2 ks2).In (fun a => w2.heap.size ≤ a) w5) := Lib.hid (IG.less (fun a ha => Nat.le_trans hbk3.size ha) h5)
               rw [show (IG.mk k2 d2' A2' ca2 ns2 B2' cb2 ks2).enc.toArray = #[.int .i64 k2, .int .i64 d2', .slice A2' ns2.length ca2, .slice B2' ks2.length cb2] from rfl]
               try dsimp only))
      all_goals
        go_wp2_with fail
        go_roundg (n - (j + 1))
        case measure => have := HJL.out; omega
        case rel =>
          have hob := HOB.out.lt
          have hszv := HSZ.out
          have hcap : j + 1 ≤ c5 := by
            rcases ho6.2 with ⟨hbad, h0⟩ | ⟨g, cap, cur, hv, _, _, h1, _⟩
            · omega
            · simp only [Value.slice.injEq] at hv
              omega
          have hb5a : Below w2.heap.size w2 (w5.alloc (.cells #[.int .i64 k2, .int .i64 d2', .slice A2' ns2.length ca2, .slice B2' ks2.length cb2] 25)) := hbk5.alloc hbk5.size _
          have hbra : Below wr.heap.size wr (w5.alloc (.cells #[.int .i64 k2, .int .i64 d2', .slice A2' ns2.length ca2, .slice B2' ks2.length cb2] 25)) := HB2.out.trans (hb5a.mono hs2)
          have hall : Keeps (fun a => some a ≠ (Value.slice A1 j k1).ownBlock) wr w6 := (Keeps.of_below hbra).trans (Keeps.grown hg6 (fun r hr h => h hr.symm))
          have hno : ∀ a, a < wL.heap.size → some a ≠ (Value.slice A1 j k1).ownBlock := fun a ha e => by have := (HBOX.out a e.symm).1; omega
          have hgeo : ∀ g : IG, g.In (fun a => wL.heap.size ≤ a ∧ some a ≠ (Value.slice A1 j k1).ownBlock) (w5.alloc (.cells #[.int .i64 k2, .int .i64 d2', .slice A2' ns2.length ca2, .slice B2' ks2.length cb2] 25)) → g.In (fun a => wL.heap.size ≤ a ∧ some a ≠ (Value.slice A5 (j + 1) c5).ownBlock) (w6.setCell ⟨w1.heap.size, 3, none⟩ (.slice A5 (j + 1) c5)) := fun g hg => by
            refine IG.less (fun a ha => ⟨ha.1.1, fun e => ?_⟩) (IG.keep ((Keeps.grown hg6 (fun r hr ha => ha.1.2 hr.symm)).trans (Keeps.set (p := ⟨w1.heap.size, 3, none⟩) (fun h => by have h0 : wL.heap.size ≤ w1.heap.size := h.1.1; omega) _)) (IG.old hg))
            rcases ha6 with h | h
            · exact ha.1.2 (e.trans h)
            · rw [h] at e
              have h1 := Option.some.inj e
              have h2 := ha.2
              omega
          have hbw : Below w1.heap.size w1 (w6.setCell ⟨w1.heap.size, 3, none⟩ (.slice A5 (j + 1) c5)) := by
            have h1 := HBLR.out.trans (hbra.mono HBLR.out.size)
            exact (h1.grown hg6 h1.size (fun r hr => by have := (HBOX.out r hr).1; omega)).setCell (Nat.le_refl _) _
          refine ⟨j + 1, L ++ [.mk k2 d2' A2' ca2 ns2 B2' cb2 ks2], A5, c5, by omega, by go_num, by rw [List.length_append, HLL.out]; rfl, hcap, ?_, ?_, ?_, ?_, hbw, by have := hg6.size; have := hbk5.size; simp at *; omega⟩
          · rw [List.take_add_one, HGE.out, List.map_append, List.map_append, HLP.out, List.map_cons, hp5, HGP.out]
            rfl
          · intro g hg
            rcases List.mem_append.1 hg with hg | hg
            · exact hgeo g (IG.up hbra (HLIN.out g hg))
            · have := List.mem_singleton.1 hg
              subst this
              refine hgeo _ (IG.up ((Below.refl _ _).alloc (Nat.le_refl _) _) (IG.less (fun a ha => ?_) HH5.out))
              exact ⟨Nat.le_trans hsK ha, fun e => by have h1 := (HBOX.out a e.symm).2; have h2 : w2.heap.size ≤ a := ha; omega⟩
          · rw [List.flatMap_append, List.flatMap_cons, List.flatMap_nil, List.append_nil]
            exact ho6.kept (grown_set w6 ⟨w1.heap.size, 3, none⟩ (.slice A5 (j + 1) c5)) (.inr (fun e => by have h1 : wL.heap.size ≤ w1.heap.size := (ho6.lt _ e).1; omega))
          · have := (Blk.keep HOB.out hall (hno _ (by omega))).set_ 3 (.slice A5 (j + 1) c5)
            simpa using this
    · obtain rfl : j = n := by omega
      have hltI : (j : Int) ≤ (j : Int) := Int.le_refl _
      have htk : kids.take j = kids := List.take_of_length_le (by rw [← HN.out]; exact Nat.le_refl _)
      obtain ⟨o0, o1, o2, o3, -, -, -, -, ol⟩ := cells4 HOK.out
      obtain ⟨z0, z1, z2, z3, y0, y1, y2, y3, zl⟩ := cells4 (HD1.out.below HBLK.out HD1.out.lt)
      have HLP2 := Lib.hid (show L.map IG.plain = kids.map MG.plain from by rw [HLP.out, htk])
      clear htk
      go_wp2_with fail
      have hszv := HSZ.out
      have hd1 := HD1.out.lt
      refine bodyPost_ret (v := .agg #[.int .i64 6, .int .i64 d, .slice none 0 0, .slice A1 j k1]) (by simp [results, Tryz.results92, go_sem, z0, z1, z2, z3, zl]) rfl ?_
      have hfin := IPost.store (g := .mk 6 d none 0 [] A1 k1 L) (w := w) (w' := w2) (p := .mk 6 d [] (kids.map MG.plain)) (R := w.heap.size + 1) ?_ (by rw [IG.plain_eq, HLP2.out]) (HBL1.out.trans (HBLK.out.mono HBL1.out.size)) (Nat.le_add_right _ 1) (.int .i64 6) (.int .i64 d) (.slice none 0 0) (.slice A1 j k1)
      · rw [IG.enc, HLL.out] at hfin
        exact hfin
      · rw [IG.In]
        refine ⟨⟨by decide, HWF.out⟩, ⟨by simp, by rw [HLL.out]; unfold big; omega⟩, ⟨by simp, by rw [HLL.out]; exact hjk⟩, ⟨by simp [Sl, FL], fun h => absurd h (by simp)⟩, ?_, IG.inL_iff.2 fun g hg => ?_⟩
        · rw [HLL.out]
          have h1 : SlS (fun a => wL.heap.size ≤ a) w2 A1 j 4 (L.flatMap IG.enc) := ⟨Sl.of_own HOWK.out, fun _ a ha => (HOWK.out.lt a.block (by rw [ha]; rfl)).1⟩
          exact SlS.less h1 (fun a ha => by have h2 : wL.heap.size ≤ a := ha; show w.heap.size + 1 < a; omega)
        · exact IG.less (fun a ha => by have h2 : wL.heap.size ≤ a := ha.1; show w.heap.size + 1 < a; omega) (IG.up HB2.out (HLIN.out g hg))


set_option maxHeartbeats 16000000 in
set_option maxRecDepth 100000 in
theorem plainCollectionC {d : Nat} {A : Option Addr} {c : Nat} {kids : List MG} (hC : ∀ g ∈ kids, g.kind = 7 → PlainC 35 g) : PlainC 93 (.mu 0 d A c kids) := fun S w h0 => by
  have h := h0
  rw [MG.In] at h
  obtain ⟨hd, -, hkb, hA0, hkid0⟩ := h
  have hE : ∀ g ∈ kids, g.enc.length = 2 := MG.enc_esz hkid0 (by decide)
  have hkid := MG.inL_iff.1 hkid0
  have hwf : (Lit.int .i64 (d : Int)).wf = true := by
    obtain rfl | rfl | rfl | rfl := four hd <;> decide
  have hcv : IntKind.i64.wrap (d : Int) = d := IntWalk.i64_in _ (by omega)
  rw [MG.plain_mu]
  obtain ⟨i0, hi, hz0, hz1, hz2⟩ := info_parts infoGm
  obtain ⟨n, hn⟩ : ∃ n, n = kids.length := ⟨_, rfl⟩
  have hNTH := fun (w' : World) (hb : Below w.heap.size w w') (i : Nat) (g : MG) (hi : kids[i]? = some g) => nth0 (c := c) (d := .int .u8 d) (hA0.1.up hb) hE hkb hi (hkid g (List.mem_of_getElem? hi)).1 (hkid g (List.mem_of_getElem? hi)).2
  rw [← hn] at hNTH
  show Calls Tryz.prog 93 #[.agg #[.slice A kids.length c, .int .u8 d]] w _
  rw [← hn]
  obtain ⟨wA, hwA⟩ : ∃ wA, wA = (w.alloc (.cells #[.slice A n c, .int .u8 d] 102)).alloc (.cells #[.int .i64 0, .int .i64 0, .slice none 0 0, .slice none 0 0] 25) := ⟨_, rfl⟩
  have hbl : Below w.heap.size w wA := by rw [hwA]; exact ((Below.refl _ _).alloc (Nat.le_refl _) _).alloc (by simp) _
  have hB : Blk wA w.heap.size 102 #[.slice A n c, .int .u8 d] := by rw [hwA]; exact (Blk.new _ _ _).alloc _
  have hD : Blk wA (w.heap.size + 1) 25 #[.int .i64 0, .int .i64 0, .slice none 0 0, .slice none 0 0] := by
    rw [hwA]
    have := Blk.new (w.alloc (.cells #[.slice A n c, .int .u8 d] 102)) 25 #[.int .i64 0, .int .i64 0, .slice none 0 0, .slice none 0 0]
    simpa using this
  have HNTH := Lib.hid hNTH
  have HPLC := Lib.hid (fun g hg w' (hb : Below w.heap.size w w') => hC g hg (hkid g hg).1 S w' (MG.up hb (hkid g hg).2))
  have HN := Lib.hid hn
  have HB := Lib.hid hB
  have HD := Lib.hid hD
  have HBL := Lib.hid hbl
  have HWA := Lib.hid hwA
  have HWF := Lib.hid hwf
  have hn2 : n ≤ 1099511627776 := by rw [hn]; exact hkb
  clear h0 hA0 hkid0 hkid hE hwf hNTH hB hD hbl hwA hn hkb hC hd
  go_enter Tryz.func93, Tryz.ntmps93
  go_wp2_with fail
  rw [← HWA.out]
  refine (ctype0 _ _ _).mono ?_
  rintro e w1 ⟨rfl, hb1⟩
  have HB1 := Lib.hid (HB.out.below hb1 HB.out.lt)
  have HD1 := Lib.hid (HD.out.below hb1 HD.out.lt)
  have HBL1 := Lib.hid (HBL.out.trans (hb1.mono HBL.out.size))
  clear hb1 HB HD HBL HWA
  obtain ⟨wL, hwL⟩ : ∃ wL, wL = w1.alloc (.cells #[.int .i64 0, .int .i64 d, .slice none 0 0, .slice none 0 0] 25) := ⟨_, rfl⟩
  have hG : Blk wL w1.heap.size 25 #[.int .i64 0, .int .i64 d, .slice none 0 0, .slice none 0 0] := by rw [hwL]; exact Blk.new _ _ _
  have hbL : Below w1.heap.size w1 wL := by rw [hwL]; exact (Below.refl _ _).alloc (Nat.le_refl _) _
  have hszL : wL.heap.size = w1.heap.size + 1 := by rw [hwL]; simp
  have HWL := Lib.hid hwL
  have HG := Lib.hid hG
  have HBL2 := Lib.hid hbL
  have HSZ := Lib.hid hszL
  clear hwL hG hbL hszL
  go_wp2_with fail
  rw [← HWL.out]
  go_loopg [4] n (fun q ci wr => ∃ (j : Nat) (L : List IG) (A1 : Option Addr) (k1 : Nat), j + q = n ∧ ci = .int .i64 (j : Nat) ∧ L.length = j ∧ j ≤ k1 ∧ L.map IG.plain = (kids.take j).map MG.plain ∧ (∀ g ∈ L, g.In (fun a => wL.heap.size ≤ a ∧ some a ≠ (Value.slice A1 j k1).ownBlock) wr) ∧ wr.ownsRow wL.heap.size 25 4 (.slice A1 j k1) j (L.flatMap IG.enc) ∧
      Blk wr w1.heap.size 25 #[.int .i64 0, .int .i64 d, .slice none 0 0, .slice A1 j k1] ∧ Below w1.heap.size w1 wr ∧ wL.heap.size ≤ wr.heap.size)
  case atStart => exact ⟨0, [], none, 0, by omega, by go_num, rfl, Nat.le_refl _, rfl, (fun g hg => by cases hg), World.ownsRow_nil _ _ _ _, HG.out, HBL2.out, Nat.le_refl _⟩
  case round =>
    obtain ⟨j, L, A1, k1, hj', rfl, hll, hjk, hlp, hlin, hown, hO, hbl, hsr⟩ := hrel
    have HJL := Lib.hid hj'
    have HLL := Lib.hid hll
    have HLP := Lib.hid hlp
    have HLIN := Lib.hid hlin
    have HOWN := Lib.hid hown
    have HOB := Lib.hid hO
    have HBLR := Lib.hid hbl
    have hjn : j ≤ n := by omega
    obtain ⟨s0, s1, -, -, sl⟩ := cells2 (HB1.out.below hbl HB1.out.lt)
    clear hj' hll hlp hlin hown hO hbl
    go_wp2_with fail
    refine (num0 _ _ _ _ _).mono ?_
    rintro e w2 ⟨rfl, hb2⟩
    have HB2 := Lib.hid hb2
    have HBLK := Lib.hid (HBLR.out.trans (hb2.mono HBLR.out.size))
    have HOWK := Lib.hid (HOWN.out.kept (grown_below (row := none) hb2) (own_row _))
    have HOK := Lib.hid (HOB.out.below hb2 HOB.out.lt)
    have hs2 := hb2.size
    have hsK : wL.heap.size ≤ w2.heap.size := Nat.le_trans hsr hs2
    clear hb2 s0 s1 sl
    by_cases hlt : j < n
    · have hik : j < kids.length := by rw [← HN.out]; exact hlt
      obtain ⟨g, hg⟩ : ∃ g, kids[j]? = some g := ⟨kids[j], List.getElem?_eq_getElem hik⟩
      have HGE := Lib.hid hg
      have hmem := List.mem_of_getElem? hg
      have hltI : (j : Int) < (n : Int) := by omega
      have HBW := Lib.hid (HBL1.out.trans (HBLK.out.mono HBL1.out.size))
      have HNT := Lib.hid (fun w' (hb : Below w2.heap.size w2 w') => HNTH.out w' (HBW.out.trans (hb.mono HBW.out.size)) j g hg)
      have HPC := Lib.hid (fun w' (hb : Below w2.heap.size w2 w') => HPLC.out g hmem w' (HBW.out.trans (hb.mono HBW.out.size)))
      obtain ⟨ge, hge⟩ : ∃ ge, ge = g.enc.toArray := ⟨_, rfl⟩
      obtain ⟨gp, hgp⟩ : ∃ gp, gp = g.plain := ⟨_, rfl⟩
      rw [← hge] at HNT HPC
      rw [← hgp] at HPC
      have HGP := Lib.hid hgp
      obtain ⟨s0, s1, -, -, sl⟩ := cells2 (HB1.out.below HBLK.out HB1.out.lt)
      have hbox : ∀ r, (Value.slice A1 j k1).ownBlock = some r → wL.heap.size ≤ r ∧ r < w2.heap.size := fun r hr => HOWK.out.lt r hr
      have HKS := Lib.hid (show ∀ w', Keeps (fun a => a < w2.heap.size ∧ some a ≠ (Value.slice A1 j k1).ownBlock) w2 w' → w'.cell? ⟨w1.heap.size, 3, none⟩ = some (.slice A1 j k1) ∧ w'.frozen? ⟨w1.heap.size, 3, none⟩ = false from fun w' hk => by
        have h1 := Blk.keep HOK.out hk ⟨HOK.out.lt, fun e => by have := (hbox _ e.symm).1; have := HSZ.out; omega⟩
        exact ⟨h1.cell 3, h1.frozen 3 (show 3 < 4 by omega)⟩)
      have HBOX := Lib.hid hbox
      obtain ⟨s3, sf⟩ := HKS.out w2 (Keeps.refl _ _)
      clear hg hmem hik hge hgp hbox
      go_wp2_with fail
      go_region_law (first
            | (refine step_append_sl _ (by rfl) _ _ _ (by rfl) wL.heap.size 25 i0 _ 4 64 Tryz.underlying23 hi hz0 hz1 hz2 rfl (by decide) (.slice A1 j k1) j (L.flatMap IG.enc) (by rfl) (ho5.alloc (.cells #[.int .i64 k2, .int .i64 d2', .slice A2' ns2.length ca2, .slice B2' ks2.length cb2] 25))
                   (w5.alloc (.cells #[.int .i64 k2, .int .i64 d2', .slice A2' ns2.length ca2, .slice B2' ks2.length cb2] 25)).heap.size (some ⟨w5.heap.size, 0, none⟩) 1 1 [.int .i64 k2, .int .i64 d2', .slice A2' ns2.length ca2, .slice B2' ks2.length cb2] (by rfl) (slBlk (n := 1) (c := 4) (heap_alloc_new w5 _) rfl (by unfold maxLen; omega)) (IG.enc_one (.mk k2 d2' A2' ca2 ns2 B2' cb2 ks2)) (by unfold maxLen; omega) (by omega) (by have := hbk5.size; have := hsK; simp; omega) ?_; intro A5 c5 w6 ho6 hg6 ha6
               have hk6 : Keeps (fun a => a < w2.heap.size ∧ some a ≠ (Value.slice A1 j k1).ownBlock) w2 w6 := (hk5.alloc (.cells #[.int .i64 k2, .int .i64 d2', .slice A2' ns2.length ca2, .slice B2' ks2.length cb2] 25)).trans (Keeps.grown hg6 (fun r hr h => h.2 hr.symm))
               obtain ⟨v3, vf⟩ := HKS.out w6 hk6)
            | (go_simp
               go_at_call 85; refine (HNT.out _ (by first | exact (Below.refl _ _).drew | exact Below.refl _ _)).mono ?_
               rintro e w3 ⟨rfl, hb3⟩
               have hbk3 : Below w2.heap.size w2 w3 := by first | exact hb3 | exact ((Below.refl w2.heap.size w2).drew).trans hb3
               have hk3 : Keeps (fun a => a < w2.heap.size ∧ some a ≠ (Value.slice A1 j k1).ownBlock) w2 w3 := .of_below hbk3
               obtain ⟨r3, rf⟩ := HKS.out w3 hk3
               try dsimp only)
            | (go_simp
               go_at_call 35; refine (HPC.out _ (by first | exact hbk3 | exact hbk3.drew)).mono ?_
               rintro e w5 ⟨⟨k2, d2', A2', ca2, ns2, B2', cb2, ks2⟩, rfl, h5, hp5, hb5⟩
               have hbk5 : Below w2.heap.size w2 w5 := by first | exact hbk3.trans (hb5.mono hbk3.size) | exact hbk3.drew.trans (hb5.mono hbk3.size)
               have hk5 : Keeps (fun a => a < w2.heap.size ∧ some a ≠ (Value.slice A1 j k1).ownBlock) w2 w5 := .of_below hbk5
               obtain ⟨t3, tf⟩ := HKS.out w5 hk5
               have t3a : ∀ ob, (w5.alloc ob).cell? ⟨w1.heap.size, 3, none⟩ = some (.slice A1 j k1) := fun ob => (HKS.out (w5.alloc ob) (hk5.alloc ob)).1
               have t3d : ∀ ob, (w5.alloc ob).drew.cell? ⟨w1.heap.size, 3, none⟩ = some (.slice A1 j k1) := fun ob => (HKS.out (w5.alloc ob).drew (hk5.alloc ob).drew).1
               have ho5 := HOWK.out.kept (grown_below (row := none) hbk5) (own_row _)
               have HH5 : Hid ((IG.mk k2 d2' A2' ca2 ns2 B2' cb2 ks2).In (fun a => w2.heap.size ≤ a) w5) := Lib.hid (IG.less (fun a ha => Nat.le_trans hbk3.size ha) h5)
               rw [show (IG.mk k2 d2' A2' ca2 ns2 B2' cb2 ks2).enc.toArray = #[.int .i64 k2, .int .i64 d2', .slice A2' ns2.length ca2, .slice B2' ks2.length cb2] from rfl]
               try dsimp only))
      all_goals
        go_wp2_with fail
        go_roundg (n - (j + 1))
        case measure => have := HJL.out; omega
        case rel =>
          have hob := HOB.out.lt
          have hszv := HSZ.out
          have hcap : j + 1 ≤ c5 := by
            rcases ho6.2 with ⟨hbad, h0⟩ | ⟨g, cap, cur, hv, _, _, h1, _⟩
            · omega
            · simp only [Value.slice.injEq] at hv
              omega
          have hb5a : Below w2.heap.size w2 (w5.alloc (.cells #[.int .i64 k2, .int .i64 d2', .slice A2' ns2.length ca2, .slice B2' ks2.length cb2] 25)) := hbk5.alloc hbk5.size _
          have hbra : Below wr.heap.size wr (w5.alloc (.cells #[.int .i64 k2, .int .i64 d2', .slice A2' ns2.length ca2, .slice B2' ks2.length cb2] 25)) := HB2.out.trans (hb5a.mono hs2)
          have hall : Keeps (fun a => some a ≠ (Value.slice A1 j k1).ownBlock) wr w6 := (Keeps.of_below hbra).trans (Keeps.grown hg6 (fun r hr h => h hr.symm))
          have hno : ∀ a, a < wL.heap.size → some a ≠ (Value.slice A1 j k1).ownBlock := fun a ha e => by have := (HBOX.out a e.symm).1; omega
          have hgeo : ∀ g : IG, g.In (fun a => wL.heap.size ≤ a ∧ some a ≠ (Value.slice A1 j k1).ownBlock) (w5.alloc (.cells #[.int .i64 k2, .int .i64 d2', .slice A2' ns2.length ca2, .slice B2' ks2.length cb2] 25)) → g.In (fun a => wL.heap.size ≤ a ∧ some a ≠ (Value.slice A5 (j + 1) c5).ownBlock) (w6.setCell ⟨w1.heap.size, 3, none⟩ (.slice A5 (j + 1) c5)) := fun g hg => by
            refine IG.less (fun a ha => ⟨ha.1.1, fun e => ?_⟩) (IG.keep ((Keeps.grown hg6 (fun r hr ha => ha.1.2 hr.symm)).trans (Keeps.set (p := ⟨w1.heap.size, 3, none⟩) (fun h => by have h0 : wL.heap.size ≤ w1.heap.size := h.1.1; omega) _)) (IG.old hg))
            rcases ha6 with h | h
            · exact ha.1.2 (e.trans h)
            · rw [h] at e
              have h1 := Option.some.inj e
              have h2 := ha.2
              omega
          have hbw : Below w1.heap.size w1 (w6.setCell ⟨w1.heap.size, 3, none⟩ (.slice A5 (j + 1) c5)) := by
            have h1 := HBLR.out.trans (hbra.mono HBLR.out.size)
            exact (h1.grown hg6 h1.size (fun r hr => by have := (HBOX.out r hr).1; omega)).setCell (Nat.le_refl _) _
          refine ⟨j + 1, L ++ [.mk k2 d2' A2' ca2 ns2 B2' cb2 ks2], A5, c5, by omega, by go_num, by rw [List.length_append, HLL.out]; rfl, hcap, ?_, ?_, ?_, ?_, hbw, by have := hg6.size; have := hbk5.size; simp at *; omega⟩
          · rw [List.take_add_one, HGE.out, List.map_append, List.map_append, HLP.out, List.map_cons, hp5, HGP.out]
            rfl
          · intro g hg
            rcases List.mem_append.1 hg with hg | hg
            · exact hgeo g (IG.up hbra (HLIN.out g hg))
            · have := List.mem_singleton.1 hg
              subst this
              refine hgeo _ (IG.up ((Below.refl _ _).alloc (Nat.le_refl _) _) (IG.less (fun a ha => ?_) HH5.out))
              exact ⟨Nat.le_trans hsK ha, fun e => by have h1 := (HBOX.out a e.symm).2; have h2 : w2.heap.size ≤ a := ha; omega⟩
          · rw [List.flatMap_append, List.flatMap_cons, List.flatMap_nil, List.append_nil]
            exact ho6.kept (grown_set w6 ⟨w1.heap.size, 3, none⟩ (.slice A5 (j + 1) c5)) (.inr (fun e => by have h1 : wL.heap.size ≤ w1.heap.size := (ho6.lt _ e).1; omega))
          · have := (Blk.keep HOB.out hall (hno _ (by omega))).set_ 3 (.slice A5 (j + 1) c5)
            simpa using this
    · obtain rfl : j = n := by omega
      have hltI : (j : Int) ≤ (j : Int) := Int.le_refl _
      have htk : kids.take j = kids := List.take_of_length_le (by rw [← HN.out]; exact Nat.le_refl _)
      obtain ⟨o0, o1, o2, o3, -, -, -, -, ol⟩ := cells4 HOK.out
      obtain ⟨z0, z1, z2, z3, y0, y1, y2, y3, zl⟩ := cells4 (HD1.out.below HBLK.out HD1.out.lt)
      have HLP2 := Lib.hid (show L.map IG.plain = kids.map MG.plain from by rw [HLP.out, htk])
      clear htk
      go_wp2_with fail
      have hszv := HSZ.out
      have hd1 := HD1.out.lt
      refine bodyPost_ret (v := .agg #[.int .i64 0, .int .i64 d, .slice none 0 0, .slice A1 j k1]) (by simp [results, Tryz.results93, go_sem, z0, z1, z2, z3, zl]) rfl ?_
      have hfin := IPost.store (g := .mk 0 d none 0 [] A1 k1 L) (w := w) (w' := w2) (p := .mk 0 d [] (kids.map MG.plain)) (R := w.heap.size + 1) ?_ (by rw [IG.plain_eq, HLP2.out]) (HBL1.out.trans (HBLK.out.mono HBL1.out.size)) (Nat.le_add_right _ 1) (.int .i64 0) (.int .i64 d) (.slice none 0 0) (.slice A1 j k1)
      · rw [IG.enc, HLL.out] at hfin
        exact hfin
      · rw [IG.In]
        refine ⟨⟨by decide, HWF.out⟩, ⟨by simp, by rw [HLL.out]; unfold big; omega⟩, ⟨by simp, by rw [HLL.out]; exact hjk⟩, ⟨by simp [Sl, FL], fun h => absurd h (by simp)⟩, ?_, IG.inL_iff.2 fun g hg => ?_⟩
        · rw [HLL.out]
          have h1 : SlS (fun a => wL.heap.size ≤ a) w2 A1 j 4 (L.flatMap IG.enc) := ⟨Sl.of_own HOWK.out, fun _ a ha => (HOWK.out.lt a.block (by rw [ha]; rfl)).1⟩
          exact SlS.less h1 (fun a ha => by have h2 : wL.heap.size ≤ a := ha; show w.heap.size + 1 < a; omega)
        · exact IG.less (fun a ha => by have h2 : wL.heap.size ≤ a := ha.1; show w.heap.size + 1 < a; omega) (IG.up HB2.out (HLIN.out g hg))

end Go.Proofs.YtbacakdpfiiblaaGreat.geo
