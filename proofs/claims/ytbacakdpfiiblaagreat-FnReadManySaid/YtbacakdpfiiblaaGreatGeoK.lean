/-
  Contracts: polygons and multis made of plain data.
-/
import Derived.Test.YtbacakdpfiiblaaGreatGeoJ
namespace Go.Proofs.YtbacakdpfiiblaaGreat.geo
open Go.ChangeShapes Go.WideShapes Go.ChangeAt Go.RowKit
open Go.Proofs.YtbacakdpfiiblaaGreat.mem
set_option linter.unusedVariables false
set_option linter.unusedSimpArgs false

theorem joinG_k (k : Int) (d0 : Nat) (ks : List PG) : (joinG k d0 ks).k = k := by unfold joinG; split <;> rfl
theorem PG.new_k : ∀ g : PG, g.new.k = kd g.k
  | .mk k d ns kids => by
    rw [new_eq, PG.k]
    split
    · rename_i h; rw [PG.k, h]
    · split
      · rename_i h; rw [PG.k, h]
      · rw [joinG_k]
theorem fits_new {g : PG} {m : PG} (h : m.k = kd g.k) {k p : Int} (hk : kidK k = p) (hp : 1 ≤ p ∧ p ≤ 3) : fitsK k m = decide (g.k = p) := by
  unfold fitsK
  rw [hk, h]
  unfold kd
  rw [decide_eq_decide]
  split <;> omega

set_option maxHeartbeats 8000000 in
set_option maxRecDepth 100000 in
theorem polygon_calls {d : Int} {A : Option Addr} {ca : Nat} {ns : List Nat} {B : Option Addr} {cb : Nat} {kids : List IG} : MadeC 58 3 (.mk 3 d A ca ns B cb kids) := fun S w h hs => by
  rw [IG.In] at h
  obtain ⟨-, ⟨-, hkb⟩, -, -, hB0, hkid0⟩ := h
  rw [IG.plain_eq] at hs ⊢
  rw [PG.small] at hs
  have hkb2 : kids.length ≤ 1048576 := by have := hs.1.2; simpa using this
  have hkid := IG.inL_iff.1 hkid0
  have hsm : ∀ g ∈ kids, g.plain.small := fun g hg => smallL_iff.1 hs.2 _ (List.mem_map_of_mem hg)
  show Calls Tryz.prog 58 #[.agg #[.int .i64 3, .int .i64 d, .slice A ns.length ca, .slice B kids.length cb]] w _
  obtain ⟨wA, hwA⟩ : ∃ wA, wA = (w.alloc (.cells #[.int .i64 3, .int .i64 d, .slice A ns.length ca, .slice B kids.length cb] 25)).alloc (.cells #[.slice none 0 0, .int .u8 0] 87) := ⟨_, rfl⟩
  have hbl : Below w.heap.size w wA := by rw [hwA]; exact ((Below.refl _ _).alloc (Nat.le_refl _) _).alloc (by simp) _
  have hBx : Blk wA w.heap.size 25 #[.int .i64 3, .int .i64 d, .slice A ns.length ca, .slice B kids.length cb] := by rw [hwA]; exact (Blk.new _ _ _).alloc _
  have hD : Blk wA (w.heap.size + 1) 87 #[.slice none 0 0, .int .u8 0] := by
    rw [hwA]
    have := Blk.new (w.alloc (.cells #[.int .i64 3, .int .i64 d, .slice A ns.length ca, .slice B kids.length cb] 25)) 87 #[.slice none 0 0, .int .u8 0]
    simpa using this
  have hsz : wA.heap.size = w.heap.size + 2 := by rw [hwA]; simp
  obtain ⟨i0, hi, hz0, hz1, hz2⟩ := info_parts infoG3
  have hnew : (PG.mk 3 d ns (kids.map IG.plain)).new = joinG 3 (dm d) (((kids.map IG.plain).map PG.new).filter (fitsK 3)) := by rw [new_eq, if_neg (by decide), if_neg (by decide)]; rfl
  obtain ⟨n, hn⟩ : ∃ n, n = kids.length := ⟨_, rfl⟩
  have HSL := Lib.hid (hB0.1.up hbl)
  have HKID := Lib.hid (fun g hg w' (hb : Below wA.heap.size wA w') => IG.up hb (IG.up hbl (hkid g hg)))
  have HSM := Lib.hid hsm
  have HNEW := Lib.hid hnew
  have HBX := Lib.hid hBx
  have HD := Lib.hid hD
  have HBL := Lib.hid hbl
  have HWA := Lib.hid hwA
  have HSZ := Lib.hid hsz
  have HN := Lib.hid hn
  have hn2 : n ≤ 1048576 := by rw [hn]; exact hkb2
  rw [← hn] at HWA ⊢
  rw [← hn] at HBX
  clear hB0 hkid0 hkid hsm hnew hBx hD hbl hwA hsz hn hs hkb2 hkb
  go_enter Tryz.func58, Tryz.ntmps58
  go_wp2_with fail
  rw [← HWA.out]
  have c3 := HBX.out.cell 3
  simp only [List.getElem?_toArray, List.getElem?_cons_succ, List.getElem?_cons_zero] at c3
  have hlA := HBX.out.lt
  go_loopg [3, 9] n (fun q pv ci wr => ∃ (i : Nat) (L : List MG) (A1 : Option Addr) (k1 : Nat), i + q = n ∧ ci = .int .i64 (i : Nat) ∧ pv = .slice A1 L.length k1 ∧ L.length ≤ i ∧ L.map MG.plain = (((kids.take i).map IG.plain).map PG.new).filter (fitsK 3) ∧ (∀ g ∈ L, g.kind = 2 ∧ g.In (fun a => wA.heap.size ≤ a ∧ some a ≠ (Value.slice A1 L.length k1).ownBlock) wr) ∧ wr.ownsRow wA.heap.size 83 2 (.slice A1 L.length k1) L.length (L.flatMap MG.enc) ∧ Below wA.heap.size wA wr)
  case atStart => exact ⟨0, [], none, 0, by omega, by go_num, rfl, Nat.le_refl _, rfl, (fun g hg => by cases hg), World.ownsRow_nil _ _ _ _, Below.refl _ _⟩
  case round =>
    obtain ⟨i, L, A1, k1, hi', rfl, rfl, hll, hlp, hlin, hown, hbl⟩ := hrel
    have HIL := Lib.hid hi'
    have HLL := Lib.hid hll
    have HLP := Lib.hid hlp
    have HLIN := Lib.hid hlin
    have HOWN := Lib.hid hown
    have HBL2 := Lib.hid hbl
    have hin : i ≤ n := by omega
    have sr := hbl.size
    have hLn : L.length ≤ n := by omega
    obtain ⟨e0, e1, e2, e3, -, -, -, -, el⟩ := cells4 (HBX.out.below hbl HBX.out.lt)
    clear hi' hll hlp hlin hown hbl
    by_cases hlt : i < n
    · have hik : i < kids.length := by rw [← HN.out]; exact hlt
      obtain ⟨g, hg⟩ : ∃ g, kids[i]? = some g := ⟨kids[i], List.getElem?_eq_getElem hik⟩
      have HG := Lib.hid hg
      have hmem := List.mem_of_getElem? hg
      obtain ⟨b, off, hAe, hblk, hcell⟩ := sl_part HSL.out (fun g _ => g.enc_len) (by omega)
      subst hAe
      obtain ⟨gk, gd, gA, gca, gns, gB, gcb, gks⟩ := g
      have hba : ∀ o, Below wr.heap.size wr (wr.alloc o) := fun o => (Below.refl _ _).alloc (Nat.le_refl _) _
      have d0 := (HBL2.out.cell (p := ⟨b, off + (i * 4 + 0), none⟩) hblk).trans (hcell i _ hg 0 _ rfl)
      have d1 := (HBL2.out.cell (p := ⟨b, off + (i * 4 + 1), none⟩) hblk).trans (hcell i _ hg 1 _ rfl)
      have d2 := (HBL2.out.cell (p := ⟨b, off + (i * 4 + 2), none⟩) hblk).trans (hcell i _ hg 2 _ rfl)
      have d3 := (HBL2.out.cell (p := ⟨b, off + (i * 4 + 3), none⟩) hblk).trans (hcell i _ hg 3 _ rfl)
      rw [Nat.add_zero] at d0
      rw [← Nat.add_assoc] at d1 d2 d3
      have hltI : (i : Int) < (n : Int) := by omega
      have htake : (((kids.take (i + 1)).map IG.plain).map PG.new).filter (fitsK 3) = (((kids.take i).map IG.plain).map PG.new).filter (fitsK 3) ++ ([(IG.mk gk gd gA gca gns gB gcb gks).plain.new]).filter (fitsK 3) := by
        rw [List.take_add_one, hg, List.map_append, List.map_append, List.filter_append]
        rfl
      have HTK := Lib.hid htake
      have hfk := fits_new (PG.new_k ((IG.mk gk gd gA gca gns gB gcb gks).plain)) (k := 3) (p := 2) rfl (by decide)
      rw [IG.plain_eq, PG.k] at hfk
      rw [← IG.plain_eq gk gd gA gca gns gB gcb gks] at hfk
      have HFK := Lib.hid hfk
      have HBA := Lib.hid hba
      by_cases hgk : gk = 2
      · subst hgk
        have HEL := Lib.hid (fun o => line_calls (A := gA) (ca := gca) S (wr.alloc o) (HKID.out _ hmem _ (HBL2.out.trans ((hba o).mono HBL2.out.size))) (HSM.out _ hmem))
        have HEL := Lib.hid (show ∀ o, Calls Tryz.prog 56 #[.agg #[.int .i64 2, .int .i64 gd, .slice gA gns.length gca, .slice gB gks.length gcb]] (wr.alloc o) (MadePost (wr.alloc o) 2 (IG.mk 2 gd gA gca gns gB gcb gks).plain) from HEL.out)
        clear hg hmem hcell htake hfk hik hba
        go_wp2_with fail
        refine (HEL.out _).mono ?_
        rintro e w3 ⟨g2, rfl, h2, hk2, hp2, hb3⟩
        obtain ⟨dd3, aa3, cc3, nn3, rfl⟩ := MG.is_ln hk2 h2
        rw [show (MG.ln dd3 aa3 cc3 nn3).enc.toArray = #[.int .u8 dd3, .slice aa3 nn3.length cc3] from rfl]
        have HB3 := Lib.hid ((HBA.out _).trans (hb3.mono (HBA.out _).size))
        have hs3 := HB3.out.size
        have H2 := Lib.hid h2
        have HP2 := Lib.hid hp2
        have HO3 := Lib.hid (HOWN.out.kept (grown_below (row := none) HB3.out) (own_row _))
        have hwr3 : wr.heap.size + 1 ≤ w3.heap.size := by have := hb3.size; simpa using this
        clear h2 hk2 hp2 hb3 d0 d1 d2 d3 e0 e1 e2 e3 el
        go_wp2_with (at_builtin; refine wpList_append_sl _ rfl (.tmp 21) (.tmp 24) 85 rfl wA.heap.size 83 i0 _ 2 32 Tryz.underlying85 hi hz0 hz1 hz2 rfl (by decide) (.slice A1 L.length k1) L.length (L.flatMap MG.enc) rfl (HO3.out.alloc _)
                       _ (some ⟨w3.heap.size, 0, none⟩) 1 1 [.int .u8 dd3, .slice aa3 nn3.length cc3] rfl (slBlk (n := 1) (c := 2) (heap_alloc_new w3 _) rfl (by unfold maxLen; omega)) (MG.enc_one (MG.ln dd3 aa3 cc3 nn3)) (by unfold maxLen; omega) (by omega) (by simp; omega) ?_; intro A5 c5 w5 ho5 hg5 hat5
                     have HO5 := Lib.hid ho5
                     have HG5 := Lib.hid hg5
                     have HAT := Lib.hid hat5
                     clear ho5 hg5 hat5)
        go_roundg (n - (i + 1))
        case measure => have := HIL.out; omega
        case rel =>
          have hb4 : ∀ o, Below w3.heap.size w3 (w3.alloc o) := fun o => (Below.refl _ _).alloc (Nat.le_refl _) _
          have hbAll : ∀ o, Below wA.heap.size wA (w3.alloc o) := fun o => HBL2.out.trans ((HB3.out.trans ((hb4 o).mono HB3.out.size)).mono HBL2.out.size)
          have hl5 : (L ++ [MG.ln dd3 aa3 cc3 nn3]).length = L.length + 1 := by simp
          have hbox : ∀ r, (Value.slice A1 L.length k1).ownBlock = some r → wA.heap.size ≤ r ∧ r < wr.heap.size := fun r hr => ⟨(HOWN.out.lt r hr).1, (HOWN.out.lt r hr).2⟩
          have hkeep : ∀ g : MG, g.In (fun a => wA.heap.size ≤ a ∧ some a ≠ (Value.slice A1 L.length k1).ownBlock) (w3.alloc (.cells #[.int .u8 dd3, .slice aa3 nn3.length cc3] 83)) → g.In (fun a => wA.heap.size ≤ a ∧ some a ≠ (Value.slice A5 (L.length + 1) c5).ownBlock) w5 := fun g hg => by
            refine MG.less (fun a ha => ⟨ha.1.1, fun e => ?_⟩) (MG.keep (Keeps.grown HG5.out (fun r hr ha => ha.1.2 hr.symm)) (MG.old hg))
            rcases HAT.out with h | h
            · exact ha.1.2 (e.trans h)
            · rw [h] at e
              have h1 := Option.some.inj e
              have h2 := ha.2
              omega
          refine ⟨i + 1, L ++ [MG.ln dd3 aa3 cc3 nn3], A5, c5, by omega, by go_num, by rw [hl5], by rw [hl5]; have := HLL.out; omega, ?_, ?_, ?_, ?_⟩
          · rw [HTK.out, List.map_append, HLP.out]
            have h1 : fitsK 3 (IG.mk 2 gd gA gca gns gB gcb gks).plain.new = true := by rw [HFK.out]; rfl
            rw [List.filter_cons, if_pos h1, List.filter_nil, ← HP2.out]; rfl
          · intro g hg
            rw [hl5]
            rcases List.mem_append.1 hg with hg | hg
            · obtain ⟨e1, e2⟩ := HLIN.out g hg
              exact ⟨e1, hkeep g (MG.up (hb4 _) (MG.up HB3.out e2))⟩
            · have := List.mem_singleton.1 hg
              subst this
              refine ⟨rfl, hkeep _ (MG.up (hb4 _) (MG.less (fun a ha => ?_) H2.out))⟩
              have ha' : wr.heap.size + 1 ≤ a := by simpa using ha
              exact ⟨by omega, fun e => by have := (hbox a e.symm).2; omega⟩
          · rw [hl5, List.flatMap_append, List.flatMap_cons, List.flatMap_nil, List.append_nil]
            exact HO5.out
          · exact (hbAll _).grown HG5.out (hbAll _).size (fun r hr => (hbox r hr).1)
      · have hgkb : (gk == 2) = false := beq_eq_false_iff_ne.2 hgk
        clear hg hmem hcell htake hfk hik hba
        go_wp2_with fail
        go_roundg (n - (i + 1))
        case measure => have := HIL.out; omega
        case rel =>
          refine ⟨i + 1, L, A1, k1, by omega, by go_num, rfl, by have := HLL.out; omega, ?_, ?_, ?_, HBL2.out.trans ((HBA.out _).mono HBL2.out.size)⟩
          · rw [HTK.out, HLP.out]
            have h1 : ¬ fitsK 3 (IG.mk gk gd gA gca gns gB gcb gks).plain.new = true := by rw [HFK.out]; simpa using hgk
            rw [List.filter_cons, if_neg h1, List.filter_nil, List.append_nil]
          · intro g hg
            obtain ⟨e1, e2⟩ := HLIN.out g hg
            exact ⟨e1, MG.up (HBA.out _) e2⟩
          · exact HOWN.out.alloc _
    · obtain rfl : i = n := by omega
      have htk : kids.take i = kids := List.take_of_length_le (by rw [← HN.out]; exact Nat.le_refl _)
      have HLP2 := Lib.hid (show L.map MG.plain = ((kids.map IG.plain).map PG.new).filter (fitsK 3) from by rw [HLP.out, htk])
      have hltI : (i : Int) ≤ (i : Int) := Int.le_refl _
      have hdo := dimOf_calls d
      obtain ⟨x, hxe⟩ : ∃ x, x = dm d := ⟨_, rfl⟩
      have hx4 : x < 4 := by rw [hxe]; exact dm_lt d
      rw [← hxe] at hdo
      have HX := Lib.hid hxe
      clear htk hxe
      have HFIN := Lib.hid (show ∀ w', Below wr.heap.size wr w' → Below w.heap.size w w' ∧ Blk w' (w.heap.size + 1) 87 #[.slice none 0 0, .int .u8 0] from fun w' hb' => by
        have h1 := HBL2.out.trans (hb'.mono HBL2.out.size)
        exact ⟨HBL.out.trans (h1.mono HBL.out.size), HD.out.below h1 HD.out.lt⟩)
      by_cases hL0 : L.length = 0
      · obtain rfl : L = [] := List.eq_nil_of_length_eq_zero hL0
        have HFC := Lib.hid (show ∀ w', Calls Tryz.prog 118 #[.agg #[.slice none 0 0, .int .u8 0], .int .u8 x] w' (ForcePost (fun _ => False) w' x (.mu 3 0 none 0 [])) from fun w' => force3 (fun g hg => by cases hg) x hx4 (fun _ => False) w' (by
          rw [MG.In]
          exact ⟨by decide, by decide, by simp, ⟨by simp [Sl], fun h => absurd h (by simp)⟩, trivial⟩))
        have HOWN0 := HOWN.out
        clear hL0 hLn
        go_wp2_with fail
        refine (hdo _).mono ?_
        rintro e w9 ⟨rfl, hw9⟩
        replace hw9 := hw9.symm
        subst hw9
        go_wp2_with fail
        refine (HFC.out _).mono ?_
        rintro e w3 ⟨g2, rfl, h2, hk2, hp2, hb3⟩
        obtain ⟨d3, A3, c3, ks3, rfl⟩ := MG.is_mu (S := S) (w := w) (k := 3) hk2 (by decide) (by decide) (by decide)
        rw [show (MG.mu 3 d3 A3 c3 ks3).enc.toArray = #[.slice A3 ks3.length c3, .int .u8 d3] from rfl]
        obtain ⟨hbw, hDw⟩ := HFIN.out w3 hb3
        obtain ⟨z0, z1, y0, y1, zl⟩ := cells2 hDw
        have HBW := Lib.hid hbw
        have H2 := Lib.hid h2
        have HP2 := Lib.hid hp2
        clear h2 hk2 hp2 hb3 hbw hDw e0 e1 e2 e3 el
        go_wp2_with fail
        have hno : ¬ Fresh (fun _ => False) wr (w.heap.size + 1) := fun h => by
          rcases h with h | h
          · exact h
          · have := HSZ.out; omega
        refine bodyPost_ret (v := .agg #[.slice A3 ks3.length c3, .int .u8 d3]) (by simp [results, Tryz.results58, go_sem, z0, z1, zl]) rfl ⟨.mu 3 d3 A3 c3 ks3, rfl, ?_, rfl, ?_, (HBW.out.setCell (by simp) _).setCell (by simp) _⟩
        · refine MG.less (fun a ha => ?_) (MG.keep ((Keeps.set (p := ⟨w.heap.size + 1, 0, none⟩) hno _).trans (.set (p := ⟨w.heap.size + 1, 1, none⟩) hno _)) H2.out)
          rcases ha with ha | ha
          · exact ha.elim
          · have := HBL.out.size; show w.heap.size ≤ a; omega
        · rw [HNEW.out, ← HLP2.out, HP2.out, MG.plain_mu, frc_eq, frcN_nil, ← HX.out]
          simp [joinG]
      · have hpos : 0 < L.length := by omega
        have hposE : ((L.length : Int) == 0) = false := beq_eq_false_iff_ne.2 (by omega)
        have HNP := Lib.hid (new3 (c := k1) (d0 := x) hpos (by unfold kbig; omega) (S := fun a => wA.heap.size ≤ a) (w := wr) ⟨Sl.of_own HOWN.out, fun _ a ha => (HOWN.out.lt a.block (by rw [ha]; rfl)).1⟩ (MG.inL_iff.2 fun g hg => ⟨(HLIN.out g hg).1, MG.less (fun a ha => ha.1) (HLIN.out g hg).2⟩))
        clear hL0
        go_wp2_with fail
        refine HNP.out.mono ?_
        rintro e w3 ⟨g2, rfl, h2, hk2, hp2, hb3⟩
        obtain ⟨d3, A3, c3, ks3, rfl⟩ := MG.is_mu (S := S) (w := w) (k := 3) hk2 (by decide) (by decide) (by decide)
        rw [show (MG.mu 3 d3 A3 c3 ks3).enc.toArray = #[.slice A3 ks3.length c3, .int .u8 d3] from rfl]
        obtain ⟨hbw, hDw⟩ := HFIN.out w3 hb3
        obtain ⟨z0, z1, y0, y1, zl⟩ := cells2 hDw
        have HBW := Lib.hid hbw
        have H2 := Lib.hid h2
        have HP2 := Lib.hid hp2
        clear h2 hk2 hp2 hb3 hbw hDw e0 e1 e2 e3 el
        go_wp2_with fail
        have hno : ¬ Fresh (fun a => wA.heap.size ≤ a) wr (w.heap.size + 1) := fun h => by
          rcases h with h | h
          · have := HSZ.out; omega
          · have := HSZ.out; omega
        refine bodyPost_ret (v := .agg #[.slice A3 ks3.length c3, .int .u8 d3]) (by simp [results, Tryz.results58, go_sem, z0, z1, zl]) rfl ⟨.mu 3 d3 A3 c3 ks3, rfl, ?_, rfl, ?_, (HBW.out.setCell (by simp) _).setCell (by simp) _⟩
        · refine MG.less (fun a ha => ?_) (MG.keep ((Keeps.set (p := ⟨w.heap.size + 1, 0, none⟩) hno _).trans (.set (p := ⟨w.heap.size + 1, 1, none⟩) hno _)) H2.out)
          have hs0 := HBL.out.size
          rcases ha with ha | ha
          · show w.heap.size ≤ a; omega
          · show w.heap.size ≤ a; omega
        · rw [HNEW.out, ← HLP2.out, HP2.out, ← HX.out]
          rfl

set_option maxHeartbeats 8000000 in
set_option maxRecDepth 100000 in
theorem multiPoint_calls {d : Int} {A : Option Addr} {ca : Nat} {ns : List Nat} {B : Option Addr} {cb : Nat} {kids : List IG} : MadeC 60 4 (.mk 4 d A ca ns B cb kids) := fun S w h hs => by
  rw [IG.In] at h
  obtain ⟨-, ⟨-, hkb⟩, -, -, hB0, hkid0⟩ := h
  rw [IG.plain_eq] at hs ⊢
  rw [PG.small] at hs
  have hkb2 : kids.length ≤ 1048576 := by have := hs.1.2; simpa using this
  have hkid := IG.inL_iff.1 hkid0
  have hsm : ∀ g ∈ kids, g.plain.small := fun g hg => smallL_iff.1 hs.2 _ (List.mem_map_of_mem hg)
  show Calls Tryz.prog 60 #[.agg #[.int .i64 4, .int .i64 d, .slice A ns.length ca, .slice B kids.length cb]] w _
  obtain ⟨wA, hwA⟩ : ∃ wA, wA = (w.alloc (.cells #[.int .i64 4, .int .i64 d, .slice A ns.length ca, .slice B kids.length cb] 25)).alloc (.cells #[.slice none 0 0, .int .u8 0] 91) := ⟨_, rfl⟩
  have hbl : Below w.heap.size w wA := by rw [hwA]; exact ((Below.refl _ _).alloc (Nat.le_refl _) _).alloc (by simp) _
  have hBx : Blk wA w.heap.size 25 #[.int .i64 4, .int .i64 d, .slice A ns.length ca, .slice B kids.length cb] := by rw [hwA]; exact (Blk.new _ _ _).alloc _
  have hD : Blk wA (w.heap.size + 1) 91 #[.slice none 0 0, .int .u8 0] := by
    rw [hwA]
    have := Blk.new (w.alloc (.cells #[.int .i64 4, .int .i64 d, .slice A ns.length ca, .slice B kids.length cb] 25)) 91 #[.slice none 0 0, .int .u8 0]
    simpa using this
  have hsz : wA.heap.size = w.heap.size + 2 := by rw [hwA]; simp
  obtain ⟨i0, hi, hz0, hz1, hz2⟩ := info_parts infoP
  have hnew : (PG.mk 4 d ns (kids.map IG.plain)).new = joinG 4 (dm d) (((kids.map IG.plain).map PG.new).filter (fitsK 4)) := by rw [new_eq, if_neg (by decide), if_neg (by decide)]; rfl
  obtain ⟨n, hn⟩ : ∃ n, n = kids.length := ⟨_, rfl⟩
  have HSL := Lib.hid (hB0.1.up hbl)
  have HKID := Lib.hid (fun g hg w' (hb : Below wA.heap.size wA w') => IG.up hb (IG.up hbl (hkid g hg)))
  have HSM := Lib.hid hsm
  have HNEW := Lib.hid hnew
  have HBX := Lib.hid hBx
  have HD := Lib.hid hD
  have HBL := Lib.hid hbl
  have HWA := Lib.hid hwA
  have HSZ := Lib.hid hsz
  have HN := Lib.hid hn
  have hn2 : n ≤ 1048576 := by rw [hn]; exact hkb2
  rw [← hn] at HWA ⊢
  rw [← hn] at HBX
  clear hB0 hkid0 hkid hsm hnew hBx hD hbl hwA hsz hn hs hkb2 hkb
  go_enter Tryz.func60, Tryz.ntmps60
  go_wp2_with fail
  rw [← HWA.out]
  have c3 := HBX.out.cell 3
  simp only [List.getElem?_toArray, List.getElem?_cons_succ, List.getElem?_cons_zero] at c3
  have hlA := HBX.out.lt
  go_loopg [3, 9] n (fun q pv ci wr => ∃ (i : Nat) (L : List MG) (A1 : Option Addr) (k1 : Nat), i + q = n ∧ ci = .int .i64 (i : Nat) ∧ pv = .slice A1 L.length k1 ∧ L.length ≤ i ∧ L.map MG.plain = (((kids.take i).map IG.plain).map PG.new).filter (fitsK 4) ∧ (∀ g ∈ L, g.kind = 1 ∧ g.In (fun a => wA.heap.size ≤ a ∧ some a ≠ (Value.slice A1 L.length k1).ownBlock) wr) ∧ wr.ownsRow wA.heap.size 77 6 (.slice A1 L.length k1) L.length (L.flatMap MG.enc) ∧ Below wA.heap.size wA wr)
  case atStart => exact ⟨0, [], none, 0, by omega, by go_num, rfl, Nat.le_refl _, rfl, (fun g hg => by cases hg), World.ownsRow_nil _ _ _ _, Below.refl _ _⟩
  case round =>
    obtain ⟨i, L, A1, k1, hi', rfl, rfl, hll, hlp, hlin, hown, hbl⟩ := hrel
    have HIL := Lib.hid hi'
    have HLL := Lib.hid hll
    have HLP := Lib.hid hlp
    have HLIN := Lib.hid hlin
    have HOWN := Lib.hid hown
    have HBL2 := Lib.hid hbl
    have hin : i ≤ n := by omega
    have sr := hbl.size
    have hLn : L.length ≤ n := by omega
    obtain ⟨e0, e1, e2, e3, -, -, -, -, el⟩ := cells4 (HBX.out.below hbl HBX.out.lt)
    clear hi' hll hlp hlin hown hbl
    by_cases hlt : i < n
    · have hik : i < kids.length := by rw [← HN.out]; exact hlt
      obtain ⟨g, hg⟩ : ∃ g, kids[i]? = some g := ⟨kids[i], List.getElem?_eq_getElem hik⟩
      have HG := Lib.hid hg
      have hmem := List.mem_of_getElem? hg
      obtain ⟨b, off, hAe, hblk, hcell⟩ := sl_part HSL.out (fun g _ => g.enc_len) (by omega)
      subst hAe
      obtain ⟨gk, gd, gA, gca, gns, gB, gcb, gks⟩ := g
      have hba : ∀ o, Below wr.heap.size wr (wr.alloc o) := fun o => (Below.refl _ _).alloc (Nat.le_refl _) _
      have d0 := (HBL2.out.cell (p := ⟨b, off + (i * 4 + 0), none⟩) hblk).trans (hcell i _ hg 0 _ rfl)
      have d1 := (HBL2.out.cell (p := ⟨b, off + (i * 4 + 1), none⟩) hblk).trans (hcell i _ hg 1 _ rfl)
      have d2 := (HBL2.out.cell (p := ⟨b, off + (i * 4 + 2), none⟩) hblk).trans (hcell i _ hg 2 _ rfl)
      have d3 := (HBL2.out.cell (p := ⟨b, off + (i * 4 + 3), none⟩) hblk).trans (hcell i _ hg 3 _ rfl)
      rw [Nat.add_zero] at d0
      rw [← Nat.add_assoc] at d1 d2 d3
      have hltI : (i : Int) < (n : Int) := by omega
      have htake : (((kids.take (i + 1)).map IG.plain).map PG.new).filter (fitsK 4) = (((kids.take i).map IG.plain).map PG.new).filter (fitsK 4) ++ ([(IG.mk gk gd gA gca gns gB gcb gks).plain.new]).filter (fitsK 4) := by
        rw [List.take_add_one, hg, List.map_append, List.map_append, List.filter_append]
        rfl
      have HTK := Lib.hid htake
      have hfk := fits_new (PG.new_k ((IG.mk gk gd gA gca gns gB gcb gks).plain)) (k := 4) (p := 1) rfl (by decide)
      rw [IG.plain_eq, PG.k] at hfk
      rw [← IG.plain_eq gk gd gA gca gns gB gcb gks] at hfk
      have HFK := Lib.hid hfk
      have HBA := Lib.hid hba
      by_cases hgk : gk = 1
      · subst hgk
        have HEL := Lib.hid (fun o => point_calls (A := gA) (ca := gca) S (wr.alloc o) (HKID.out _ hmem _ (HBL2.out.trans ((hba o).mono HBL2.out.size))) (HSM.out _ hmem))
        have HEL := Lib.hid (show ∀ o, Calls Tryz.prog 54 #[.agg #[.int .i64 1, .int .i64 gd, .slice gA gns.length gca, .slice gB gks.length gcb]] (wr.alloc o) (MadePost (wr.alloc o) 1 (IG.mk 1 gd gA gca gns gB gcb gks).plain) from HEL.out)
        clear hg hmem hcell htake hfk hik hba
        go_wp2_with fail
        refine (HEL.out _).mono ?_
        rintro e w3 ⟨g2, rfl, h2, hk2, hp2, hb3⟩
        obtain ⟨dd3, full3, p3, rfl⟩ := MG.is_pt hk2 h2
        rw [show (MG.pt dd3 full3 p3).enc.toArray = #[.float .f64 p3.x, .float .f64 p3.y, .float .f64 p3.z, .float .f64 p3.m, .int .u8 dd3, .bool full3] from rfl]
        have HB3 := Lib.hid ((HBA.out _).trans (hb3.mono (HBA.out _).size))
        have hs3 := HB3.out.size
        have H2 := Lib.hid h2
        have HP2 := Lib.hid hp2
        have HO3 := Lib.hid (HOWN.out.kept (grown_below (row := none) HB3.out) (own_row _))
        have hwr3 : wr.heap.size + 1 ≤ w3.heap.size := by have := hb3.size; simpa using this
        clear h2 hk2 hp2 hb3 d0 d1 d2 d3 e0 e1 e2 e3 el
        go_wp2_with (at_builtin; refine wpList_append_sl _ rfl (.tmp 21) (.tmp 24) 89 rfl wA.heap.size 77 i0 _ 6 48 Tryz.underlying89 hi hz0 hz1 hz2 rfl (by decide) (.slice A1 L.length k1) L.length (L.flatMap MG.enc) rfl (HO3.out.alloc _)
                       _ (some ⟨w3.heap.size, 0, none⟩) 1 1 [.float .f64 p3.x, .float .f64 p3.y, .float .f64 p3.z, .float .f64 p3.m, .int .u8 dd3, .bool full3] rfl (slBlk (n := 1) (c := 6) (heap_alloc_new w3 _) rfl (by unfold maxLen; omega)) (MG.enc_one (MG.pt dd3 full3 p3)) (by unfold maxLen; omega) (by omega) (by simp; omega) ?_; intro A5 c5 w5 ho5 hg5 hat5
                     have HO5 := Lib.hid ho5
                     have HG5 := Lib.hid hg5
                     have HAT := Lib.hid hat5
                     clear ho5 hg5 hat5)
        go_roundg (n - (i + 1))
        case measure => have := HIL.out; omega
        case rel =>
          have hb4 : ∀ o, Below w3.heap.size w3 (w3.alloc o) := fun o => (Below.refl _ _).alloc (Nat.le_refl _) _
          have hbAll : ∀ o, Below wA.heap.size wA (w3.alloc o) := fun o => HBL2.out.trans ((HB3.out.trans ((hb4 o).mono HB3.out.size)).mono HBL2.out.size)
          have hl5 : (L ++ [MG.pt dd3 full3 p3]).length = L.length + 1 := by simp
          have hbox : ∀ r, (Value.slice A1 L.length k1).ownBlock = some r → wA.heap.size ≤ r ∧ r < wr.heap.size := fun r hr => ⟨(HOWN.out.lt r hr).1, (HOWN.out.lt r hr).2⟩
          have hkeep : ∀ g : MG, g.In (fun a => wA.heap.size ≤ a ∧ some a ≠ (Value.slice A1 L.length k1).ownBlock) (w3.alloc (.cells #[.float .f64 p3.x, .float .f64 p3.y, .float .f64 p3.z, .float .f64 p3.m, .int .u8 dd3, .bool full3] 77)) → g.In (fun a => wA.heap.size ≤ a ∧ some a ≠ (Value.slice A5 (L.length + 1) c5).ownBlock) w5 := fun g hg => by
            refine MG.less (fun a ha => ⟨ha.1.1, fun e => ?_⟩) (MG.keep (Keeps.grown HG5.out (fun r hr ha => ha.1.2 hr.symm)) (MG.old hg))
            rcases HAT.out with h | h
            · exact ha.1.2 (e.trans h)
            · rw [h] at e
              have h1 := Option.some.inj e
              have h2 := ha.2
              omega
          refine ⟨i + 1, L ++ [MG.pt dd3 full3 p3], A5, c5, by omega, by go_num, by rw [hl5], by rw [hl5]; have := HLL.out; omega, ?_, ?_, ?_, ?_⟩
          · rw [HTK.out, List.map_append, HLP.out]
            have h1 : fitsK 4 (IG.mk 1 gd gA gca gns gB gcb gks).plain.new = true := by rw [HFK.out]; rfl
            rw [List.filter_cons, if_pos h1, List.filter_nil, ← HP2.out]; rfl
          · intro g hg
            rw [hl5]
            rcases List.mem_append.1 hg with hg | hg
            · obtain ⟨e1, e2⟩ := HLIN.out g hg
              exact ⟨e1, hkeep g (MG.up (hb4 _) (MG.up HB3.out e2))⟩
            · have := List.mem_singleton.1 hg
              subst this
              refine ⟨rfl, hkeep _ (MG.up (hb4 _) (MG.less (fun a ha => ?_) H2.out))⟩
              have ha' : wr.heap.size + 1 ≤ a := by simpa using ha
              exact ⟨by omega, fun e => by have := (hbox a e.symm).2; omega⟩
          · rw [hl5, List.flatMap_append, List.flatMap_cons, List.flatMap_nil, List.append_nil]
            exact HO5.out
          · exact (hbAll _).grown HG5.out (hbAll _).size (fun r hr => (hbox r hr).1)
      · have hgkb : (gk == 1) = false := beq_eq_false_iff_ne.2 hgk
        clear hg hmem hcell htake hfk hik hba
        go_wp2_with fail
        go_roundg (n - (i + 1))
        case measure => have := HIL.out; omega
        case rel =>
          refine ⟨i + 1, L, A1, k1, by omega, by go_num, rfl, by have := HLL.out; omega, ?_, ?_, ?_, HBL2.out.trans ((HBA.out _).mono HBL2.out.size)⟩
          · rw [HTK.out, HLP.out]
            have h1 : ¬ fitsK 4 (IG.mk gk gd gA gca gns gB gcb gks).plain.new = true := by rw [HFK.out]; simpa using hgk
            rw [List.filter_cons, if_neg h1, List.filter_nil, List.append_nil]
          · intro g hg
            obtain ⟨e1, e2⟩ := HLIN.out g hg
            exact ⟨e1, MG.up (HBA.out _) e2⟩
          · exact HOWN.out.alloc _
    · obtain rfl : i = n := by omega
      have htk : kids.take i = kids := List.take_of_length_le (by rw [← HN.out]; exact Nat.le_refl _)
      have HLP2 := Lib.hid (show L.map MG.plain = ((kids.map IG.plain).map PG.new).filter (fitsK 4) from by rw [HLP.out, htk])
      have hltI : (i : Int) ≤ (i : Int) := Int.le_refl _
      have hdo := dimOf_calls d
      obtain ⟨x, hxe⟩ : ∃ x, x = dm d := ⟨_, rfl⟩
      have hx4 : x < 4 := by rw [hxe]; exact dm_lt d
      rw [← hxe] at hdo
      have HX := Lib.hid hxe
      clear htk hxe
      have HFIN := Lib.hid (show ∀ w', Below wr.heap.size wr w' → Below w.heap.size w w' ∧ Blk w' (w.heap.size + 1) 91 #[.slice none 0 0, .int .u8 0] from fun w' hb' => by
        have h1 := HBL2.out.trans (hb'.mono HBL2.out.size)
        exact ⟨HBL.out.trans (h1.mono HBL.out.size), HD.out.below h1 HD.out.lt⟩)
      by_cases hL0 : L.length = 0
      · obtain rfl : L = [] := List.eq_nil_of_length_eq_zero hL0
        have HFC := Lib.hid (show ∀ w', Calls Tryz.prog 120 #[.agg #[.slice none 0 0, .int .u8 0], .int .u8 x] w' (ForcePost (fun _ => False) w' x (.mu 4 0 none 0 [])) from fun w' => ptForceMulti x hx4 (fun _ => False) w' (by
          rw [MG.In]
          exact ⟨by decide, by decide, by simp, ⟨by simp [Sl], fun h => absurd h (by simp)⟩, trivial⟩))
        have HOWN0 := HOWN.out
        clear hL0 hLn
        go_wp2_with fail
        refine (hdo _).mono ?_
        rintro e w9 ⟨rfl, hw9⟩
        replace hw9 := hw9.symm
        subst hw9
        go_wp2_with fail
        refine (HFC.out _).mono ?_
        rintro e w3 ⟨g2, rfl, h2, hk2, hp2, hb3⟩
        obtain ⟨d3, A3, c3, ks3, rfl⟩ := MG.is_mu (S := S) (w := w) (k := 4) hk2 (by decide) (by decide) (by decide)
        rw [show (MG.mu 4 d3 A3 c3 ks3).enc.toArray = #[.slice A3 ks3.length c3, .int .u8 d3] from rfl]
        obtain ⟨hbw, hDw⟩ := HFIN.out w3 hb3
        obtain ⟨z0, z1, y0, y1, zl⟩ := cells2 hDw
        have HBW := Lib.hid hbw
        have H2 := Lib.hid h2
        have HP2 := Lib.hid hp2
        clear h2 hk2 hp2 hb3 hbw hDw e0 e1 e2 e3 el
        go_wp2_with fail
        have hno : ¬ Fresh (fun _ => False) wr (w.heap.size + 1) := fun h => by
          rcases h with h | h
          · exact h
          · have := HSZ.out; omega
        refine bodyPost_ret (v := .agg #[.slice A3 ks3.length c3, .int .u8 d3]) (by simp [results, Tryz.results60, go_sem, z0, z1, zl]) rfl ⟨.mu 4 d3 A3 c3 ks3, rfl, ?_, rfl, ?_, (HBW.out.setCell (by simp) _).setCell (by simp) _⟩
        · refine MG.less (fun a ha => ?_) (MG.keep ((Keeps.set (p := ⟨w.heap.size + 1, 0, none⟩) hno _).trans (.set (p := ⟨w.heap.size + 1, 1, none⟩) hno _)) H2.out)
          rcases ha with ha | ha
          · exact ha.elim
          · have := HBL.out.size; show w.heap.size ≤ a; omega
        · rw [HNEW.out, ← HLP2.out, HP2.out, MG.plain_mu, frc_eq, frcN_nil, ← HX.out]
          simp [joinG]
      · have hpos : 0 < L.length := by omega
        have hposE : ((L.length : Int) == 0) = false := beq_eq_false_iff_ne.2 (by omega)
        have HNP := Lib.hid (new4 (c := k1) (d0 := x) hpos (by unfold kbig; omega) (S := fun a => wA.heap.size ≤ a) (w := wr) ⟨Sl.of_own HOWN.out, fun _ a ha => (HOWN.out.lt a.block (by rw [ha]; rfl)).1⟩ (MG.inL_iff.2 fun g hg => ⟨(HLIN.out g hg).1, MG.less (fun a ha => ha.1) (HLIN.out g hg).2⟩))
        clear hL0
        go_wp2_with fail
        refine HNP.out.mono ?_
        rintro e w3 ⟨g2, rfl, h2, hk2, hp2, hb3⟩
        obtain ⟨d3, A3, c3, ks3, rfl⟩ := MG.is_mu (S := S) (w := w) (k := 4) hk2 (by decide) (by decide) (by decide)
        rw [show (MG.mu 4 d3 A3 c3 ks3).enc.toArray = #[.slice A3 ks3.length c3, .int .u8 d3] from rfl]
        obtain ⟨hbw, hDw⟩ := HFIN.out w3 hb3
        obtain ⟨z0, z1, y0, y1, zl⟩ := cells2 hDw
        have HBW := Lib.hid hbw
        have H2 := Lib.hid h2
        have HP2 := Lib.hid hp2
        clear h2 hk2 hp2 hb3 hbw hDw e0 e1 e2 e3 el
        go_wp2_with fail
        have hno : ¬ Fresh (fun a => wA.heap.size ≤ a) wr (w.heap.size + 1) := fun h => by
          rcases h with h | h
          · have := HSZ.out; omega
          · have := HSZ.out; omega
        refine bodyPost_ret (v := .agg #[.slice A3 ks3.length c3, .int .u8 d3]) (by simp [results, Tryz.results60, go_sem, z0, z1, zl]) rfl ⟨.mu 4 d3 A3 c3 ks3, rfl, ?_, rfl, ?_, (HBW.out.setCell (by simp) _).setCell (by simp) _⟩
        · refine MG.less (fun a ha => ?_) (MG.keep ((Keeps.set (p := ⟨w.heap.size + 1, 0, none⟩) hno _).trans (.set (p := ⟨w.heap.size + 1, 1, none⟩) hno _)) H2.out)
          have hs0 := HBL.out.size
          rcases ha with ha | ha
          · show w.heap.size ≤ a; omega
          · show w.heap.size ≤ a; omega
        · rw [HNEW.out, ← HLP2.out, HP2.out, ← HX.out]
          rfl

set_option maxHeartbeats 8000000 in
set_option maxRecDepth 100000 in
theorem multiLine_calls {d : Int} {A : Option Addr} {ca : Nat} {ns : List Nat} {B : Option Addr} {cb : Nat} {kids : List IG} : MadeC 62 5 (.mk 5 d A ca ns B cb kids) := fun S w h hs => by
  rw [IG.In] at h
  obtain ⟨-, ⟨-, hkb⟩, -, -, hB0, hkid0⟩ := h
  rw [IG.plain_eq] at hs ⊢
  rw [PG.small] at hs
  have hkb2 : kids.length ≤ 1048576 := by have := hs.1.2; simpa using this
  have hkid := IG.inL_iff.1 hkid0
  have hsm : ∀ g ∈ kids, g.plain.small := fun g hg => smallL_iff.1 hs.2 _ (List.mem_map_of_mem hg)
  show Calls Tryz.prog 62 #[.agg #[.int .i64 5, .int .i64 d, .slice A ns.length ca, .slice B kids.length cb]] w _
  obtain ⟨wA, hwA⟩ : ∃ wA, wA = (w.alloc (.cells #[.int .i64 5, .int .i64 d, .slice A ns.length ca, .slice B kids.length cb] 25)).alloc (.cells #[.slice none 0 0, .int .u8 0] 94) := ⟨_, rfl⟩
  have hbl : Below w.heap.size w wA := by rw [hwA]; exact ((Below.refl _ _).alloc (Nat.le_refl _) _).alloc (by simp) _
  have hBx : Blk wA w.heap.size 25 #[.int .i64 5, .int .i64 d, .slice A ns.length ca, .slice B kids.length cb] := by rw [hwA]; exact (Blk.new _ _ _).alloc _
  have hD : Blk wA (w.heap.size + 1) 94 #[.slice none 0 0, .int .u8 0] := by
    rw [hwA]
    have := Blk.new (w.alloc (.cells #[.int .i64 5, .int .i64 d, .slice A ns.length ca, .slice B kids.length cb] 25)) 94 #[.slice none 0 0, .int .u8 0]
    simpa using this
  have hsz : wA.heap.size = w.heap.size + 2 := by rw [hwA]; simp
  obtain ⟨i0, hi, hz0, hz1, hz2⟩ := info_parts infoG5
  have hnew : (PG.mk 5 d ns (kids.map IG.plain)).new = joinG 5 (dm d) (((kids.map IG.plain).map PG.new).filter (fitsK 5)) := by rw [new_eq, if_neg (by decide), if_neg (by decide)]; rfl
  obtain ⟨n, hn⟩ : ∃ n, n = kids.length := ⟨_, rfl⟩
  have HSL := Lib.hid (hB0.1.up hbl)
  have HKID := Lib.hid (fun g hg w' (hb : Below wA.heap.size wA w') => IG.up hb (IG.up hbl (hkid g hg)))
  have HSM := Lib.hid hsm
  have HNEW := Lib.hid hnew
  have HBX := Lib.hid hBx
  have HD := Lib.hid hD
  have HBL := Lib.hid hbl
  have HWA := Lib.hid hwA
  have HSZ := Lib.hid hsz
  have HN := Lib.hid hn
  have hn2 : n ≤ 1048576 := by rw [hn]; exact hkb2
  rw [← hn] at HWA ⊢
  rw [← hn] at HBX
  clear hB0 hkid0 hkid hsm hnew hBx hD hbl hwA hsz hn hs hkb2 hkb
  go_enter Tryz.func62, Tryz.ntmps62
  go_wp2_with fail
  rw [← HWA.out]
  have c3 := HBX.out.cell 3
  simp only [List.getElem?_toArray, List.getElem?_cons_succ, List.getElem?_cons_zero] at c3
  have hlA := HBX.out.lt
  go_loopg [3, 9] n (fun q pv ci wr => ∃ (i : Nat) (L : List MG) (A1 : Option Addr) (k1 : Nat), i + q = n ∧ ci = .int .i64 (i : Nat) ∧ pv = .slice A1 L.length k1 ∧ L.length ≤ i ∧ L.map MG.plain = (((kids.take i).map IG.plain).map PG.new).filter (fitsK 5) ∧ (∀ g ∈ L, g.kind = 2 ∧ g.In (fun a => wA.heap.size ≤ a ∧ some a ≠ (Value.slice A1 L.length k1).ownBlock) wr) ∧ wr.ownsRow wA.heap.size 83 2 (.slice A1 L.length k1) L.length (L.flatMap MG.enc) ∧ Below wA.heap.size wA wr)
  case atStart => exact ⟨0, [], none, 0, by omega, by go_num, rfl, Nat.le_refl _, rfl, (fun g hg => by cases hg), World.ownsRow_nil _ _ _ _, Below.refl _ _⟩
  case round =>
    obtain ⟨i, L, A1, k1, hi', rfl, rfl, hll, hlp, hlin, hown, hbl⟩ := hrel
    have HIL := Lib.hid hi'
    have HLL := Lib.hid hll
    have HLP := Lib.hid hlp
    have HLIN := Lib.hid hlin
    have HOWN := Lib.hid hown
    have HBL2 := Lib.hid hbl
    have hin : i ≤ n := by omega
    have sr := hbl.size
    have hLn : L.length ≤ n := by omega
    obtain ⟨e0, e1, e2, e3, -, -, -, -, el⟩ := cells4 (HBX.out.below hbl HBX.out.lt)
    clear hi' hll hlp hlin hown hbl
    by_cases hlt : i < n
    · have hik : i < kids.length := by rw [← HN.out]; exact hlt
      obtain ⟨g, hg⟩ : ∃ g, kids[i]? = some g := ⟨kids[i], List.getElem?_eq_getElem hik⟩
      have HG := Lib.hid hg
      have hmem := List.mem_of_getElem? hg
      obtain ⟨b, off, hAe, hblk, hcell⟩ := sl_part HSL.out (fun g _ => g.enc_len) (by omega)
      subst hAe
      obtain ⟨gk, gd, gA, gca, gns, gB, gcb, gks⟩ := g
      have hba : ∀ o, Below wr.heap.size wr (wr.alloc o) := fun o => (Below.refl _ _).alloc (Nat.le_refl _) _
      have d0 := (HBL2.out.cell (p := ⟨b, off + (i * 4 + 0), none⟩) hblk).trans (hcell i _ hg 0 _ rfl)
      have d1 := (HBL2.out.cell (p := ⟨b, off + (i * 4 + 1), none⟩) hblk).trans (hcell i _ hg 1 _ rfl)
      have d2 := (HBL2.out.cell (p := ⟨b, off + (i * 4 + 2), none⟩) hblk).trans (hcell i _ hg 2 _ rfl)
      have d3 := (HBL2.out.cell (p := ⟨b, off + (i * 4 + 3), none⟩) hblk).trans (hcell i _ hg 3 _ rfl)
      rw [Nat.add_zero] at d0
      rw [← Nat.add_assoc] at d1 d2 d3
      have hltI : (i : Int) < (n : Int) := by omega
      have htake : (((kids.take (i + 1)).map IG.plain).map PG.new).filter (fitsK 5) = (((kids.take i).map IG.plain).map PG.new).filter (fitsK 5) ++ ([(IG.mk gk gd gA gca gns gB gcb gks).plain.new]).filter (fitsK 5) := by
        rw [List.take_add_one, hg, List.map_append, List.map_append, List.filter_append]
        rfl
      have HTK := Lib.hid htake
      have hfk := fits_new (PG.new_k ((IG.mk gk gd gA gca gns gB gcb gks).plain)) (k := 5) (p := 2) rfl (by decide)
      rw [IG.plain_eq, PG.k] at hfk
      rw [← IG.plain_eq gk gd gA gca gns gB gcb gks] at hfk
      have HFK := Lib.hid hfk
      have HBA := Lib.hid hba
      by_cases hgk : gk = 2
      · subst hgk
        have HEL := Lib.hid (fun o => line_calls (A := gA) (ca := gca) S (wr.alloc o) (HKID.out _ hmem _ (HBL2.out.trans ((hba o).mono HBL2.out.size))) (HSM.out _ hmem))
        have HEL := Lib.hid (show ∀ o, Calls Tryz.prog 56 #[.agg #[.int .i64 2, .int .i64 gd, .slice gA gns.length gca, .slice gB gks.length gcb]] (wr.alloc o) (MadePost (wr.alloc o) 2 (IG.mk 2 gd gA gca gns gB gcb gks).plain) from HEL.out)
        clear hg hmem hcell htake hfk hik hba
        go_wp2_with fail
        refine (HEL.out _).mono ?_
        rintro e w3 ⟨g2, rfl, h2, hk2, hp2, hb3⟩
        obtain ⟨dd3, aa3, cc3, nn3, rfl⟩ := MG.is_ln hk2 h2
        rw [show (MG.ln dd3 aa3 cc3 nn3).enc.toArray = #[.int .u8 dd3, .slice aa3 nn3.length cc3] from rfl]
        have HB3 := Lib.hid ((HBA.out _).trans (hb3.mono (HBA.out _).size))
        have hs3 := HB3.out.size
        have H2 := Lib.hid h2
        have HP2 := Lib.hid hp2
        have HO3 := Lib.hid (HOWN.out.kept (grown_below (row := none) HB3.out) (own_row _))
        have hwr3 : wr.heap.size + 1 ≤ w3.heap.size := by have := hb3.size; simpa using this
        clear h2 hk2 hp2 hb3 d0 d1 d2 d3 e0 e1 e2 e3 el
        go_wp2_with (at_builtin; refine wpList_append_sl _ rfl (.tmp 21) (.tmp 24) 85 rfl wA.heap.size 83 i0 _ 2 32 Tryz.underlying85 hi hz0 hz1 hz2 rfl (by decide) (.slice A1 L.length k1) L.length (L.flatMap MG.enc) rfl (HO3.out.alloc _)
                       _ (some ⟨w3.heap.size, 0, none⟩) 1 1 [.int .u8 dd3, .slice aa3 nn3.length cc3] rfl (slBlk (n := 1) (c := 2) (heap_alloc_new w3 _) rfl (by unfold maxLen; omega)) (MG.enc_one (MG.ln dd3 aa3 cc3 nn3)) (by unfold maxLen; omega) (by omega) (by simp; omega) ?_; intro A5 c5 w5 ho5 hg5 hat5
                     have HO5 := Lib.hid ho5
                     have HG5 := Lib.hid hg5
                     have HAT := Lib.hid hat5
                     clear ho5 hg5 hat5)
        go_roundg (n - (i + 1))
        case measure => have := HIL.out; omega
        case rel =>
          have hb4 : ∀ o, Below w3.heap.size w3 (w3.alloc o) := fun o => (Below.refl _ _).alloc (Nat.le_refl _) _
          have hbAll : ∀ o, Below wA.heap.size wA (w3.alloc o) := fun o => HBL2.out.trans ((HB3.out.trans ((hb4 o).mono HB3.out.size)).mono HBL2.out.size)
          have hl5 : (L ++ [MG.ln dd3 aa3 cc3 nn3]).length = L.length + 1 := by simp
          have hbox : ∀ r, (Value.slice A1 L.length k1).ownBlock = some r → wA.heap.size ≤ r ∧ r < wr.heap.size := fun r hr => ⟨(HOWN.out.lt r hr).1, (HOWN.out.lt r hr).2⟩
          have hkeep : ∀ g : MG, g.In (fun a => wA.heap.size ≤ a ∧ some a ≠ (Value.slice A1 L.length k1).ownBlock) (w3.alloc (.cells #[.int .u8 dd3, .slice aa3 nn3.length cc3] 83)) → g.In (fun a => wA.heap.size ≤ a ∧ some a ≠ (Value.slice A5 (L.length + 1) c5).ownBlock) w5 := fun g hg => by
            refine MG.less (fun a ha => ⟨ha.1.1, fun e => ?_⟩) (MG.keep (Keeps.grown HG5.out (fun r hr ha => ha.1.2 hr.symm)) (MG.old hg))
            rcases HAT.out with h | h
            · exact ha.1.2 (e.trans h)
            · rw [h] at e
              have h1 := Option.some.inj e
              have h2 := ha.2
              omega
          refine ⟨i + 1, L ++ [MG.ln dd3 aa3 cc3 nn3], A5, c5, by omega, by go_num, by rw [hl5], by rw [hl5]; have := HLL.out; omega, ?_, ?_, ?_, ?_⟩
          · rw [HTK.out, List.map_append, HLP.out]
            have h1 : fitsK 5 (IG.mk 2 gd gA gca gns gB gcb gks).plain.new = true := by rw [HFK.out]; rfl
            rw [List.filter_cons, if_pos h1, List.filter_nil, ← HP2.out]; rfl
          · intro g hg
            rw [hl5]
            rcases List.mem_append.1 hg with hg | hg
            · obtain ⟨e1, e2⟩ := HLIN.out g hg
              exact ⟨e1, hkeep g (MG.up (hb4 _) (MG.up HB3.out e2))⟩
            · have := List.mem_singleton.1 hg
              subst this
              refine ⟨rfl, hkeep _ (MG.up (hb4 _) (MG.less (fun a ha => ?_) H2.out))⟩
              have ha' : wr.heap.size + 1 ≤ a := by simpa using ha
              exact ⟨by omega, fun e => by have := (hbox a e.symm).2; omega⟩
          · rw [hl5, List.flatMap_append, List.flatMap_cons, List.flatMap_nil, List.append_nil]
            exact HO5.out
          · exact (hbAll _).grown HG5.out (hbAll _).size (fun r hr => (hbox r hr).1)
      · have hgkb : (gk == 2) = false := beq_eq_false_iff_ne.2 hgk
        clear hg hmem hcell htake hfk hik hba
        go_wp2_with fail
        go_roundg (n - (i + 1))
        case measure => have := HIL.out; omega
        case rel =>
          refine ⟨i + 1, L, A1, k1, by omega, by go_num, rfl, by have := HLL.out; omega, ?_, ?_, ?_, HBL2.out.trans ((HBA.out _).mono HBL2.out.size)⟩
          · rw [HTK.out, HLP.out]
            have h1 : ¬ fitsK 5 (IG.mk gk gd gA gca gns gB gcb gks).plain.new = true := by rw [HFK.out]; simpa using hgk
            rw [List.filter_cons, if_neg h1, List.filter_nil, List.append_nil]
          · intro g hg
            obtain ⟨e1, e2⟩ := HLIN.out g hg
            exact ⟨e1, MG.up (HBA.out _) e2⟩
          · exact HOWN.out.alloc _
    · obtain rfl : i = n := by omega
      have htk : kids.take i = kids := List.take_of_length_le (by rw [← HN.out]; exact Nat.le_refl _)
      have HLP2 := Lib.hid (show L.map MG.plain = ((kids.map IG.plain).map PG.new).filter (fitsK 5) from by rw [HLP.out, htk])
      have hltI : (i : Int) ≤ (i : Int) := Int.le_refl _
      have hdo := dimOf_calls d
      obtain ⟨x, hxe⟩ : ∃ x, x = dm d := ⟨_, rfl⟩
      have hx4 : x < 4 := by rw [hxe]; exact dm_lt d
      rw [← hxe] at hdo
      have HX := Lib.hid hxe
      clear htk hxe
      have HFIN := Lib.hid (show ∀ w', Below wr.heap.size wr w' → Below w.heap.size w w' ∧ Blk w' (w.heap.size + 1) 94 #[.slice none 0 0, .int .u8 0] from fun w' hb' => by
        have h1 := HBL2.out.trans (hb'.mono HBL2.out.size)
        exact ⟨HBL.out.trans (h1.mono HBL.out.size), HD.out.below h1 HD.out.lt⟩)
      by_cases hL0 : L.length = 0
      · obtain rfl : L = [] := List.eq_nil_of_length_eq_zero hL0
        have HFC := Lib.hid (show ∀ w', Calls Tryz.prog 122 #[.agg #[.slice none 0 0, .int .u8 0], .int .u8 x] w' (ForcePost (fun _ => False) w' x (.mu 5 0 none 0 [])) from fun w' => force5 (fun g hg => by cases hg) x hx4 (fun _ => False) w' (by
          rw [MG.In]
          exact ⟨by decide, by decide, by simp, ⟨by simp [Sl], fun h => absurd h (by simp)⟩, trivial⟩))
        have HOWN0 := HOWN.out
        clear hL0 hLn
        go_wp2_with fail
        refine (hdo _).mono ?_
        rintro e w9 ⟨rfl, hw9⟩
        replace hw9 := hw9.symm
        subst hw9
        go_wp2_with fail
        refine (HFC.out _).mono ?_
        rintro e w3 ⟨g2, rfl, h2, hk2, hp2, hb3⟩
        obtain ⟨d3, A3, c3, ks3, rfl⟩ := MG.is_mu (S := S) (w := w) (k := 5) hk2 (by decide) (by decide) (by decide)
        rw [show (MG.mu 5 d3 A3 c3 ks3).enc.toArray = #[.slice A3 ks3.length c3, .int .u8 d3] from rfl]
        obtain ⟨hbw, hDw⟩ := HFIN.out w3 hb3
        obtain ⟨z0, z1, y0, y1, zl⟩ := cells2 hDw
        have HBW := Lib.hid hbw
        have H2 := Lib.hid h2
        have HP2 := Lib.hid hp2
        clear h2 hk2 hp2 hb3 hbw hDw e0 e1 e2 e3 el
        go_wp2_with fail
        have hno : ¬ Fresh (fun _ => False) wr (w.heap.size + 1) := fun h => by
          rcases h with h | h
          · exact h
          · have := HSZ.out; omega
        refine bodyPost_ret (v := .agg #[.slice A3 ks3.length c3, .int .u8 d3]) (by simp [results, Tryz.results62, go_sem, z0, z1, zl]) rfl ⟨.mu 5 d3 A3 c3 ks3, rfl, ?_, rfl, ?_, (HBW.out.setCell (by simp) _).setCell (by simp) _⟩
        · refine MG.less (fun a ha => ?_) (MG.keep ((Keeps.set (p := ⟨w.heap.size + 1, 0, none⟩) hno _).trans (.set (p := ⟨w.heap.size + 1, 1, none⟩) hno _)) H2.out)
          rcases ha with ha | ha
          · exact ha.elim
          · have := HBL.out.size; show w.heap.size ≤ a; omega
        · rw [HNEW.out, ← HLP2.out, HP2.out, MG.plain_mu, frc_eq, frcN_nil, ← HX.out]
          simp [joinG]
      · have hpos : 0 < L.length := by omega
        have hposE : ((L.length : Int) == 0) = false := beq_eq_false_iff_ne.2 (by omega)
        have HNP := Lib.hid (new5 (c := k1) (d0 := x) hpos (by unfold kbig; omega) (S := fun a => wA.heap.size ≤ a) (w := wr) ⟨Sl.of_own HOWN.out, fun _ a ha => (HOWN.out.lt a.block (by rw [ha]; rfl)).1⟩ (MG.inL_iff.2 fun g hg => ⟨(HLIN.out g hg).1, MG.less (fun a ha => ha.1) (HLIN.out g hg).2⟩))
        clear hL0
        go_wp2_with fail
        refine HNP.out.mono ?_
        rintro e w3 ⟨g2, rfl, h2, hk2, hp2, hb3⟩
        obtain ⟨d3, A3, c3, ks3, rfl⟩ := MG.is_mu (S := S) (w := w) (k := 5) hk2 (by decide) (by decide) (by decide)
        rw [show (MG.mu 5 d3 A3 c3 ks3).enc.toArray = #[.slice A3 ks3.length c3, .int .u8 d3] from rfl]
        obtain ⟨hbw, hDw⟩ := HFIN.out w3 hb3
        obtain ⟨z0, z1, y0, y1, zl⟩ := cells2 hDw
        have HBW := Lib.hid hbw
        have H2 := Lib.hid h2
        have HP2 := Lib.hid hp2
        clear h2 hk2 hp2 hb3 hbw hDw e0 e1 e2 e3 el
        go_wp2_with fail
        have hno : ¬ Fresh (fun a => wA.heap.size ≤ a) wr (w.heap.size + 1) := fun h => by
          rcases h with h | h
          · have := HSZ.out; omega
          · have := HSZ.out; omega
        refine bodyPost_ret (v := .agg #[.slice A3 ks3.length c3, .int .u8 d3]) (by simp [results, Tryz.results62, go_sem, z0, z1, zl]) rfl ⟨.mu 5 d3 A3 c3 ks3, rfl, ?_, rfl, ?_, (HBW.out.setCell (by simp) _).setCell (by simp) _⟩
        · refine MG.less (fun a ha => ?_) (MG.keep ((Keeps.set (p := ⟨w.heap.size + 1, 0, none⟩) hno _).trans (.set (p := ⟨w.heap.size + 1, 1, none⟩) hno _)) H2.out)
          have hs0 := HBL.out.size
          rcases ha with ha | ha
          · show w.heap.size ≤ a; omega
          · show w.heap.size ≤ a; omega
        · rw [HNEW.out, ← HLP2.out, HP2.out, ← HX.out]
          rfl

set_option maxHeartbeats 8000000 in
set_option maxRecDepth 100000 in
theorem multiPolygon_calls {d : Int} {A : Option Addr} {ca : Nat} {ns : List Nat} {B : Option Addr} {cb : Nat} {kids : List IG} : MadeC 64 6 (.mk 6 d A ca ns B cb kids) := fun S w h hs => by
  rw [IG.In] at h
  obtain ⟨-, ⟨-, hkb⟩, -, -, hB0, hkid0⟩ := h
  rw [IG.plain_eq] at hs ⊢
  rw [PG.small] at hs
  have hkb2 : kids.length ≤ 1048576 := by have := hs.1.2; simpa using this
  have hkid := IG.inL_iff.1 hkid0
  have hsm : ∀ g ∈ kids, g.plain.small := fun g hg => smallL_iff.1 hs.2 _ (List.mem_map_of_mem hg)
  show Calls Tryz.prog 64 #[.agg #[.int .i64 6, .int .i64 d, .slice A ns.length ca, .slice B kids.length cb]] w _
  obtain ⟨wA, hwA⟩ : ∃ wA, wA = (w.alloc (.cells #[.int .i64 6, .int .i64 d, .slice A ns.length ca, .slice B kids.length cb] 25)).alloc (.cells #[.slice none 0 0, .int .u8 0] 98) := ⟨_, rfl⟩
  have hbl : Below w.heap.size w wA := by rw [hwA]; exact ((Below.refl _ _).alloc (Nat.le_refl _) _).alloc (by simp) _
  have hBx : Blk wA w.heap.size 25 #[.int .i64 6, .int .i64 d, .slice A ns.length ca, .slice B kids.length cb] := by rw [hwA]; exact (Blk.new _ _ _).alloc _
  have hD : Blk wA (w.heap.size + 1) 98 #[.slice none 0 0, .int .u8 0] := by
    rw [hwA]
    have := Blk.new (w.alloc (.cells #[.int .i64 6, .int .i64 d, .slice A ns.length ca, .slice B kids.length cb] 25)) 98 #[.slice none 0 0, .int .u8 0]
    simpa using this
  have hsz : wA.heap.size = w.heap.size + 2 := by rw [hwA]; simp
  obtain ⟨i0, hi, hz0, hz1, hz2⟩ := info_parts infoG6
  have hnew : (PG.mk 6 d ns (kids.map IG.plain)).new = joinG 6 (dm d) (((kids.map IG.plain).map PG.new).filter (fitsK 6)) := by rw [new_eq, if_neg (by decide), if_neg (by decide)]; rfl
  obtain ⟨n, hn⟩ : ∃ n, n = kids.length := ⟨_, rfl⟩
  have HSL := Lib.hid (hB0.1.up hbl)
  have HKID := Lib.hid (fun g hg w' (hb : Below wA.heap.size wA w') => IG.up hb (IG.up hbl (hkid g hg)))
  have HSM := Lib.hid hsm
  have HNEW := Lib.hid hnew
  have HBX := Lib.hid hBx
  have HD := Lib.hid hD
  have HBL := Lib.hid hbl
  have HWA := Lib.hid hwA
  have HSZ := Lib.hid hsz
  have HN := Lib.hid hn
  have hn2 : n ≤ 1048576 := by rw [hn]; exact hkb2
  rw [← hn] at HWA ⊢
  rw [← hn] at HBX
  clear hB0 hkid0 hkid hsm hnew hBx hD hbl hwA hsz hn hs hkb2 hkb
  go_enter Tryz.func64, Tryz.ntmps64
  go_wp2_with fail
  rw [← HWA.out]
  have c3 := HBX.out.cell 3
  simp only [List.getElem?_toArray, List.getElem?_cons_succ, List.getElem?_cons_zero] at c3
  have hlA := HBX.out.lt
  go_loopg [3, 9] n (fun q pv ci wr => ∃ (i : Nat) (L : List MG) (A1 : Option Addr) (k1 : Nat), i + q = n ∧ ci = .int .i64 (i : Nat) ∧ pv = .slice A1 L.length k1 ∧ L.length ≤ i ∧ L.map MG.plain = (((kids.take i).map IG.plain).map PG.new).filter (fitsK 6) ∧ (∀ g ∈ L, g.kind = 3 ∧ g.In (fun a => wA.heap.size ≤ a ∧ some a ≠ (Value.slice A1 L.length k1).ownBlock) wr) ∧ wr.ownsRow wA.heap.size 87 2 (.slice A1 L.length k1) L.length (L.flatMap MG.enc) ∧ Below wA.heap.size wA wr)
  case atStart => exact ⟨0, [], none, 0, by omega, by go_num, rfl, Nat.le_refl _, rfl, (fun g hg => by cases hg), World.ownsRow_nil _ _ _ _, Below.refl _ _⟩
  case round =>
    obtain ⟨i, L, A1, k1, hi', rfl, rfl, hll, hlp, hlin, hown, hbl⟩ := hrel
    have HIL := Lib.hid hi'
    have HLL := Lib.hid hll
    have HLP := Lib.hid hlp
    have HLIN := Lib.hid hlin
    have HOWN := Lib.hid hown
    have HBL2 := Lib.hid hbl
    have hin : i ≤ n := by omega
    have sr := hbl.size
    have hLn : L.length ≤ n := by omega
    obtain ⟨e0, e1, e2, e3, -, -, -, -, el⟩ := cells4 (HBX.out.below hbl HBX.out.lt)
    clear hi' hll hlp hlin hown hbl
    by_cases hlt : i < n
    · have hik : i < kids.length := by rw [← HN.out]; exact hlt
      obtain ⟨g, hg⟩ : ∃ g, kids[i]? = some g := ⟨kids[i], List.getElem?_eq_getElem hik⟩
      have HG := Lib.hid hg
      have hmem := List.mem_of_getElem? hg
      obtain ⟨b, off, hAe, hblk, hcell⟩ := sl_part HSL.out (fun g _ => g.enc_len) (by omega)
      subst hAe
      obtain ⟨gk, gd, gA, gca, gns, gB, gcb, gks⟩ := g
      have hba : ∀ o, Below wr.heap.size wr (wr.alloc o) := fun o => (Below.refl _ _).alloc (Nat.le_refl _) _
      have d0 := (HBL2.out.cell (p := ⟨b, off + (i * 4 + 0), none⟩) hblk).trans (hcell i _ hg 0 _ rfl)
      have d1 := (HBL2.out.cell (p := ⟨b, off + (i * 4 + 1), none⟩) hblk).trans (hcell i _ hg 1 _ rfl)
      have d2 := (HBL2.out.cell (p := ⟨b, off + (i * 4 + 2), none⟩) hblk).trans (hcell i _ hg 2 _ rfl)
      have d3 := (HBL2.out.cell (p := ⟨b, off + (i * 4 + 3), none⟩) hblk).trans (hcell i _ hg 3 _ rfl)
      rw [Nat.add_zero] at d0
      rw [← Nat.add_assoc] at d1 d2 d3
      have hltI : (i : Int) < (n : Int) := by omega
      have htake : (((kids.take (i + 1)).map IG.plain).map PG.new).filter (fitsK 6) = (((kids.take i).map IG.plain).map PG.new).filter (fitsK 6) ++ ([(IG.mk gk gd gA gca gns gB gcb gks).plain.new]).filter (fitsK 6) := by
        rw [List.take_add_one, hg, List.map_append, List.map_append, List.filter_append]
        rfl
      have HTK := Lib.hid htake
      have hfk := fits_new (PG.new_k ((IG.mk gk gd gA gca gns gB gcb gks).plain)) (k := 6) (p := 3) rfl (by decide)
      rw [IG.plain_eq, PG.k] at hfk
      rw [← IG.plain_eq gk gd gA gca gns gB gcb gks] at hfk
      have HFK := Lib.hid hfk
      have HBA := Lib.hid hba
      by_cases hgk : gk = 3
      · subst hgk
        have HEL := Lib.hid (fun o => polygon_calls (A := gA) (ca := gca) S (wr.alloc o) (HKID.out _ hmem _ (HBL2.out.trans ((hba o).mono HBL2.out.size))) (HSM.out _ hmem))
        have HEL := Lib.hid (show ∀ o, Calls Tryz.prog 58 #[.agg #[.int .i64 3, .int .i64 gd, .slice gA gns.length gca, .slice gB gks.length gcb]] (wr.alloc o) (MadePost (wr.alloc o) 3 (IG.mk 3 gd gA gca gns gB gcb gks).plain) from HEL.out)
        clear hg hmem hcell htake hfk hik hba
        go_wp2_with fail
        refine (HEL.out _).mono ?_
        rintro e w3 ⟨g2, rfl, h2, hk2, hp2, hb3⟩
        obtain ⟨dd3, aa3, cc3, kk3, rfl⟩ := MG.is_mu (S := S) (w := w) (k := 3) hk2 (by decide) (by decide) (by decide)
        rw [show (MG.mu 3 dd3 aa3 cc3 kk3).enc.toArray = #[.slice aa3 kk3.length cc3, .int .u8 dd3] from rfl]
        have HB3 := Lib.hid ((HBA.out _).trans (hb3.mono (HBA.out _).size))
        have hs3 := HB3.out.size
        have H2 := Lib.hid h2
        have HP2 := Lib.hid hp2
        have HO3 := Lib.hid (HOWN.out.kept (grown_below (row := none) HB3.out) (own_row _))
        have hwr3 : wr.heap.size + 1 ≤ w3.heap.size := by have := hb3.size; simpa using this
        clear h2 hk2 hp2 hb3 d0 d1 d2 d3 e0 e1 e2 e3 el
        go_wp2_with (at_builtin; refine wpList_append_sl _ rfl (.tmp 21) (.tmp 24) 96 rfl wA.heap.size 87 i0 _ 2 32 Tryz.underlying96 hi hz0 hz1 hz2 rfl (by decide) (.slice A1 L.length k1) L.length (L.flatMap MG.enc) rfl (HO3.out.alloc _)
                       _ (some ⟨w3.heap.size, 0, none⟩) 1 1 [.slice aa3 kk3.length cc3, .int .u8 dd3] rfl (slBlk (n := 1) (c := 2) (heap_alloc_new w3 _) rfl (by unfold maxLen; omega)) (MG.enc_one (MG.mu 3 dd3 aa3 cc3 kk3)) (by unfold maxLen; omega) (by omega) (by simp; omega) ?_; intro A5 c5 w5 ho5 hg5 hat5
                     have HO5 := Lib.hid ho5
                     have HG5 := Lib.hid hg5
                     have HAT := Lib.hid hat5
                     clear ho5 hg5 hat5)
        go_roundg (n - (i + 1))
        case measure => have := HIL.out; omega
        case rel =>
          have hb4 : ∀ o, Below w3.heap.size w3 (w3.alloc o) := fun o => (Below.refl _ _).alloc (Nat.le_refl _) _
          have hbAll : ∀ o, Below wA.heap.size wA (w3.alloc o) := fun o => HBL2.out.trans ((HB3.out.trans ((hb4 o).mono HB3.out.size)).mono HBL2.out.size)
          have hl5 : (L ++ [MG.mu 3 dd3 aa3 cc3 kk3]).length = L.length + 1 := by simp
          have hbox : ∀ r, (Value.slice A1 L.length k1).ownBlock = some r → wA.heap.size ≤ r ∧ r < wr.heap.size := fun r hr => ⟨(HOWN.out.lt r hr).1, (HOWN.out.lt r hr).2⟩
          have hkeep : ∀ g : MG, g.In (fun a => wA.heap.size ≤ a ∧ some a ≠ (Value.slice A1 L.length k1).ownBlock) (w3.alloc (.cells #[.slice aa3 kk3.length cc3, .int .u8 dd3] 87)) → g.In (fun a => wA.heap.size ≤ a ∧ some a ≠ (Value.slice A5 (L.length + 1) c5).ownBlock) w5 := fun g hg => by
            refine MG.less (fun a ha => ⟨ha.1.1, fun e => ?_⟩) (MG.keep (Keeps.grown HG5.out (fun r hr ha => ha.1.2 hr.symm)) (MG.old hg))
            rcases HAT.out with h | h
            · exact ha.1.2 (e.trans h)
            · rw [h] at e
              have h1 := Option.some.inj e
              have h2 := ha.2
              omega
          refine ⟨i + 1, L ++ [MG.mu 3 dd3 aa3 cc3 kk3], A5, c5, by omega, by go_num, by rw [hl5], by rw [hl5]; have := HLL.out; omega, ?_, ?_, ?_, ?_⟩
          · rw [HTK.out, List.map_append, HLP.out]
            have h1 : fitsK 6 (IG.mk 3 gd gA gca gns gB gcb gks).plain.new = true := by rw [HFK.out]; rfl
            rw [List.filter_cons, if_pos h1, List.filter_nil, ← HP2.out]; rfl
          · intro g hg
            rw [hl5]
            rcases List.mem_append.1 hg with hg | hg
            · obtain ⟨e1, e2⟩ := HLIN.out g hg
              exact ⟨e1, hkeep g (MG.up (hb4 _) (MG.up HB3.out e2))⟩
            · have := List.mem_singleton.1 hg
              subst this
              refine ⟨rfl, hkeep _ (MG.up (hb4 _) (MG.less (fun a ha => ?_) H2.out))⟩
              have ha' : wr.heap.size + 1 ≤ a := by simpa using ha
              exact ⟨by omega, fun e => by have := (hbox a e.symm).2; omega⟩
          · rw [hl5, List.flatMap_append, List.flatMap_cons, List.flatMap_nil, List.append_nil]
            exact HO5.out
          · exact (hbAll _).grown HG5.out (hbAll _).size (fun r hr => (hbox r hr).1)
      · have hgkb : (gk == 3) = false := beq_eq_false_iff_ne.2 hgk
        clear hg hmem hcell htake hfk hik hba
        go_wp2_with fail
        go_roundg (n - (i + 1))
        case measure => have := HIL.out; omega
        case rel =>
          refine ⟨i + 1, L, A1, k1, by omega, by go_num, rfl, by have := HLL.out; omega, ?_, ?_, ?_, HBL2.out.trans ((HBA.out _).mono HBL2.out.size)⟩
          · rw [HTK.out, HLP.out]
            have h1 : ¬ fitsK 6 (IG.mk gk gd gA gca gns gB gcb gks).plain.new = true := by rw [HFK.out]; simpa using hgk
            rw [List.filter_cons, if_neg h1, List.filter_nil, List.append_nil]
          · intro g hg
            obtain ⟨e1, e2⟩ := HLIN.out g hg
            exact ⟨e1, MG.up (HBA.out _) e2⟩
          · exact HOWN.out.alloc _
    · obtain rfl : i = n := by omega
      have htk : kids.take i = kids := List.take_of_length_le (by rw [← HN.out]; exact Nat.le_refl _)
      have HLP2 := Lib.hid (show L.map MG.plain = ((kids.map IG.plain).map PG.new).filter (fitsK 6) from by rw [HLP.out, htk])
      have hltI : (i : Int) ≤ (i : Int) := Int.le_refl _
      have hdo := dimOf_calls d
      obtain ⟨x, hxe⟩ : ∃ x, x = dm d := ⟨_, rfl⟩
      have hx4 : x < 4 := by rw [hxe]; exact dm_lt d
      rw [← hxe] at hdo
      have HX := Lib.hid hxe
      clear htk hxe
      have HFIN := Lib.hid (show ∀ w', Below wr.heap.size wr w' → Below w.heap.size w w' ∧ Blk w' (w.heap.size + 1) 98 #[.slice none 0 0, .int .u8 0] from fun w' hb' => by
        have h1 := HBL2.out.trans (hb'.mono HBL2.out.size)
        exact ⟨HBL.out.trans (h1.mono HBL.out.size), HD.out.below h1 HD.out.lt⟩)
      by_cases hL0 : L.length = 0
      · obtain rfl : L = [] := List.eq_nil_of_length_eq_zero hL0
        have HFC := Lib.hid (show ∀ w', Calls Tryz.prog 124 #[.agg #[.slice none 0 0, .int .u8 0], .int .u8 x] w' (ForcePost (fun _ => False) w' x (.mu 6 0 none 0 [])) from fun w' => force6 (fun g hg => by cases hg) x hx4 (fun _ => False) w' (by
          rw [MG.In]
          exact ⟨by decide, by decide, by simp, ⟨by simp [Sl], fun h => absurd h (by simp)⟩, trivial⟩))
        have HOWN0 := HOWN.out
        clear hL0 hLn
        go_wp2_with fail
        refine (hdo _).mono ?_
        rintro e w9 ⟨rfl, hw9⟩
        replace hw9 := hw9.symm
        subst hw9
        go_wp2_with fail
        refine (HFC.out _).mono ?_
        rintro e w3 ⟨g2, rfl, h2, hk2, hp2, hb3⟩
        obtain ⟨d3, A3, c3, ks3, rfl⟩ := MG.is_mu (S := S) (w := w) (k := 6) hk2 (by decide) (by decide) (by decide)
        rw [show (MG.mu 6 d3 A3 c3 ks3).enc.toArray = #[.slice A3 ks3.length c3, .int .u8 d3] from rfl]
        obtain ⟨hbw, hDw⟩ := HFIN.out w3 hb3
        obtain ⟨z0, z1, y0, y1, zl⟩ := cells2 hDw
        have HBW := Lib.hid hbw
        have H2 := Lib.hid h2
        have HP2 := Lib.hid hp2
        clear h2 hk2 hp2 hb3 hbw hDw e0 e1 e2 e3 el
        go_wp2_with fail
        have hno : ¬ Fresh (fun _ => False) wr (w.heap.size + 1) := fun h => by
          rcases h with h | h
          · exact h
          · have := HSZ.out; omega
        refine bodyPost_ret (v := .agg #[.slice A3 ks3.length c3, .int .u8 d3]) (by simp [results, Tryz.results64, go_sem, z0, z1, zl]) rfl ⟨.mu 6 d3 A3 c3 ks3, rfl, ?_, rfl, ?_, (HBW.out.setCell (by simp) _).setCell (by simp) _⟩
        · refine MG.less (fun a ha => ?_) (MG.keep ((Keeps.set (p := ⟨w.heap.size + 1, 0, none⟩) hno _).trans (.set (p := ⟨w.heap.size + 1, 1, none⟩) hno _)) H2.out)
          rcases ha with ha | ha
          · exact ha.elim
          · have := HBL.out.size; show w.heap.size ≤ a; omega
        · rw [HNEW.out, ← HLP2.out, HP2.out, MG.plain_mu, frc_eq, frcN_nil, ← HX.out]
          simp [joinG]
      · have hpos : 0 < L.length := by omega
        have hposE : ((L.length : Int) == 0) = false := beq_eq_false_iff_ne.2 (by omega)
        have HNP := Lib.hid (new6 (c := k1) (d0 := x) hpos (by unfold kbig; omega) (S := fun a => wA.heap.size ≤ a) (w := wr) ⟨Sl.of_own HOWN.out, fun _ a ha => (HOWN.out.lt a.block (by rw [ha]; rfl)).1⟩ (MG.inL_iff.2 fun g hg => ⟨(HLIN.out g hg).1, MG.less (fun a ha => ha.1) (HLIN.out g hg).2⟩))
        clear hL0
        go_wp2_with fail
        refine HNP.out.mono ?_
        rintro e w3 ⟨g2, rfl, h2, hk2, hp2, hb3⟩
        obtain ⟨d3, A3, c3, ks3, rfl⟩ := MG.is_mu (S := S) (w := w) (k := 6) hk2 (by decide) (by decide) (by decide)
        rw [show (MG.mu 6 d3 A3 c3 ks3).enc.toArray = #[.slice A3 ks3.length c3, .int .u8 d3] from rfl]
        obtain ⟨hbw, hDw⟩ := HFIN.out w3 hb3
        obtain ⟨z0, z1, y0, y1, zl⟩ := cells2 hDw
        have HBW := Lib.hid hbw
        have H2 := Lib.hid h2
        have HP2 := Lib.hid hp2
        clear h2 hk2 hp2 hb3 hbw hDw e0 e1 e2 e3 el
        go_wp2_with fail
        have hno : ¬ Fresh (fun a => wA.heap.size ≤ a) wr (w.heap.size + 1) := fun h => by
          rcases h with h | h
          · have := HSZ.out; omega
          · have := HSZ.out; omega
        refine bodyPost_ret (v := .agg #[.slice A3 ks3.length c3, .int .u8 d3]) (by simp [results, Tryz.results64, go_sem, z0, z1, zl]) rfl ⟨.mu 6 d3 A3 c3 ks3, rfl, ?_, rfl, ?_, (HBW.out.setCell (by simp) _).setCell (by simp) _⟩
        · refine MG.less (fun a ha => ?_) (MG.keep ((Keeps.set (p := ⟨w.heap.size + 1, 0, none⟩) hno _).trans (.set (p := ⟨w.heap.size + 1, 1, none⟩) hno _)) H2.out)
          have hs0 := HBL.out.size
          rcases ha with ha | ha
          · show w.heap.size ≤ a; omega
          · show w.heap.size ≤ a; omega
        · rw [HNEW.out, ← HLP2.out, HP2.out, ← HX.out]
          rfl

end Go.Proofs.YtbacakdpfiiblaaGreat.geo
