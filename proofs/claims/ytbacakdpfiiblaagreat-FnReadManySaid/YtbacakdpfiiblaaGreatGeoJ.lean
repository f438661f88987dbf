/-
  Contracts: a multi made of points; a line and a point made of plain data.
-/
import Derived.Test.YtbacakdpfiiblaaGreatGeoI
namespace Go.Proofs.YtbacakdpfiiblaaGreat.geo
open Go.ChangeShapes Go.WideShapes Go.ChangeAt Go.RowKit
open Go.Proofs.YtbacakdpfiiblaaGreat.mem
set_option linter.unusedVariables false
set_option linter.unusedSimpArgs false

set_option maxHeartbeats 8000000 in
set_option maxRecDepth 100000 in
theorem new4 {A : Option Addr} {c d0 : Nat} {kids : List MG} (hpos : 0 < kids.length) (hkb : kids.length ≤ kbig) {S : Nat → Prop} {w : World} (hA0 : SlS S w A kids.length 6 (kids.flatMap MG.enc)) (hkid0 : MG.InL S w 1 kids) :
    Calls Tryz.prog 121 #[.slice A kids.length c] w (NewPost S w 4 d0 kids) := by
  have hA := hA0.1
  have hkid : ∀ g ∈ kids, ∃ d full p, g = .pt d full p ∧ d < 4 ∧ clip d p = p := fun g hg => by
    obtain ⟨e1, e2⟩ := MG.inL_iff.1 hkid0 g hg
    obtain ⟨d, full, p, rfl⟩ := MG.is_pt e1 e2
    rw [MG.In] at e2
    exact ⟨d, full, p, rfl, e2⟩
  have hesz : ∀ g ∈ kids, g.enc.length = 6 := fun g hg => by obtain ⟨d, full, p, rfl, -⟩ := hkid g hg; rfl
  obtain ⟨wA, hwA⟩ : ∃ wA, wA = w.alloc (.cells #[.slice none 0 0, .int .u8 0] 91) := ⟨_, rfl⟩
  have hbl : Below w.heap.size w wA := by rw [hwA]; exact (Below.refl _ _).alloc (Nat.le_refl _) _
  have hD : Blk wA w.heap.size 91 #[.slice none 0 0, .int .u8 0] := by rw [hwA]; exact Blk.new _ _ _
  have hsz : wA.heap.size = w.heap.size + 1 := by rw [hwA]; simp
  obtain ⟨n, hn⟩ : ∃ n, n = kids.length := ⟨_, rfl⟩
  obtain ⟨b, off, hAe, hblk, hcell⟩ := sl_part hA hesz hpos
  subst hAe
  have HKB := Lib.hid hkb
  have HA := Lib.hid (hA.up hbl)
  have HKID := Lib.hid hkid
  have HCELL := Lib.hid hcell
  have HD := Lib.hid hD
  have HBL := Lib.hid hbl
  have HWA := Lib.hid hwA
  have HSZ := Lib.hid hsz
  have HN := Lib.hid hn
  unfold kbig at hkb
  rw [← hn] at hkb hpos ⊢
  have hposI : (0 : Int) < (n : Int) := by omega
  have hposE : ((n : Int) == 0) = false := beq_eq_false_iff_ne.2 (by omega)
  clear hA hA0 hkid hkid0 hesz hcell hbl hD hwA hsz hn
  go_enter Tryz.func121, Tryz.ntmps121
  go_wp2_with fail
  rw [← HWA.out]
  go_loopg [3, 13] n (fun q ct ci wr => ∃ (i : Nat), i + q = n ∧ ci = .int .i64 (i : Nat) ∧ ct = .int .u8 (cd 3 ((kids.take i).map MG.plain) : Nat) ∧ Below wA.heap.size wA wr)
  case atStart => exact ⟨0, by omega, by go_num, rfl, Below.refl _ _⟩
  case round =>
    obtain ⟨i, hi', rfl, rfl, hbl⟩ := hrel
    have HIL := Lib.hid hi'
    have HBL2 := Lib.hid hbl
    have hin : i ≤ n := by omega
    have sr := hbl.size
    have hx := cd_lt ((kids.take i).map MG.plain) 3 (by decide)
    clear hi' hbl
    by_cases hlt : i < n
    · have hik : i < kids.length := by rw [← HN.out]; exact hlt
      obtain ⟨g, hg⟩ : ∃ g, kids[i]? = some g := ⟨kids[i], List.getElem?_eq_getElem hik⟩
      have hmem := List.mem_of_getElem? hg
      obtain ⟨d, full, p, rfl, hd4, hcl⟩ := HKID.out g hmem
      have hbb := HBL.out.trans (HBL2.out.mono HBL.out.size)
      have d0 := (hbb.cell (p := ⟨b, off + (i * 6 + 0), none⟩) hblk).trans (HCELL.out i _ hg 0 _ rfl)
      have d1 := (hbb.cell (p := ⟨b, off + (i * 6 + 1), none⟩) hblk).trans (HCELL.out i _ hg 1 _ rfl)
      have d2 := (hbb.cell (p := ⟨b, off + (i * 6 + 2), none⟩) hblk).trans (HCELL.out i _ hg 2 _ rfl)
      have d3 := (hbb.cell (p := ⟨b, off + (i * 6 + 3), none⟩) hblk).trans (HCELL.out i _ hg 3 _ rfl)
      have d4 := (hbb.cell (p := ⟨b, off + (i * 6 + 4), none⟩) hblk).trans (HCELL.out i _ hg 4 _ rfl)
      have d5 := (hbb.cell (p := ⟨b, off + (i * 6 + 5), none⟩) hblk).trans (HCELL.out i _ hg 5 _ rfl)
      rw [Nat.add_zero] at d0
      rw [← Nat.add_assoc] at d1 d2 d3 d4 d5
      have hba : ∀ o, Below wr.heap.size wr (wr.alloc o) := fun o => (Below.refl _ _).alloc (Nat.le_refl _) _
      obtain ⟨x, hxe⟩ : ∃ x, x = cd 3 ((kids.take i).map MG.plain) := ⟨_, rfl⟩
      have hand := u8_and (x := x) (y := d) (by rw [hxe]; exact hx) hd4
      have hcd : cd 3 ((kids.take (i + 1)).map MG.plain) = x &&& d := by
        rw [List.take_add_one, hg, List.map_append]
        show cd 3 (_ ++ [(MG.pt d full p).plain]) = _
        rw [cd_snoc, hxe, MG.plain, PG.d, dm_nat hd4]
      rw [← hxe]
      have HCD := Lib.hid hcd
      have HBA := Lib.hid (fun o => HBL2.out.trans ((hba o).mono HBL2.out.size))
      have hltI : (i : Int) < (n : Int) := by omega
      clear hg hmem hbb hba hcd hxe hx hik hcl hd4
      go_wp2_with fail
      refine (ctype1 _ _ _ _ _ _ _).mono ?_
      rintro e w3 ⟨rfl, hb3⟩
      have HB3 := Lib.hid hb3
      clear hb3 d0 d1 d2 d3 d4 d5
      go_wp2_with fail
      go_roundg (n - (i + 1))
      case measure => have := HIL.out; omega
      case rel => exact ⟨i + 1, by omega, by go_num, by rw [HCD.out], (HBA.out _).trans (HB3.out.mono (HBA.out _).size)⟩
    · obtain rfl : i = n := by omega
      have hne := HN.out
      have htk : kids.take i = kids := List.take_of_length_le (by rw [← hne]; exact Nat.le_refl _)
      rw [htk] at hx ⊢
      obtain ⟨x, hxe⟩ : ∃ x, x = cd 3 (kids.map MG.plain) := ⟨_, rfl⟩
      rw [← hxe] at hx ⊢
      have HX := Lib.hid hxe
      have HFP := forcePts (c := c) hx HKB.out (HA.out.up HBL2.out) HKID.out
      rw [← HN.out] at HFP
      have HFP := Lib.hid HFP
      clear hne htk hxe
      go_wp2_with fail
      refine HFP.out.mono ?_
      rintro e w1 ⟨A1, L, rfl, hs1, hl1, hp1, hn1, hb1⟩
      obtain ⟨z0, z1, y0, y1, zl⟩ := cells2 ((HD.out.below HBL2.out HD.out.lt).below hb1 (Nat.lt_of_lt_of_le HD.out.lt HBL2.out.size))
      have hbw := HBL.out.trans (HBL2.out.mono HBL.out.size)
      have HBW := Lib.hid (hbw.trans (hb1.mono hbw.size))
      have HS1 := Lib.hid hs1
      have HL1 := Lib.hid hl1
      have HP1 := Lib.hid hp1
      have HN1 := Lib.hid hn1
      clear hb1 hs1 hl1 hp1 hn1 hbw
      go_wp2_with fail
      have hno : ¬ (fun a => wr.heap.size ≤ a) w.heap.size := by have := HD.out.lt; show ¬ wr.heap.size ≤ _; omega
      refine bodyPost_ret (v := .agg #[.slice A1 L.length L.length, .int .u8 x]) (by simp [results, Tryz.results121, go_sem, z0, z1, zl]) rfl ⟨.mu 4 x A1 L.length L, rfl, ?_, rfl, ?_, (HBW.out.setCell (Nat.le_refl _) _).setCell (Nat.le_refl _) _⟩
      · rw [MG.In]
        refine ⟨hx, by decide, by rw [HN1.out]; exact HKB.out, ?_, MG.inL_iff.2 fun g hg => ⟨(HL1.out g hg).1, (HL1.out g hg).2 _ _⟩⟩
        exact (HS1.out.keep ((Keeps.set (p := ⟨w.heap.size, 0, none⟩) hno _).trans (.set (p := ⟨w.heap.size, 1, none⟩) hno _))).less (fun a ha => .inr (Nat.le_trans HBL.out.size (Nat.le_trans sr ha)))
      · rw [MG.plain_mu, HP1.out]
        unfold joinG
        rw [if_neg (fun h => by rw [List.map_eq_nil_iff] at h; have := HN.out; rw [h] at this; simp at this; omega), ← HX.out, List.map_map]
        rfl

/-! ### plain data that is small; what is made of it -/
mutual
def PG.small : PG → Prop
  | .mk k d ns kids => (ns.length ≤ 1048576 ∧ kids.length ≤ 1048576) ∧ PG.smallL kids
def PG.smallL : List PG → Prop
  | [] => True
  | g :: l => g.small ∧ PG.smallL l
end
theorem smallL_iff : ∀ {l : List PG}, PG.smallL l ↔ ∀ g ∈ l, g.small
  | [] => by simp [PG.smallL]
  | g :: l => by rw [PG.smallL, smallL_iff (l := l)]; simp
/-- A geometry of a kind comes back, all of it new: what is made of plain data. -/
def MadePost (w : World) (k : Nat) (g : PG) (e : Ending) (w' : World) : Prop :=
  ∃ m : MG, e = .returned (.agg m.enc.toArray) ∧ m.In (fun a => w.heap.size ≤ a) w' ∧ m.kind = k ∧ m.plain = g.new ∧ Below w.heap.size w w'
/-- The contract of what makes a geometry of a kind. -/
def MadeC (f : FuncId) (k : Nat) (g : IG) : Prop := ∀ (S : Nat → Prop) (w : World), g.In S w → g.plain.small → Calls Tryz.prog f #[.agg g.enc.toArray] w (MadePost w k g.plain)

theorem emit_head {d : Nat} (hd : d < 4) {ns : List Nat} (h : wd d ≤ ns.length) : emit d (plAt d ns 0) = ns.take (wd d) := by
  obtain ⟨l, hl, e⟩ := whole_flat hd 1 (ns.take (wd d)) (by rw [List.length_take]; omega)
  match l, hl with
  | [p], _ =>
    have e2 : ns.take (wd d) = emit d p := by rw [e]; simp
    have e3 : ns = emit d p ++ ns.drop (wd d) := by rw [← e2, List.take_append_drop]
    rw [e2]
    conv => lhs; rw [e3]
    rw [plAt_head hd, emit_clip hd]
theorem plAt_clip (d : Nat) (ns : List Nat) (i : Nat) : clip d (plAt d ns i) = plAt d ns i := by
  unfold clip plAt
  simp only [Pl.mk.injEq, true_and]
  constructor
  · split <;> rfl
  · split <;> rfl

set_option maxHeartbeats 4000000 in
set_option maxRecDepth 100000 in
theorem line_calls {d : Int} {A : Option Addr} {ca : Nat} {ns : List Nat} {B : Option Addr} {cb : Nat} {kids : List IG} : MadeC 56 2 (.mk 2 d A ca ns B cb kids) := fun S w h hs => by
  rw [IG.In] at h
  obtain ⟨-, ⟨hn, -⟩, -, hA, -, -⟩ := h
  rw [IG.plain_eq] at hs ⊢
  rw [PG.small] at hs
  show Calls Tryz.prog 56 #[.agg #[.int .i64 2, .int .i64 d, .slice A ns.length ca, .slice B kids.length cb]] w _
  obtain ⟨wA, hwA⟩ : ∃ wA, wA = (w.alloc (.cells #[.int .i64 2, .int .i64 d, .slice A ns.length ca, .slice B kids.length cb] 25)).alloc (.cells #[.int .u8 0, .slice none 0 0] 83) := ⟨_, rfl⟩
  have hbl : Below w.heap.size w wA := by rw [hwA]; exact ((Below.refl _ _).alloc (Nat.le_refl _) _).alloc (by simp) _
  have hD : Blk wA (w.heap.size + 1) 83 #[.int .u8 0, .slice none 0 0] := by
    rw [hwA]
    have := Blk.new (w.alloc (.cells #[.int .i64 2, .int .i64 d, .slice A ns.length ca, .slice B kids.length cb] 25)) 83 #[.int .u8 0, .slice none 0 0]
    simpa using this
  have hsz : wA.heap.size = w.heap.size + 2 := by rw [hwA]; simp
  have hq4 : ns.length / wd (dm d) * 4 ≤ big := by
    have h1 := Nat.div_le_self ns.length (wd (dm d))
    have h2 := hs.1.1
    unfold big
    omega
  have HSQ := Lib.hid (sequence_calls A ns.length ca d ns hn hq4 wA (hA.1.up hbl))
  have HD := Lib.hid hD
  have HBL := Lib.hid hbl
  have HWA := Lib.hid hwA
  have HSZ := Lib.hid hsz
  have hnew : (PG.mk 2 d ns (kids.map IG.plain)).new = .mk 2 (dm d) (ns.take (fillN (dm d) ns.length)) [] := by rw [new_eq, if_neg (by decide), if_pos (by decide)]; rfl
  have HNEW := Lib.hid hnew
  clear hs hbl hD hwA hsz hA hn hq4 hnew
  go_enter Tryz.func56, Tryz.ntmps56
  go_wp2_with fail
  rw [← HWA.out]
  refine HSQ.out.mono ?_
  rintro e w1 ⟨A1, c1, rfl, h1, hb1⟩
  have H1 := Lib.hid h1
  have HB1 := Lib.hid hb1
  clear h1 hb1
  go_wp2_with fail
  refine (newLine_calls _ _ _ _ _).mono ?_
  rintro e w2 ⟨rfl, hb2⟩
  have hb01 := HBL.out.trans (HB1.out.mono HBL.out.size)
  have HB02 := Lib.hid (hb01.trans (hb2.mono hb01.size))
  have H2 := Lib.hid (MG.up hb2 H1.out)
  obtain ⟨z0, z1, y0, y1, zl⟩ := cells2 ((HD.out.below HB1.out HD.out.lt).below hb2 (Nat.lt_of_lt_of_le HD.out.lt HB1.out.size))
  clear hb2 hb01
  go_wp2_with fail
  have hno : ¬ (fun a => wA.heap.size ≤ a) (w.heap.size + 1) := by have := HSZ.out; show ¬ wA.heap.size ≤ _; omega
  refine bodyPost_ret (v := .agg #[.int .u8 (dm d), .slice A1 (ns.take (fillN (dm d) ns.length)).length c1]) (by simp [results, Tryz.results56, go_sem, z0, z1, zl]) rfl ⟨.ln (dm d) A1 c1 (ns.take (fillN (dm d) ns.length)), rfl, ?_, rfl, ?_, (HB02.out.setCell (by simp) _).setCell (by simp) _⟩
  · exact MG.less (fun a ha => Nat.le_trans HBL.out.size ha) (MG.keep ((Keeps.set (p := ⟨w.heap.size + 1, 0, none⟩) hno _).trans (.set (p := ⟨w.heap.size + 1, 1, none⟩) hno _)) H2.out)
  · rw [HNEW.out]; rfl

set_option maxHeartbeats 8000000 in
set_option maxRecDepth 100000 in
theorem point_calls {d : Int} {A : Option Addr} {ca : Nat} {ns : List Nat} {B : Option Addr} {cb : Nat} {kids : List IG} : MadeC 54 1 (.mk 1 d A ca ns B cb kids) := fun S w h hs => by
  rw [IG.In] at h
  obtain ⟨-, ⟨hn, -⟩, -, hA, -, -⟩ := h
  rw [IG.plain_eq] at hs ⊢
  rw [PG.small] at hs
  show Calls Tryz.prog 54 #[.agg #[.int .i64 1, .int .i64 d, .slice A ns.length ca, .slice B kids.length cb]] w _
  obtain ⟨wA, hwA⟩ : ∃ wA, wA = (w.alloc (.cells #[.int .i64 1, .int .i64 d, .slice A ns.length ca, .slice B kids.length cb] 25)).alloc (.cells #[.float .f64 0, .float .f64 0, .float .f64 0, .float .f64 0, .int .u8 0, .bool false] 77) := ⟨_, rfl⟩
  have hbl : Below w.heap.size w wA := by rw [hwA]; exact ((Below.refl _ _).alloc (Nat.le_refl _) _).alloc (by simp) _
  have hB : Blk wA w.heap.size 25 #[.int .i64 1, .int .i64 d, .slice A ns.length ca, .slice B kids.length cb] := by rw [hwA]; exact (Blk.new _ _ _).alloc _
  have hD : Blk wA (w.heap.size + 1) 77 #[.float .f64 0, .float .f64 0, .float .f64 0, .float .f64 0, .int .u8 0, .bool false] := by
    rw [hwA]
    have := Blk.new (w.alloc (.cells #[.int .i64 1, .int .i64 d, .slice A ns.length ca, .slice B kids.length cb] 25)) 77 #[.float .f64 0, .float .f64 0, .float .f64 0, .float .f64 0, .int .u8 0, .bool false]
    simpa using this
  have hq4 : ns.length / wd (dm d) * 4 ≤ big := by
    have h1 := Nat.div_le_self ns.length (wd (dm d))
    have h2 := hs.1.1
    unfold big
    omega
  have hdz := dm_lt d
  have h2 := wd_two (dm d)
  have hfl := fill_le (dm d) ns.length
  have hlm : (ns.take (fillN (dm d) ns.length)).length = fillN (dm d) ns.length := by rw [List.length_take]; omega
  have hdiv : fillN (dm d) ns.length / wd (dm d) = ns.length / wd (dm d) := by unfold fillN; rw [Nat.mul_div_cancel _ (by omega)]
  have HSQ := Lib.hid (sequence_calls A ns.length ca d ns hn hq4 wA (hA.1.up hbl))
  have hdo := dimOf_calls d
  obtain ⟨D, hDe⟩ : ∃ D, D = dm d := ⟨_, rfl⟩
  obtain ⟨M, hM⟩ : ∃ M, M = ns.take (fillN (dm d) ns.length) := ⟨_, rfl⟩
  have hnew : (PG.mk 1 d ns (kids.map IG.plain)).new = .mk 1 (dm d) (ns.take (min (ns.length / wd (dm d)) 1 * wd (dm d))) [] := by rw [new_eq, if_pos (by decide)]
  have hML : M.length / wd D = ns.length / wd D := by rw [hM, hlm, hDe, hdiv]
  have hMb : M.length ≤ big := by rw [hM, hlm]; omega
  have hMt : M.take (wd D) = if ns.length / wd D = 0 then [] else ns.take (wd D) := by
    rw [hM, hDe]
    by_cases h0 : ns.length / wd (dm d) = 0
    · rw [if_pos h0]
      unfold fillN
      rw [h0, Nat.zero_mul]; simp
    · rw [if_neg h0, List.take_take, Nat.min_eq_left]
      unfold fillN
      exact Nat.le_mul_of_pos_left _ (by omega)
  rw [← hM, ← hDe] at HSQ
  rw [← hDe] at hdo hdz hnew
  have HNEW := Lib.hid hnew
  have HML := Lib.hid hML
  have HMT := Lib.hid hMt
  have HMB := Lib.hid hMb
  have HLEN := Lib.hid (fun A c w => length_calls A M.length c D hdz hMb w)
  have HB := Lib.hid hB
  have HD := Lib.hid hD
  have HBL := Lib.hid hbl
  have HWA := Lib.hid hwA
  have HA := Lib.hid hA
  clear hs hbl hB hD hwA hA hn hq4 hnew hML hMt hM hDe h2 hfl hlm hdiv hMb
  have HH := Lib.hid (show ∀ w1 : World, Below wA.heap.size wA w1 → ∀ o w2, Below (w1.alloc o).heap.size (w1.alloc o) w2 → Below wA.heap.size wA w2 from fun w1 hb1 o w2 hb2 => by
    have h1 := hb1.alloc hb1.size o
    exact h1.trans (hb2.mono h1.size))
  by_cases hq : ns.length / wd D = 0
  · have HQ := Lib.hid hq
    have HLEN0 := Lib.hid (show ∀ A c w, Calls Tryz.prog 107 #[.agg #[.int .u8 D, .slice A M.length c]] w fun e w' => e = .returned (.int .i64 0) ∧ Below w.heap.size w w' from fun A c w => by
      have := HLEN.out A c w
      rw [HML.out, hq] at this
      exact this)
    clear hq HLEN
    go_enter Tryz.func54, Tryz.ntmps54
    go_wp2_with fail
    rw [← HWA.out]
    refine HSQ.out.mono ?_
    rintro e w1 ⟨A1, c1, rfl, h1, hb1⟩
    obtain ⟨c0, c1', c2, c3, -, -, -, -, cl⟩ := cells4 (HB.out.below hb1 HB.out.lt)
    have HB1 := Lib.hid hb1
    clear h1 hb1
    go_wp2_with fail
    refine (HLEN0.out _ _ _).mono ?_
    rintro e w2 ⟨rfl, hb2⟩
    have HB2 := Lib.hid (HH.out _ HB1.out _ _ hb2)
    clear hb2 c0 c1' c2 c3 cl
    obtain ⟨c0, c1', c2, c3, -, -, -, -, cl⟩ := cells4 (HB.out.below HB2.out HB.out.lt)
    obtain ⟨z0, z1, z2, z3, z4, z5, y0, y1, y2, y3, y4, y5, zl⟩ := cells6 (HD.out.below HB2.out HD.out.lt)
    go_wp2_with fail
    refine (hdo _).mono ?_
    rintro e w9 ⟨rfl, hw9⟩
    replace hw9 := hw9.symm
    subst hw9
    go_wp2_with fail
    refine (newEmpty_calls _ _).mono ?_
    rintro e w3 ⟨rfl, hb3⟩
    have HB3 := Lib.hid (HB2.out.trans (hb3.mono HB2.out.size))
    clear hb3 c0 c1' c2 c3 cl z0 z1 z2 z3 z4 z5 y0 y1 y2 y3 y4 y5 zl
    obtain ⟨z0, z1, z2, z3, z4, z5, y0, y1, y2, y3, y4, y5, zl⟩ := cells6 (HD.out.below HB3.out HD.out.lt)
    go_wp2_with fail
    refine bodyPost_ret (v := .agg #[.float .f64 0, .float .f64 0, .float .f64 0, .float .f64 0, .int .u8 D, .bool false]) (by simp [results, Tryz.results54, go_sem, z0, z1, z2, z3, z4, z5, zl]) rfl ⟨.pt D false ⟨0, 0, 0, 0⟩, rfl, ?_, rfl, ?_, ?_⟩
    · rw [MG.In]
      exact ⟨hdz, by simp [clip]⟩
    · rw [HNEW.out, HQ.out]
      simp [MG.plain]
    · have hb := HBL.out.trans (HB3.out.mono HBL.out.size)
      repeat' (first | (with_reducible exact hb) | (with_reducible refine Below.setCell ?_ (by simp) _))
  · have hq0 : 0 < ns.length / wd D := Nat.pos_of_ne_zero hq
    have HQ := Lib.hid hq0
    obtain ⟨r, hr⟩ : ∃ r, r = M.length / wd D := ⟨_, rfl⟩
    have hr0 : 0 < r := by rw [hr, HML.out]; exact hq0
    have hrI : ((r : Int) == 0) = false := beq_eq_false_iff_ne.2 (by omega)
    have HLEN0 := Lib.hid (show ∀ A c w, Calls Tryz.prog 107 #[.agg #[.int .u8 D, .slice A M.length c]] w fun e w' => e = .returned (.int .i64 (r : Nat)) ∧ Below w.heap.size w w' from fun A c w => by
      have := HLEN.out A c w
      rw [← hr] at this
      exact this)
    have hwM : wd D ≤ M.length := by
      have h1 := Nat.div_mul_le_self M.length (wd D)
      rw [← hr] at h1
      have h2 : 1 * wd D ≤ r * wd D := Nat.mul_le_mul_right _ hr0
      omega
    have HWM := Lib.hid hwM
    clear hq HLEN hq0 hr hwM
    go_enter Tryz.func54, Tryz.ntmps54
    go_wp2_with fail
    rw [← HWA.out]
    refine HSQ.out.mono ?_
    rintro e w1 ⟨A1, c1, rfl, h1, hb1⟩
    obtain ⟨c0, c1', c2, c3, -, -, -, -, cl⟩ := cells4 (HB.out.below hb1 HB.out.lt)
    have HB1 := Lib.hid hb1
    have H1 := Lib.hid h1
    clear h1 hb1
    go_wp2_with fail
    refine (HLEN0.out _ _ _).mono ?_
    rintro e w2 ⟨rfl, hb2⟩
    have hba : ∀ o, Below w1.heap.size w1 (w1.alloc o) := fun o => (Below.refl _ _).alloc (Nat.le_refl _) _
    have hN : Blk (w1.alloc (.cells #[.int .u8 D, .slice A1 M.length c1] 81)) w1.heap.size 81 #[.int .u8 D, .slice A1 M.length c1] := Blk.new _ _ _
    obtain ⟨n0, n1, -, -, nl⟩ := cells2 (hN.below hb2 hN.lt)
    have H2 := Lib.hid (MG.up hb2 (MG.up (hba _) H1.out))
    have HB2 := Lib.hid (HH.out _ HB1.out _ _ hb2)
    clear hb2 c0 c1' c2 c3 cl hba hN
    have HGET := Lib.hid (show Calls Tryz.prog 73 #[.agg #[.int .u8 D, .slice A1 M.length c1], .int .i64 ((0 : Nat) : Int)] w2 _ from get_calls (i := 0) hdz (by have := H2.out; rw [MG.In] at this; exact this.2.2.2.1) HMB.out (by have := HWM.out; omega))
    go_wp2_with fail
    refine HGET.out.mono ?_
    rintro e w3 ⟨rfl, hb3⟩
    obtain ⟨p, hp⟩ : ∃ p, p = plAt D M 0 := ⟨_, rfl⟩
    rw [← hp]
    have HP := Lib.hid hp
    have HB3 := Lib.hid (HB2.out.trans (hb3.mono HB2.out.size))
    clear hb3 n0 n1 nl hp
    go_wp2_with fail
    refine (newPoint_calls _ _ _ _ _ _).mono ?_
    rintro e w4 ⟨rfl, hb4⟩
    have HB4 := Lib.hid (HB3.out.trans (hb4.mono HB3.out.size))
    clear hb4
    obtain ⟨z0, z1, z2, z3, z4, z5, y0, y1, y2, y3, y4, y5, zl⟩ := cells6 (HD.out.below HB4.out HD.out.lt)
    go_wp2_with fail
    refine bodyPost_ret (v := .agg #[.float .f64 p.x, .float .f64 p.y, .float .f64 p.z, .float .f64 p.m, .int .u8 D, .bool true]) (by simp [results, Tryz.results54, go_sem, z0, z1, z2, z3, z4, z5, zl]) rfl ⟨.pt D true p, rfl, ?_, rfl, ?_, ?_⟩
    · rw [MG.In]
      exact ⟨hdz, by rw [HP.out]; exact plAt_clip _ _ _⟩
    · have hq := HQ.out
      rw [HNEW.out, MG.plain, if_pos rfl, HP.out, emit_head hdz HWM.out, HMT.out, if_neg (Nat.ne_of_gt hq), Nat.min_eq_right hq, Nat.one_mul]
    · have hb := HBL.out.trans (HB4.out.mono HBL.out.size)
      repeat' (first | (with_reducible exact hb) | (with_reducible refine Below.setCell ?_ (by simp) _))
end Go.Proofs.YtbacakdpfiiblaaGreat.geo
