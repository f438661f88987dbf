/-
  Contract: data that are the same are found alike.
-/
import Derived.Test.YtplphaaeibeheaaGreatGeoAA
namespace Go.Proofs.YtplphaaeibeheaaGreat.geo
open Go.ChangeShapes Go.WideShapes Go.ChangeAt Go.RowKit
open Go.Proofs.YtplphaaeibeheaaGreat.mem
set_option linter.unusedVariables false
set_option linter.unusedSimpArgs false

theorem allnL_mem : ∀ {l : List PG} {g : PG}, g ∈ l → ∀ x ∈ g.alln, x ∈ PG.allnL l
  | h :: l, g, hg, x, hx => by
    rw [PG.allnL]
    rcases List.mem_cons.1 hg with rfl | hg
    · exact List.mem_append.2 (.inl hx)
    · exact List.mem_append.2 (.inr (allnL_mem hg x hx))

set_option maxHeartbeats 8000000 in
set_option maxRecDepth 100000 in
theorem alike_same : ∀ (g h : IG) (S : Nat → Prop) (w : World), g.In S w → h.In S w → g.plain = h.plain → g.plain.fit → (∀ x ∈ g.plain.alln, isNum x) → Calls Tryz.prog 13 #[.agg g.enc.toArray, .agg h.enc.toArray] w (Gives w (.bool true)) := by
  intro g
  induction g using IG.ind with
  | h k d A ca ns B cb kids ih =>
    intro h2 S w h hh he hfit hnum
    obtain ⟨k', d', A', ca', ns', B', cb', kids'⟩ := h2
    rw [IG.plain_eq, IG.plain_eq] at he
    injection he with e1 e2 e3 e4
    subst e1 e2 e3
    have hns := by rw [IG.plain_eq] at hfit; exact fit_len hfit
    have hlk : kids'.length = kids.length := by have := congrArg List.length e4; simpa using this.symm
    rw [IG.In] at h hh
    obtain ⟨-, -, -, hA, hB0, hkid0⟩ := h
    obtain ⟨-, -, -, hA', hB0', hkid0'⟩ := hh
    have hkid := IG.inL_iff.1 hkid0
    have hkid' := IG.inL_iff.1 hkid0'
    rw [IG.plain_eq, PG.fit] at hfit
    rw [IG.plain_eq, PG.alln] at hnum
    have hkb : kids.length ≤ 1048576 := by have := hfit.1.2; simpa using this
    have hfk := fun g hg => fitL_iff.1 hfit.2 _ (List.mem_map_of_mem (f := IG.plain) (a := g) hg)
    have hnk : ∀ g ∈ kids, ∀ x ∈ g.plain.alln, isNum x := fun g hg x hx => hnum x (List.mem_append.2 (.inr (allnL_mem (List.mem_map_of_mem (f := IG.plain) hg) x hx)))
    have hn1 : ∀ x ∈ ns, isNum x := fun x hx => hnum x (List.mem_append.2 (.inl hx))
    rw [show (IG.mk k d A' ca' ns B' cb' kids').enc.toArray = #[.int .i64 k, .int .i64 d, .slice A' ns.length ca', .slice B' kids.length cb'] from by rw [← hlk]; rfl]
    show Calls Tryz.prog 13 #[.agg #[.int .i64 k, .int .i64 d, .slice A ns.length ca, .slice B kids.length cb], _] w _
    obtain ⟨w1, hw1⟩ : ∃ w1, w1 = (w.alloc (.cells #[.int .i64 k, .int .i64 d, .slice A ns.length ca, .slice B kids.length cb] 25)).alloc (.cells #[.int .i64 k, .int .i64 d, .slice A' ns.length ca', .slice B' kids.length cb'] 25) := ⟨_, rfl⟩
    have hb1 : Below w.heap.size w w1 := by rw [hw1]; exact ((Below.refl _ _).alloc (Nat.le_refl _) _).alloc (by simp) _
    have hX : Blk w1 w.heap.size 25 #[.int .i64 k, .int .i64 d, .slice A ns.length ca, .slice B kids.length cb] := by rw [hw1]; exact (Blk.new _ _ _).alloc _
    have hY : Blk w1 (w.heap.size + 1) 25 #[.int .i64 k, .int .i64 d, .slice A' ns.length ca', .slice B' kids.length cb'] := by
      rw [hw1]
      have := Blk.new (w.alloc (.cells #[.int .i64 k, .int .i64 d, .slice A ns.length ca, .slice B kids.length cb] 25)) 25 #[.int .i64 k, .int .i64 d, .slice A' ns.length ca', .slice B' kids.length cb']
      simpa using this
    have HEN := Lib.hid (equalNums_same A A' ns.length ca ca' ns (by omega) hn1 w1 (hA.1.up hb1) (hA'.1.up hb1))
    obtain ⟨n, hn⟩ : ∃ n, n = kids.length := ⟨_, rfl⟩
    have HSB := Lib.hid (hB0.1.up hb1)
    have HSB' := Lib.hid (hB0'.1.up hb1)
    have HKID := Lib.hid (fun g hg w' (hb : Below w.heap.size w w') => IG.up hb (hkid g hg))
    have HKID' := Lib.hid (fun g hg w' (hb : Below w.heap.size w w') => IG.up hb (hkid' g hg))
    have HIH := Lib.hid ih
    have HFK := Lib.hid hfk
    have HNK := Lib.hid hnk
    have HE4 := Lib.hid e4
    have HB1 := Lib.hid hb1
    have HN := Lib.hid hn
    have HLK := Lib.hid (hlk.trans hn.symm)
    rw [← hn] at hX hY hw1 hkb ⊢
    have HW1 := Lib.hid hw1
    have HY := Lib.hid hY
    obtain ⟨x0, x1, x2, x3, -, -, -, -, xl⟩ := cells4 hX
    obtain ⟨y0, y1, y2, y3, -, -, -, -, yl⟩ := cells4 hY
    obtain ⟨m, hm⟩ : ∃ m, m = ns.length := ⟨_, rfl⟩
    rw [← hm] at HW1 HEN x2 y2 HY ⊢
    clear hw1 hb1 hX hY hn hm ih hfit hnum hA hA' hB0 hB0' hkid0 hkid0' hkid hkid' hfk hnk hn1 e4 hlk hns
    go_enter Tryz.func13, Tryz.ntmps13
    go_upto_region 1 with fail
    rw [← HW1.out]
    go_wp2_with fail
    refine HEN.out.mono ?_
    rintro e9 w9 ⟨rfl, h9⟩
    obtain rfl := h9.symm
    have HEN2 := Lib.hid HEN
    clear HEN h9
    go_wp2_with fail
    clear x0 x1 x2 x3 y0 y1 y2 y3
    go_loopg [39] n (fun q ci wr => ∃ (i : Nat), i + q = n ∧ ci = .int .i64 (i : Nat) ∧ Below w1.heap.size w1 wr)
    case atStart => exact ⟨0, by omega, by go_num, Below.refl _ _⟩
    case round =>
      obtain ⟨i, hi', rfl, hbl⟩ := hrel
      have HIL := Lib.hid hi'
      have HBL2 := Lib.hid hbl
      have hin : i ≤ n := by omega
      clear hi' hbl
      by_cases hlt : i < n
      · have hik : i < kids.length := by rw [← HN.out]; exact hlt
        have hik' : i < kids'.length := by rw [HLK.out]; exact hlt
        obtain ⟨g, hg⟩ : ∃ g, kids[i]? = some g := ⟨kids[i], List.getElem?_eq_getElem hik⟩
        obtain ⟨h, hh⟩ : ∃ h, kids'[i]? = some h := ⟨kids'[i], List.getElem?_eq_getElem hik'⟩
        have hmem := List.mem_of_getElem? hg
        have hmem' := List.mem_of_getElem? hh
        have hpe : g.plain = h.plain := by
          have h1 := congrArg (fun l => l[i]?) HE4.out
          simp [hg, hh] at h1
          exact h1
        obtain ⟨b, off, hAe, hbo, hcell⟩ := sl_part HSB.out (fun g _ => g.enc_len) (by omega)
        obtain ⟨b', off', hAe', hbo', hcell'⟩ := sl_part HSB'.out (fun g _ => g.enc_len) (by omega)
        subst hAe hAe'
        have HBW := Lib.hid (HB1.out.trans (HBL2.out.mono HB1.out.size))
        have hgin := HKID.out g hmem _ HBW.out
        have hhin := HKID'.out h hmem' _ HBW.out
        have HCA := Lib.hid (fun w' (hb : Below wr.heap.size wr w') => HIH.out g hmem h S w' (IG.up hb hgin) (IG.up hb hhin) hpe (HFK.out g hmem) (HNK.out g hmem))
        obtain ⟨gk, gd, gA, gca, gns, gB, gcb, gks⟩ := g
        obtain ⟨fk, fd, fA, fca, fns, fB, fcb, fks⟩ := h
        have d0 := (HBL2.out.cell (p := ⟨b, off + (i * 4 + 0), none⟩) hbo).trans (hcell i _ hg 0 _ rfl)
        have d1 := (HBL2.out.cell (p := ⟨b, off + (i * 4 + 1), none⟩) hbo).trans (hcell i _ hg 1 _ rfl)
        have d2 := (HBL2.out.cell (p := ⟨b, off + (i * 4 + 2), none⟩) hbo).trans (hcell i _ hg 2 _ rfl)
        have d3 := (HBL2.out.cell (p := ⟨b, off + (i * 4 + 3), none⟩) hbo).trans (hcell i _ hg 3 _ rfl)
        rw [Nat.add_zero] at d0
        rw [← Nat.add_assoc] at d1 d2 d3
        have hltI : (i : Int) < (n : Int) := by omega
        have HCA := Lib.hid (show ∀ w', Below wr.heap.size wr w' → Calls Tryz.prog 13 #[.agg #[.int .i64 gk, .int .i64 gd, .slice gA gns.length gca, .slice gB gks.length gcb], .agg #[.int .i64 fk, .int .i64 fd, .slice fA fns.length fca, .slice fB fks.length fcb]] w' (Gives w' (.bool true)) from HCA.out)
        obtain ⟨wK, hwK⟩ : ∃ wK, wK = wr.alloc (.cells #[.int .i64 gk, .int .i64 gd, .slice gA gns.length gca, .slice gB gks.length gcb] 25) := ⟨_, rfl⟩
        have hbK : Below wr.heap.size wr wK := by rw [hwK]; exact (Below.refl _ _).alloc (Nat.le_refl _) _
        have hNK : Blk wK wr.heap.size 25 #[.int .i64 gk, .int .i64 gd, .slice gA gns.length gca, .slice gB gks.length gcb] := by rw [hwK]; exact Blk.new _ _ _
        have hb1K : Below w1.heap.size w1 wK := HBL2.out.trans (hbK.mono HBL2.out.size)
        have f0 := (hb1K.cell (p := ⟨b', off' + (i * 4 + 0), none⟩) hbo').trans (hcell' i _ hh 0 _ rfl)
        have f1 := (hb1K.cell (p := ⟨b', off' + (i * 4 + 1), none⟩) hbo').trans (hcell' i _ hh 1 _ rfl)
        have f2 := (hb1K.cell (p := ⟨b', off' + (i * 4 + 2), none⟩) hbo').trans (hcell' i _ hh 2 _ rfl)
        have f3 := (hb1K.cell (p := ⟨b', off' + (i * 4 + 3), none⟩) hbo').trans (hcell' i _ hh 3 _ rfl)
        rw [Nat.add_zero] at f0
        rw [← Nat.add_assoc] at f1 f2 f3
        obtain ⟨k0, k1, k2, k3, -, -, -, -, kl⟩ := cells4 hNK
        have y3 := (cells4 (HY.out.below hb1K HY.out.lt)).2.2.2.1
        have f0d : wK.drew.cell? ⟨b', off' + i * 4, none⟩ = some (.int .i64 fk) := f0
        have f1d : wK.drew.cell? ⟨b', off' + i * 4 + 1, none⟩ = some (.int .i64 fd) := f1
        have f2d : wK.drew.cell? ⟨b', off' + i * 4 + 2, none⟩ = some (.slice fA fns.length fca) := f2
        have f3d : wK.drew.cell? ⟨b', off' + i * 4 + 3, none⟩ = some (.slice fB fks.length fcb) := f3
        have HB1K := Lib.hid hb1K
        have HBK := Lib.hid hbK
        have HWK := Lib.hid hwK
        clear hg hh hmem hmem' hcell hcell' hgin hhin hpe hik hik' hbK hwK hNK hb1K
        go_upto_region 6 with fail
        rw [← HWK.out]
        go_region_law (first
          | (go_simp; go_at_call 13; refine (HCA.out _ (by first | exact HBK.out | exact HBK.out.drew)).mono ?_
             rintro e5 w5 ⟨rfl, hb5⟩
             have HB5 := Lib.hid (show Below w1.heap.size w1 w5 from by first | exact HB1K.out.trans (hb5.mono HB1K.out.size) | exact HB1K.out.drew.trans (hb5.mono HB1K.out.size))
             clear hb5))
        all_goals
          go_wp2_with fail
          go_roundg (n - (i + 1))
          case measure => have := HIL.out; omega
          case rel => exact ⟨i + 1, by omega, by go_num, HB5.out⟩
      · obtain rfl : i = n := by omega
        have hltI : (i : Int) ≤ (i : Int) := Int.le_refl _
        go_wp2_with fail
        exact bodyPost_ret (v := .bool true) (by simp [results, go_sem]) rfl ⟨rfl, HB1.out.trans (HBL2.out.mono HB1.out.size)⟩
end Go.Proofs.YtplphaaeibeheaaGreat.geo
