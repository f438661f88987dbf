/-
  Contracts: the same numbers, and the same data, are found the same bit by bit. Contract: data that are the same are found the same. Contract: whether all numbers of data are numbers: the call returns.
-/
import Derived.Test.YtbacakdpfiiblaaGreatRdB
import Derived.Test.YtbacakdpfiiblaaGreatGeoT
import Derived.BigQuiet
namespace Go.Proofs.YtbacakdpfiiblaaGreat.geo
open Go.ChangeShapes Go.WideShapes Go.ChangeAt Go.RowKit
open Go.Proofs.YtbacakdpfiiblaaGreat.mem
set_option linter.unusedVariables false
set_option linter.unusedSimpArgs false

set_option maxHeartbeats 8000000 in
set_option maxRecDepth 100000 in
theorem sameNums_same (A B : Option Addr) (n ca cb : Nat) (ns : List Nat) (w : World) (hA : Sl w w.heap.size A n 1 (FL ns)) (hB : Sl w w.heap.size B n 1 (FL ns)) :
    Calls Tryz.prog 51 #[.slice A n ca, .slice B n cb] w (Gives w (.bool true)) := by
  have hl : ns.length = n := by have := hA.1; rw [FL_len] at this; omega
  have hn : n ≤ 9223372036854775807 := hA.2.1
  have HL := Lib.hid hl
  have HA := Lib.hid hA
  have HB := Lib.hid hB
  have htb := run_tobits
  clear hl hA hB
  go_enter Tryz.func51, Tryz.ntmps51
  go_wp2_with fail
  go_loopg [14] n (fun q cc wr => ∃ i, i + q = n ∧ cc = .int .i64 (i : Nat) ∧ Below w.heap.size w wr)
  case atStart => exact ⟨0, by omega, by go_num, Below.refl _ _⟩
  case round =>
    obtain ⟨i, hi', rfl, hbl⟩ := hrel
    have HI := Lib.hid hi'
    have HBL := Lib.hid hbl
    have hin : i ≤ n := by omega
    clear hi' hbl
    by_cases hlt : i < n
    · obtain ⟨b, off, hAe, hbo, hcell⟩ := HA.out.2.2 (by omega)
      obtain ⟨b2, off2, hBe, hbo2, hcell2⟩ := HB.out.2.2 (by omega)
      subst hAe hBe
      have hln : i < ns.length := by rw [HL.out]; exact hlt
      have d0 := (HBL.out.cell (p := ⟨b, off + i, none⟩) hbo).trans (hcell i _ (FL_get hln))
      have d1 := (HBL.out.cell (p := ⟨b2, off2 + i, none⟩) hbo2).trans (hcell2 i _ (FL_get hln))
      have hltI : (i : Int) < (n : Int) := by omega
      obtain ⟨x, hx⟩ : ∃ x, x = ns.getD i 0 := ⟨_, rfl⟩
      rw [← hx] at d0 d1
      clear hcell hcell2 hx hln
      go_upto_region 6 with fail
      go_quiet (fail)
      go_wp2_with fail
      go_roundg (n - (i + 1))
      case measure => have := HI.out; omega
      case rel => exact ⟨i + 1, by omega, by go_num, HBL.out.trans (drewN_below _ _ _)⟩
    · obtain rfl : i = n := by omega
      have hltI : (i : Int) ≤ (i : Int) := Int.le_refl _
      go_wp2_with fail
      exact bodyPost_ret (v := .bool true) (by simp [results, go_sem]) rfl ⟨rfl, HBL.out⟩
end Go.Proofs.YtbacakdpfiiblaaGreat.geo

namespace Go.Proofs.YtbacakdpfiiblaaGreat.geo
open Go.ChangeShapes Go.WideShapes Go.ChangeAt Go.RowKit
open Go.Proofs.YtbacakdpfiiblaaGreat.mem
set_option linter.unusedVariables false
set_option linter.unusedSimpArgs false

set_option maxHeartbeats 8000000 in
set_option maxRecDepth 100000 in
theorem sameGeoms_of {S : Nat → Prop} {w : World} (kids kids' : List IG) (B B' : Option Addr) (cb cb' : Nat)
    (ih : ∀ g ∈ kids, ∀ (h : IG) (S : Nat → Prop) (w : World), g.In S w → h.In S w → g.plain = h.plain → Calls Tryz.prog 22 #[.agg g.enc.toArray, .agg h.enc.toArray] w (Gives w (.bool true)))
    (hB : Sl w w.heap.size B kids.length 4 (kids.flatMap IG.enc)) (hB' : Sl w w.heap.size B' kids'.length 4 (kids'.flatMap IG.enc)) (hk : ∀ g ∈ kids, g.In S w) (hk' : ∀ g ∈ kids', g.In S w) (he : kids.map IG.plain = kids'.map IG.plain) :
    Calls Tryz.prog 52 #[.slice B kids.length cb, .slice B' kids'.length cb'] w (Gives w (.bool true)) := by
  have hlk : kids'.length = kids.length := by have := congrArg List.length he; simpa using this.symm
  have hn : kids.length ≤ 9223372036854775807 := hB.2.1
  obtain ⟨n, hne⟩ : ∃ n, n = kids.length := ⟨_, rfl⟩
  have HN := Lib.hid hne
  have HLK := Lib.hid (hlk.trans hne.symm)
  have HSB := Lib.hid hB
  have HSB' := Lib.hid hB'
  have HKID := Lib.hid (fun g hg w' (hb : Below w.heap.size w w') => IG.up hb (hk g hg))
  have HKID' := Lib.hid (fun g hg w' (hb : Below w.heap.size w w') => IG.up hb (hk' g hg))
  have HIH := Lib.hid ih
  have HE4 := Lib.hid he
  rw [HLK.out, ← hne]
  rw [← hne] at hn
  clear hlk hne hB hB' hk hk' ih he
  go_enter Tryz.func52, Tryz.ntmps52
  go_wp2_with fail
  go_loopg [14] n (fun q ci wr => ∃ (i : Nat), i + q = n ∧ ci = .int .i64 (i : Nat) ∧ Below w.heap.size w wr)
  case atStart => exact ⟨0, by omega, by go_num, Below.refl _ _⟩
  case round =>
    obtain ⟨i, hi', rfl, hbl⟩ := hrel
    have HIL := Lib.hid hi'
    have HBL2 := Lib.hid hbl
    have hin : i ≤ n := by omega
    clear hi' hbl
    by_cases hlt : i < n
    · have hik : i < kids.length := by rw [← HN.out]; exact hlt
      have hik' : i < kids'.length := by rw [HLK.out]; exact hlt
      obtain ⟨g, hg⟩ : ∃ g, kids[i]? = some g := ⟨kids[i], List.getElem?_eq_getElem hik⟩
      obtain ⟨h, hh⟩ : ∃ h, kids'[i]? = some h := ⟨kids'[i], List.getElem?_eq_getElem hik'⟩
      have hmem := List.mem_of_getElem? hg
      have hmem' := List.mem_of_getElem? hh
      have hpe : g.plain = h.plain := by
        have h1 := congrArg (fun l => l[i]?) HE4.out
        simp [hg, hh] at h1
        exact h1
      obtain ⟨b, off, hAe, hbo, hcell⟩ := sl_part HSB.out (fun g _ => g.enc_len) (by omega)
      obtain ⟨b', off', hAe', hbo', hcell'⟩ := sl_part HSB'.out (fun g _ => g.enc_len) (by omega)
      subst hAe hAe'
      have hgin := HKID.out g hmem _ HBL2.out
      have hhin := HKID'.out h hmem' _ HBL2.out
      have HCA := Lib.hid (fun w' (hb : Below wr.heap.size wr w') => HIH.out g hmem h S w' (IG.up hb hgin) (IG.up hb hhin) hpe)
      obtain ⟨gk, gd, gA, gca, gns, gB, gcb, gks⟩ := g
      obtain ⟨fk, fd, fA, fca, fns, fB, fcb, fks⟩ := h
      have d0 := (HBL2.out.cell (p := ⟨b, off + (i * 4 + 0), none⟩) hbo).trans (hcell i _ hg 0 _ rfl)
      have d1 := (HBL2.out.cell (p := ⟨b, off + (i * 4 + 1), none⟩) hbo).trans (hcell i _ hg 1 _ rfl)
      have d2 := (HBL2.out.cell (p := ⟨b, off + (i * 4 + 2), none⟩) hbo).trans (hcell i _ hg 2 _ rfl)
      have d3 := (HBL2.out.cell (p := ⟨b, off + (i * 4 + 3), none⟩) hbo).trans (hcell i _ hg 3 _ rfl)
      rw [Nat.add_zero] at d0
      rw [← Nat.add_assoc] at d1 d2 d3
      have hltI : (i : Int) < (n : Int) := by omega
      have HCA := Lib.hid (show ∀ w', Below wr.heap.size wr w' → Calls Tryz.prog 22 #[.agg #[.int .i64 gk, .int .i64 gd, .slice gA gns.length gca, .slice gB gks.length gcb], .agg #[.int .i64 fk, .int .i64 fd, .slice fA fns.length fca, .slice fB fks.length fcb]] w' (Gives w' (.bool true)) from HCA.out)
      obtain ⟨wK, hwK⟩ : ∃ wK, wK = wr.alloc (.cells #[.int .i64 gk, .int .i64 gd, .slice gA gns.length gca, .slice gB gks.length gcb] 25) := ⟨_, rfl⟩
      have hbK : Below wr.heap.size wr wK := by rw [hwK]; exact (Below.refl _ _).alloc (Nat.le_refl _) _
      have hNK : Blk wK wr.heap.size 25 #[.int .i64 gk, .int .i64 gd, .slice gA gns.length gca, .slice gB gks.length gcb] := by rw [hwK]; exact Blk.new _ _ _
      have hb1K : Below w.heap.size w wK := HBL2.out.trans (hbK.mono HBL2.out.size)
      have f0 := (hb1K.cell (p := ⟨b', off' + (i * 4 + 0), none⟩) hbo').trans (hcell' i _ hh 0 _ rfl)
      have f1 := (hb1K.cell (p := ⟨b', off' + (i * 4 + 1), none⟩) hbo').trans (hcell' i _ hh 1 _ rfl)
      have f2 := (hb1K.cell (p := ⟨b', off' + (i * 4 + 2), none⟩) hbo').trans (hcell' i _ hh 2 _ rfl)
      have f3 := (hb1K.cell (p := ⟨b', off' + (i * 4 + 3), none⟩) hbo').trans (hcell' i _ hh 3 _ rfl)
      rw [Nat.add_zero] at f0
      rw [← Nat.add_assoc] at f1 f2 f3
      obtain ⟨k0, k1, k2, k3, -, -, -, -, kl⟩ := cells4 hNK
      have f0d : wK.drew.cell? ⟨b', off' + i * 4, none⟩ = some (.int .i64 fk) := f0
      have f1d : wK.drew.cell? ⟨b', off' + i * 4 + 1, none⟩ = some (.int .i64 fd) := f1
      have f2d : wK.drew.cell? ⟨b', off' + i * 4 + 2, none⟩ = some (.slice fA fns.length fca) := f2
      have f3d : wK.drew.cell? ⟨b', off' + i * 4 + 3, none⟩ = some (.slice fB fks.length fcb) := f3
      have HB1K := Lib.hid hb1K
      have HBK := Lib.hid hbK
      have HWK := Lib.hid hwK
      clear hg hh hmem hmem' hcell hcell' hgin hhin hpe hik hik' hbK hwK hNK hb1K
      go_upto_region 6 with fail
      rw [← HWK.out]
      go_region_law (first
        | (go_simp; go_at_call 22; refine (HCA.out _ (by first | exact HBK.out | exact HBK.out.drew)).mono ?_
           rintro e5 w5 ⟨rfl, hb5⟩
           have HB5 := Lib.hid (show Below w.heap.size w w5 from by first | exact HB1K.out.trans (hb5.mono HB1K.out.size) | exact HB1K.out.drew.trans (hb5.mono HB1K.out.size))
           clear hb5))
      all_goals
        go_wp2_with fail
        go_roundg (n - (i + 1))
        case measure => have := HIL.out; omega
        case rel => exact ⟨i + 1, by omega, by go_num, HB5.out⟩
    · obtain rfl : i = n := by omega
      have hltI : (i : Int) ≤ (i : Int) := Int.le_refl _
      go_wp2_with fail
      exact bodyPost_ret (v := .bool true) (by simp [results, go_sem]) rfl ⟨rfl, HBL2.out⟩
set_option maxHeartbeats 8000000 in
set_option maxRecDepth 100000 in
theorem sameGeom_same : ∀ (g h : IG) (S : Nat → Prop) (w : World), g.In S w → h.In S w → g.plain = h.plain → Calls Tryz.prog 22 #[.agg g.enc.toArray, .agg h.enc.toArray] w (Gives w (.bool true)) := by
  intro g
  induction g using IG.ind with
  | h k d A ca ns B cb kids ih =>
    intro h2 S w h hh he
    obtain ⟨k', d', A', ca', ns', B', cb', kids'⟩ := h2
    rw [IG.plain_eq, IG.plain_eq] at he
    injection he with e1 e2 e3 e4
    subst e1 e2 e3
    rw [IG.In] at h hh
    obtain ⟨-, -, -, hA, hB0, hkid0⟩ := h
    obtain ⟨-, -, -, hA', hB0', hkid0'⟩ := hh
    have hkid := IG.inL_iff.1 hkid0
    have hkid' := IG.inL_iff.1 hkid0'
    rw [show (IG.mk k d A' ca' ns B' cb' kids').enc.toArray = #[.int .i64 k, .int .i64 d, .slice A' ns.length ca', .slice B' kids'.length cb'] from rfl]
    show Calls Tryz.prog 22 #[.agg #[.int .i64 k, .int .i64 d, .slice A ns.length ca, .slice B kids.length cb], _] w _
    obtain ⟨w1, hw1⟩ : ∃ w1, w1 = (w.alloc (.cells #[.int .i64 k, .int .i64 d, .slice A ns.length ca, .slice B kids.length cb] 25)).alloc (.cells #[.int .i64 k, .int .i64 d, .slice A' ns.length ca', .slice B' kids'.length cb'] 25) := ⟨_, rfl⟩
    have hb1 : Below w.heap.size w w1 := by rw [hw1]; exact ((Below.refl _ _).alloc (Nat.le_refl _) _).alloc (by simp) _
    have hX : Blk w1 w.heap.size 25 #[.int .i64 k, .int .i64 d, .slice A ns.length ca, .slice B kids.length cb] := by rw [hw1]; exact (Blk.new _ _ _).alloc _
    have hY : Blk w1 (w.heap.size + 1) 25 #[.int .i64 k, .int .i64 d, .slice A' ns.length ca', .slice B' kids'.length cb'] := by
      rw [hw1]
      have := Blk.new (w.alloc (.cells #[.int .i64 k, .int .i64 d, .slice A ns.length ca, .slice B kids.length cb] 25)) 25 #[.int .i64 k, .int .i64 d, .slice A' ns.length ca', .slice B' kids'.length cb']
      simpa using this
    have HEN := Lib.hid (sameNums_same A A' ns.length ca ca' ns w1 (hA.1.up hb1) (hA'.1.up hb1))
    have HSG := Lib.hid (fun w' (hb : Below w1.heap.size w1 w') => sameGeoms_of (S := S) (w := w') kids kids' B B' cb cb' ih ((hB0.1.up hb1).up hb) ((hB0'.1.up hb1).up hb) (fun g hg => IG.up hb (IG.up hb1 (hkid g hg))) (fun g hg => IG.up hb (IG.up hb1 (hkid' g hg))) e4)
    have HX := Lib.hid hX
    have HY := Lib.hid hY
    have HB1 := Lib.hid hb1
    have HW1 := Lib.hid hw1
    obtain ⟨x0, x1, x2, x3, -, -, -, -, xl⟩ := cells4 hX
    obtain ⟨y0, y1, y2, y3, -, -, -, -, yl⟩ := cells4 hY
    obtain ⟨m, hm⟩ : ∃ m, m = ns.length := ⟨_, rfl⟩
    obtain ⟨n, hn⟩ : ∃ n, n = kids.length := ⟨_, rfl⟩
    obtain ⟨n', hn'⟩ : ∃ n', n' = kids'.length := ⟨_, rfl⟩
    rw [← hm] at HW1 HEN x2 y2 HX HY ⊢
    rw [← hn] at HW1 HSG x3 HX ⊢
    rw [← hn'] at HW1 HSG y3 HY ⊢
    clear hw1 hb1 hX hY hn hn' hm ih hA hA' hB0 hB0' hkid0 hkid0' hkid hkid' e4
    go_enter Tryz.func22, Tryz.ntmps22
    go_upto_region 1 with fail
    rw [← HW1.out]
    go_wp2_with fail
    refine HEN.out.mono ?_
    rintro e9 w9 ⟨rfl, hb9⟩
    obtain ⟨-, -, -, u3, -, -, -, -, ul⟩ := cells4 (HX.out.below hb9 HX.out.lt)
    obtain ⟨-, -, -, v3, -, -, -, -, vl⟩ := cells4 (HY.out.below hb9 HY.out.lt)
    have HB9 := Lib.hid hb9
    clear hb9 x0 x1 x2 x3 y0 y1 y2 y3 HEN
    go_wp2_with fail
    refine (HSG.out _ HB9.out).mono ?_
    rintro e8 w8 ⟨rfl, hb8⟩
    have HB8 := Lib.hid (HB1.out.trans ((HB9.out.trans (hb8.mono HB9.out.size)).mono HB1.out.size))
    clear hb8 u3 v3
    go_wp2_with fail
    exact bodyPost_ret (v := .bool true) (by simp [results, go_sem]) rfl ⟨rfl, HB8.out⟩
end Go.Proofs.YtbacakdpfiiblaaGreat.geo

namespace Go.Proofs.YtbacakdpfiiblaaGreat.geo
open Go.ChangeShapes Go.WideShapes Go.ChangeAt Go.RowKit
open Go.Proofs.YtbacakdpfiiblaaGreat.mem
set_option linter.unusedVariables false
set_option linter.unusedSimpArgs false

set_option maxHeartbeats 8000000 in
set_option maxRecDepth 100000 in
theorem knums_calls : ∀ (g : IG), ∃ b : Bool, ∀ (S : Nat → Prop) (w : World), g.In S w → Calls Tryz.prog 21 #[.agg g.enc.toArray, .bool false] w (Gives w (.bool b)) := by
  intro g
  induction g using IG.ind with
  | h k d A ca ns B cb kids ih =>
    obtain ⟨bf, hbf⟩ : ∃ bf : IG → Bool, ∀ g ∈ kids, ∀ (S : Nat → Prop) (w : World), g.In S w → Calls Tryz.prog 21 #[.agg g.enc.toArray, .bool false] w (Gives w (.bool (bf g))) := by
      classical
      exact ⟨fun g => if h : g ∈ kids then Classical.choose (ih g h) else false, fun g hg => by
        have h1 := Classical.choose_spec (ih g hg)
        simp only [hg, dif_pos]
        exact h1⟩
    obtain ⟨T, hT⟩ : ∃ T : Bool, T = true ↔ ((∀ x ∈ ns, FloatKind.f64.format.order x x = some .eq) ∧ ∀ g ∈ kids, bf g = true) := by
      classical
      exact ⟨decide _, decide_eq_true_iff⟩
    refine ⟨T, ?_⟩
    intro S w h
    rw [IG.In] at h
    obtain ⟨-, -, -, hA, hB0, hkid0⟩ := h
    have hkid := IG.inL_iff.1 hkid0
    show Calls Tryz.prog 21 #[.agg #[.int .i64 k, .int .i64 d, .slice A ns.length ca, .slice B kids.length cb], _] w _
    obtain ⟨w1, hw1⟩ : ∃ w1, w1 = w.alloc (.cells #[.int .i64 k, .int .i64 d, .slice A ns.length ca, .slice B kids.length cb] 25) := ⟨_, rfl⟩
    have hb1 : Below w.heap.size w w1 := by rw [hw1]; exact (Below.refl _ _).alloc (Nat.le_refl _) _
    have hX : Blk w1 w.heap.size 25 #[.int .i64 k, .int .i64 d, .slice A ns.length ca, .slice B kids.length cb] := by rw [hw1]; exact Blk.new _ _ _
    have hmn : ns.length ≤ 9223372036854775807 := hA.1.2.1
    have hnn : kids.length ≤ 9223372036854775807 := hB0.1.2.1
    have HSA := Lib.hid (hA.1.up hb1)
    have HSB := Lib.hid (hB0.1.up hb1)
    have HKID := Lib.hid (fun g hg w' (hb : Below w1.heap.size w1 w') => IG.up hb (IG.up hb1 (hkid g hg)))
    have HIH := Lib.hid hbf
    have HT := Lib.hid hT
    have HX := Lib.hid hX
    have HB1 := Lib.hid hb1
    have HW1 := Lib.hid hw1
    obtain ⟨x0, x1, x2, x3, -, -, -, -, xl⟩ := cells4 hX
    obtain ⟨m, hm⟩ : ∃ m, m = ns.length := ⟨_, rfl⟩
    obtain ⟨n, hn⟩ : ∃ n, n = kids.length := ⟨_, rfl⟩
    have HM := Lib.hid hm
    have HN := Lib.hid hn
    rw [← hm] at HW1 x2 HX hmn ⊢
    rw [← hn] at HW1 x3 HX hnn ⊢
    clear hw1 hb1 hX hn hm ih hA hB0 hkid0 hkid hbf hT
    go_enter Tryz.func21, Tryz.ntmps21
    go_upto_region 1 with fail
    rw [← HW1.out]
    go_wp2_with fail
    go_loopg [12] m (fun q cc wr => ∃ i, i + q = m ∧ cc = .int .i64 (i : Nat) ∧ wr = w1 ∧ ∀ j, j < i → FloatKind.f64.format.order (ns.getD j 0) (ns.getD j 0) = some .eq)
    case atStart => exact ⟨0, by omega, by go_num, rfl, fun j hj => absurd hj (Nat.not_lt_zero j)⟩
    case round =>
      obtain ⟨i, hi', rfl, rfl, hall⟩ := hrel
      have HALL := Lib.hid hall
      clear hall
      have HI := Lib.hid hi'
      have hin : i ≤ m := by omega
      clear hi'
      by_cases hlt : i < m
      · have hln : i < ns.length := by rw [← HM.out]; exact hlt
        obtain ⟨b, off, hAe, hbo, hcell⟩ := HSA.out.2.2 (by omega)
        subst hAe
        have d0 := hcell i _ (FL_get hln)
        have hltI : (i : Int) < (m : Int) := by omega
        obtain ⟨x, hx⟩ : ∃ x, x = ns.getD i 0 := ⟨_, rfl⟩
        rw [← hx] at d0
        have HXX := Lib.hid hx
        have HLN := Lib.hid hln
        clear hcell hx hln
        by_cases o : FloatKind.f64.format.order x x = some .eq
        · have HO := Lib.hid o
          go_wp2_with fail
          go_roundg (m - (i + 1))
          case measure => have := HI.out; omega
          case rel =>
            refine ⟨i + 1, by omega, by go_num, rfl, fun j hj => ?_⟩
            by_cases e : j = i
            · subst e; rw [← HXX.out]; exact HO.out
            · exact HALL.out j (by omega)
        · have o2 : (FloatKind.f64.format.order x x == some .eq) = false := by rw [beq_eq_false_iff_ne]; exact o
          have o3 : (FloatKind.f64.format.order x x != some .eq) = true := by rw [bne, o2]; rfl
          go_wp2_with fail
          have hTF : T = false := by
            rcases T with _ | _
            · rfl
            · refine absurd ((HT.out.1 rfl).1 x ?_) o
              rw [HXX.out, List.getD_eq_getElem?_getD, List.getElem?_eq_getElem HLN.out]
              exact List.getElem_mem _
          subst hTF
          exact bodyPost_ret (v := .bool false) (by simp [results, go_sem]) rfl ⟨rfl, HB1.out⟩
      · obtain rfl : i = m := by omega
        have hltI : (i : Int) ≤ (i : Int) := Int.le_refl _
        go_wp2_with fail
        go_loopg [32] n (fun q cc wx => ∃ i, i + q = n ∧ cc = .int .i64 (i : Nat) ∧ Below wr.heap.size wr wx ∧ ∀ j, j < i → ∀ g, kids[j]? = some g → bf g = true)
        case atStart => exact ⟨0, by omega, by go_num, Below.refl _ _, fun j hj => absurd hj (Nat.not_lt_zero j)⟩
        case round =>
          obtain ⟨j, hj', rfl, hbl, hkall⟩ := hrel
          have HKALL := Lib.hid hkall
          clear hkall
          have HJ := Lib.hid hj'
          have HBL := Lib.hid hbl
          have hjn : j ≤ n := by omega
          clear hj' hbl
          by_cases hlt : j < n
          · have hik : j < kids.length := by rw [← HN.out]; exact hlt
            obtain ⟨g, hg⟩ : ∃ g, kids[j]? = some g := ⟨kids[j], List.getElem?_eq_getElem hik⟩
            have hmem := List.mem_of_getElem? hg
            obtain ⟨b, off, hAe, hbo, hcell⟩ := sl_part HSB.out (fun g _ => g.enc_len) (by omega)
            subst hAe
            have hgin := HKID.out g hmem _ HBL.out
            have HCA := Lib.hid (fun w' (hb : Below wr.heap.size wr w') => HIH.out g hmem S w' (IG.up hb hgin))
            obtain ⟨bg, hbg⟩ : ∃ bg, bg = bf g := ⟨_, rfl⟩
            have HBG := Lib.hid hbg
            have HGG := Lib.hid hg
            have HMEM := Lib.hid hmem
            rw [← hbg] at HCA
            clear hbg
            obtain ⟨gk, gd, gA, gca, gns, gB, gcb, gks⟩ := g
            have d0 := (HBL.out.cell (p := ⟨b, off + (j * 4 + 0), none⟩) hbo).trans (hcell j _ hg 0 _ rfl)
            have d1 := (HBL.out.cell (p := ⟨b, off + (j * 4 + 1), none⟩) hbo).trans (hcell j _ hg 1 _ rfl)
            have d2 := (HBL.out.cell (p := ⟨b, off + (j * 4 + 2), none⟩) hbo).trans (hcell j _ hg 2 _ rfl)
            have d3 := (HBL.out.cell (p := ⟨b, off + (j * 4 + 3), none⟩) hbo).trans (hcell j _ hg 3 _ rfl)
            rw [Nat.add_zero] at d0
            rw [← Nat.add_assoc] at d1 d2 d3
            have hltI : (j : Int) < (n : Int) := by omega
            have HCA := Lib.hid (show ∀ w', Below wr.heap.size wr w' → Calls Tryz.prog 21 #[.agg #[.int .i64 gk, .int .i64 gd, .slice gA gns.length gca, .slice gB gks.length gcb], .bool false] w' (Gives w' (.bool bg)) from HCA.out)
            obtain ⟨wK, hwK⟩ : ∃ wK, wK = wr.alloc (.cells #[.int .i64 gk, .int .i64 gd, .slice gA gns.length gca, .slice gB gks.length gcb] 25) := ⟨_, rfl⟩
            have hbK : Below wr.heap.size wr wK := by rw [hwK]; exact (Below.refl _ _).alloc (Nat.le_refl _) _
            have hNK : Blk wK wr.heap.size 25 #[.int .i64 gk, .int .i64 gd, .slice gA gns.length gca, .slice gB gks.length gcb] := by rw [hwK]; exact Blk.new _ _ _
            obtain ⟨k0, k1, k2, k3, -, -, -, -, kl⟩ := cells4 hNK
            have HBK := Lib.hid hbK
            have HWK := Lib.hid hwK
            clear hg hmem hcell hgin hik hbK hwK hNK
            go_upto_region 10 with fail
            rw [← HWK.out]
            go_wp2_with fail
            refine (HCA.out _ HBK.out).mono ?_
            rintro e w5 ⟨rfl, hb5⟩
            have HB5 := Lib.hid (HBL.out.trans ((HBK.out.trans (hb5.mono HBK.out.size)).mono HBL.out.size))
            clear hb5
            cases bg with
            | true =>
              go_wp2_with fail
              go_roundg (n - (j + 1))
              case measure => have := HJ.out; omega
              case rel =>
                refine ⟨j + 1, by omega, by go_num, HB5.out, fun j2 hj2 g2 hg2 => ?_⟩
                by_cases e : j2 = j
                · subst e
                  rw [HGG.out] at hg2
                  have := Option.some.inj hg2
                  subst this
                  exact HBG.out.symm
                · exact HKALL.out j2 (by omega) g2 hg2
            | false =>
              go_wp2_with fail
              have hTF : T = false := by
                rcases T with _ | _
                · rfl
                · have h1 := (HT.out.1 rfl).2 _ HMEM.out
                  rw [← HBG.out] at h1
                  cases h1
              subst hTF
              exact bodyPost_ret (v := .bool false) (by simp [results, go_sem]) rfl ⟨rfl, HB1.out.trans (HB5.out.mono HB1.out.size)⟩
          · obtain rfl : j = n := by omega
            have hltJ : (j : Int) ≤ (j : Int) := Int.le_refl _
            go_wp2_with fail
            have hTT : T = true := HT.out.2 ⟨fun x hx => by
                obtain ⟨j2, hj2⟩ := List.mem_iff_getElem?.1 hx
                have h1 := (List.getElem?_eq_some_iff.1 hj2).1
                have h2 := HALL.out j2 (by rw [HM.out]; exact h1)
                rw [List.getD_eq_getElem?_getD, hj2] at h2
                exact h2, fun g hg => by
                obtain ⟨j2, hj2⟩ := List.mem_iff_getElem?.1 hg
                have h1 := (List.getElem?_eq_some_iff.1 hj2).1
                exact HKALL.out j2 (by rw [HN.out]; exact h1) g hj2⟩
            subst hTT
            exact bodyPost_ret (v := .bool true) (by simp [results, go_sem]) rfl ⟨rfl, HB1.out.trans (HBL.out.mono HB1.out.size)⟩
end Go.Proofs.YtbacakdpfiiblaaGreat.geo
