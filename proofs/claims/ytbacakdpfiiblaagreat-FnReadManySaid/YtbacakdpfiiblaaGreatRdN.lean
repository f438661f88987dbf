/-
  Contract of the package's reader: a polygon.
-/
import Derived.Test.YtbacakdpfiiblaaGreatRdM
import Derived.Test.YtbacakdpfiiblaaGreatRdE
import Derived.Test.YtbacakdpfiiblaaGreatGeoI
import Derived.Deep.DeepCutAuto
namespace Go.Proofs.YtbacakdpfiiblaaGreat.geo
open Go.ChangeShapes Go.WideShapes Go.ChangeAt Go.RowKit
open Go.Proofs.YtbacakdpfiiblaaGreat.mem
set_option linter.unusedVariables false
set_option linter.unusedSimpArgs false

/-- Several parts of some bytes, as the package reads them. -/
def rdMp (f : List Nat → Option (PG × List Nat)) (k d : Nat) (big : Bool) (bs : List Nat) : Option (PG × List Nat) := match rdU 4 big bs with
  | none => none
  | some (n, r) => (rdK f n r).map (fun p => (joinG k d p.1, p.2))
/-- While parts are read: the reader, the parts' row (block F), the result's cell. -/
structure MuI (S : Nat → Prop) (w : World) (P F : Nat) (big : Bool) (r : List Nat) (T Z : TypeId) (xs zs : List Value) (wx : World) : Prop where
  ws : WPs S wx P big r
  fb : Row wx F T xs
  zb : Blk wx w.heap.size Z zs.toArray
  gr : w.grownBy wx (some P)
  lo : P < w.heap.size
  hi : w.heap.size < F
theorem MuI.read {S : Nat → Prop} {w : World} {P F : Nat} {big : Bool} {r r' : List Nat} {T Z : TypeId} {xs zs : List Value} {wx wy : World} (h : MuI S w P F big r T Z xs zs wx) (hg : wx.grownBy wy (some P)) (hr : WPs S wy P big r') : MuI S w P F big r' T Z xs zs wy := by
  have hl := h.lo
  have hh := h.hi
  obtain ⟨cur, h1, h2, h3⟩ := h.fb
  exact ⟨hr, ⟨cur, h1.grown hg (fun e => by have := Option.some.inj e; omega), h2, h3⟩, h.zb.grown hg (fun e => by have := Option.some.inj e; omega), grown_trans h.gr hg, h.lo, h.hi⟩
set_option maxHeartbeats 8000000 in
set_option maxRecDepth 100000 in
theorem parsePoly_calls {S : Nat → Prop} {w : World} {P d : Nat} {big : Bool} {l : List Nat} (hd : d < 4) (h : WPs S w P big l) :
    Calls Tryz.prog 166 #[.pointer (some ⟨P, 0, none⟩), .int .u8 d] w (PKPost S w P big 3 (rdMp (rdLp d big) 3 d big l)) := by
  obtain ⟨w1, hw1⟩ : ∃ w1, w1 = w.alloc (.cells #[.slice none 0 0, .int .u8 0] 87) := ⟨_, rfl⟩
  have hb1 : Below w.heap.size w w1 := by rw [hw1]; exact (Below.refl _ _).alloc (Nat.le_refl _) _
  have hz1 : Blk w1 w.heap.size 87 #[.slice none 0 0, .int .u8 0] := by rw [hw1]; exact Blk.new _ _ _
  have HP := Lib.hid (parse32_calls (h.below hb1))
  have hlt0 : ∀ y r, rdU 4 big l = some (y, r) → y < 4294967296 := fun y r e => by have := rdU_lt1 h.byt.1 e; simpa using this
  obtain ⟨o, ho⟩ : ∃ o, o = rdMp (rdLp d big) 3 d big l := ⟨_, rfl⟩
  rw [← ho]
  have HO := Lib.hid ho
  have HW1 := Lib.hid hw1
  have HB1 := Lib.hid hb1
  have HZ1 := Lib.hid hz1
  have hPw := h.lt
  have hne : w.heap.size ≠ P := by omega
  clear hw1 hb1 hz1 h ho
  go_enter Tryz.func166, Tryz.ntmps166
  go_wp2_with fail
  rw [← HW1.out]
  refine HP.out.mono ?_
  rintro e w2 ⟨hg, hx⟩
  have hz2 := HZ1.out.grown hg (fun e => hne (Option.some.inj e))
  have HZ2 := Lib.hid hz2
  have hgr2 : w.grownBy w2 (some P) := grown_trans (grown_below HB1.out) hg
  have HGR2 := Lib.hid hgr2
  obtain ⟨z0, z1, y0, y1, zl⟩ := cells2 hz2
  clear hg hz2 hgr2
  have HERR := Lib.hid (show ∀ (wx : World) (u0 u1 : Value) (T : TypeId) (v : Value), w.grownBy wx (some P) → Bod wx P → o = none → PKPost S w P big 3 o (.returned (.tuple #[.agg #[.slice none 0 0, .int .u8 0], .iface T v])) ((wx.setCell ⟨w.heap.size, 0, none⟩ u0).setCell ⟨w.heap.size, 1, none⟩ u1) from fun wx u0 u1 T v hg hbo ho => by
    subst ho
    refine ⟨.mu 3 0 none 0 [], rfl, ?_, far_grown (far_grown hg (Nat.le_refl _) 0 u0) (Nat.le_refl _) 1 u1, (hbo.far (i := 0) hPw u0).far (i := 1) hPw u1, T, v, rfl⟩
    rw [MG.In]
    exact ⟨by decide, by decide, Nat.zero_le _, ⟨Sl.nil _ _ _, fun h => absurd h (Nat.lt_irrefl 0)⟩, trivial⟩)
  cases hu : rdU 4 big l with
  | none =>
    rw [hu] at hx
    obtain ⟨hbo, T, xe, rfl⟩ := hx
    have HBO := Lib.hid hbo
    clear hbo
    have HON := Lib.hid (show o = none by rw [HO.out]; unfold rdMp; rw [hu])
    go_wp2_with fail
    refine bodyPost_ret (v := .tuple #[.agg #[.slice none 0 0, .int .u8 0], .iface T xe]) (by simp [results, Tryz.results166, go_sem, z0, z1, zl]) rfl ?_
    exact HERR.out _ _ _ _ _ HGR2.out HBO.out HON.out
  | some q =>
    obtain ⟨n, r⟩ := q
    rw [hu] at hx
    obtain ⟨rfl, hws⟩ := hx
    have hn := hlt0 n r hu
    have HWS := Lib.hid hws
    have HO2 := Lib.hid (show o = (rdK (rdLp d big) n r).map (fun p => (joinG 3 d p.1, p.2)) by rw [HO.out]; unfold rdMp; rw [hu]; rfl)
    clear hws hlt0 hu
    by_cases h0 : n = 0
    · subst h0
      have HF := Lib.hid (fun w' => @force3 0 none 0 [] (fun g hg => by cases hg) d hd (fun _ => False) w' (by rw [MG.In]; exact ⟨by decide, by decide, Nat.zero_le _, ⟨Sl.nil _ _ _, fun h => absurd h (Nat.lt_irrefl 0)⟩, trivial⟩))
      go_wp2_with fail
      refine (HF.out _).mono ?_
      rintro e w3 ⟨m, rfl, hm1, hm2, hm3, hb3⟩
      obtain ⟨md, mA, mc, mk, rfl⟩ := MG.is_mu (S := S) (w := w) (k := 3) hm2 (by decide) (by decide) (by decide)
      rw [show (MG.mu 3 md mA mc mk).enc.toArray = #[.slice mA mk.length mc, .int .u8 md] from rfl]
      have HM1 := Lib.hid hm1
      have HM3 := Lib.hid hm3
      have HB3 := Lib.hid hb3
      obtain ⟨z0, z1, y0, y1, zl⟩ := cells2 (HZ2.out.below hb3 HZ2.out.lt)
      clear hm1 hm2 hm3 hb3
      go_wp2_with fail
      refine bodyPost_ret (v := .tuple #[.agg #[.slice mA mk.length mc, .int .u8 md], .nilIface]) (by simp [results, Tryz.results166, go_sem, z0, z1, zl]) rfl ?_
      have hT : ¬ (fun a => w.heap.size < a) w.heap.size := Nat.lt_irrefl _
      have hgr3 : w.grownBy w3 (some P) := grown_trans HGR2.out (grown_below HB3.out)
      have hws3 := ((HWS.out.below HB3.out).far (g := w.heap.size) (i := 0) hPw (.slice mA mk.length mc)).far (g := w.heap.size) (i := 1) hPw (.int .u8 md)
      have hzl2 := HZ2.out.lt
      refine ⟨.mu 3 md mA mc mk, rfl, ?_, far_grown (far_grown hgr3 (Nat.le_refl _) 0 _) (Nat.le_refl _) 1 _, ?_⟩
      · refine MG.less (fun a ha => Nat.le_of_lt ha) (MG.keep (((Keeps.refl (fun a => w.heap.size < a) w3).setFar hT _).setFar hT _) (MG.less (fun a ha => ?_) HM1.out))
        rcases ha with ha | ha
        · exact ha.elim
        · show w.heap.size < a
          omega
      · rw [HO2.out]
        refine ⟨rfl, ?_, hws3⟩
        rw [HM3.out, MG.plain_mu, frc_eq]
        simp [joinG, frcN_nil]
    · have hn0 : ((n : Int) == 0) = false := beq_eq_false_iff_ne.2 (by omega)
      obtain ⟨i0, hi, hzz0, hzz1, hzz2⟩ := info_parts infoG3
      have hb48 : i0.bytes * n ≤ 281474976710656 := by rw [hzz2]; omega
      have hnml : n ≤ maxLen := by unfold maxLen; omega
      go_upto_region 7 with (at_make; refine wpList_make_full _ rfl (.tmp 24) (.tmp 24) 85 rfl w2.heap.size 83 i0 _ 2 Tryz.underlying85 hi hzz0 hzz1 .u32 .u32 _ _ n rfl rfl rfl rfl hb48 hnml (Nat.le_refl _) ?_; intro w3 hown hgrow
                             obtain ⟨hrow, hxl⟩ := make_row hown
                             have hb3 : Below w2.heap.size w2 w3 := (Below.refl w2.heap.size w2).grown hgrow (Nat.le_refl _) (fun q hq => by cases hq)
                             have HXL := Lib.hid hxl
                             have HI3 := Lib.hid (show MuI S w P w2.heap.size big r 83 87 _ [.slice none 0 0, .int .u8 0] w3 from ⟨HWS.out.below hb3, hrow, HZ2.out.below hb3 HZ2.out.lt, grown_trans HGR2.out (grown_below hb3), hPw, HZ2.out.lt⟩)
                             clear hown hgrow hrow hxl hb3)
      obtain ⟨F, hF⟩ : ∃ F, F = w2.heap.size := ⟨_, rfl⟩
      rw [← hF] at HI3 ⊢
      have HFE := Lib.hid hF
      clear hF
      have hwF : w.heap.size < F := HI3.out.hi
      go_wp2_with fail
      go_loopg [7, 28] n (fun q ev ci wr => ∃ (i : Nat) (L : List MG) (R : List Value) (r' : List Nat), i + q = n ∧ ev = .nilIface ∧ ci = .int .i64 (i : Nat) ∧ L.length = i ∧ (∀ g ∈ L, g.kind = 2 ∧ g.In (fun a => F < a) wr) ∧ MuI S w P F big r' 83 87 (L.flatMap MG.enc ++ R) [.slice none 0 0, .int .u8 0] wr ∧ R.length = (n - i) * 2 ∧ KSt (rdLp d big) n i (L.map MG.plain) (some r) (some r'))
      case atStart => exact ⟨0, [], _, r, by omega, rfl, by go_num, rfl, (fun g hg => by cases hg), HI3.out, (by have h1 := HXL.out; rw [h1]; omega), KSt.start⟩
      case round =>
        obtain ⟨i, L, R, r', hi', rfl, rfl, hll, hlin, hmu, hrl, hks⟩ := hrel
        have HIL := Lib.hid hi'
        have HLL := Lib.hid hll
        have HLIN := Lib.hid hlin
        have HMU := Lib.hid hmu
        have HRL := Lib.hid hrl
        have HKS := Lib.hid hks
        have hin : i ≤ n := by omega
        have hdl : (L.flatMap MG.enc).length = i * 2 := by
          rw [flatE_len (s := 2) (fun g hg => ?_), hll]
          obtain ⟨e1, e2⟩ := hlin g hg
          obtain ⟨u', v', e3⟩ := MG.enc_two e2 (by rw [e1]; decide)
          rw [e3]; rfl
        have HDL := Lib.hid hdl
        clear hi' hll hlin hmu hrl hks hdl
        by_cases hlt : i < n
        · have hltI : (i : Int) < (n : Int) := by omega
          obtain ⟨r0, r1, R2, hRe, hr2⟩ := cut2 (n := (n - (i + 1)) * 2) (show R.length = _ by rw [HRL.out]; omega)
          subst hRe
          have HR2 := Lib.hid hr2
          clear hr2
          have HPL := Lib.hid (parseLn_calls hd HMU.out.ws)
          have hFw := HMU.out.fb.lt
          go_wp2_with fail
          refine HPL.out.mono ?_
          rintro e w5 ⟨m, hmk, hmi, hg5, hm⟩
          obtain ⟨d2, A2, c2, ns2, rfl⟩ := MG.is_ln hmk hmi
          rw [show (MG.ln d2 A2 c2 ns2).enc.toArray = #[.int .u8 d2, .slice A2 ns2.length c2] from rfl] at hm
          have hgr5 := grown_trans HMU.out.gr hg5
          have HGR5 := Lib.hid hgr5
          have HG5 := Lib.hid hg5
          have HMI := Lib.hid hmi
          have hfb5 : Row w5 F 83 (L.flatMap MG.enc ++ ([r0, r1] ++ R2)) := by
            obtain ⟨cur, h1, h2, h3⟩ := HMU.out.fb
            have hl := HMU.out.lo
            exact ⟨cur, h1.grown hg5 (fun e => by have := Option.some.inj e; omega), h2, h3⟩
          have HFB5 := Lib.hid hfb5
          have hz5 := HMU.out.zb.grown hg5 (fun e => by have := Option.some.inj e; have := HMU.out.lo; omega)
          have HZ5 := Lib.hid hz5
          have e0 := hfb5.frozen_at HDL.out 0 (by simp)
          have q0 := hfb5.some_at HDL.out 0 (by simp)
          have e1 := hfb5.frozen_at HDL.out 1 (by simp)
          have q1 := hfb5.some_at HDL.out 1 (by simp)
          simp only [List.getElem_cons_zero, List.getElem_cons_succ, Nat.add_zero] at e0 q0 e1 q1
          have hlr := hfb5.lt
          clear hg5 hmi hfb5 hz5 hgr5 hmk
          have hFz : F ≠ w.heap.size := by omega
          cases hu2 : rdLp d big r' with
          | none =>
            rw [hu2] at hm
            obtain ⟨hbo, T, xe, rfl⟩ := hm
            have HBO := Lib.hid hbo
            clear hbo
            have HON := Lib.hid (show o = none from by
              have h1 : KSt (rdLp d big) n (i + 1) (L.map MG.plain ++ [PG.mk 0 0 [] []]) (some r) none := HKS.out.step (oI := none) hlt ⟨hu2.symm, .inl rfl⟩
              have h2 : rdK (rdLp d big) n r = none := h1.dead_o
              rw [HO2.out, h2]; rfl)
            obtain ⟨z0, z1, y0, y1, zl⟩ := cells2 HZ5.out
            go_wp2_with fail
            refine bodyPost_ret (v := .tuple #[.agg #[.slice none 0 0, .int .u8 0], .iface T xe]) (by simp [results, Tryz.results166, go_sem, z0, z1, zl, hFz]) rfl ?_
            exact HERR.out _ _ _ _ _ (far_grown (far_grown HGR5.out (Nat.le_of_lt hwF) (i * 2) _) (Nat.le_of_lt hwF) (i * 2 + 1) _) ((HBO.out.far (i := i * 2) (show P < F by omega) _).far (i := i * 2 + 1) (show P < F by omega) _) HON.out
          | some p =>
            obtain ⟨p2, r2⟩ := p
            rw [hu2] at hm
            obtain ⟨rfl, hpl, hws⟩ := hm
            have HPLN := Lib.hid hpl
            have HWS2 := Lib.hid hws
            have HU2 := Lib.hid hu2
            clear hpl hws hu2
            go_wp2_with fail
            go_roundg (n - (i + 1))
            case measure => have := HIL.out; omega
            case rel =>
              have hil := HIL.out
              have hnT : ¬ (fun a => F < a) F := fun h => Nat.lt_irrefl _ h
              have hlo := HMU.out.lo
              have hkeep : Keeps (fun a => F < a) w5 ((w5.setCell ⟨F, i * 2, none⟩ (.int .u8 d2)).setCell ⟨F, i * 2 + 1, none⟩ (.slice A2 ns2.length c2)) := (Keeps.set (p := ⟨F, i * 2, none⟩) hnT _).trans (.set (p := ⟨F, i * 2 + 1, none⟩) hnT _)
              have hk5 : Keeps (fun a => F < a) wr w5 := Keeps.grown HG5.out (fun q hq hh => by cases hq; have h1 : F < P := hh; omega)
              refine ⟨i + 1, L ++ [.ln d2 A2 c2 ns2], R2, r2, by omega, rfl, by go_num, by simp [HLL.out], ?_, ⟨?_, ?_, ?_, ?_, hlo, hwF⟩, HR2.out, ?_⟩
              · intro g hg
                rcases List.mem_append.1 hg with hg | hg
                · obtain ⟨e1, e2⟩ := HLIN.out g hg
                  exact ⟨e1, MG.keep hkeep (MG.keep hk5 e2)⟩
                · have := List.mem_singleton.1 hg
                  subst this
                  exact ⟨rfl, MG.keep hkeep (MG.less (fun a ha => by have h1 : wr.heap.size ≤ a := ha; show F < a; omega) HMI.out)⟩
              · exact (HWS2.out.far (g := F) (i := i * 2) (by omega) _).far (g := F) (i := i * 2 + 1) (by omega) _
              · rw [List.flatMap_append]
                have := HFB5.out.put2 HDL.out (.int .u8 d2) (.slice A2 ns2.length c2)
                simpa [MG.enc] using this
              · exact (HZ5.out.far (p := ⟨F, i * 2, none⟩) (show w.heap.size ≠ F by omega) _).far (p := ⟨F, i * 2 + 1, none⟩) (show w.heap.size ≠ F by omega) _
              · exact far_grown (far_grown HGR5.out (Nat.le_of_lt hwF) (i * 2) _) (Nat.le_of_lt hwF) (i * 2 + 1) _
              · rw [List.map_append, List.map_cons, List.map_nil]
                exact HKS.out.step (oI := some (p2, r2)) hlt ⟨HU2.out.symm, .inr (by rw [HPLN.out]; rfl)⟩
        · obtain rfl : i = n := by omega
          have hR0 : R = [] := List.eq_nil_of_length_eq_zero (by rw [HRL.out]; omega)
          have hrow := HMU.out.fb
          rw [hR0, List.append_nil] at hrow
          have HRW := Lib.hid hrow
          have hltI : (i : Int) ≤ (i : Int) := Int.le_refl _
          have HNW := Lib.hid (new3 (A := some ⟨F, 0, none⟩) (c := i) (d0 := d) (kids := L) (by rw [HLL.out]; omega) (by rw [HLL.out]; show i ≤ 1099511627776; omega) (S := fun a => F ≤ a) (w := wr) ⟨HRW.out.sl (by rw [HDL.out, HLL.out]) (by rw [HLL.out]; unfold maxLen; omega), fun _ a ha => by have := Option.some.inj ha; subst this; exact Nat.le_refl _⟩ (MG.inL_iff.2 fun g hg => ⟨(HLIN.out g hg).1, MG.less (fun a ha => Nat.le_of_lt ha) (HLIN.out g hg).2⟩))
          rw [HLL.out] at HNW
          clear hrow hR0
          go_wp2_with fail
          refine HNW.out.mono ?_
          rintro e w6 ⟨m, rfl, hm1, hm2, hm3, hb6⟩
          obtain ⟨md, mA, mc, mk, rfl⟩ := MG.is_mu (S := S) (w := w) (k := 3) hm2 (by decide) (by decide) (by decide)
          rw [show (MG.mu 3 md mA mc mk).enc.toArray = #[.slice mA mk.length mc, .int .u8 md] from rfl]
          have HM1 := Lib.hid hm1
          have HM3 := Lib.hid hm3
          have HB6 := Lib.hid hb6
          obtain ⟨z0, z1, y0, y1, zl⟩ := cells2 (HMU.out.zb.below hb6 HMU.out.zb.lt)
          clear hm1 hm2 hm3 hb6
          go_wp2_with fail
          refine bodyPost_ret (v := .tuple #[.agg #[.slice mA mk.length mc, .int .u8 md], .nilIface]) (by simp [results, Tryz.results166, go_sem, z0, z1, zl]) rfl ?_
          have hT : ¬ (fun a => w.heap.size < a) w.heap.size := Nat.lt_irrefl _
          have hgr6 : w.grownBy w6 (some P) := grown_trans HMU.out.gr (grown_below HB6.out)
          have hws6 := ((HMU.out.ws.below HB6.out).far (g := w.heap.size) (i := 0) hPw (.slice mA mk.length mc)).far (g := w.heap.size) (i := 1) hPw (.int .u8 md)
          have hzl2 := HMU.out.zb.lt
          refine ⟨.mu 3 md mA mc mk, rfl, ?_, far_grown (far_grown hgr6 (Nat.le_refl _) 0 _) (Nat.le_refl _) 1 _, ?_⟩
          · refine MG.less (fun a ha => Nat.le_of_lt ha) (MG.keep (((Keeps.refl (fun a => w.heap.size < a) w6).setFar hT _).setFar hT _) (MG.less (fun a ha => ?_) HM1.out))
            rcases ha with ha | ha
            · have h1 : F ≤ a := ha
              show w.heap.size < a
              omega
            · show w.heap.size < a
              omega
          · have hfin : rdK (rdLp d big) i r = some (L.map MG.plain, r') := HKS.out.fin
            rw [HO2.out, hfin]
            exact ⟨rfl, HM3.out, hws6⟩
end Go.Proofs.YtbacakdpfiiblaaGreat.geo
