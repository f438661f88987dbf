/-
  Contract of the package's reader: MultiPoint. Contract of the package's reader: MultiLineString. Contract of the package's reader: MultiPolygon. Contract of the package's reader: GeometryCollection.
-/
import Derived.Test.YtbacakdpfiiblaaGreatRdPP
namespace Go.Proofs.YtbacakdpfiiblaaGreat.geo
open Go.ChangeShapes Go.WideShapes Go.ChangeAt Go.RowKit
open Go.Proofs.YtbacakdpfiiblaaGreat.mem
set_option linter.unusedVariables false
set_option linter.unusedSimpArgs false

set_option maxHeartbeats 8000000 in
set_option maxRecDepth 100000 in
theorem parseM4_calls {S : Nat → Prop} {w : World} {P N d : Nat} {big : Bool} {l : List Nat} {fi : List Nat → Option (PG × List Nat)}
    (hrun : ∀ (w : World) (P : Nat) (b : Bool) (l : List Nat), WPs S w P b l → l.length ≤ N → Calls Tryz.prog 104 #[.pointer (some ⟨P, 0, none⟩)] w (PGPost S w P (fi l)))
    (hlen : ∀ bs p r, fi bs = some (p, r) → r.length ≤ bs.length) (hd : d < 4) (h : WPs S w P big l) (hN : l.length ≤ N) :
    Calls Tryz.prog 167 #[.pointer (some ⟨P, 0, none⟩), .int .u8 d] w (PKPost S w P big 4 (rdMp (fItem fi 1) 4 d big l)) := by
  obtain ⟨w1, hw1⟩ : ∃ w1, w1 = w.alloc (.cells #[.slice none 0 0, .int .u8 0] 91) := ⟨_, rfl⟩
  have hb1 : Below w.heap.size w w1 := by rw [hw1]; exact (Below.refl _ _).alloc (Nat.le_refl _) _
  have hz1 : Blk w1 w.heap.size 91 #[.slice none 0 0, .int .u8 0] := by rw [hw1]; exact Blk.new _ _ _
  have HP := Lib.hid (parse32_calls (h.below hb1))
  have hlt0 : ∀ y r, rdU 4 big l = some (y, r) → y < 4294967296 ∧ r.length ≤ N := fun y r e => by
    have h1 := rdU_lt1 h.byt.1 e
    have h2 := (rdU_len e).1
    exact ⟨by simpa using h1, by omega⟩
  obtain ⟨f, hf⟩ : ∃ f, f = fItem fi 1 := ⟨_, rfl⟩
  rw [← hf]
  obtain ⟨o, ho⟩ : ∃ o, o = rdMp f 4 d big l := ⟨_, rfl⟩
  rw [← ho]
  have HF0 := Lib.hid hf
  have HRUN := Lib.hid hrun
  have HLEN := Lib.hid hlen
  have HO := Lib.hid ho
  have HW1 := Lib.hid hw1
  have HB1 := Lib.hid hb1
  have HZ1 := Lib.hid hz1
  have hPw := h.lt
  have hne : w.heap.size ≠ P := by omega
  clear hw1 hb1 hz1 h ho hf hrun hlen
  go_enter Tryz.func167, Tryz.ntmps167
  go_upto_region 1 with fail
  rw [← HW1.out]
  go_wp2_with fail
  refine HP.out.mono ?_
  rintro e w2 ⟨hg, hx⟩
  have hz2 := HZ1.out.grown hg (fun e => hne (Option.some.inj e))
  have HZ2 := Lib.hid hz2
  have hgr2 : w.grownBy w2 (some P) := grown_trans (grown_below HB1.out) hg
  have HGR2 := Lib.hid hgr2
  obtain ⟨z0, z1, y0, y1, zl⟩ := cells2 hz2
  clear hg hz2 hgr2
  have HERR := Lib.hid (show ∀ (wx : World) (u0 u1 : Value) (T : TypeId) (v : Value), w.grownBy wx (some P) → Bod wx P → o = none → PKPost S w P big 4 o (.returned (.tuple #[.agg #[.slice none 0 0, .int .u8 0], .iface T v])) ((wx.setCell ⟨w.heap.size, 0, none⟩ u0).setCell ⟨w.heap.size, 1, none⟩ u1) from fun wx u0 u1 T v hg hbo ho => by
    subst ho
    refine ⟨.mu 4 0 none 0 [], rfl, ?_, far_grown (far_grown hg (Nat.le_refl _) 0 u0) (Nat.le_refl _) 1 u1, (hbo.far (i := 0) hPw u0).far (i := 1) hPw u1, T, v, rfl⟩
    rw [MG.In]
    exact ⟨by decide, by decide, Nat.zero_le _, ⟨Sl.nil _ _ _, fun h => absurd h (Nat.lt_irrefl 0)⟩, trivial⟩)
  cases hu : rdU 4 big l with
  | none =>
    rw [hu] at hx
    obtain ⟨hbo, T, xe, rfl⟩ := hx
    have HBO := Lib.hid hbo
    clear hbo
    have HON := Lib.hid (show o = none by rw [HO.out]; unfold rdMp; rw [hu])
    go_wp2_with fail
    refine bodyPost_ret (v := .tuple #[.agg #[.slice none 0 0, .int .u8 0], .iface T xe]) (by simp [results, Tryz.results167, go_sem, z0, z1, zl]) rfl ?_
    exact HERR.out _ _ _ _ _ HGR2.out HBO.out HON.out
  | some q =>
    obtain ⟨n, r⟩ := q
    rw [hu] at hx
    obtain ⟨rfl, hws⟩ := hx
    obtain ⟨hn, hrN⟩ := hlt0 n r hu
    have HWS := Lib.hid hws
    have HRN := Lib.hid hrN
    have HO2 := Lib.hid (show o = (rdK f n r).map (fun p => (joinG 4 d p.1, p.2)) by rw [HO.out]; unfold rdMp; rw [hu]; rfl)
    clear hws hlt0 hu hrN
    by_cases h0 : n = 0
    · subst h0
      have HF := Lib.hid (fun w' => @ptForceMulti 0 none 0 [] d hd (fun _ => False) w' (by rw [MG.In]; exact ⟨by decide, by decide, Nat.zero_le _, ⟨Sl.nil _ _ _, fun h => absurd h (Nat.lt_irrefl 0)⟩, trivial⟩))
      go_wp2_with fail
      refine (HF.out _).mono ?_
      rintro e w3 ⟨m, rfl, hm1, hm2, hm3, hb3⟩
      obtain ⟨md, mA, mc, mk, rfl⟩ := MG.is_mu (S := S) (w := w) (k := 4) hm2 (by decide) (by decide) (by decide)
      rw [show (MG.mu 4 md mA mc mk).enc.toArray = #[.slice mA mk.length mc, .int .u8 md] from rfl]
      have HM1 := Lib.hid hm1
      have HM3 := Lib.hid hm3
      have HB3 := Lib.hid hb3
      obtain ⟨z0, z1, y0, y1, zl⟩ := cells2 (HZ2.out.below hb3 HZ2.out.lt)
      clear hm1 hm2 hm3 hb3
      go_wp2_with fail
      refine bodyPost_ret (v := .tuple #[.agg #[.slice mA mk.length mc, .int .u8 md], .nilIface]) (by simp [results, Tryz.results167, go_sem, z0, z1, zl]) rfl ?_
      have hT : ¬ (fun a => w.heap.size < a) w.heap.size := Nat.lt_irrefl _
      have hgr3 : w.grownBy w3 (some P) := grown_trans HGR2.out (grown_below HB3.out)
      have hws3 := ((HWS.out.below HB3.out).far (g := w.heap.size) (i := 0) hPw (.slice mA mk.length mc)).far (g := w.heap.size) (i := 1) hPw (.int .u8 md)
      have hzl2 := HZ2.out.lt
      refine ⟨.mu 4 md mA mc mk, rfl, ?_, far_grown (far_grown hgr3 (Nat.le_refl _) 0 _) (Nat.le_refl _) 1 _, ?_⟩
      · refine MG.less (fun a ha => Nat.le_of_lt ha) (MG.keep (((Keeps.refl (fun a => w.heap.size < a) w3).setFar hT _).setFar hT _) (MG.less (fun a ha => ?_) HM1.out))
        rcases ha with ha | ha
        · exact ha.elim
        · show w.heap.size < a
          omega
      · rw [HO2.out]
        refine ⟨rfl, ?_, hws3⟩
        rw [HM3.out, MG.plain_mu, frc_eq]
        simp [joinG, frcN_nil]
    · have hn0 : ((n : Int) == 0) = false := beq_eq_false_iff_ne.2 (by omega)
      obtain ⟨i0, hi, hzz0, hzz1, hzz2⟩ := info_parts infoP
      have hb48 : i0.bytes * n ≤ 281474976710656 := by rw [hzz2]; omega
      have hnml : n ≤ maxLen := by unfold maxLen; omega
      go_upto_region 7 with (at_make; refine wpList_make_full _ rfl (.tmp 26) (.tmp 26) 89 rfl w2.heap.size 77 i0 _ 6 Tryz.underlying89 hi hzz0 hzz1 .u32 .u32 _ _ n rfl rfl rfl rfl hb48 hnml (Nat.le_refl _) ?_; intro w3 hown hgrow
                             obtain ⟨hrow, hxl⟩ := make_row hown
                             have hb3 : Below w2.heap.size w2 w3 := (Below.refl w2.heap.size w2).grown hgrow (Nat.le_refl _) (fun q hq => by cases hq)
                             have HXL := Lib.hid hxl
                             have HI3 := Lib.hid (show MuI S w P w2.heap.size big r 77 91 _ [.slice none 0 0, .int .u8 0] w3 from ⟨HWS.out.below hb3, hrow, HZ2.out.below hb3 HZ2.out.lt, grown_trans HGR2.out (grown_below hb3), hPw, HZ2.out.lt⟩)
                             clear hown hgrow hrow hxl hb3)
      obtain ⟨F, hF⟩ : ∃ F, F = w2.heap.size := ⟨_, rfl⟩
      rw [← hF] at HI3 ⊢
      clear hF
      have hwF : w.heap.size < F := HI3.out.hi
      go_wp2_with fail
      go_loopg [9] n (fun q ci wr => ∃ (i : Nat) (L : List MG) (R : List Value) (r' : List Nat), i + q = n ∧ ci = .int .u32 (i : Nat) ∧ L.length = i ∧ (∀ g ∈ L, g.kind = 1 ∧ g.In (fun a => F < a) wr) ∧ MuI S w P F big r' 77 91 (L.flatMap MG.enc ++ R) [.slice none 0 0, .int .u8 0] wr ∧ R.length = (n - i) * 6 ∧ KSt f n i (L.map MG.plain) (some r) (some r') ∧ r'.length ≤ N)
      case atStart => exact ⟨0, [], _, r, by omega, by go_num, rfl, (fun g hg => by cases hg), HI3.out, (by have h1 := HXL.out; rw [h1]; omega), KSt.start, HRN.out⟩
      case round =>
        obtain ⟨i, L, R, r', hi', rfl, hll, hlin, hmu, hrl, hks, hrn⟩ := hrel
        have HIL := Lib.hid hi'
        have HLL := Lib.hid hll
        have HLIN := Lib.hid hlin
        have HMU := Lib.hid hmu
        have HRL := Lib.hid hrl
        have HKS := Lib.hid hks
        have HRN2 := Lib.hid hrn
        have hin : i ≤ n := by omega
        have hdl : (L.flatMap MG.enc).length = i * 6 := by
          rw [flatE_len (s := 6) (fun g hg => ?_), hll]
          obtain ⟨e1, e2⟩ := hlin g hg
          obtain ⟨d', full', p', rfl⟩ := MG.is_pt e1 e2
          rfl
        have HDL := Lib.hid hdl
        clear hi' hll hlin hmu hrl hks hdl hrn
        by_cases hlt : i < n
        · have hltI : (i : Int) < (n : Int) := by omega
          have hw32 : IntKind.u32.wrap ((i : Int) + 1) = ((i + 1 : Nat) : Int) := by rw [u32_wrap_id _ (by omega) (by omega)]; rfl
          obtain ⟨v0, v1, v2, v3, v4, v5, R2, hRe, hr2⟩ := cut6 (n := (n - (i + 1)) * 6) (show R.length = _ by rw [HRL.out]; omega)
          subst hRe
          have HR2 := Lib.hid hr2
          clear hr2
          have HIC := Lib.hid (inner_calls HRUN.out HMU.out.ws HRN2.out)
          have hFw := HMU.out.fb.lt
          have hFz : F ≠ w.heap.size := by omega
          go_wp2_with fail
          refine HIC.out.mono ?_
          rintro e w5 ⟨hg5, hx5⟩
          have hgr5 := grown_trans HMU.out.gr hg5
          have HGR5 := Lib.hid hgr5
          have HG5 := Lib.hid hg5
          have hz5 := HMU.out.zb.grown hg5 (fun e => by have := Option.some.inj e; have := HMU.out.lo; omega)
          have HZ5 := Lib.hid hz5
          have hfb5 : Row w5 F 77 (L.flatMap MG.enc ++ ([v0, v1, v2, v3, v4, v5] ++ R2)) := by
            obtain ⟨cur, h1, h2, h3⟩ := HMU.out.fb
            have hl := HMU.out.lo
            exact ⟨cur, h1.grown hg5 (fun e => by have := Option.some.inj e; omega), h2, h3⟩
          have HFB5 := Lib.hid hfb5
          clear hg5 hfb5 hz5 hgr5
          cases hfi : fi r' with
          | none =>
            rw [hfi] at hx5
            obtain ⟨hbo, T, xe, rfl⟩ := hx5
            have HBO := Lib.hid hbo
            clear hbo
            have HON := Lib.hid (show o = none from by
              have h1 : KSt f n (i + 1) (L.map MG.plain ++ [PG.mk 0 0 [] []]) (some r) none := HKS.out.step (oI := none) hlt ⟨by rw [HF0.out]; unfold fItem; rw [hfi], .inl rfl⟩
              have h2 : rdK f n r = none := h1.dead_o
              rw [HO2.out, h2]; rfl)
            obtain ⟨z0, z1, y0, y1, zl⟩ := cells2 (HZ5.out.alloc (.cells #[.int .i64 0, .nilIface] 47))
            go_wp2_with fail
            refine bodyPost_ret (v := .tuple #[.agg #[.slice none 0 0, .int .u8 0], .iface T xe]) (by simp [results, Tryz.results167, go_sem, z0, z1, zl, hFz]) rfl ?_
            exact HERR.out _ _ _ _ _ (grown_trans HGR5.out (grown_below ((Below.refl _ _).alloc (Nat.le_refl _) _))) (HBO.out.below ((Below.refl _ _).alloc (Nat.le_refl _) _)) HON.out
          | some p =>
            obtain ⟨p, r2⟩ := p
            rw [hfi] at hx5
            obtain ⟨a, m, rfl, hin, hk, hpl, hws⟩ := hx5
            rw [show (MG.bx a m).enc.toArray = #[.int .i64 m.kind, .iface (pT m.kind) (.pointer (some ⟨a, 0, none⟩))] from rfl]
            obtain ⟨w6, hw6⟩ : ∃ w6, w6 = w5.alloc (.cells #[.int .i64 m.kind, .iface (pT m.kind) (.pointer (some ⟨a, 0, none⟩))] 47) := ⟨_, rfl⟩
            have hb6 : Below w5.heap.size w5 w6 := by rw [hw6]; exact (Below.refl _ _).alloc (Nat.le_refl _) _
            have hg6 : Blk w6 w5.heap.size 47 #[.int .i64 m.kind, .iface (pT m.kind) (.pointer (some ⟨a, 0, none⟩))] := by rw [hw6]; exact Blk.new _ _ _
            obtain ⟨q0, q1, x0, x1, ql⟩ := cells2 hg6
            have HW6 := Lib.hid hw6
            have HB6 := Lib.hid hb6
            have HG6 := Lib.hid hg6
            have HIN := Lib.hid hin
            have HKP := Lib.hid (And.intro hk hpl)
            have HWS2 := Lib.hid hws
            have HFI := Lib.hid hfi
            clear hw6 hb6 hg6 hin hk hpl hws hfi
            go_upto_region 11 with fail
            rw [← HW6.out]
            go_wp2_with fail
            refine (gis1_calls _ _ _).mono ?_
            rintro e w7 ⟨rfl, hb7⟩
            have HB57 := Lib.hid (HB6.out.trans (hb7.mono HB6.out.size))
            have HG7 := Lib.hid (HG6.out.below hb7 HG6.out.lt)
            clear hb7 HG6 q0 q1 x0 x1
            by_cases hmk : m.kind = 1
            · have hmkB : (((m.kind : Nat) : Int) == 1) = true := beq_iff_eq.2 (by omega)
              have hi0 := HIN.out
              rw [MG.In] at hi0
              obtain ⟨-, hae, hblk, hmi⟩ := hi0
              obtain ⟨d2, full2, p2, rfl⟩ := MG.is_pt hmk hmi
              replace hblk : Blk w5 a 77 #[.float .f64 p2.x, .float .f64 p2.y, .float .f64 p2.z, .float .f64 p2.m, .int .u8 d2, .bool full2] := hblk
              have hHM := Lib.hid (fun w' (hb : Below w5.heap.size w5 w') => must1 (a := a) (w := w') (hblk.below hb hblk.lt))
              have hae' : F < a := by have h1 : wr.heap.size ≤ a := hae; omega
              have HMI := Lib.hid hmi
              obtain ⟨q0, q1, x0, x1, ql⟩ := cells2 HG7.out
              clear hblk hmi hae
              go_wp2_with fail
              refine (hHM.out _ HB57.out).mono ?_
              rintro e w8 ⟨rfl, hb8⟩
              have hb58 := HB57.out.trans (hb8.mono HB57.out.size)
              have HB58 := Lib.hid hb58
              have hfb8 : Row w8 F 77 (L.flatMap MG.enc ++ ([v0, v1, v2, v3, v4, v5] ++ R2)) := HFB5.out.below hb58
              have HFB8 := Lib.hid hfb8
              have e0 := hfb8.frozen_at HDL.out 0 (by simp)
              have b0 := hfb8.some_at HDL.out 0 (by simp)
              have e1 := hfb8.frozen_at HDL.out 1 (by simp)
              have b1 := hfb8.some_at HDL.out 1 (by simp)
              have e2 := hfb8.frozen_at HDL.out 2 (by simp)
              have b2 := hfb8.some_at HDL.out 2 (by simp)
              have e3 := hfb8.frozen_at HDL.out 3 (by simp)
              have b3 := hfb8.some_at HDL.out 3 (by simp)
              have e4 := hfb8.frozen_at HDL.out 4 (by simp)
              have b4 := hfb8.some_at HDL.out 4 (by simp)
              have e5 := hfb8.frozen_at HDL.out 5 (by simp)
              have b5 := hfb8.some_at HDL.out 5 (by simp)
              simp only [List.getElem_cons_zero, List.getElem_cons_succ, Nat.add_zero] at e0 b0 e1 b1 e2 b2 e3 b3 e4 b4 e5 b5
              have hlr := hfb8.lt
              clear hb8 hb58 hfb8 q0 q1 x0 x1
              go_wp2_with fail
              go_roundg (n - (i + 1))
              case measure => have := HIL.out; omega
              case rel =>
                have hil := HIL.out
                have hnT : ¬ (fun a => F < a) F := fun h => Nat.lt_irrefl _ h
                have hlo := HMU.out.lo
                have hk5 : Keeps (fun a => F < a) wr w5 := Keeps.grown HG5.out (fun q hq hh => by cases hq; have h1 : F < P := hh; omega)
                have hkeep : Keeps (fun a => F < a) w5 ((((((w8.setCell ⟨F, i * 6, none⟩ (.float .f64 p2.x)).setCell ⟨F, i * 6 + 1, none⟩ (.float .f64 p2.y)).setCell ⟨F, i * 6 + 2, none⟩ (.float .f64 p2.z)).setCell ⟨F, i * 6 + 3, none⟩ (.float .f64 p2.m)).setCell ⟨F, i * 6 + 4, none⟩ (.int .u8 d2)).setCell ⟨F, i * 6 + 5, none⟩ (.bool full2)) := (((((((Keeps.of_below HB58.out).setFar hnT _).setFar hnT _).setFar hnT _).setFar hnT _).setFar hnT _).setFar hnT _)
                refine ⟨i + 1, L ++ [.pt d2 full2 p2], R2, r2, by omega, by first | go_num | rw [hw32] | rfl, by simp [HLL.out], ?_, ⟨?_, ?_, ?_, ?_, hlo, hwF⟩, HR2.out, ?_, by have h1 := HLEN.out _ _ _ HFI.out; have h2 := HRN2.out; omega⟩
                · intro g hg
                  rcases List.mem_append.1 hg with hg | hg
                  · obtain ⟨e1, e2⟩ := HLIN.out g hg
                    exact ⟨e1, MG.keep hkeep (MG.keep hk5 e2)⟩
                  · have := List.mem_singleton.1 hg
                    subst this
                    exact ⟨rfl, MG.keep hkeep (MG.less (fun a ha => by have h1 : wr.heap.size ≤ a := ha; show F < a; omega) HMI.out)⟩
                · exact ((((((HWS2.out.below HB58.out).far (g := F) (i := i * 6) (by omega) _).far (g := F) (i := i * 6 + 1) (by omega) _).far (g := F) (i := i * 6 + 2) (by omega) _).far (g := F) (i := i * 6 + 3) (by omega) _).far (g := F) (i := i * 6 + 4) (by omega) _).far (g := F) (i := i * 6 + 5) (by omega) _
                · rw [List.flatMap_append]
                  have := HFB8.out.put6 HDL.out (.float .f64 p2.x) (.float .f64 p2.y) (.float .f64 p2.z) (.float .f64 p2.m) (.int .u8 d2) (.bool full2)
                  simpa [MG.enc] using this
                · exact ((((((HZ5.out.below HB58.out HZ5.out.lt).far (p := ⟨F, i * 6, none⟩) (show w.heap.size ≠ F by omega) _).far (p := ⟨F, i * 6 + 1, none⟩) (show w.heap.size ≠ F by omega) _).far (p := ⟨F, i * 6 + 2, none⟩) (show w.heap.size ≠ F by omega) _).far (p := ⟨F, i * 6 + 3, none⟩) (show w.heap.size ≠ F by omega) _).far (p := ⟨F, i * 6 + 4, none⟩) (show w.heap.size ≠ F by omega) _).far (p := ⟨F, i * 6 + 5, none⟩) (show w.heap.size ≠ F by omega) _
                · exact far_grown (far_grown (far_grown (far_grown (far_grown (far_grown (grown_trans HGR5.out (grown_below HB58.out)) (Nat.le_of_lt hwF) (i * 6) _) (Nat.le_of_lt hwF) (i * 6 + 1) _) (Nat.le_of_lt hwF) (i * 6 + 2) _) (Nat.le_of_lt hwF) (i * 6 + 3) _) (Nat.le_of_lt hwF) (i * 6 + 4) _) (Nat.le_of_lt hwF) (i * 6 + 5) _
                · rw [List.map_append, List.map_cons, List.map_nil]
                  exact HKS.out.step (oI := some (p.new, r2)) hlt ⟨by rw [HF0.out]; unfold fItem; rw [HFI.out]; simp only; rw [if_pos (.inr (by rw [← HKP.out.1]; rfl))], .inr (by rw [← HKP.out.2]; rfl)⟩
            · have hmkB : (((m.kind : Nat) : Int) == 1) = false := beq_eq_false_iff_ne.2 (by omega)
              have HON := Lib.hid (show o = none from by
                have h1 : KSt f n (i + 1) (L.map MG.plain ++ [PG.mk 0 0 [] []]) (some r) none := HKS.out.step (oI := none) hlt ⟨by rw [HF0.out]; unfold fItem; rw [HFI.out]; simp only; rw [if_neg (by rw [← HKP.out.1]; omega)], .inl rfl⟩
                have h2 : rdK f n r = none := h1.dead_o
                rw [HO2.out, h2]; rfl)
              obtain ⟨z0, z1, y0, y1, zl⟩ := cells2 (HZ5.out.below HB57.out HZ5.out.lt)
              go_wp2_with fail
              refine bodyPost_ret (v := .tuple #[.agg #[.slice none 0 0, .int .u8 0], .iface 207 ?_]) (by simp [results, Tryz.results167, go_sem, z0, z1, zl, hFz]; rfl) rfl ?_
              exact HERR.out _ _ _ _ _ (grown_trans HGR5.out (grown_below HB57.out)) (HWS2.out.bod.below HB57.out) HON.out
        · obtain rfl : i = n := by omega
          have hR0 : R = [] := List.eq_nil_of_length_eq_zero (by rw [HRL.out]; omega)
          have hrow := HMU.out.fb
          rw [hR0, List.append_nil] at hrow
          have HRW := Lib.hid hrow
          have hltI : (i : Int) ≤ (i : Int) := Int.le_refl _
          have HNW := Lib.hid (new4 (A := some ⟨F, 0, none⟩) (c := i) (d0 := d) (kids := L) (by rw [HLL.out]; omega) (by rw [HLL.out]; show i ≤ 1099511627776; omega) (S := fun a => F ≤ a) (w := wr) ⟨HRW.out.sl (by rw [HDL.out, HLL.out]) (by rw [HLL.out]; unfold maxLen; omega), fun _ a ha => by have := Option.some.inj ha; subst this; exact Nat.le_refl _⟩ (MG.inL_iff.2 fun g hg => ⟨(HLIN.out g hg).1, MG.less (fun a ha => Nat.le_of_lt ha) (HLIN.out g hg).2⟩))
          rw [HLL.out] at HNW
          clear hrow hR0
          go_wp2_with fail
          refine HNW.out.mono ?_
          rintro e w6 ⟨m, rfl, hm1, hm2, hm3, hb6⟩
          obtain ⟨md, mA, mc, mk, rfl⟩ := MG.is_mu (S := S) (w := w) (k := 4) hm2 (by decide) (by decide) (by decide)
          rw [show (MG.mu 4 md mA mc mk).enc.toArray = #[.slice mA mk.length mc, .int .u8 md] from rfl]
          have HM1 := Lib.hid hm1
          have HM3 := Lib.hid hm3
          have HB6 := Lib.hid hb6
          obtain ⟨z0, z1, y0, y1, zl⟩ := cells2 (HMU.out.zb.below hb6 HMU.out.zb.lt)
          clear hm1 hm2 hm3 hb6
          go_wp2_with fail
          refine bodyPost_ret (v := .tuple #[.agg #[.slice mA mk.length mc, .int .u8 md], .nilIface]) (by simp [results, Tryz.results167, go_sem, z0, z1, zl]) rfl ?_
          have hT : ¬ (fun a => w.heap.size < a) w.heap.size := Nat.lt_irrefl _
          have hgr6 : w.grownBy w6 (some P) := grown_trans HMU.out.gr (grown_below HB6.out)
          have hws6 := ((HMU.out.ws.below HB6.out).far (g := w.heap.size) (i := 0) hPw (.slice mA mk.length mc)).far (g := w.heap.size) (i := 1) hPw (.int .u8 md)
          have hzl2 := HMU.out.zb.lt
          refine ⟨.mu 4 md mA mc mk, rfl, ?_, far_grown (far_grown hgr6 (Nat.le_refl _) 0 _) (Nat.le_refl _) 1 _, ?_⟩
          · refine MG.less (fun a ha => Nat.le_of_lt ha) (MG.keep (((Keeps.refl (fun a => w.heap.size < a) w6).setFar hT _).setFar hT _) (MG.less (fun a ha => ?_) HM1.out))
            rcases ha with ha | ha
            · have h1 : F ≤ a := ha
              show w.heap.size < a
              omega
            · show w.heap.size < a
              omega
          · have hfin : rdK f i r = some (L.map MG.plain, r') := HKS.out.fin
            rw [HO2.out, hfin]
            exact ⟨rfl, HM3.out, hws6⟩
end Go.Proofs.YtbacakdpfiiblaaGreat.geo

namespace Go.Proofs.YtbacakdpfiiblaaGreat.geo
open Go.ChangeShapes Go.WideShapes Go.ChangeAt Go.RowKit
open Go.Proofs.YtbacakdpfiiblaaGreat.mem
set_option linter.unusedVariables false
set_option linter.unusedSimpArgs false

set_option maxHeartbeats 8000000 in
set_option maxRecDepth 100000 in
theorem parseM5_calls {S : Nat → Prop} {w : World} {P N d : Nat} {big : Bool} {l : List Nat} {fi : List Nat → Option (PG × List Nat)}
    (hrun : ∀ (w : World) (P : Nat) (b : Bool) (l : List Nat), WPs S w P b l → l.length ≤ N → Calls Tryz.prog 104 #[.pointer (some ⟨P, 0, none⟩)] w (PGPost S w P (fi l)))
    (hlen : ∀ bs p r, fi bs = some (p, r) → r.length ≤ bs.length) (hd : d < 4) (h : WPs S w P big l) (hN : l.length ≤ N) :
    Calls Tryz.prog 168 #[.pointer (some ⟨P, 0, none⟩), .int .u8 d] w (PKPost S w P big 5 (rdMp (fItem fi 2) 5 d big l)) := by
  obtain ⟨w1, hw1⟩ : ∃ w1, w1 = w.alloc (.cells #[.slice none 0 0, .int .u8 0] 94) := ⟨_, rfl⟩
  have hb1 : Below w.heap.size w w1 := by rw [hw1]; exact (Below.refl _ _).alloc (Nat.le_refl _) _
  have hz1 : Blk w1 w.heap.size 94 #[.slice none 0 0, .int .u8 0] := by rw [hw1]; exact Blk.new _ _ _
  have HP := Lib.hid (parse32_calls (h.below hb1))
  have hlt0 : ∀ y r, rdU 4 big l = some (y, r) → y < 4294967296 ∧ r.length ≤ N := fun y r e => by
    have h1 := rdU_lt1 h.byt.1 e
    have h2 := (rdU_len e).1
    exact ⟨by simpa using h1, by omega⟩
  obtain ⟨f, hf⟩ : ∃ f, f = fItem fi 2 := ⟨_, rfl⟩
  rw [← hf]
  obtain ⟨o, ho⟩ : ∃ o, o = rdMp f 5 d big l := ⟨_, rfl⟩
  rw [← ho]
  have HF0 := Lib.hid hf
  have HRUN := Lib.hid hrun
  have HLEN := Lib.hid hlen
  have HO := Lib.hid ho
  have HW1 := Lib.hid hw1
  have HB1 := Lib.hid hb1
  have HZ1 := Lib.hid hz1
  have hPw := h.lt
  have hne : w.heap.size ≠ P := by omega
  clear hw1 hb1 hz1 h ho hf hrun hlen
  go_enter Tryz.func168, Tryz.ntmps168
  go_upto_region 1 with fail
  rw [← HW1.out]
  go_wp2_with fail
  refine HP.out.mono ?_
  rintro e w2 ⟨hg, hx⟩
  have hz2 := HZ1.out.grown hg (fun e => hne (Option.some.inj e))
  have HZ2 := Lib.hid hz2
  have hgr2 : w.grownBy w2 (some P) := grown_trans (grown_below HB1.out) hg
  have HGR2 := Lib.hid hgr2
  obtain ⟨z0, z1, y0, y1, zl⟩ := cells2 hz2
  clear hg hz2 hgr2
  have HERR := Lib.hid (show ∀ (wx : World) (u0 u1 : Value) (T : TypeId) (v : Value), w.grownBy wx (some P) → Bod wx P → o = none → PKPost S w P big 5 o (.returned (.tuple #[.agg #[.slice none 0 0, .int .u8 0], .iface T v])) ((wx.setCell ⟨w.heap.size, 0, none⟩ u0).setCell ⟨w.heap.size, 1, none⟩ u1) from fun wx u0 u1 T v hg hbo ho => by
    subst ho
    refine ⟨.mu 5 0 none 0 [], rfl, ?_, far_grown (far_grown hg (Nat.le_refl _) 0 u0) (Nat.le_refl _) 1 u1, (hbo.far (i := 0) hPw u0).far (i := 1) hPw u1, T, v, rfl⟩
    rw [MG.In]
    exact ⟨by decide, by decide, Nat.zero_le _, ⟨Sl.nil _ _ _, fun h => absurd h (Nat.lt_irrefl 0)⟩, trivial⟩)
  cases hu : rdU 4 big l with
  | none =>
    rw [hu] at hx
    obtain ⟨hbo, T, xe, rfl⟩ := hx
    have HBO := Lib.hid hbo
    clear hbo
    have HON := Lib.hid (show o = none by rw [HO.out]; unfold rdMp; rw [hu])
    go_wp2_with fail
    refine bodyPost_ret (v := .tuple #[.agg #[.slice none 0 0, .int .u8 0], .iface T xe]) (by simp [results, Tryz.results168, go_sem, z0, z1, zl]) rfl ?_
    exact HERR.out _ _ _ _ _ HGR2.out HBO.out HON.out
  | some q =>
    obtain ⟨n, r⟩ := q
    rw [hu] at hx
    obtain ⟨rfl, hws⟩ := hx
    obtain ⟨hn, hrN⟩ := hlt0 n r hu
    have HWS := Lib.hid hws
    have HRN := Lib.hid hrN
    have HO2 := Lib.hid (show o = (rdK f n r).map (fun p => (joinG 5 d p.1, p.2)) by rw [HO.out]; unfold rdMp; rw [hu]; rfl)
    clear hws hlt0 hu hrN
    by_cases h0 : n = 0
    · subst h0
      have HF := Lib.hid (fun w' => @force5 0 none 0 [] (fun g hg => by cases hg) d hd (fun _ => False) w' (by rw [MG.In]; exact ⟨by decide, by decide, Nat.zero_le _, ⟨Sl.nil _ _ _, fun h => absurd h (Nat.lt_irrefl 0)⟩, trivial⟩))
      go_wp2_with fail
      refine (HF.out _).mono ?_
      rintro e w3 ⟨m, rfl, hm1, hm2, hm3, hb3⟩
      obtain ⟨md, mA, mc, mk, rfl⟩ := MG.is_mu (S := S) (w := w) (k := 5) hm2 (by decide) (by decide) (by decide)
      rw [show (MG.mu 5 md mA mc mk).enc.toArray = #[.slice mA mk.length mc, .int .u8 md] from rfl]
      have HM1 := Lib.hid hm1
      have HM3 := Lib.hid hm3
      have HB3 := Lib.hid hb3
      obtain ⟨z0, z1, y0, y1, zl⟩ := cells2 (HZ2.out.below hb3 HZ2.out.lt)
      clear hm1 hm2 hm3 hb3
      go_wp2_with fail
      refine bodyPost_ret (v := .tuple #[.agg #[.slice mA mk.length mc, .int .u8 md], .nilIface]) (by simp [results, Tryz.results168, go_sem, z0, z1, zl]) rfl ?_
      have hT : ¬ (fun a => w.heap.size < a) w.heap.size := Nat.lt_irrefl _
      have hgr3 : w.grownBy w3 (some P) := grown_trans HGR2.out (grown_below HB3.out)
      have hws3 := ((HWS.out.below HB3.out).far (g := w.heap.size) (i := 0) hPw (.slice mA mk.length mc)).far (g := w.heap.size) (i := 1) hPw (.int .u8 md)
      have hzl2 := HZ2.out.lt
      refine ⟨.mu 5 md mA mc mk, rfl, ?_, far_grown (far_grown hgr3 (Nat.le_refl _) 0 _) (Nat.le_refl _) 1 _, ?_⟩
      · refine MG.less (fun a ha => Nat.le_of_lt ha) (MG.keep (((Keeps.refl (fun a => w.heap.size < a) w3).setFar hT _).setFar hT _) (MG.less (fun a ha => ?_) HM1.out))
        rcases ha with ha | ha
        · exact ha.elim
        · show w.heap.size < a
          omega
      · rw [HO2.out]
        refine ⟨rfl, ?_, hws3⟩
        rw [HM3.out, MG.plain_mu, frc_eq]
        simp [joinG, frcN_nil]
    · have hn0 : ((n : Int) == 0) = false := beq_eq_false_iff_ne.2 (by omega)
      obtain ⟨i0, hi, hzz0, hzz1, hzz2⟩ := info_parts infoG5
      have hb48 : i0.bytes * n ≤ 281474976710656 := by rw [hzz2]; omega
      have hnml : n ≤ maxLen := by unfold maxLen; omega
      go_upto_region 7 with (at_make; refine wpList_make_full _ rfl (.tmp 26) (.tmp 26) 85 rfl w2.heap.size 83 i0 _ 2 Tryz.underlying85 hi hzz0 hzz1 .u32 .u32 _ _ n rfl rfl rfl rfl hb48 hnml (Nat.le_refl _) ?_; intro w3 hown hgrow
                             obtain ⟨hrow, hxl⟩ := make_row hown
                             have hb3 : Below w2.heap.size w2 w3 := (Below.refl w2.heap.size w2).grown hgrow (Nat.le_refl _) (fun q hq => by cases hq)
                             have HXL := Lib.hid hxl
                             have HI3 := Lib.hid (show MuI S w P w2.heap.size big r 83 94 _ [.slice none 0 0, .int .u8 0] w3 from ⟨HWS.out.below hb3, hrow, HZ2.out.below hb3 HZ2.out.lt, grown_trans HGR2.out (grown_below hb3), hPw, HZ2.out.lt⟩)
                             clear hown hgrow hrow hxl hb3)
      obtain ⟨F, hF⟩ : ∃ F, F = w2.heap.size := ⟨_, rfl⟩
      rw [← hF] at HI3 ⊢
      clear hF
      have hwF : w.heap.size < F := HI3.out.hi
      go_wp2_with fail
      go_loopg [9] n (fun q ci wr => ∃ (i : Nat) (L : List MG) (R : List Value) (r' : List Nat), i + q = n ∧ ci = .int .u32 (i : Nat) ∧ L.length = i ∧ (∀ g ∈ L, g.kind = 2 ∧ g.In (fun a => F < a) wr) ∧ MuI S w P F big r' 83 94 (L.flatMap MG.enc ++ R) [.slice none 0 0, .int .u8 0] wr ∧ R.length = (n - i) * 2 ∧ KSt f n i (L.map MG.plain) (some r) (some r') ∧ r'.length ≤ N)
      case atStart => exact ⟨0, [], _, r, by omega, by go_num, rfl, (fun g hg => by cases hg), HI3.out, (by have h1 := HXL.out; rw [h1]; omega), KSt.start, HRN.out⟩
      case round =>
        obtain ⟨i, L, R, r', hi', rfl, hll, hlin, hmu, hrl, hks, hrn⟩ := hrel
        have HIL := Lib.hid hi'
        have HLL := Lib.hid hll
        have HLIN := Lib.hid hlin
        have HMU := Lib.hid hmu
        have HRL := Lib.hid hrl
        have HKS := Lib.hid hks
        have HRN2 := Lib.hid hrn
        have hin : i ≤ n := by omega
        have hdl : (L.flatMap MG.enc).length = i * 2 := by
          rw [flatE_len (s := 2) (fun g hg => ?_), hll]
          obtain ⟨e1, e2⟩ := hlin g hg
          obtain ⟨u', v', e3⟩ := MG.enc_two e2 (by rw [e1]; decide)
          rw [e3]; rfl
        have HDL := Lib.hid hdl
        clear hi' hll hlin hmu hrl hks hdl hrn
        by_cases hlt : i < n
        · have hltI : (i : Int) < (n : Int) := by omega
          have hw32 : IntKind.u32.wrap ((i : Int) + 1) = ((i + 1 : Nat) : Int) := by rw [u32_wrap_id _ (by omega) (by omega)]; rfl
          obtain ⟨v0, v1, R2, hRe, hr2⟩ := cut2 (n := (n - (i + 1)) * 2) (show R.length = _ by rw [HRL.out]; omega)
          subst hRe
          have HR2 := Lib.hid hr2
          clear hr2
          have HIC := Lib.hid (inner_calls HRUN.out HMU.out.ws HRN2.out)
          have hFw := HMU.out.fb.lt
          have hFz : F ≠ w.heap.size := by omega
          go_wp2_with fail
          refine HIC.out.mono ?_
          rintro e w5 ⟨hg5, hx5⟩
          have hgr5 := grown_trans HMU.out.gr hg5
          have HGR5 := Lib.hid hgr5
          have HG5 := Lib.hid hg5
          have hz5 := HMU.out.zb.grown hg5 (fun e => by have := Option.some.inj e; have := HMU.out.lo; omega)
          have HZ5 := Lib.hid hz5
          have hfb5 : Row w5 F 83 (L.flatMap MG.enc ++ ([v0, v1] ++ R2)) := by
            obtain ⟨cur, h1, h2, h3⟩ := HMU.out.fb
            have hl := HMU.out.lo
            exact ⟨cur, h1.grown hg5 (fun e => by have := Option.some.inj e; omega), h2, h3⟩
          have HFB5 := Lib.hid hfb5
          clear hg5 hfb5 hz5 hgr5
          cases hfi : fi r' with
          | none =>
            rw [hfi] at hx5
            obtain ⟨hbo, T, xe, rfl⟩ := hx5
            have HBO := Lib.hid hbo
            clear hbo
            have HON := Lib.hid (show o = none from by
              have h1 : KSt f n (i + 1) (L.map MG.plain ++ [PG.mk 0 0 [] []]) (some r) none := HKS.out.step (oI := none) hlt ⟨by rw [HF0.out]; unfold fItem; rw [hfi], .inl rfl⟩
              have h2 : rdK f n r = none := h1.dead_o
              rw [HO2.out, h2]; rfl)
            obtain ⟨z0, z1, y0, y1, zl⟩ := cells2 (HZ5.out.alloc (.cells #[.int .i64 0, .nilIface] 47))
            go_wp2_with fail
            refine bodyPost_ret (v := .tuple #[.agg #[.slice none 0 0, .int .u8 0], .iface T xe]) (by simp [results, Tryz.results168, go_sem, z0, z1, zl, hFz]) rfl ?_
            exact HERR.out _ _ _ _ _ (grown_trans HGR5.out (grown_below ((Below.refl _ _).alloc (Nat.le_refl _) _))) (HBO.out.below ((Below.refl _ _).alloc (Nat.le_refl _) _)) HON.out
          | some p =>
            obtain ⟨p, r2⟩ := p
            rw [hfi] at hx5
            obtain ⟨a, m, rfl, hin, hk, hpl, hws⟩ := hx5
            rw [show (MG.bx a m).enc.toArray = #[.int .i64 m.kind, .iface (pT m.kind) (.pointer (some ⟨a, 0, none⟩))] from rfl]
            obtain ⟨w6, hw6⟩ : ∃ w6, w6 = w5.alloc (.cells #[.int .i64 m.kind, .iface (pT m.kind) (.pointer (some ⟨a, 0, none⟩))] 47) := ⟨_, rfl⟩
            have hb6 : Below w5.heap.size w5 w6 := by rw [hw6]; exact (Below.refl _ _).alloc (Nat.le_refl _) _
            have hg6 : Blk w6 w5.heap.size 47 #[.int .i64 m.kind, .iface (pT m.kind) (.pointer (some ⟨a, 0, none⟩))] := by rw [hw6]; exact Blk.new _ _ _
            obtain ⟨q0, q1, x0, x1, ql⟩ := cells2 hg6
            have HW6 := Lib.hid hw6
            have HB6 := Lib.hid hb6
            have HG6 := Lib.hid hg6
            have HIN := Lib.hid hin
            have HKP := Lib.hid (And.intro hk hpl)
            have HWS2 := Lib.hid hws
            have HFI := Lib.hid hfi
            clear hw6 hb6 hg6 hin hk hpl hws hfi
            go_upto_region 11 with fail
            rw [← HW6.out]
            go_wp2_with fail
            refine (gis2_calls _ _ _).mono ?_
            rintro e w7 ⟨rfl, hb7⟩
            have HB57 := Lib.hid (HB6.out.trans (hb7.mono HB6.out.size))
            have HG7 := Lib.hid (HG6.out.below hb7 HG6.out.lt)
            clear hb7 HG6 q0 q1 x0 x1
            by_cases hmk : m.kind = 2
            · have hmkB : (((m.kind : Nat) : Int) == 2) = true := beq_iff_eq.2 (by omega)
              have hi0 := HIN.out
              rw [MG.In] at hi0
              obtain ⟨-, hae, hblk, hmi⟩ := hi0
              obtain ⟨d2, A2, c2, ns2, rfl⟩ := MG.is_ln hmk hmi
              replace hblk : Blk w5 a 83 #[.int .u8 d2, .slice A2 ns2.length c2] := hblk
              have hHM := Lib.hid (fun w' (hb : Below w5.heap.size w5 w') => must2 (a := a) (w := w') (hblk.below hb hblk.lt))
              have hae' : F < a := by have h1 : wr.heap.size ≤ a := hae; omega
              have HMI := Lib.hid hmi
              obtain ⟨q0, q1, x0, x1, ql⟩ := cells2 HG7.out
              clear hblk hmi hae
              go_wp2_with fail
              refine (hHM.out _ HB57.out).mono ?_
              rintro e w8 ⟨rfl, hb8⟩
              have hb58 := HB57.out.trans (hb8.mono HB57.out.size)
              have HB58 := Lib.hid hb58
              have hfb8 : Row w8 F 83 (L.flatMap MG.enc ++ ([v0, v1] ++ R2)) := HFB5.out.below hb58
              have HFB8 := Lib.hid hfb8
              have e0 := hfb8.frozen_at HDL.out 0 (by simp)
              have b0 := hfb8.some_at HDL.out 0 (by simp)
              have e1 := hfb8.frozen_at HDL.out 1 (by simp)
              have b1 := hfb8.some_at HDL.out 1 (by simp)
              simp only [List.getElem_cons_zero, List.getElem_cons_succ, Nat.add_zero] at e0 b0 e1 b1
              have hlr := hfb8.lt
              clear hb8 hb58 hfb8 q0 q1 x0 x1
              go_wp2_with fail
              go_roundg (n - (i + 1))
              case measure => have := HIL.out; omega
              case rel =>
                have hil := HIL.out
                have hnT : ¬ (fun a => F < a) F := fun h => Nat.lt_irrefl _ h
                have hlo := HMU.out.lo
                have hk5 : Keeps (fun a => F < a) wr w5 := Keeps.grown HG5.out (fun q hq hh => by cases hq; have h1 : F < P := hh; omega)
                have hkeep : Keeps (fun a => F < a) w5 ((w8.setCell ⟨F, i * 2, none⟩ (.int .u8 d2)).setCell ⟨F, i * 2 + 1, none⟩ (.slice A2 ns2.length c2)) := (((Keeps.of_below HB58.out).setFar hnT _).setFar hnT _)
                refine ⟨i + 1, L ++ [.ln d2 A2 c2 ns2], R2, r2, by omega, by first | go_num | rw [hw32] | rfl, by simp [HLL.out], ?_, ⟨?_, ?_, ?_, ?_, hlo, hwF⟩, HR2.out, ?_, by have h1 := HLEN.out _ _ _ HFI.out; have h2 := HRN2.out; omega⟩
                · intro g hg
                  rcases List.mem_append.1 hg with hg | hg
                  · obtain ⟨e1, e2⟩ := HLIN.out g hg
                    exact ⟨e1, MG.keep hkeep (MG.keep hk5 e2)⟩
                  · have := List.mem_singleton.1 hg
                    subst this
                    exact ⟨rfl, MG.keep hkeep (MG.less (fun a ha => by have h1 : wr.heap.size ≤ a := ha; show F < a; omega) HMI.out)⟩
                · exact ((HWS2.out.below HB58.out).far (g := F) (i := i * 2) (by omega) _).far (g := F) (i := i * 2 + 1) (by omega) _
                · rw [List.flatMap_append]
                  have := HFB8.out.put2 HDL.out (.int .u8 d2) (.slice A2 ns2.length c2)
                  simpa [MG.enc] using this
                · exact ((HZ5.out.below HB58.out HZ5.out.lt).far (p := ⟨F, i * 2, none⟩) (show w.heap.size ≠ F by omega) _).far (p := ⟨F, i * 2 + 1, none⟩) (show w.heap.size ≠ F by omega) _
                · exact far_grown (far_grown (grown_trans HGR5.out (grown_below HB58.out)) (Nat.le_of_lt hwF) (i * 2) _) (Nat.le_of_lt hwF) (i * 2 + 1) _
                · rw [List.map_append, List.map_cons, List.map_nil]
                  exact HKS.out.step (oI := some (p.new, r2)) hlt ⟨by rw [HF0.out]; unfold fItem; rw [HFI.out]; simp only; rw [if_pos (.inr (by rw [← HKP.out.1]; rfl))], .inr (by rw [← HKP.out.2]; rfl)⟩
            · have hmkB : (((m.kind : Nat) : Int) == 2) = false := beq_eq_false_iff_ne.2 (by omega)
              have HON := Lib.hid (show o = none from by
                have h1 : KSt f n (i + 1) (L.map MG.plain ++ [PG.mk 0 0 [] []]) (some r) none := HKS.out.step (oI := none) hlt ⟨by rw [HF0.out]; unfold fItem; rw [HFI.out]; simp only; rw [if_neg (by rw [← HKP.out.1]; omega)], .inl rfl⟩
                have h2 : rdK f n r = none := h1.dead_o
                rw [HO2.out, h2]; rfl)
              obtain ⟨z0, z1, y0, y1, zl⟩ := cells2 (HZ5.out.below HB57.out HZ5.out.lt)
              go_wp2_with fail
              refine bodyPost_ret (v := .tuple #[.agg #[.slice none 0 0, .int .u8 0], .iface 207 ?_]) (by simp [results, Tryz.results168, go_sem, z0, z1, zl, hFz]; rfl) rfl ?_
              exact HERR.out _ _ _ _ _ (grown_trans HGR5.out (grown_below HB57.out)) (HWS2.out.bod.below HB57.out) HON.out
        · obtain rfl : i = n := by omega
          have hR0 : R = [] := List.eq_nil_of_length_eq_zero (by rw [HRL.out]; omega)
          have hrow := HMU.out.fb
          rw [hR0, List.append_nil] at hrow
          have HRW := Lib.hid hrow
          have hltI : (i : Int) ≤ (i : Int) := Int.le_refl _
          have HNW := Lib.hid (new5 (A := some ⟨F, 0, none⟩) (c := i) (d0 := d) (kids := L) (by rw [HLL.out]; omega) (by rw [HLL.out]; show i ≤ 1099511627776; omega) (S := fun a => F ≤ a) (w := wr) ⟨HRW.out.sl (by rw [HDL.out, HLL.out]) (by rw [HLL.out]; unfold maxLen; omega), fun _ a ha => by have := Option.some.inj ha; subst this; exact Nat.le_refl _⟩ (MG.inL_iff.2 fun g hg => ⟨(HLIN.out g hg).1, MG.less (fun a ha => Nat.le_of_lt ha) (HLIN.out g hg).2⟩))
          rw [HLL.out] at HNW
          clear hrow hR0
          go_wp2_with fail
          refine HNW.out.mono ?_
          rintro e w6 ⟨m, rfl, hm1, hm2, hm3, hb6⟩
          obtain ⟨md, mA, mc, mk, rfl⟩ := MG.is_mu (S := S) (w := w) (k := 5) hm2 (by decide) (by decide) (by decide)
          rw [show (MG.mu 5 md mA mc mk).enc.toArray = #[.slice mA mk.length mc, .int .u8 md] from rfl]
          have HM1 := Lib.hid hm1
          have HM3 := Lib.hid hm3
          have HB6 := Lib.hid hb6
          obtain ⟨z0, z1, y0, y1, zl⟩ := cells2 (HMU.out.zb.below hb6 HMU.out.zb.lt)
          clear hm1 hm2 hm3 hb6
          go_wp2_with fail
          refine bodyPost_ret (v := .tuple #[.agg #[.slice mA mk.length mc, .int .u8 md], .nilIface]) (by simp [results, Tryz.results168, go_sem, z0, z1, zl]) rfl ?_
          have hT : ¬ (fun a => w.heap.size < a) w.heap.size := Nat.lt_irrefl _
          have hgr6 : w.grownBy w6 (some P) := grown_trans HMU.out.gr (grown_below HB6.out)
          have hws6 := ((HMU.out.ws.below HB6.out).far (g := w.heap.size) (i := 0) hPw (.slice mA mk.length mc)).far (g := w.heap.size) (i := 1) hPw (.int .u8 md)
          have hzl2 := HMU.out.zb.lt
          refine ⟨.mu 5 md mA mc mk, rfl, ?_, far_grown (far_grown hgr6 (Nat.le_refl _) 0 _) (Nat.le_refl _) 1 _, ?_⟩
          · refine MG.less (fun a ha => Nat.le_of_lt ha) (MG.keep (((Keeps.refl (fun a => w.heap.size < a) w6).setFar hT _).setFar hT _) (MG.less (fun a ha => ?_) HM1.out))
            rcases ha with ha | ha
            · have h1 : F ≤ a := ha
              show w.heap.size < a
              omega
            · show w.heap.size < a
              omega
          · have hfin : rdK f i r = some (L.map MG.plain, r') := HKS.out.fin
            rw [HO2.out, hfin]
            exact ⟨rfl, HM3.out, hws6⟩
end Go.Proofs.YtbacakdpfiiblaaGreat.geo

namespace Go.Proofs.YtbacakdpfiiblaaGreat.geo
open Go.ChangeShapes Go.WideShapes Go.ChangeAt Go.RowKit
open Go.Proofs.YtbacakdpfiiblaaGreat.mem
set_option linter.unusedVariables false
set_option linter.unusedSimpArgs false

set_option maxHeartbeats 8000000 in
set_option maxRecDepth 100000 in
theorem parseM6_calls {S : Nat → Prop} {w : World} {P N d : Nat} {big : Bool} {l : List Nat} {fi : List Nat → Option (PG × List Nat)}
    (hrun : ∀ (w : World) (P : Nat) (b : Bool) (l : List Nat), WPs S w P b l → l.length ≤ N → Calls Tryz.prog 104 #[.pointer (some ⟨P, 0, none⟩)] w (PGPost S w P (fi l)))
    (hlen : ∀ bs p r, fi bs = some (p, r) → r.length ≤ bs.length) (hd : d < 4) (h : WPs S w P big l) (hN : l.length ≤ N) :
    Calls Tryz.prog 169 #[.pointer (some ⟨P, 0, none⟩), .int .u8 d] w (PKPost S w P big 6 (rdMp (fItem fi 3) 6 d big l)) := by
  obtain ⟨w1, hw1⟩ : ∃ w1, w1 = w.alloc (.cells #[.slice none 0 0, .int .u8 0] 98) := ⟨_, rfl⟩
  have hb1 : Below w.heap.size w w1 := by rw [hw1]; exact (Below.refl _ _).alloc (Nat.le_refl _) _
  have hz1 : Blk w1 w.heap.size 98 #[.slice none 0 0, .int .u8 0] := by rw [hw1]; exact Blk.new _ _ _
  have HP := Lib.hid (parse32_calls (h.below hb1))
  have hlt0 : ∀ y r, rdU 4 big l = some (y, r) → y < 4294967296 ∧ r.length ≤ N := fun y r e => by
    have h1 := rdU_lt1 h.byt.1 e
    have h2 := (rdU_len e).1
    exact ⟨by simpa using h1, by omega⟩
  obtain ⟨f, hf⟩ : ∃ f, f = fItem fi 3 := ⟨_, rfl⟩
  rw [← hf]
  obtain ⟨o, ho⟩ : ∃ o, o = rdMp f 6 d big l := ⟨_, rfl⟩
  rw [← ho]
  have HF0 := Lib.hid hf
  have HRUN := Lib.hid hrun
  have HLEN := Lib.hid hlen
  have HO := Lib.hid ho
  have HW1 := Lib.hid hw1
  have HB1 := Lib.hid hb1
  have HZ1 := Lib.hid hz1
  have hPw := h.lt
  have hne : w.heap.size ≠ P := by omega
  clear hw1 hb1 hz1 h ho hf hrun hlen
  go_enter Tryz.func169, Tryz.ntmps169
  go_upto_region 1 with fail
  rw [← HW1.out]
  go_wp2_with fail
  refine HP.out.mono ?_
  rintro e w2 ⟨hg, hx⟩
  have hz2 := HZ1.out.grown hg (fun e => hne (Option.some.inj e))
  have HZ2 := Lib.hid hz2
  have hgr2 : w.grownBy w2 (some P) := grown_trans (grown_below HB1.out) hg
  have HGR2 := Lib.hid hgr2
  obtain ⟨z0, z1, y0, y1, zl⟩ := cells2 hz2
  clear hg hz2 hgr2
  have HERR := Lib.hid (show ∀ (wx : World) (u0 u1 : Value) (T : TypeId) (v : Value), w.grownBy wx (some P) → Bod wx P → o = none → PKPost S w P big 6 o (.returned (.tuple #[.agg #[.slice none 0 0, .int .u8 0], .iface T v])) ((wx.setCell ⟨w.heap.size, 0, none⟩ u0).setCell ⟨w.heap.size, 1, none⟩ u1) from fun wx u0 u1 T v hg hbo ho => by
    subst ho
    refine ⟨.mu 6 0 none 0 [], rfl, ?_, far_grown (far_grown hg (Nat.le_refl _) 0 u0) (Nat.le_refl _) 1 u1, (hbo.far (i := 0) hPw u0).far (i := 1) hPw u1, T, v, rfl⟩
    rw [MG.In]
    exact ⟨by decide, by decide, Nat.zero_le _, ⟨Sl.nil _ _ _, fun h => absurd h (Nat.lt_irrefl 0)⟩, trivial⟩)
  cases hu : rdU 4 big l with
  | none =>
    rw [hu] at hx
    obtain ⟨hbo, T, xe, rfl⟩ := hx
    have HBO := Lib.hid hbo
    clear hbo
    have HON := Lib.hid (show o = none by rw [HO.out]; unfold rdMp; rw [hu])
    go_wp2_with fail
    refine bodyPost_ret (v := .tuple #[.agg #[.slice none 0 0, .int .u8 0], .iface T xe]) (by simp [results, Tryz.results169, go_sem, z0, z1, zl]) rfl ?_
    exact HERR.out _ _ _ _ _ HGR2.out HBO.out HON.out
  | some q =>
    obtain ⟨n, r⟩ := q
    rw [hu] at hx
    obtain ⟨rfl, hws⟩ := hx
    obtain ⟨hn, hrN⟩ := hlt0 n r hu
    have HWS := Lib.hid hws
    have HRN := Lib.hid hrN
    have HO2 := Lib.hid (show o = (rdK f n r).map (fun p => (joinG 6 d p.1, p.2)) by rw [HO.out]; unfold rdMp; rw [hu]; rfl)
    clear hws hlt0 hu hrN
    by_cases h0 : n = 0
    · subst h0
      have HF := Lib.hid (fun w' => @force6 0 none 0 [] (fun g hg => by cases hg) d hd (fun _ => False) w' (by rw [MG.In]; exact ⟨by decide, by decide, Nat.zero_le _, ⟨Sl.nil _ _ _, fun h => absurd h (Nat.lt_irrefl 0)⟩, trivial⟩))
      go_wp2_with fail
      refine (HF.out _).mono ?_
      rintro e w3 ⟨m, rfl, hm1, hm2, hm3, hb3⟩
      obtain ⟨md, mA, mc, mk, rfl⟩ := MG.is_mu (S := S) (w := w) (k := 6) hm2 (by decide) (by decide) (by decide)
      rw [show (MG.mu 6 md mA mc mk).enc.toArray = #[.slice mA mk.length mc, .int .u8 md] from rfl]
      have HM1 := Lib.hid hm1
      have HM3 := Lib.hid hm3
      have HB3 := Lib.hid hb3
      obtain ⟨z0, z1, y0, y1, zl⟩ := cells2 (HZ2.out.below hb3 HZ2.out.lt)
      clear hm1 hm2 hm3 hb3
      go_wp2_with fail
      refine bodyPost_ret (v := .tuple #[.agg #[.slice mA mk.length mc, .int .u8 md], .nilIface]) (by simp [results, Tryz.results169, go_sem, z0, z1, zl]) rfl ?_
      have hT : ¬ (fun a => w.heap.size < a) w.heap.size := Nat.lt_irrefl _
      have hgr3 : w.grownBy w3 (some P) := grown_trans HGR2.out (grown_below HB3.out)
      have hws3 := ((HWS.out.below HB3.out).far (g := w.heap.size) (i := 0) hPw (.slice mA mk.length mc)).far (g := w.heap.size) (i := 1) hPw (.int .u8 md)
      have hzl2 := HZ2.out.lt
      refine ⟨.mu 6 md mA mc mk, rfl, ?_, far_grown (far_grown hgr3 (Nat.le_refl _) 0 _) (Nat.le_refl _) 1 _, ?_⟩
      · refine MG.less (fun a ha => Nat.le_of_lt ha) (MG.keep (((Keeps.refl (fun a => w.heap.size < a) w3).setFar hT _).setFar hT _) (MG.less (fun a ha => ?_) HM1.out))
        rcases ha with ha | ha
        · exact ha.elim
        · show w.heap.size < a
          omega
      · rw [HO2.out]
        refine ⟨rfl, ?_, hws3⟩
        rw [HM3.out, MG.plain_mu, frc_eq]
        simp [joinG, frcN_nil]
    · have hn0 : ((n : Int) == 0) = false := beq_eq_false_iff_ne.2 (by omega)
      obtain ⟨i0, hi, hzz0, hzz1, hzz2⟩ := info_parts infoG6
      have hb48 : i0.bytes * n ≤ 281474976710656 := by rw [hzz2]; omega
      have hnml : n ≤ maxLen := by unfold maxLen; omega
      go_upto_region 7 with (at_make; refine wpList_make_full _ rfl (.tmp 26) (.tmp 26) 96 rfl w2.heap.size 87 i0 _ 2 Tryz.underlying96 hi hzz0 hzz1 .u32 .u32 _ _ n rfl rfl rfl rfl hb48 hnml (Nat.le_refl _) ?_; intro w3 hown hgrow
                             obtain ⟨hrow, hxl⟩ := make_row hown
                             have hb3 : Below w2.heap.size w2 w3 := (Below.refl w2.heap.size w2).grown hgrow (Nat.le_refl _) (fun q hq => by cases hq)
                             have HXL := Lib.hid hxl
                             have HI3 := Lib.hid (show MuI S w P w2.heap.size big r 87 98 _ [.slice none 0 0, .int .u8 0] w3 from ⟨HWS.out.below hb3, hrow, HZ2.out.below hb3 HZ2.out.lt, grown_trans HGR2.out (grown_below hb3), hPw, HZ2.out.lt⟩)
                             clear hown hgrow hrow hxl hb3)
      obtain ⟨F, hF⟩ : ∃ F, F = w2.heap.size := ⟨_, rfl⟩
      rw [← hF] at HI3 ⊢
      clear hF
      have hwF : w.heap.size < F := HI3.out.hi
      go_wp2_with fail
      go_loopg [9] n (fun q ci wr => ∃ (i : Nat) (L : List MG) (R : List Value) (r' : List Nat), i + q = n ∧ ci = .int .u32 (i : Nat) ∧ L.length = i ∧ (∀ g ∈ L, g.kind = 3 ∧ g.In (fun a => F < a) wr) ∧ MuI S w P F big r' 87 98 (L.flatMap MG.enc ++ R) [.slice none 0 0, .int .u8 0] wr ∧ R.length = (n - i) * 2 ∧ KSt f n i (L.map MG.plain) (some r) (some r') ∧ r'.length ≤ N)
      case atStart => exact ⟨0, [], _, r, by omega, by go_num, rfl, (fun g hg => by cases hg), HI3.out, (by have h1 := HXL.out; rw [h1]; omega), KSt.start, HRN.out⟩
      case round =>
        obtain ⟨i, L, R, r', hi', rfl, hll, hlin, hmu, hrl, hks, hrn⟩ := hrel
        have HIL := Lib.hid hi'
        have HLL := Lib.hid hll
        have HLIN := Lib.hid hlin
        have HMU := Lib.hid hmu
        have HRL := Lib.hid hrl
        have HKS := Lib.hid hks
        have HRN2 := Lib.hid hrn
        have hin : i ≤ n := by omega
        have hdl : (L.flatMap MG.enc).length = i * 2 := by
          rw [flatE_len (s := 2) (fun g hg => ?_), hll]
          obtain ⟨e1, e2⟩ := hlin g hg
          obtain ⟨u', v', e3⟩ := MG.enc_two e2 (by rw [e1]; decide)
          rw [e3]; rfl
        have HDL := Lib.hid hdl
        clear hi' hll hlin hmu hrl hks hdl hrn
        by_cases hlt : i < n
        · have hltI : (i : Int) < (n : Int) := by omega
          have hw32 : IntKind.u32.wrap ((i : Int) + 1) = ((i + 1 : Nat) : Int) := by rw [u32_wrap_id _ (by omega) (by omega)]; rfl
          obtain ⟨v0, v1, R2, hRe, hr2⟩ := cut2 (n := (n - (i + 1)) * 2) (show R.length = _ by rw [HRL.out]; omega)
          subst hRe
          have HR2 := Lib.hid hr2
          clear hr2
          have HIC := Lib.hid (inner_calls HRUN.out HMU.out.ws HRN2.out)
          have hFw := HMU.out.fb.lt
          have hFz : F ≠ w.heap.size := by omega
          go_wp2_with fail
          refine HIC.out.mono ?_
          rintro e w5 ⟨hg5, hx5⟩
          have hgr5 := grown_trans HMU.out.gr hg5
          have HGR5 := Lib.hid hgr5
          have HG5 := Lib.hid hg5
          have hz5 := HMU.out.zb.grown hg5 (fun e => by have := Option.some.inj e; have := HMU.out.lo; omega)
          have HZ5 := Lib.hid hz5
          have hfb5 : Row w5 F 87 (L.flatMap MG.enc ++ ([v0, v1] ++ R2)) := by
            obtain ⟨cur, h1, h2, h3⟩ := HMU.out.fb
            have hl := HMU.out.lo
            exact ⟨cur, h1.grown hg5 (fun e => by have := Option.some.inj e; omega), h2, h3⟩
          have HFB5 := Lib.hid hfb5
          clear hg5 hfb5 hz5 hgr5
          cases hfi : fi r' with
          | none =>
            rw [hfi] at hx5
            obtain ⟨hbo, T, xe, rfl⟩ := hx5
            have HBO := Lib.hid hbo
            clear hbo
            have HON := Lib.hid (show o = none from by
              have h1 : KSt f n (i + 1) (L.map MG.plain ++ [PG.mk 0 0 [] []]) (some r) none := HKS.out.step (oI := none) hlt ⟨by rw [HF0.out]; unfold fItem; rw [hfi], .inl rfl⟩
              have h2 : rdK f n r = none := h1.dead_o
              rw [HO2.out, h2]; rfl)
            obtain ⟨z0, z1, y0, y1, zl⟩ := cells2 (HZ5.out.alloc (.cells #[.int .i64 0, .nilIface] 47))
            go_wp2_with fail
            refine bodyPost_ret (v := .tuple #[.agg #[.slice none 0 0, .int .u8 0], .iface T xe]) (by simp [results, Tryz.results169, go_sem, z0, z1, zl, hFz]) rfl ?_
            exact HERR.out _ _ _ _ _ (grown_trans HGR5.out (grown_below ((Below.refl _ _).alloc (Nat.le_refl _) _))) (HBO.out.below ((Below.refl _ _).alloc (Nat.le_refl _) _)) HON.out
          | some p =>
            obtain ⟨p, r2⟩ := p
            rw [hfi] at hx5
            obtain ⟨a, m, rfl, hin, hk, hpl, hws⟩ := hx5
            rw [show (MG.bx a m).enc.toArray = #[.int .i64 m.kind, .iface (pT m.kind) (.pointer (some ⟨a, 0, none⟩))] from rfl]
            obtain ⟨w6, hw6⟩ : ∃ w6, w6 = w5.alloc (.cells #[.int .i64 m.kind, .iface (pT m.kind) (.pointer (some ⟨a, 0, none⟩))] 47) := ⟨_, rfl⟩
            have hb6 : Below w5.heap.size w5 w6 := by rw [hw6]; exact (Below.refl _ _).alloc (Nat.le_refl _) _
            have hg6 : Blk w6 w5.heap.size 47 #[.int .i64 m.kind, .iface (pT m.kind) (.pointer (some ⟨a, 0, none⟩))] := by rw [hw6]; exact Blk.new _ _ _
            obtain ⟨q0, q1, x0, x1, ql⟩ := cells2 hg6
            have HW6 := Lib.hid hw6
            have HB6 := Lib.hid hb6
            have HG6 := Lib.hid hg6
            have HIN := Lib.hid hin
            have HKP := Lib.hid (And.intro hk hpl)
            have HWS2 := Lib.hid hws
            have HFI := Lib.hid hfi
            clear hw6 hb6 hg6 hin hk hpl hws hfi
            go_upto_region 11 with fail
            rw [← HW6.out]
            go_wp2_with fail
            refine (gis3_calls _ _ _).mono ?_
            rintro e w7 ⟨rfl, hb7⟩
            have HB57 := Lib.hid (HB6.out.trans (hb7.mono HB6.out.size))
            have HG7 := Lib.hid (HG6.out.below hb7 HG6.out.lt)
            clear hb7 HG6 q0 q1 x0 x1
            by_cases hmk : m.kind = 3
            · have hmkB : (((m.kind : Nat) : Int) == 3) = true := beq_iff_eq.2 (by omega)
              have hi0 := HIN.out
              rw [MG.In] at hi0
              obtain ⟨-, hae, hblk, hmi⟩ := hi0
              obtain ⟨d2, A2, c2, ks2, rfl⟩ := MG.is_mu (S := S) (w := w) (k := 3) hmk (by decide) (by decide) (by decide)
              replace hblk : Blk w5 a 87 #[.slice A2 ks2.length c2, .int .u8 d2] := hblk
              have hHM := Lib.hid (fun w' (hb : Below w5.heap.size w5 w') => must3 (a := a) (w := w') (hblk.below hb hblk.lt))
              have hae' : F < a := by have h1 : wr.heap.size ≤ a := hae; omega
              have HMI := Lib.hid hmi
              obtain ⟨q0, q1, x0, x1, ql⟩ := cells2 HG7.out
              clear hblk hmi hae
              go_wp2_with fail
              refine (hHM.out _ HB57.out).mono ?_
              rintro e w8 ⟨rfl, hb8⟩
              have hb58 := HB57.out.trans (hb8.mono HB57.out.size)
              have HB58 := Lib.hid hb58
              have hfb8 : Row w8 F 87 (L.flatMap MG.enc ++ ([v0, v1] ++ R2)) := HFB5.out.below hb58
              have HFB8 := Lib.hid hfb8
              have e0 := hfb8.frozen_at HDL.out 0 (by simp)
              have b0 := hfb8.some_at HDL.out 0 (by simp)
              have e1 := hfb8.frozen_at HDL.out 1 (by simp)
              have b1 := hfb8.some_at HDL.out 1 (by simp)
              simp only [List.getElem_cons_zero, List.getElem_cons_succ, Nat.add_zero] at e0 b0 e1 b1
              have hlr := hfb8.lt
              clear hb8 hb58 hfb8 q0 q1 x0 x1
              go_wp2_with fail
              go_roundg (n - (i + 1))
              case measure => have := HIL.out; omega
              case rel =>
                have hil := HIL.out
                have hnT : ¬ (fun a => F < a) F := fun h => Nat.lt_irrefl _ h
                have hlo := HMU.out.lo
                have hk5 : Keeps (fun a => F < a) wr w5 := Keeps.grown HG5.out (fun q hq hh => by cases hq; have h1 : F < P := hh; omega)
                have hkeep : Keeps (fun a => F < a) w5 ((w8.setCell ⟨F, i * 2, none⟩ (.slice A2 ks2.length c2)).setCell ⟨F, i * 2 + 1, none⟩ (.int .u8 d2)) := (((Keeps.of_below HB58.out).setFar hnT _).setFar hnT _)
                refine ⟨i + 1, L ++ [.mu 3 d2 A2 c2 ks2], R2, r2, by omega, by first | go_num | rw [hw32] | rfl, by simp [HLL.out], ?_, ⟨?_, ?_, ?_, ?_, hlo, hwF⟩, HR2.out, ?_, by have h1 := HLEN.out _ _ _ HFI.out; have h2 := HRN2.out; omega⟩
                · intro g hg
                  rcases List.mem_append.1 hg with hg | hg
                  · obtain ⟨e1, e2⟩ := HLIN.out g hg
                    exact ⟨e1, MG.keep hkeep (MG.keep hk5 e2)⟩
                  · have := List.mem_singleton.1 hg
                    subst this
                    exact ⟨rfl, MG.keep hkeep (MG.less (fun a ha => by have h1 : wr.heap.size ≤ a := ha; show F < a; omega) HMI.out)⟩
                · exact ((HWS2.out.below HB58.out).far (g := F) (i := i * 2) (by omega) _).far (g := F) (i := i * 2 + 1) (by omega) _
                · rw [List.flatMap_append]
                  have := HFB8.out.put2 HDL.out (.slice A2 ks2.length c2) (.int .u8 d2)
                  simpa [MG.enc] using this
                · exact ((HZ5.out.below HB58.out HZ5.out.lt).far (p := ⟨F, i * 2, none⟩) (show w.heap.size ≠ F by omega) _).far (p := ⟨F, i * 2 + 1, none⟩) (show w.heap.size ≠ F by omega) _
                · exact far_grown (far_grown (grown_trans HGR5.out (grown_below HB58.out)) (Nat.le_of_lt hwF) (i * 2) _) (Nat.le_of_lt hwF) (i * 2 + 1) _
                · rw [List.map_append, List.map_cons, List.map_nil]
                  exact HKS.out.step (oI := some (p.new, r2)) hlt ⟨by rw [HF0.out]; unfold fItem; rw [HFI.out]; simp only; rw [if_pos (.inr (by rw [← HKP.out.1]; rfl))], .inr (by rw [← HKP.out.2]; rfl)⟩
            · have hmkB : (((m.kind : Nat) : Int) == 3) = false := beq_eq_false_iff_ne.2 (by omega)
              have HON := Lib.hid (show o = none from by
                have h1 : KSt f n (i + 1) (L.map MG.plain ++ [PG.mk 0 0 [] []]) (some r) none := HKS.out.step (oI := none) hlt ⟨by rw [HF0.out]; unfold fItem; rw [HFI.out]; simp only; rw [if_neg (by rw [← HKP.out.1]; omega)], .inl rfl⟩
                have h2 : rdK f n r = none := h1.dead_o
                rw [HO2.out, h2]; rfl)
              obtain ⟨z0, z1, y0, y1, zl⟩ := cells2 (HZ5.out.below HB57.out HZ5.out.lt)
              go_wp2_with fail
              refine bodyPost_ret (v := .tuple #[.agg #[.slice none 0 0, .int .u8 0], .iface 207 ?_]) (by simp [results, Tryz.results169, go_sem, z0, z1, zl, hFz]; rfl) rfl ?_
              exact HERR.out _ _ _ _ _ (grown_trans HGR5.out (grown_below HB57.out)) (HWS2.out.bod.below HB57.out) HON.out
        · obtain rfl : i = n := by omega
          have hR0 : R = [] := List.eq_nil_of_length_eq_zero (by rw [HRL.out]; omega)
          have hrow := HMU.out.fb
          rw [hR0, List.append_nil] at hrow
          have HRW := Lib.hid hrow
          have hltI : (i : Int) ≤ (i : Int) := Int.le_refl _
          have HNW := Lib.hid (new6 (A := some ⟨F, 0, none⟩) (c := i) (d0 := d) (kids := L) (by rw [HLL.out]; omega) (by rw [HLL.out]; show i ≤ 1099511627776; omega) (S := fun a => F ≤ a) (w := wr) ⟨HRW.out.sl (by rw [HDL.out, HLL.out]) (by rw [HLL.out]; unfold maxLen; omega), fun _ a ha => by have := Option.some.inj ha; subst this; exact Nat.le_refl _⟩ (MG.inL_iff.2 fun g hg => ⟨(HLIN.out g hg).1, MG.less (fun a ha => Nat.le_of_lt ha) (HLIN.out g hg).2⟩))
          rw [HLL.out] at HNW
          clear hrow hR0
          go_wp2_with fail
          refine HNW.out.mono ?_
          rintro e w6 ⟨m, rfl, hm1, hm2, hm3, hb6⟩
          obtain ⟨md, mA, mc, mk, rfl⟩ := MG.is_mu (S := S) (w := w) (k := 6) hm2 (by decide) (by decide) (by decide)
          rw [show (MG.mu 6 md mA mc mk).enc.toArray = #[.slice mA mk.length mc, .int .u8 md] from rfl]
          have HM1 := Lib.hid hm1
          have HM3 := Lib.hid hm3
          have HB6 := Lib.hid hb6
          obtain ⟨z0, z1, y0, y1, zl⟩ := cells2 (HMU.out.zb.below hb6 HMU.out.zb.lt)
          clear hm1 hm2 hm3 hb6
          go_wp2_with fail
          refine bodyPost_ret (v := .tuple #[.agg #[.slice mA mk.length mc, .int .u8 md], .nilIface]) (by simp [results, Tryz.results169, go_sem, z0, z1, zl]) rfl ?_
          have hT : ¬ (fun a => w.heap.size < a) w.heap.size := Nat.lt_irrefl _
          have hgr6 : w.grownBy w6 (some P) := grown_trans HMU.out.gr (grown_below HB6.out)
          have hws6 := ((HMU.out.ws.below HB6.out).far (g := w.heap.size) (i := 0) hPw (.slice mA mk.length mc)).far (g := w.heap.size) (i := 1) hPw (.int .u8 md)
          have hzl2 := HMU.out.zb.lt
          refine ⟨.mu 6 md mA mc mk, rfl, ?_, far_grown (far_grown hgr6 (Nat.le_refl _) 0 _) (Nat.le_refl _) 1 _, ?_⟩
          · refine MG.less (fun a ha => Nat.le_of_lt ha) (MG.keep (((Keeps.refl (fun a => w.heap.size < a) w6).setFar hT _).setFar hT _) (MG.less (fun a ha => ?_) HM1.out))
            rcases ha with ha | ha
            · have h1 : F ≤ a := ha
              show w.heap.size < a
              omega
            · show w.heap.size < a
              omega
          · have hfin : rdK f i r = some (L.map MG.plain, r') := HKS.out.fin
            rw [HO2.out, hfin]
            exact ⟨rfl, HM3.out, hws6⟩
end Go.Proofs.YtbacakdpfiiblaaGreat.geo

namespace Go.Proofs.YtbacakdpfiiblaaGreat.geo
open Go.ChangeShapes Go.WideShapes Go.ChangeAt Go.RowKit
open Go.Proofs.YtbacakdpfiiblaaGreat.mem
set_option linter.unusedVariables false
set_option linter.unusedSimpArgs false

set_option maxHeartbeats 8000000 in
set_option maxRecDepth 100000 in
theorem parseM0_calls {S : Nat → Prop} {w : World} {P N d : Nat} {big : Bool} {l : List Nat} {fi : List Nat → Option (PG × List Nat)}
    (hrun : ∀ (w : World) (P : Nat) (b : Bool) (l : List Nat), WPs S w P b l → l.length ≤ N → Calls Tryz.prog 104 #[.pointer (some ⟨P, 0, none⟩)] w (PGPost S w P (fi l)))
    (hlen : ∀ bs p r, fi bs = some (p, r) → r.length ≤ bs.length) (hd : d < 4) (h : WPs S w P big l) (hN : l.length ≤ N) :
    Calls Tryz.prog 170 #[.pointer (some ⟨P, 0, none⟩), .int .u8 d] w (PKPost S w P big 0 (rdMp (fItem fi (-1)) 0 d big l)) := by
  obtain ⟨w1, hw1⟩ : ∃ w1, w1 = w.alloc (.cells #[.slice none 0 0, .int .u8 0] 102) := ⟨_, rfl⟩
  have hb1 : Below w.heap.size w w1 := by rw [hw1]; exact (Below.refl _ _).alloc (Nat.le_refl _) _
  have hz1 : Blk w1 w.heap.size 102 #[.slice none 0 0, .int .u8 0] := by rw [hw1]; exact Blk.new _ _ _
  have HP := Lib.hid (parse32_calls (h.below hb1))
  have hlt0 : ∀ y r, rdU 4 big l = some (y, r) → y < 4294967296 ∧ r.length ≤ N := fun y r e => by
    have h1 := rdU_lt1 h.byt.1 e
    have h2 := (rdU_len e).1
    exact ⟨by simpa using h1, by omega⟩
  obtain ⟨f, hf⟩ : ∃ f, f = fItem fi (-1) := ⟨_, rfl⟩
  rw [← hf]
  obtain ⟨o, ho⟩ : ∃ o, o = rdMp f 0 d big l := ⟨_, rfl⟩
  rw [← ho]
  have HF0 := Lib.hid hf
  have HRUN := Lib.hid hrun
  have HLEN := Lib.hid hlen
  have HO := Lib.hid ho
  have HW1 := Lib.hid hw1
  have HB1 := Lib.hid hb1
  have HZ1 := Lib.hid hz1
  have hPw := h.lt
  have hne : w.heap.size ≠ P := by omega
  clear hw1 hb1 hz1 h ho hf hrun hlen
  go_enter Tryz.func170, Tryz.ntmps170
  go_upto_region 1 with fail
  rw [← HW1.out]
  go_wp2_with fail
  refine HP.out.mono ?_
  rintro e w2 ⟨hg, hx⟩
  have hz2 := HZ1.out.grown hg (fun e => hne (Option.some.inj e))
  have HZ2 := Lib.hid hz2
  have hgr2 : w.grownBy w2 (some P) := grown_trans (grown_below HB1.out) hg
  have HGR2 := Lib.hid hgr2
  obtain ⟨z0, z1, y0, y1, zl⟩ := cells2 hz2
  clear hg hz2 hgr2
  have HERR := Lib.hid (show ∀ (wx : World) (u0 u1 : Value) (T : TypeId) (v : Value), w.grownBy wx (some P) → Bod wx P → o = none → PKPost S w P big 0 o (.returned (.tuple #[.agg #[.slice none 0 0, .int .u8 0], .iface T v])) ((wx.setCell ⟨w.heap.size, 0, none⟩ u0).setCell ⟨w.heap.size, 1, none⟩ u1) from fun wx u0 u1 T v hg hbo ho => by
    subst ho
    refine ⟨.mu 0 0 none 0 [], rfl, ?_, far_grown (far_grown hg (Nat.le_refl _) 0 u0) (Nat.le_refl _) 1 u1, (hbo.far (i := 0) hPw u0).far (i := 1) hPw u1, T, v, rfl⟩
    rw [MG.In]
    exact ⟨by decide, by decide, Nat.zero_le _, ⟨Sl.nil _ _ _, fun h => absurd h (Nat.lt_irrefl 0)⟩, trivial⟩)
  cases hu : rdU 4 big l with
  | none =>
    rw [hu] at hx
    obtain ⟨hbo, T, xe, rfl⟩ := hx
    have HBO := Lib.hid hbo
    clear hbo
    have HON := Lib.hid (show o = none by rw [HO.out]; unfold rdMp; rw [hu])
    go_wp2_with fail
    refine bodyPost_ret (v := .tuple #[.agg #[.slice none 0 0, .int .u8 0], .iface T xe]) (by simp [results, Tryz.results170, go_sem, z0, z1, zl]) rfl ?_
    exact HERR.out _ _ _ _ _ HGR2.out HBO.out HON.out
  | some q =>
    obtain ⟨n, r⟩ := q
    rw [hu] at hx
    obtain ⟨rfl, hws⟩ := hx
    obtain ⟨hn, hrN⟩ := hlt0 n r hu
    have HWS := Lib.hid hws
    have HRN := Lib.hid hrN
    have HO2 := Lib.hid (show o = (rdK f n r).map (fun p => (joinG 0 d p.1, p.2)) by rw [HO.out]; unfold rdMp; rw [hu]; rfl)
    clear hws hlt0 hu hrN
    by_cases h0 : n = 0
    · subst h0
      have HF := Lib.hid (fun w' => @force0 0 none 0 [] (fun g hg => by cases hg) d hd (fun _ => False) w' (by rw [MG.In]; exact ⟨by decide, by decide, Nat.zero_le _, ⟨Sl.nil _ _ _, fun h => absurd h (Nat.lt_irrefl 0)⟩, trivial⟩))
      go_wp2_with fail
      refine (HF.out _).mono ?_
      rintro e w3 ⟨m, rfl, hm1, hm2, hm3, hb3⟩
      obtain ⟨md, mA, mc, mk, rfl⟩ := MG.is_mu (S := S) (w := w) (k := 0) hm2 (by decide) (by decide) (by decide)
      rw [show (MG.mu 0 md mA mc mk).enc.toArray = #[.slice mA mk.length mc, .int .u8 md] from rfl]
      have HM1 := Lib.hid hm1
      have HM3 := Lib.hid hm3
      have HB3 := Lib.hid hb3
      obtain ⟨z0, z1, y0, y1, zl⟩ := cells2 (HZ2.out.below hb3 HZ2.out.lt)
      clear hm1 hm2 hm3 hb3
      go_wp2_with fail
      refine bodyPost_ret (v := .tuple #[.agg #[.slice mA mk.length mc, .int .u8 md], .nilIface]) (by simp [results, Tryz.results170, go_sem, z0, z1, zl]) rfl ?_
      have hT : ¬ (fun a => w.heap.size < a) w.heap.size := Nat.lt_irrefl _
      have hgr3 : w.grownBy w3 (some P) := grown_trans HGR2.out (grown_below HB3.out)
      have hws3 := ((HWS.out.below HB3.out).far (g := w.heap.size) (i := 0) hPw (.slice mA mk.length mc)).far (g := w.heap.size) (i := 1) hPw (.int .u8 md)
      have hzl2 := HZ2.out.lt
      refine ⟨.mu 0 md mA mc mk, rfl, ?_, far_grown (far_grown hgr3 (Nat.le_refl _) 0 _) (Nat.le_refl _) 1 _, ?_⟩
      · refine MG.less (fun a ha => Nat.le_of_lt ha) (MG.keep (((Keeps.refl (fun a => w.heap.size < a) w3).setFar hT _).setFar hT _) (MG.less (fun a ha => ?_) HM1.out))
        rcases ha with ha | ha
        · exact ha.elim
        · show w.heap.size < a
          omega
      · rw [HO2.out]
        refine ⟨rfl, ?_, hws3⟩
        rw [HM3.out, MG.plain_mu, frc_eq]
        simp [joinG, frcN_nil]
    · have hn0 : ((n : Int) == 0) = false := beq_eq_false_iff_ne.2 (by omega)
      obtain ⟨i0, hi, hzz0, hzz1, hzz2⟩ := info_parts infoG0
      have hb48 : i0.bytes * n ≤ 281474976710656 := by rw [hzz2]; omega
      have hnml : n ≤ maxLen := by unfold maxLen; omega
      go_upto_region 7 with (at_make; refine wpList_make_full _ rfl (.tmp 24) (.tmp 24) 100 rfl w2.heap.size 47 i0 _ 2 Tryz.underlying100 hi hzz0 hzz1 .u32 .u32 _ _ n rfl rfl rfl rfl hb48 hnml (Nat.le_refl _) ?_; intro w3 hown hgrow
                             obtain ⟨hrow, hxl⟩ := make_row hown
                             have hb3 : Below w2.heap.size w2 w3 := (Below.refl w2.heap.size w2).grown hgrow (Nat.le_refl _) (fun q hq => by cases hq)
                             have HXL := Lib.hid hxl
                             have HI3 := Lib.hid (show MuI S w P w2.heap.size big r 47 102 _ [.slice none 0 0, .int .u8 0] w3 from ⟨HWS.out.below hb3, hrow, HZ2.out.below hb3 HZ2.out.lt, grown_trans HGR2.out (grown_below hb3), hPw, HZ2.out.lt⟩)
                             clear hown hgrow hrow hxl hb3)
      obtain ⟨F, hF⟩ : ∃ F, F = w2.heap.size := ⟨_, rfl⟩
      rw [← hF] at HI3 ⊢
      clear hF
      have hwF : w.heap.size < F := HI3.out.hi
      go_wp2_with fail
      go_loopg [7, 9] n (fun q ev ci wr => ∃ (i : Nat) (L : List MG) (R : List Value) (r' : List Nat), i + q = n ∧ ev = .nilIface ∧ ci = .int .u32 (i : Nat) ∧ L.length = i ∧ (∀ g ∈ L, g.kind = 7 ∧ g.In (fun a => F < a) wr) ∧ MuI S w P F big r' 47 102 (L.flatMap MG.enc ++ R) [.slice none 0 0, .int .u8 0] wr ∧ R.length = (n - i) * 2 ∧ KSt f n i (L.map MG.plain) (some r) (some r') ∧ r'.length ≤ N)
      case atStart => exact ⟨0, [], _, r, by omega, rfl, by go_num, rfl, (fun g hg => by cases hg), HI3.out, (by have h1 := HXL.out; rw [h1]; omega), KSt.start, HRN.out⟩
      case round =>
        obtain ⟨i, L, R, r', hi', rfl, rfl, hll, hlin, hmu, hrl, hks, hrn⟩ := hrel
        have HIL := Lib.hid hi'
        have HLL := Lib.hid hll
        have HLIN := Lib.hid hlin
        have HMU := Lib.hid hmu
        have HRL := Lib.hid hrl
        have HKS := Lib.hid hks
        have HRN2 := Lib.hid hrn
        have hin : i ≤ n := by omega
        have hdl : (L.flatMap MG.enc).length = i * 2 := by
          rw [flatE_len (s := 2) (fun g hg => ?_), hll]
          obtain ⟨e1, e2⟩ := hlin g hg
          obtain ⟨u', v', e3⟩ := MG.enc_two e2 (by rw [e1]; decide)
          rw [e3]; rfl
        have HDL := Lib.hid hdl
        clear hi' hll hlin hmu hrl hks hdl hrn
        by_cases hlt : i < n
        · have hltI : (i : Int) < (n : Int) := by omega
          have hw32 : IntKind.u32.wrap ((i : Int) + 1) = ((i + 1 : Nat) : Int) := by rw [u32_wrap_id _ (by omega) (by omega)]; rfl
          obtain ⟨v0, v1, R2, hRe, hr2⟩ := cut2 (n := (n - (i + 1)) * 2) (show R.length = _ by rw [HRL.out]; omega)
          subst hRe
          have HR2 := Lib.hid hr2
          clear hr2
          have HIC := Lib.hid (inner_calls HRUN.out HMU.out.ws HRN2.out)
          have hFw := HMU.out.fb.lt
          have hFz : F ≠ w.heap.size := by omega
          go_wp2_with fail
          refine HIC.out.mono ?_
          rintro e w5 ⟨hg5, hx5⟩
          have hgr5 := grown_trans HMU.out.gr hg5
          have HGR5 := Lib.hid hgr5
          have HG5 := Lib.hid hg5
          have hz5 := HMU.out.zb.grown hg5 (fun e => by have := Option.some.inj e; have := HMU.out.lo; omega)
          have HZ5 := Lib.hid hz5
          have hfb5 : Row w5 F 47 (L.flatMap MG.enc ++ ([v0, v1] ++ R2)) := by
            obtain ⟨cur, h1, h2, h3⟩ := HMU.out.fb
            have hl := HMU.out.lo
            exact ⟨cur, h1.grown hg5 (fun e => by have := Option.some.inj e; omega), h2, h3⟩
          have HFB5 := Lib.hid hfb5
          have e0 := hfb5.frozen_at HDL.out 0 (by simp)
          have b0 := hfb5.some_at HDL.out 0 (by simp)
          have e1 := hfb5.frozen_at HDL.out 1 (by simp)
          have b1 := hfb5.some_at HDL.out 1 (by simp)
          simp only [List.getElem_cons_zero, List.getElem_cons_succ, Nat.add_zero] at e0 b0 e1 b1
          have hlr := hfb5.lt
          clear hg5 hfb5 hz5 hgr5
          cases hfi : fi r' with
          | none =>
            rw [hfi] at hx5
            obtain ⟨hbo, T, xe, rfl⟩ := hx5
            have HBO := Lib.hid hbo
            clear hbo
            have HON := Lib.hid (show o = none from by
              have h1 : KSt f n (i + 1) (L.map MG.plain ++ [PG.mk 0 0 [] []]) (some r) none := HKS.out.step (oI := none) hlt ⟨by rw [HF0.out]; unfold fItem; rw [hfi], .inl rfl⟩
              have h2 : rdK f n r = none := h1.dead_o
              rw [HO2.out, h2]; rfl)
            obtain ⟨z0, z1, y0, y1, zl⟩ := cells2 HZ5.out
            go_wp2_with fail
            refine bodyPost_ret (v := .tuple #[.agg #[.slice none 0 0, .int .u8 0], .iface T xe]) (by simp [results, Tryz.results170, go_sem, z0, z1, zl, hFz]) rfl ?_
            exact HERR.out _ _ _ _ _ (far_grown (far_grown HGR5.out (Nat.le_of_lt hwF) (i * 2) _) (Nat.le_of_lt hwF) (i * 2 + 1) _) ((HBO.out.far (i := i * 2) (show P < F by omega) _).far (i := i * 2 + 1) (show P < F by omega) _) HON.out
          | some p =>
            obtain ⟨p, r2⟩ := p
            rw [hfi] at hx5
            obtain ⟨a, m, rfl, hin, hk, hpl, hws⟩ := hx5
            rw [show (MG.bx a m).enc.toArray = #[.int .i64 m.kind, .iface (pT m.kind) (.pointer (some ⟨a, 0, none⟩))] from rfl]
            have HIN := Lib.hid hin
            have HKP := Lib.hid (And.intro hk hpl)
            have HWS2 := Lib.hid hws
            have HFI := Lib.hid hfi
            clear hin hk hpl hws hfi
            go_wp2_with fail
            go_roundg (n - (i + 1))
            case measure => have := HIL.out; omega
            case rel =>
              have hil := HIL.out
              have hnT : ¬ (fun a => F < a) F := fun h => Nat.lt_irrefl _ h
              have hlo := HMU.out.lo
              have hk5 : Keeps (fun a => F < a) wr w5 := Keeps.grown HG5.out (fun q hq hh => by cases hq; have h1 : F < P := hh; omega)
              have hkeep : Keeps (fun a => F < a) w5 ((w5.setCell ⟨F, i * 2, none⟩ (.int .i64 m.kind)).setCell ⟨F, i * 2 + 1, none⟩ (.iface (pT m.kind) (.pointer (some ⟨a, 0, none⟩)))) := (((Keeps.refl _ w5).setFar hnT _).setFar hnT _)
              refine ⟨i + 1, L ++ [.bx a m], R2, r2, by omega, rfl, by first | go_num | rw [hw32] | rfl, by simp [HLL.out], ?_, ⟨?_, ?_, ?_, ?_, hlo, hwF⟩, HR2.out, ?_, by have h1 := HLEN.out _ _ _ HFI.out; have h2 := HRN2.out; omega⟩
              · intro g hg
                rcases List.mem_append.1 hg with hg | hg
                · obtain ⟨e1, e2⟩ := HLIN.out g hg
                  exact ⟨e1, MG.keep hkeep (MG.keep hk5 e2)⟩
                · have := List.mem_singleton.1 hg
                  subst this
                  exact ⟨rfl, MG.keep hkeep (MG.less (fun a ha => by have h1 : wr.heap.size ≤ a := ha; show F < a; omega) HIN.out)⟩
              · exact (HWS2.out.far (g := F) (i := i * 2) (by omega) _).far (g := F) (i := i * 2 + 1) (by omega) _
              · rw [List.flatMap_append]
                have := HFB5.out.put2 HDL.out (.int .i64 m.kind) (.iface (pT m.kind) (.pointer (some ⟨a, 0, none⟩)))
                simpa [MG.enc] using this
              · exact (HZ5.out.far (p := ⟨F, i * 2, none⟩) (show w.heap.size ≠ F by omega) _).far (p := ⟨F, i * 2 + 1, none⟩) (show w.heap.size ≠ F by omega) _
              · exact far_grown (far_grown HGR5.out (Nat.le_of_lt hwF) (i * 2) _) (Nat.le_of_lt hwF) (i * 2 + 1) _
              · rw [List.map_append, List.map_cons, List.map_nil]
                exact HKS.out.step (oI := some (p.new, r2)) hlt ⟨by rw [HF0.out]; unfold fItem; rw [HFI.out]; simp only; rw [if_pos (.inl (by decide))], .inr (by rw [← HKP.out.2]; rfl)⟩
        · obtain rfl : i = n := by omega
          have hR0 : R = [] := List.eq_nil_of_length_eq_zero (by rw [HRL.out]; omega)
          have hrow := HMU.out.fb
          rw [hR0, List.append_nil] at hrow
          have HRW := Lib.hid hrow
          have hltI : (i : Int) ≤ (i : Int) := Int.le_refl _
          have HNW := Lib.hid (new0 (A := some ⟨F, 0, none⟩) (c := i) (d0 := d) (kids := L) (by rw [HLL.out]; omega) (by rw [HLL.out]; show i ≤ 1099511627776; omega) (S := fun a => F ≤ a) (w := wr) ⟨HRW.out.sl (by rw [HDL.out, HLL.out]) (by rw [HLL.out]; unfold maxLen; omega), fun _ a ha => by have := Option.some.inj ha; subst this; exact Nat.le_refl _⟩ (MG.inL_iff.2 fun g hg => ⟨(HLIN.out g hg).1, MG.less (fun a ha => Nat.le_of_lt ha) (HLIN.out g hg).2⟩))
          rw [HLL.out] at HNW
          clear hrow hR0
          go_wp2_with fail
          refine HNW.out.mono ?_
          rintro e w6 ⟨m, rfl, hm1, hm2, hm3, hb6⟩
          obtain ⟨md, mA, mc, mk, rfl⟩ := MG.is_mu (S := S) (w := w) (k := 0) hm2 (by decide) (by decide) (by decide)
          rw [show (MG.mu 0 md mA mc mk).enc.toArray = #[.slice mA mk.length mc, .int .u8 md] from rfl]
          have HM1 := Lib.hid hm1
          have HM3 := Lib.hid hm3
          have HB6 := Lib.hid hb6
          obtain ⟨z0, z1, y0, y1, zl⟩ := cells2 (HMU.out.zb.below hb6 HMU.out.zb.lt)
          clear hm1 hm2 hm3 hb6
          go_wp2_with fail
          refine bodyPost_ret (v := .tuple #[.agg #[.slice mA mk.length mc, .int .u8 md], .nilIface]) (by simp [results, Tryz.results170, go_sem, z0, z1, zl]) rfl ?_
          have hT : ¬ (fun a => w.heap.size < a) w.heap.size := Nat.lt_irrefl _
          have hgr6 : w.grownBy w6 (some P) := grown_trans HMU.out.gr (grown_below HB6.out)
          have hws6 := ((HMU.out.ws.below HB6.out).far (g := w.heap.size) (i := 0) hPw (.slice mA mk.length mc)).far (g := w.heap.size) (i := 1) hPw (.int .u8 md)
          have hzl2 := HMU.out.zb.lt
          refine ⟨.mu 0 md mA mc mk, rfl, ?_, far_grown (far_grown hgr6 (Nat.le_refl _) 0 _) (Nat.le_refl _) 1 _, ?_⟩
          · refine MG.less (fun a ha => Nat.le_of_lt ha) (MG.keep (((Keeps.refl (fun a => w.heap.size < a) w6).setFar hT _).setFar hT _) (MG.less (fun a ha => ?_) HM1.out))
            rcases ha with ha | ha
            · have h1 : F ≤ a := ha
              show w.heap.size < a
              omega
            · show w.heap.size < a
              omega
          · have hfin : rdK f i r = some (L.map MG.plain, r') := HKS.out.fin
            rw [HO2.out, hfin]
            exact ⟨rfl, HM3.out, hws6⟩
end Go.Proofs.YtbacakdpfiiblaaGreat.geo
