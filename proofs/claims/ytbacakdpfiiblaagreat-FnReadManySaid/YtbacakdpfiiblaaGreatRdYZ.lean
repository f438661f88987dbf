/-
  Contract of the package's side: forms one behind another. The law FnReadMany, of a slice of bytes.
-/
import Derived.Test.YtbacakdpfiiblaaGreatRdUX
import Derived.Test.YtbacakdpfiiblaaGreatRdSO
import Derived.Test.YtbacakdpfiiblaaGreatGeoAI
import Derived.Test.YtbacakdpfiiblaaGreatRdWW
import Derived.Test.YtbacakdpfiiblaaGreatRdSS
namespace Go.Proofs.YtbacakdpfiiblaaGreat.geo
open Go.ChangeShapes Go.WideShapes Go.ChangeAt Go.RowKit
open Go.Proofs.YtbacakdpfiiblaaGreat.mem
set_option linter.unusedVariables false
set_option linter.unusedSimpArgs false

/-- The geometries of forms, how many bytes are left. -/
def RMPost (w : World) (F : List PG × Nat) (e : Ending) (w' : World) : Prop :=
  ∃ (L : List IG) (A : Option Addr) (c : Nat), e = .returned (.tuple #[.slice A L.length c, .int .i64 (F.2 : Nat)]) ∧ GsI w.heap.size L.length L A c w' ∧ Below w.heap.size w w' ∧ L.length ≤ 2000 ∧ L.map IG.plain = F.1
set_option maxHeartbeats 8000000 in
set_option maxRecDepth 100000 in
theorem iread_calls {S : Nat → Prop} {w : World} {A : Option Addr} {c : Nat} {l : List Nat} (hS : ∀ a, S a → a < w.heap.size) (hl : l.length ≤ 2000) (hc : l.length ≤ c) (hb : Byt l) (hA : SlS S w A l.length 1 (BL l)) :
    Calls Tryz.prog 19 #[.slice A l.length c] w (RMPost w (rdAll (l.length + 1) l)) := by
  obtain ⟨i0, hi, hz0, hz1, hz2⟩ := info_parts infoGm
  obtain ⟨i1, hi1, hz11⟩ := info_byte
  obtain ⟨F, hF⟩ : ∃ F, F = rdAll (l.length + 1) l := ⟨_, rfl⟩
  rw [← hF]
  have HF := Lib.hid hF
  have HB := Lib.hid hb
  have HA := Lib.hid hA
  have HS := Lib.hid hS
  clear hF hb hA hS
  go_enter Tryz.func19, Tryz.ntmps19
  go_wp2_with fail
  go_loopg [0, 2] l.length (fun q bv gv wr => ∃ (m : List Nat) (A1 : Option Addr) (c1 i : Nat) (L : List IG) (A2 : Option Addr) (c2 k : Nat), m.length = q ∧ bv = .slice A1 m.length c1 ∧ gv = .slice A2 i c2 ∧ m.length ≤ c1 ∧ m <:+ l ∧ SlS S wr A1 m.length 1 (BL m) ∧ GsI w.heap.size i L A2 c2 wr ∧ i + m.length ≤ 2000 ∧ m.length < k ∧ F = (L.map IG.plain ++ (rdAll k m).1, (rdAll k m).2) ∧ Below w.heap.size w wr)
  case atStart => exact ⟨l, A, c, 0, [], none, 0, l.length + 1, rfl, rfl, rfl, hc, List.suffix_refl _, HA.out, GsI.nil (Nat.le_refl _), by omega, Nat.lt_succ_self _, by rw [HF.out]; rfl, Below.refl _ _⟩
  case round =>
    obtain ⟨m, A1, c1, i, L, A2, c2, k, rfl, rfl, rfl, hmc, hsx, hA, hG, him, hk, hFm, hbl⟩ := hrel
    have HA1 := Lib.hid hA
    have HG := Lib.hid hG
    have HFM := Lib.hid hFm
    have HBL := Lib.hid hbl
    have HSX := Lib.hid hsx
    have hi2 : i ≤ 2000 := by omega
    have HDONE := Lib.hid (show ∀ (wx : World) (n : Nat), Below wr.heap.size wr wx → L.map IG.plain = F.1 → n = F.2 → RMPost w F (.returned (.tuple #[.slice A2 i c2, .int .i64 n])) wx from fun wx n hb h1 h2 => by
      have e := HG.out.len
      subst e
      subst h2
      exact ⟨L, A2, c2, rfl, HG.out.below hb, HBL.out.trans (hb.mono HBL.out.size), by omega, h1⟩)
    clear hA hG hFm hbl hsx
    obtain ⟨f, hf⟩ : ∃ f, k = f + 1 := ⟨k - 1, by omega⟩
    subst hf
    by_cases hm : m = []
    · subst hm
      go_wp2_with fail
      exact bodyPost_ret (v := .tuple #[.slice A2 i c2, .int .i64 (0 : Nat)]) (by simp [results, Tryz.results19, go_sem]) rfl (HDONE.out _ 0 (Below.refl _ _) (by rw [HFM.out]; simp [rdAll]) (by rw [HFM.out]; simp [rdAll]))
    · have hml : 0 < m.length := List.length_pos_iff.2 hm
      have hmI : (0 : Int) < (m.length : Int) := by omega
      have HN := Lib.hid (next_calls (S := S) (w := wr) (A := A1) (c := c1) (l := m) (fun a ha => Nat.lt_of_lt_of_le (HS.out a ha) HBL.out.size) (by omega) hmc (HB.out.sfx HSX.out) HA1.out)
      obtain ⟨o, ho⟩ : ∃ o, o = rdG false (m.length + 1) (-1) m := ⟨_, rfl⟩
      rw [← ho] at HN
      have HO := Lib.hid ho
      clear ho
      go_wp2_with fail
      refine HN.out.mono ?_
      rintro e w2 ⟨hb2, hx⟩
      have HB2 := Lib.hid hb2
      clear hb2 HN
      cases o with
      | none =>
        obtain ⟨k2, v, n2, T, x, hv, rfl⟩ := hx
        have hd1 : L.map IG.plain = F.1 := by rw [HFM.out, rdAll, if_neg hm, ← HO.out]; simp
        have hd2 : m.length = F.2 := by rw [HFM.out, rdAll, if_neg hm, ← HO.out]
        have HD1 := Lib.hid hd1
        have HD2 := Lib.hid hd2
        clear hd1 hd2
        rcases hv with rfl | ⟨T2, x2, rfl⟩
        · go_wp2_with fail
          exact bodyPost_ret (v := .tuple #[.slice A2 i c2, .int .i64 m.length]) (by simp [results, Tryz.results19, go_sem]) rfl (HDONE.out _ _ (HB2.out.alloc HB2.out.size _) HD1.out HD2.out)
        · go_wp2_with fail
          exact bodyPost_ret (v := .tuple #[.slice A2 i c2, .int .i64 m.length]) (by simp [results, Tryz.results19, go_sem]) rfl (HDONE.out _ _ (HB2.out.alloc HB2.out.size _) HD1.out HD2.out)
      | some pr =>
        obtain ⟨p, r⟩ := pr
        obtain ⟨a, g, rfl, hin, hpl⟩ := hx
        rw [show (MG.bx a g).enc.toArray = #[.int .i64 g.kind, .iface (pT g.kind) (.pointer (some ⟨a, 0, none⟩))] from rfl]
        obtain ⟨w3, hw3⟩ : ∃ w3, w3 = w2.alloc (.cells #[.int .i64 g.kind, .iface (pT g.kind) (.pointer (some ⟨a, 0, none⟩))] 47) := ⟨_, rfl⟩
        have hb3 : Below w2.heap.size w2 w3 := by rw [hw3]; exact (Below.refl _ _).alloc (Nat.le_refl _) _
        have hg3 : Blk w3 w2.heap.size 47 #[.int .i64 g.kind, .iface (pT g.kind) (.pointer (some ⟨a, 0, none⟩))] := by rw [hw3]; exact Blk.new _ _ _
        obtain ⟨g0, g1, -, -, gl⟩ := cells2 hg3
        have HPL := Lib.hid (show Calls Tryz.prog 35 #[.agg #[.int .i64 g.kind, .iface (pT g.kind) (.pointer (some ⟨a, 0, none⟩))]] w3 (IPost w3 (MG.bx a g).plain) from plainK (g := MG.bx a g) rfl _ w3 (MG.up hb3 hin))
        have HPP := Lib.hid (show (MG.bx a g).plain = p.new from hpl)
        have HB3 := Lib.hid hb3
        have HW3 := Lib.hid hw3
        have hless := rdG_less HO.out.symm
        have HSF := Lib.hid (rdG_len HO.out.symm)
        clear hb3 hg3 hw3 hin hpl
        obtain ⟨K, hK⟩ : ∃ K, K = m.length - r.length := ⟨_, rfl⟩
        have hKm : m.length - K = r.length := by omega
        have hKle : K ≤ m.length := by omega
        have hsub : IntKind.i64.wrap ((m.length : Int) - (r.length : Int)) = (K : Int) := by rw [IntKind.wrap_i64]; omega
        have hsub2 : wrap64 ((m.length : Int) - (r.length : Int)) = (K : Int) := by rw [wrap64]; omega
        obtain ⟨A3, hA3e⟩ : ∃ A3, A3 = if c1 = K then A1 else A1.map (·.add (K * 1)) := ⟨_, rfl⟩
        have hsl : ∀ w, (Instr.slice 34 (.slice A1 m.length c1) (some (.int .i64 (K : Int))) none none).run Tryz.prog w = .ok (.slice A3 r.length (c1 - K)) w := fun w => by
          rw [hA3e, ← hKm]
          exact run_from (P := Tryz.prog) Tryz.underlying34 hi1 hz11 A1 m.length c1 K hKle hmc w
        have hA3 : SlS S wr A3 r.length 1 (BL r) := by
          have h1 := HA1.out.from1 hKle hmc
          rw [← hA3e, hKm, ← BL_drop, hK, ← (List.suffix_iff_eq_drop.1 HSF.out)] at h1
          exact h1
        have HA3 := Lib.hid hA3
        have hcK : r.length ≤ c1 - K := by omega
        clear hA3 hA3e hK
        go_upto_region 3 with fail
        rw [← HW3.out]
        go_wp2_with fail
        refine HPL.out.mono ?_
        rintro e w4 ⟨⟨k2, d2, A4, ca2, ns2, B2, cb2, ks2⟩, rfl, hg5, hp5, hb4⟩
        rw [show (IG.mk k2 d2 A4 ca2 ns2 B2 cb2 ks2).enc.toArray = #[.int .i64 k2, .int .i64 d2, .slice A4 ns2.length ca2, .slice B2 ks2.length cb2] from rfl]
        have HBR4 := Lib.hid (show Below wr.heap.size wr w4 from HB2.out.trans ((HB3.out.trans (hb4.mono HB3.out.size)).mono HB2.out.size))
        have HG4I := Lib.hid (HG.out.below HBR4.out)
        have HGIN := Lib.hid (show (IG.mk k2 d2 A4 ca2 ns2 B2 cb2 ks2).In (fun a => w.heap.size ≤ a ∧ some a ≠ (Value.slice A2 i c2).ownBlock) w4 from HG.out.fresh HG.out.siz (IG.less (fun a ha => Nat.le_trans (Nat.le_trans HB2.out.size HB3.out.size) ha) hg5))
        have hsw4 : w.heap.size ≤ w4.heap.size := Nat.le_trans HG.out.siz HBR4.out.size
        have HP5 := Lib.hid hp5
        clear hg5 hp5 hb4
        go_wp2_with (at_builtin; refine wpList_append_sl _ rfl (.tmp 21) (.tmp 24) 23 rfl w.heap.size 25 i0 _ 4 64 Tryz.underlying23 hi hz0 hz1 hz2 rfl (by decide) (.slice A2 i c2) i (L.flatMap IG.enc) rfl (HG4I.out.own.alloc (.cells #[.int .i64 k2, .int .i64 d2, .slice A4 ns2.length ca2, .slice B2 ks2.length cb2] 25)) (w4.alloc (.cells #[.int .i64 k2, .int .i64 d2, .slice A4 ns2.length ca2, .slice B2 ks2.length cb2] 25)).heap.size (some ⟨w4.heap.size, 0, none⟩) 1 1 [.int .i64 k2, .int .i64 d2, .slice A4 ns2.length ca2, .slice B2 ks2.length cb2] rfl (slBlk (n := 1) (c := 4) (heap_alloc_new w4 _) rfl (by unfold maxLen; omega)) (IG.enc_one (.mk k2 d2 A4 ca2 ns2 B2 cb2 ks2)) (by unfold maxLen; omega) (by omega) (by simp; omega) ?_; intro A8 c8 w8 ho8 hg8 ha8
                     have HHO := Lib.hid ho8
                     have HHG := Lib.hid hg8
                     have HHA := Lib.hid ha8
                     clear ho8 hg8 ha8)
        go_roundg r.length
        case measure => omega
        case rel =>
          have hG8 : GsI w.heap.size (i + 1) (L ++ [_]) _ _ _ := HG4I.out.next HGIN.out HHO.out HHG.out HHA.out
          have hgb : Below w.heap.size w _ := (HBL.out.trans (HBR4.out.mono HBL.out.size)).trans (grown_low (n := w.heap.size) ((Below.refl w4.heap.size w4).alloc (Nat.le_refl _) _) HHG.out (fun q hq => (HG4I.out.own.lt q hq).1) hsw4)
          refine ⟨r, A3, c1 - K, i + 1, _, _, _, f, rfl, by go_num, by go_num, hcK, HSF.out.trans HSX.out, HA3.out.keep ?_, hG8, by omega, by omega, ?_, hgb⟩
          · exact (Keeps.of_below HBR4.out).trans ((Keeps.of_below ((Below.refl w4.heap.size w4).alloc (Nat.le_refl _) _)).trans (Keeps.grown HHG.out (fun q hq hSq => by have h1 := (HG4I.out.own.lt q hq).1; have h2 := HS.out q hSq; omega)))
          · rw [HFM.out, rdAll, if_neg hm, ← HO.out]
            simp only [List.map_append, List.map_cons, List.map_nil, List.append_assoc, List.cons_append, List.nil_append]
            rw [HP5.out, HPP.out]
end Go.Proofs.YtbacakdpfiiblaaGreat.geo

namespace Go.Proofs.YtbacakdpfiiblaaGreat.geo
open Go.ChangeShapes Go.WideShapes Go.ChangeAt Go.RowKit
open Go.Proofs.YtbacakdpfiiblaaGreat.mem
set_option linter.unusedVariables false
set_option linter.unusedSimpArgs false

theorem emB_byt : Byt emB := fun b hb => by simp [emB] at hb; rcases hb with rfl | rfl | rfl <;> decide
theorem emB_all : (rdAll (emB.length + 1) emB).1.length = 1 := by decide +kernel
set_option maxHeartbeats 16000000 in
set_option maxRecDepth 100000 in
theorem law_read {w : World} {A : Option Addr} {c n : Nat} {l : List Nat} (hn : l.length = n) (hc : n ≤ c) (hb : Byt l) (hA : SlS (fun a => a < w.heap.size) w A n 1 (BL l)) :
    Calls Tryz.prog 6 #[.slice A n c] w fun e w' => e = .returned (.bool true) ∧ Below w.heap.size w w' := by
  subst hn
  have HB := Lib.hid hb
  have HA := Lib.hid hA
  clear hb hA
  by_cases h1 : 2147483647 < l.length
  · go_enter Tryz.func6, Tryz.ntmps6
    go_wp2_with fail
    exact bodyPost_ret (v := .bool true) (by simp [results, go_sem]) rfl ⟨rfl, Below.refl _ _⟩
  by_cases h2 : 2000 < l.length
  · go_enter Tryz.func6, Tryz.ntmps6
    go_wp2_with fail
    exact bodyPost_ret (v := .bool true) (by simp [results, go_sem]) rfl ⟨rfl, Below.refl _ _⟩
  have hl : l.length ≤ 2000 := by omega
  have HSR := Lib.hid (sread_calls (S := fun a => a < w.heap.size) (fun a ha => ha) hl hc HB.out HA.out)
  have HIR := Lib.hid (fun w' (hb : Below w.heap.size w w') => iread_calls (S := fun a => a < w.heap.size) (w := w') (A := A) (c := c) (l := l) (fun a ha => Nat.lt_of_lt_of_le ha hb.size) hl hc HB.out (HA.out.keep (.of_below hb)))
  obtain ⟨F, hF⟩ : ∃ F, F = rdAll (l.length + 1) l := ⟨_, rfl⟩
  rw [← hF] at HSR HIR
  clear hF
  go_enter Tryz.func6, Tryz.ntmps6
  go_wp2_with fail
  refine HSR.out.mono ?_
  rintro e w1 ⟨L, A1, c1, n1, b, rfl, hG1, hb1, hL1, hn1, hbt⟩
  have HG1 := Lib.hid hG1
  have HB1 := Lib.hid hb1
  have HBT := Lib.hid hbt
  clear hG1 hb1 hbt HSR
  cases b with
  | false =>
    go_wp2_with fail
    exact bodyPost_ret (v := .bool true) (by simp [results, go_sem]) rfl ⟨rfl, HB1.out⟩
  | true =>
    obtain ⟨hLp, hnp⟩ := HBT.out rfl
    subst hnp
    have HLP := Lib.hid hLp
    clear hLp
    go_wp2_with fail
    refine (HIR.out _ HB1.out).mono ?_
    rintro e w2 ⟨L2, A2, c2, rfl, hG2, hb2, hL2, hLp2⟩
    have HG2 := Lib.hid hG2
    have HB2 := Lib.hid hb2
    have hll : L2.length = L.length := by have := congrArg List.length (hLp2.trans HLP.out.symm); simpa using this
    have HLL := Lib.hid (hLp2.trans HLP.out.symm)
    clear hG2 hb2 hLp2 HIR
    rw [hll] at HG2 ⊢
    go_wp2_with fail
    refine (wkb_calls w2).mono ?_
    rintro e w3 ⟨A3, c3, rfl, hc3, hs3, hb3⟩
    have HIR3 := Lib.hid (iread_calls (S := fun a => a < w3.heap.size) (w := w3) (A := A3) (c := c3) (l := emB) (fun a ha => ha) (by decide) hc3 emB_byt ⟨hs3.1, fun h0 a ha => by
      obtain ⟨b, off, e, hlt, -⟩ := hs3.1.2.2 h0
      rw [e] at ha
      have := Option.some.inj ha
      subst this
      exact hlt⟩)
    have HB3 := Lib.hid hb3
    clear hc3 hs3 hb3
    go_wp2_with fail
    refine HIR3.out.mono ?_
    rintro e w4 ⟨L4, A4, c4, rfl, hG4, hb4, hL4, hLp4⟩
    have hl4 : L4.length = 1 := by have := congrArg List.length hLp4; rw [emB_all] at this; simpa using this
    rw [hl4]
    have HBW := Lib.hid (show Below w1.heap.size w1 w4 from HB2.out.trans ((HB3.out.trans (hb4.mono HB3.out.size)).mono HB2.out.size))
    have HB24 := Lib.hid (show Below w2.heap.size w2 w4 from HB3.out.trans (hb4.mono HB3.out.size))
    clear hG4 hb4 hLp4 HIR3 hL4 hl4
    obtain ⟨N, hN⟩ : ∃ N, N = L.length := ⟨_, rfl⟩
    have HN := Lib.hid hN
    rw [← hN] at HG1 HG2 hL1 hll ⊢
    clear hN
    go_wp2_with fail
    have HS1 := Lib.hid (show Sl w1 w1.heap.size A1 L.length 4 (L.flatMap IG.enc) by rw [← HN.out]; exact Sl.of_own HG1.out.own)
    have HS2 := Lib.hid (show Sl w2 w2.heap.size A2 L2.length 4 (L2.flatMap IG.enc) by rw [hll]; exact Sl.of_own HG2.out.own)
    have HI1 := Lib.hid (fun g hg => IG.less (T := fun _ => True) (fun a ha => trivial) (HG1.out.inn g hg))
    have HI2 := Lib.hid (fun g hg => IG.less (T := fun _ => True) (fun a ha => trivial) (HG2.out.inn g hg))
    have HB04 := Lib.hid (show Below w.heap.size w w4 from HB1.out.trans (HBW.out.mono HB1.out.size))
    go_loopg [54] N (fun q ci wr => ∃ (i : Nat), i + q = N ∧ ci = .int .i64 (i : Nat) ∧ Below w4.heap.size w4 wr)
    case atStart => exact ⟨0, by omega, by go_num, Below.refl _ _⟩
    case round =>
      obtain ⟨i, hi', rfl, hbl⟩ := hrel
      have HIL := Lib.hid hi'
      have HBL := Lib.hid hbl
      have hin : i ≤ N := by omega
      clear hi' hbl
      by_cases hlt : i < N
      · have hik : i < L.length := by rw [← HN.out]; exact hlt
        have hik' : i < L2.length := by rw [hll]; exact hlt
        obtain ⟨g, hg⟩ : ∃ g, L[i]? = some g := ⟨L[i], List.getElem?_eq_getElem hik⟩
        obtain ⟨h, hh⟩ : ∃ h, L2[i]? = some h := ⟨L2[i], List.getElem?_eq_getElem hik'⟩
        have hmem := List.mem_of_getElem? hg
        have hmem' := List.mem_of_getElem? hh
        have hpe : h.plain = g.plain := by
          have h1 := congrArg (fun l => l[i]?) HLL.out
          simp [hg, hh] at h1
          exact h1
        obtain ⟨b, off, hAe, hbo, hcell⟩ := sl_part HS1.out (fun g _ => g.enc_len) (by omega)
        obtain ⟨b', off', hAe', hbo', hcell'⟩ := sl_part HS2.out (fun g _ => g.enc_len) (by omega)
        subst hAe hAe'
        have HBR1 := Lib.hid (HBW.out.trans (HBL.out.mono HBW.out.size))
        have HBR2 := Lib.hid (HB24.out.trans (HBL.out.mono HB24.out.size))
        have hgin := IG.up HBR1.out (HI1.out g hmem)
        have hhin := IG.up HBR2.out (HI2.out h hmem')
        obtain ⟨T, hkn⟩ := knums_calls g
        have HKN := Lib.hid (fun w' (hb : Below wr.heap.size wr w') => hkn _ w' (IG.up hb hgin))
        have HSG := Lib.hid (fun w' (hb : Below wr.heap.size wr w') => sameGeom_same h g _ w' (IG.up hb hhin) (IG.up hb hgin) hpe)
        clear hkn
        obtain ⟨gk, gd, gA, gca, gns, gB, gcb, gks⟩ := g
        obtain ⟨fk, fd, fA, fca, fns, fB, fcb, fks⟩ := h
        have d0 := (HBR1.out.cell (p := ⟨b, off + (i * 4 + 0), none⟩) hbo).trans (hcell i _ hg 0 _ rfl)
        have d1 := (HBR1.out.cell (p := ⟨b, off + (i * 4 + 1), none⟩) hbo).trans (hcell i _ hg 1 _ rfl)
        have d2 := (HBR1.out.cell (p := ⟨b, off + (i * 4 + 2), none⟩) hbo).trans (hcell i _ hg 2 _ rfl)
        have d3 := (HBR1.out.cell (p := ⟨b, off + (i * 4 + 3), none⟩) hbo).trans (hcell i _ hg 3 _ rfl)
        rw [Nat.add_zero] at d0
        rw [← Nat.add_assoc] at d1 d2 d3
        have hltI : (i : Int) < (N : Int) := by omega
        have HKN := Lib.hid (show ∀ w', Below wr.heap.size wr w' → Calls Tryz.prog 21 #[.agg #[.int .i64 gk, .int .i64 gd, .slice gA gns.length gca, .slice gB gks.length gcb], .bool false] w' (Gives w' (.bool T)) from HKN.out)
        have HSG := Lib.hid (show ∀ w', Below wr.heap.size wr w' → Calls Tryz.prog 22 #[.agg #[.int .i64 fk, .int .i64 fd, .slice fA fns.length fca, .slice fB fks.length fcb], .agg #[.int .i64 gk, .int .i64 gd, .slice gA gns.length gca, .slice gB gks.length gcb]] w' (Gives w' (.bool true)) from HSG.out)
        obtain ⟨wK, hwK⟩ : ∃ wK, wK = wr.alloc (.cells #[.int .i64 gk, .int .i64 gd, .slice gA gns.length gca, .slice gB gks.length gcb] 25) := ⟨_, rfl⟩
        have hbK : Below wr.heap.size wr wK := by rw [hwK]; exact (Below.refl _ _).alloc (Nat.le_refl _) _
        have hNK : Blk wK wr.heap.size 25 #[.int .i64 gk, .int .i64 gd, .slice gA gns.length gca, .slice gB gks.length gcb] := by rw [hwK]; exact Blk.new _ _ _
        obtain ⟨k0, k1, k2, k3, -, -, -, -, kl⟩ := cells4 hNK
        have HF := Lib.hid (show ∀ w', Below wr.heap.size wr w' → w'.cell? ⟨b', off' + i * 4, none⟩ = some (.int .i64 fk) ∧ w'.cell? ⟨b', off' + i * 4 + 1, none⟩ = some (.int .i64 fd) ∧ w'.cell? ⟨b', off' + i * 4 + 2, none⟩ = some (.slice fA fns.length fca) ∧ w'.cell? ⟨b', off' + i * 4 + 3, none⟩ = some (.slice fB fks.length fcb) from fun w' hb => by
          have hq : Below w2.heap.size w2 w' := HBR2.out.trans (hb.mono HBR2.out.size)
          have f0 := (hq.cell (p := ⟨b', off' + (i * 4 + 0), none⟩) hbo').trans (hcell' i _ hh 0 _ rfl)
          have f1 := (hq.cell (p := ⟨b', off' + (i * 4 + 1), none⟩) hbo').trans (hcell' i _ hh 1 _ rfl)
          have f2 := (hq.cell (p := ⟨b', off' + (i * 4 + 2), none⟩) hbo').trans (hcell' i _ hh 2 _ rfl)
          have f3 := (hq.cell (p := ⟨b', off' + (i * 4 + 3), none⟩) hbo').trans (hcell' i _ hh 3 _ rfl)
          rw [Nat.add_zero] at f0
          rw [← Nat.add_assoc] at f1 f2 f3
          exact ⟨f0, f1, f2, f3⟩)
        have HBK := Lib.hid hbK
        have HNK := Lib.hid hNK
        have HWK := Lib.hid hwK
        clear hg hh hmem hmem' hcell hcell' hgin hhin hpe hik hik' hbK hwK hNK
        have HQ1 := Lib.hid (fun d os => Calls.regrown_of (HKN.out (Go.Sort.grow (redrawn wK d) os) (HBK.out.trans ((below_regrown wK d os).mono HBK.out.size))))
        have HQ2 := Lib.hid (fun d os => Calls.regrown_of (HSG.out (Go.Sort.grow (redrawn wK d) os) (HBK.out.trans ((below_regrown wK d os).mono HBK.out.size))))
        obtain ⟨f0, f1, f2, f3⟩ := HF.out wK HBK.out
        have j0 := cell_regrown k0
        have j1 := cell_regrown k1
        have j2 := cell_regrown k2
        have j3 := cell_regrown k3
        have e0 := cell_regrown f0
        have e1 := cell_regrown f1
        have e2 := cell_regrown f2
        have e3 := cell_regrown f3
        cases T with
        | false =>
          clear f0 f1 f2 f3 e0 e1 e2 e3 HQ2
          go_upto_region 15 with fail
          rw [← HWK.out]
          refine wp_region_quiet_below (by kernel_rfl) (by kernel_rfl) ?_
          repeat (go_big_quiet_step (fail))
          go_big_quiet_step (exact HQ1.out _ _)
          repeat (go_big_quiet_step (fail))
          refine wpQuiet_nil ?_
          intro _ hw'
          obtain ⟨⟨dq, osq⟩, hw''⟩ := hw'
          subst hw''
          have hbq := below_regrown wK dq osq
          obtain ⟨w5, hw5⟩ : ∃ w5, w5 = Go.Sort.grow (redrawn wK dq) osq := ⟨_, rfl⟩
          have HB5 := Lib.hid (show Below w4.heap.size w4 w5 from HBL.out.trans ((HBK.out.trans ((show Below wK.heap.size wK w5 by rw [hw5]; exact hbq).mono HBK.out.size)).mono HBL.out.size))
          try dsimp only
          try rw [← hw5]
          clear hbq hw5
          go_wp2_with fail
          go_roundg (N - (i + 1))
          case measure => have := HIL.out; omega
          case rel => exact ⟨i + 1, by omega, by go_num, HB5.out⟩
        | true =>
          go_upto_region 15 with fail
          rw [← HWK.out]
          refine wp_region_quiet_below (by kernel_rfl) (by kernel_rfl) ?_
          repeat (go_big_quiet_step (fail))
          go_big_quiet_step (exact HQ1.out _ _)
          repeat (go_big_quiet_step (fail))
          go_big_quiet_step (exact HQ2.out _ _)
          repeat (go_big_quiet_step (fail))
          refine wpQuiet_nil ?_
          intro _ hw'
          obtain ⟨⟨dq, osq⟩, hw''⟩ := hw'
          subst hw''
          have hbq := below_regrown wK dq osq
          obtain ⟨w5, hw5⟩ : ∃ w5, w5 = Go.Sort.grow (redrawn wK dq) osq := ⟨_, rfl⟩
          have HB5 := Lib.hid (show Below w4.heap.size w4 w5 from HBL.out.trans ((HBK.out.trans ((show Below wK.heap.size wK w5 by rw [hw5]; exact hbq).mono HBK.out.size)).mono HBL.out.size))
          try dsimp only
          try rw [← hw5]
          clear hbq hw5
          go_wp2_with fail
          go_roundg (N - (i + 1))
          case measure => have := HIL.out; omega
          case rel => exact ⟨i + 1, by omega, by go_num, HB5.out⟩
      · obtain rfl : i = N := by omega
        have hltI : (i : Int) ≤ (i : Int) := Int.le_refl _
        go_wp2_with fail
        exact bodyPost_ret (v := .bool true) (by simp [results, go_sem]) rfl ⟨rfl, HB04.out.trans (HBL.out.mono HB04.out.size)⟩
end Go.Proofs.YtbacakdpfiiblaaGreat.geo
