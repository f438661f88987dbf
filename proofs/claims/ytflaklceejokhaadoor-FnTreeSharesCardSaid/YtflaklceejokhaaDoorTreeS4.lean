/-
  A search by distance: the walk of PrioritySearch.
-/
import Derived.Test.YtflaklceejokhaaDoorTreeS3
namespace Go.Proofs.YtflaklceejokhaaDoor.tree
open Go.ChangeShapes Go.WideShapes Go.ChangeAt Go.RowKit
open Go.Proofs.YtflaklceejokhaaDoor.mem Go.Proofs.YtflaklceejokhaaDoor.flt Ieee
set_option linter.unusedVariables false
set_option linter.unusedSimpArgs false

set_option maxRecDepth 100000 in
set_option maxHeartbeats 16000000 in
theorem prio_calls {L fn t n : Nat} {K : Nat × (Nat → Q)} {p1 p2 : Value} {S : Addr} {ans : List Int → Er} {St : World → List Int → (Nat → Prop) → Prop} {w0 w : World} {b : Bx} {F : Nat → Prop} (C : Cb w0.heap.size fn p1 p2 S ans St) (hT : RT L w0 t n K) (hk : Keep L w0 w) (hst : St w [] F) (hb : Gd b)
    (hr : sumF (fun i => (K.2 i).rounds) K.1 ≤ 10000) :
    Calls Tryd.prog 20 #[.pointer (some ⟨t, 0, none⟩), .agg (bxA b), .func (.func fn) #[] #[p1, p2]] w (SePost w S St F (psF n K ans b)) := by
  have HT := Lib.hid hT
  have HK := Lib.hid hk
  have HST := Lib.hid hst
  have CC := Lib.hid C
  have HB := Lib.hid hb
  have HR := Lib.hid hr
  have hsz := hk.1
  have htl : t < w.heap.size := Nat.lt_of_lt_of_le hT.lt hsz
  rcases hT.root with ⟨hn, h0⟩ | ⟨hn, c, h0, hN, hO, hcnt⟩
  · have c0 := (hk.cell (o := 0) hT.ge hT.lt).trans h0
    have hR : psF n K ans b = ([], .none) := by unfold psF; rw [if_pos hn]
    rw [hR]
    unfold bxA
    have hb : Below w.heap.size w (w.alloc (.cells #[.float .f64 b.x0, .float .f64 b.y0, .float .f64 b.x1, .float .f64 b.y1] 52)) := (Below.refl _ _).alloc (Nat.le_refl _) _
    have HB := Lib.hid hb
    clear hT hk hst C h0 hR hb
    go_enter Tryd.func20, Tryd.ntmps20
    go_wp2_with fail
    refine bodyPost_ret (v := .nilIface) (by simp [results, Tryd.results20, go_sem]) rfl ⟨rfl, F, CC.out.keep w _ [] F (fun _ => False) HST.out (Fr.of_below HB.out) (fun _ h => h.elim) (fun _ _ h => h), (Fr.of_below (F := fun _ => False) HB.out).mono (fun _ _ h => h.elim), fun _ h => .inl h⟩
  · have c0 := (hk.cell (o := 0) hT.ge hT.lt).trans h0
    have HN := Lib.hid hN
    have HO := Lib.hid hO
    obtain ⟨R, hR⟩ : ∃ R, R = psF n K ans b := ⟨_, rfl⟩
    have hR2 : psQ b ans (sumF (fun i => (K.2 i).rounds) K.1) K.1 (pushN (nearQ b) 0 (fun _ => .sub 0 K.2) K.2 K.1) [] = R := by rw [hR]; unfold psF; rw [if_neg (by omega)]
    rw [← hR]
    have HR2 := Lib.hid hR2
    unfold bxA
    clear hT hk hst C h0 hN hO hcnt hR hR2 hb hr
    go_enter Tryd.func20, Tryd.ntmps20
    go_wp2_with fail
    have hbA : Below w.heap.size w ((w.alloc (.cells #[.float .f64 b.x0, .float .f64 b.y0, .float .f64 b.x1, .float .f64 b.y1] 52)).alloc (.cells #[.slice none 0 0, .float .f64 b.x0, .float .f64 b.y0, .float .f64 b.x1, .float .f64 b.y1] 86)) := ((Below.refl _ _).alloc (Nat.le_refl _) _).alloc (by simp) _
    have hqA : Blk ((w.alloc (.cells #[.float .f64 b.x0, .float .f64 b.y0, .float .f64 b.x1, .float .f64 b.y1] 52)).alloc (.cells #[.slice none 0 0, .float .f64 b.x0, .float .f64 b.y0, .float .f64 b.x1, .float .f64 b.y1] 86)) (w.heap.size + 1) 86 #[.slice none 0 0, .float .f64 b.x0, .float .f64 b.y0, .float .f64 b.x1, .float .f64 b.y1] := by
      have := Blk.new (w.alloc (.cells #[.float .f64 b.x0, .float .f64 b.y0, .float .f64 b.x1, .float .f64 b.y1] 52)) 86 #[.slice none 0 0, .float .f64 b.x0, .float .f64 b.y0, .float .f64 b.x1, .float .f64 b.y1]
      rw [show (w.alloc (.cells #[.float .f64 b.x0, .float .f64 b.y0, .float .f64 b.x1, .float .f64 b.y1] 52)).heap.size = w.heap.size + 1 by simp] at this
      exact this
    obtain ⟨wA, hwA⟩ : ∃ wA, wA = (w.alloc (.cells #[.float .f64 b.x0, .float .f64 b.y0, .float .f64 b.x1, .float .f64 b.y1] 52)).alloc (.cells #[.slice none 0 0, .float .f64 b.x0, .float .f64 b.y0, .float .f64 b.x1, .float .f64 b.y1] 86) := ⟨_, rfl⟩
    rw [← hwA] at hbA hqA ⊢
    have hstA := CC.out.keep w wA [] F (fun _ => False) HST.out (Fr.of_below hbA) (fun _ h => h.elim) (fun _ _ h => h)
    obtain ⟨q, hq⟩ : ∃ q, q = w.heap.size + 1 := ⟨_, rfl⟩
    rw [← hq] at hqA ⊢
    have hW0 : HW L w0 wA q b 0 (fun _ => ⟨0, 0, .sub 0 K.2⟩) (.slice none 0 0) := ⟨HK.out.trans (Keep.of_below hbA), by omega, hqA, World.ownsRow_nil _ _ _ _, by simp [Value.ownBlock], fun i hi => absurd hi (by omega), HB.out⟩
    have hPS : PS L w0 w wA St q b 0 (fun _ => ⟨0, 0, .sub 0 K.2⟩) [] F F := ⟨⟨_, hW0, by simp [Value.ownBlock], by simp [Value.ownBlock]⟩, hstA, fun x hx => by have := (CC.out.lt w [] F x HST.out hx).2; omega, Fr.of_below hbA, fun _ h => .inl h, by omega⟩
    have HW0 := Lib.hid hW0
    have HPS := Lib.hid hPS
    have hqw : w.heap.size ≤ q := by omega
    clear hbA hqA hwA hstA hq hW0 hPS c0
    refine (enq_calls (n := 0) (by omega) HN.out HO.out.2.2 HW0.out).mono ?_
    rintro r w1 ⟨rfl, hg1⟩
    rw [Nat.zero_add] at hg1
    have hps1 := HPS.out.queue CC.out HW0.out hg1
    have hgo : Goes b ans K.1 (pushN (nearB b) 0 (fun _ => ⟨0, 0, .sub 0 K.2⟩) (fun i => ⟨c, i * 6, K.2 i⟩) K.1) [] R (sumF (fun i => (K.2 i).rounds) K.1) := by
      refine ⟨?_, ?_⟩
      · rw [pushN_map (fun e : En => e.q) (lt := nearB b) (lt' := nearQ b) (fun a b => rfl)]
        exact HR2.out
      · have := sumF_pushN (fun e : En => e.q.rounds) (nearB b) 0 (fun _ => ⟨0, 0, .sub 0 K.2⟩) (fun i => ⟨c, i * 6, K.2 i⟩) K.1
        rw [Nat.zero_add] at this
        rw [this]
        show 0 + _ = _
        rw [Nat.zero_add]
    have HPS1 := Lib.hid hps1
    have HGO := Lib.hid hgo
    obtain ⟨U, hU⟩ : ∃ U, U = sumF (fun i => (K.2 i).rounds) K.1 := ⟨_, rfl⟩
    have HUU := Lib.hid hU
    clear hg1 hps1 hgo hU
    go_wp2_with fail
    go_loopg [9] U (fun u c9 wr => ∃ (n : Nat) (f : Nat → En) (l : List Int) (F' : Nat → Prop), Goes b ans n f l R u ∧ l.length + u ≤ 10000 ∧ PS L w0 w wr St q b n f l F' F)
    case atStart => exact ⟨_, _, [], F, by rw [HUU.out]; exact HGO.out, by have := HR.out; have := HUU.out; simp; omega, HPS1.out⟩
    case round =>
      obtain ⟨n, f, l, F', hgo, hlu, hps⟩ := hrel
      obtain ⟨v, hw, -, -⟩ := hps.ex
      obtain ⟨A, k, hv⟩ := own_slice hw.row
      have c0 : wr.cell? ⟨q, 0, none⟩ = some v := hw.blk.cell 0
      rw [hv] at c0
      have HGO := Lib.hid hgo
      have HPS := Lib.hid hps
      have hnu : n ≤ gk := by
        have h1 := sumF_pos (g := fun k => (f k).q.rounds) (fun i => Q.rounds_pos _) n
        have h2 := hgo.2
        omega
      have HWW := Lib.hid hw
      clear hgo hps hw hv
      by_cases hn0 : n = 0
      · subst hn0
        have hRR : R = (l, .none) := by have := HGO.out.1; rw [psQ_zero] at this; exact this.symm
        have HRR := Lib.hid hRR
        clear hRR
        go_wp2_with fail
        refine bodyPost_ret (v := .nilIface) (by simp [results, Tryd.results20, go_sem]) rfl ⟨by rw [HRR.out]; rfl, by rw [HRR.out]; exact HPS.out.post⟩
      · obtain ⟨n, rfl⟩ : ∃ m, n = m + 1 := ⟨n - 1, by omega⟩
        have hnI : (0 : Int) < ((n + 1 : Nat) : Int) := by omega
        obtain ⟨N, hN⟩ : ∃ N, N = n + 1 := ⟨_, rfl⟩
        rw [← hN] at c0 hnI
        have hN0 : 0 < N := by omega
        have HNN := Lib.hid hN
        clear hN hn0
        go_wp2_with fail
        refine (hpop_calls (by omega) HWW.out).mono ?_
        rintro r w2 ⟨rfl, hE, hg2⟩
        have hps2 := HPS.out.queue CC.out HWW.out hg2
        obtain ⟨⟨g, a, Z⟩, hz⟩ : ∃ z, popG (nearB b) (n + 1) f n = z := ⟨_, rfl⟩
        rw [hz] at hE ⊢
        have HZ := Lib.hid hz
        have HE := Lib.hid hE
        have HPS2 := Lib.hid hps2
        have hkp : Keep L w0 w2 := by obtain ⟨v, h1, -⟩ := hps2.ex; exact h1.keep
        have hQ2 := Q.At.keep hkp Z g a hE.2.1 hE.2.2.1 hE.1
        have hta := taE ⟨g, a, none⟩
        have HKP := Lib.hid hkp
        simp only [En.ptr]
        clear hg2 hps2 hz hE hkp
        cases Z with
        | item p =>
          obtain ⟨-, x4, x5⟩ := hQ2
          have hent := CC.out.enter #[.int .i64 p.id, p1, p2]
          have hgi := HGO.out.item (p := p) (by rw [HZ.out])
          have HGI := Lib.hid hgi
          have hlc : l.length ≤ 100000 := by omega
          clear hgi
          go_wp2_with fail
          refine (CC.out.call w2 l F' p.id hlc HPS2.out.st).mono ?_
          rintro re w3 ⟨rfl, F3, hst3, hfr3, hF3⟩
          have HPS3 := Lib.hid (HPS2.out.called CC.out hst3 hfr3 hF3)
          have gv3 := CC.out.gv w3 _ _ hst3
          unfold GV at gv3
          have his := CC.out.is l p.id
          obtain ⟨er, her⟩ : ∃ er, er = ans (l ++ [p.id]) := ⟨_, rfl⟩
          rw [← her] at his ⊢
          have HER := Lib.hid her
          have HIS := Lib.hid his
          have hneq := neqN S er
          have hgrd := eqG S er
          obtain ⟨z, hz⟩ : ∃ z, z = er.isNone := ⟨_, rfl⟩
          rw [← hz] at hneq
          have HZZ := Lib.hid hz
          clear hst3 hfr3 hF3 his her x4 x5 hz
          cases z with
          | true =>
            go_wp2_with fail
            go_roundg (gk - 1)
            case measure => have := HGI.out.2; omega
            case rel =>
              have h1 := HGI.out.1
              rw [← HER.out, ← HZZ.out, if_pos rfl] at h1
              exact ⟨n, _, l ++ [p.id], F3, h1, by have := HGI.out.2; simp; omega, HPS3.out⟩
          | false =>
            obtain ⟨s, hs⟩ : ∃ s, s = er.isStop := ⟨_, rfl⟩
            have HSS := Lib.hid hs
            clear hs
            have hRR : R = (l ++ [p.id], if er.isStop = true then .none else er) := by
              have h1 := HGI.out.1
              rw [← HER.out, ← HZZ.out, if_neg (by decide)] at h1
              exact h1
            have HRR := Lib.hid hRR
            clear hRR
            go_wp2_with fail
            refine (HIS.out w3).mono ?_
            rintro re w4 ⟨rfl, hb4⟩
            have HPS4 := Lib.hid (HPS3.out.below CC.out hb4)
            rw [← HSS.out]
            clear hb4 gv3
            cases s with
            | true =>
              have hR2 : R = (l ++ [p.id], .none) := by have := HRR.out; rw [if_pos HSS.out.symm] at this; exact this
              have HR3 := Lib.hid hR2
              clear hR2
              go_wp2_with fail
              exact bodyPost_ret (v := .nilIface) (by simp [results, Tryd.results20, go_sem]) rfl ⟨by rw [HR3.out]; rfl, by rw [HR3.out]; exact HPS4.out.post⟩
            | false =>
              have hR2 : R = (l ++ [p.id], er) := by have := HRR.out; rw [if_neg (by rw [← HSS.out]; decide)] at this; exact this
              have HR3 := Lib.hid hR2
              clear hR2
              go_wp2_with fail
              exact bodyPost_ret (v := er.v S) (by simp [results, Tryd.results20, go_sem]) rfl ⟨by rw [HR3.out], by rw [HR3.out]; exact HPS4.out.post⟩
        | sub k2 e2 =>
          obtain ⟨-, c2, -, -, x4, -⟩ := hQ2
          have hno : NodeAt w0 L c2 k2 e2 := by
            obtain ⟨-, c3, h1, h2, h3, h4, h5, h6, h7, h8⟩ := HE.out.1
            have h9 := (HKP.out.cell (o := a + 4) HE.out.2.1 HE.out.2.2.1).trans h3
            rw [x4] at h9
            have : c2 = c3 := by injection h9 with h9; injection h9 with h9; injection h9 with h9; injection h9
            subst this
            exact ⟨h1, h2, h5, h6, h7, h8⟩
          have HNO := Lib.hid hno
          have hgs := HGO.out.sub (k := k2) (e := e2) (by rw [HZ.out]) c2
          have HGS := Lib.hid hgs
          obtain ⟨v2, hw2, -⟩ := HPS2.out.ex
          have HW2 := Lib.hid hw2
          clear hno hgs hw2
          go_wp2_with fail
          refine (enq_calls (by omega) HNO.out HE.out.2.2.2.2.2 HW2.out).mono ?_
          rintro re w3 ⟨rfl, hg3⟩
          have HPS3 := Lib.hid (HPS2.out.queue CC.out HW2.out hg3)
          clear hg3 x4
          go_wp2_with fail
          go_roundg (gk - 1)
          case measure => have := HGS.out.2; omega
          case rel => exact ⟨n + k2, _, l, F', HGS.out.1, by have := HGS.out.2; omega, HPS3.out⟩
end Go.Proofs.YtflaklceejokhaaDoor.tree
