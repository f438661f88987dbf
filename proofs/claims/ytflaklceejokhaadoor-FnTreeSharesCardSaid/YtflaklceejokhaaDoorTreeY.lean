/-
  A search through a box: the walk of the closure that goes through the nodes.
-/
import Derived.Test.YtflaklceejokhaaDoorTreeX
namespace Go.Proofs.YtflaklceejokhaaDoor.tree
open Go.ChangeShapes Go.WideShapes Go.ChangeAt Go.RowKit
open Go.Proofs.YtflaklceejokhaaDoor.mem Go.Proofs.YtflaklceejokhaaDoor.flt Ieee
set_option linter.unusedVariables false
set_option linter.unusedSimpArgs false

/-- What the closure leaves of a node. -/
def RecPost (L : Nat) (w0 w : World) (S : Addr) (St : World → List Int → (Nat → Prop) → Prop) (r : Nat) (b : Bx) (cb : Value) (F : Nat → Prop) (R : List Int × Er) (e : Ending) (w' : World) : Prop :=
  e = .returned (R.2.v S) ∧ ∃ F', RS L w0 w' St r b cb R.1 F' ∧ Fr F w w' ∧ ∀ b, F' b → F b ∨ w.heap.size ≤ b

theorem RecPost.trans {L : Nat} {w0 w w1 w' : World} {St : World → List Int → (Nat → Prop) → Prop} {r : Nat} {b : Bx} {cb : Value} {F F1 : Nat → Prop} {l' : List Int}
    (h1 : Fr F w w1) (h2 : ∀ b, F1 b → F b ∨ w.heap.size ≤ b) (h : ∃ F', RS L w0 w' St r b cb l' F' ∧ Fr F1 w1 w' ∧ ∀ b, F' b → F1 b ∨ w1.heap.size ≤ b) : ∃ F', RS L w0 w' St r b cb l' F' ∧ Fr F w w' ∧ ∀ b, F' b → F b ∨ w.heap.size ≤ b := by
  obtain ⟨F', a1, a2, a3⟩ := h
  refine ⟨F', a1, h1.trans a2 fun x hx hf => ?_, fun x hx => ?_⟩
  · rcases h2 x hf with h | h
    · exact h
    · omega
  · rcases a3 x hx with h | h
    · exact h2 x h
    · exact .inr (Nat.le_trans h1.size h)

def RecOf (L B fn : Nat) (p1 p2 : Value) (S : Addr) (ans : List Int → Er) (St : World → List Int → (Nat → Prop) → Prop) (w0 : World) (r : Nat) (b : Bx) (q : Q) : Prop :=
  ∀ k e, q = .sub k e → ∀ c w l F, NodeAt w0 L c k e → RS L w0 w St r b (.func (.func fn) #[] #[p1, p2]) l F → l.length + q.cnt ≤ 100000 →
    Calls Tryd.prog 25 #[.pointer (some ⟨c, 0, none⟩), .pointer (some ⟨r, 0, none⟩), .pointer (some ⟨r + 1, 0, none⟩), .pointer (some ⟨r + 2, 0, none⟩)] w
      (RecPost L w0 w S St r b (.func (.func fn) #[] #[p1, p2]) F (loopV (fun i => visit ans b (e i)) k 0 l))

theorem neqN (S : Addr) (er : Er) (w : World) : (binOp .neq 58 (er.v S) .nilIface).run Tryd.prog w = .ok (.bool (!er.isNone)) w := by
  cases er <;> kernel_rfl

theorem eqG (S : Addr) (er : Er) (n : Nat) (w : World) : (eqGuard .neq 58 (.tmp n) (.const .nilIface) (er.v S) .nilIface).run Tryd.prog w = .ok () w := by
  cases er <;> rfl

theorem loopV_step {vs : Nat → List Int → List Int × Er × Bool} {u i : Nat} {l : List Int} {R : List Int × Er} (h : loopV vs u i l = R) (hu : 0 < u) : (if (vs i l).2.2 = true then ((vs i l).1, (vs i l).2.1) else loopV vs (u - 1) (i + 1) (vs i l).1) = R := by
  obtain ⟨u, rfl⟩ : ∃ v, u = v + 1 := ⟨u - 1, by omega⟩
  rw [Nat.add_sub_cancel]
  exact h

set_option maxRecDepth 100000 in
set_option maxHeartbeats 16000000 in
theorem rec_calls {L fn : Nat} {p1 p2 : Value} {S : Addr} {ans : List Int → Er} {St : World → List Int → (Nat → Prop) → Prop} {w0 : World} {r : Nat} {b : Bx} (C : Cb w0.heap.size fn p1 p2 S ans St) : ∀ q : Q, RecOf L w0.heap.size fn p1 p2 S ans St w0 r b q := by
  intro q
  induction q with
  | item p => intro k e h; cases h
  | sub k e ih =>
    intro k' e' hq c w l F hN hS hlen
    cases hq
    have IH := Lib.hid ih
    have CC := Lib.hid C
    have HN := Lib.hid hN
    have HS := Lib.hid hS
    have HL := Lib.hid hlen
    have hk1 := hN.2.2.2.1
    have hk4 := hN.2.2.2.2.1
    obtain ⟨R, hR⟩ : ∃ R, R = loopV (fun i => visit ans b (e i)) k 0 l := ⟨_, rfl⟩
    rw [← hR]
    have HR := Lib.hid hR
    clear ih C hN hS hlen hR
    go_enter Tryd.func25, Tryd.ntmps25
    go_wp2_with fail
    go_loopg [6] k (fun u ci wr => ∃ (i : Nat) (l' : List Int) (F' : Nat → Prop), i + u = k ∧ ci = .int .i64 (i : Nat) ∧ loopV (fun i => visit ans b (e i)) u i l' = R ∧ l'.length + cntF (fun i => (e i).cnt) k ≤ 100000 + cntF (fun i => (e i).cnt) i ∧ RS L w0 wr St r b (.func (.func fn) #[] #[p1, p2]) l' F' ∧ Fr F w wr ∧ ∀ b, F' b → F b ∨ w.heap.size ≤ b)
    case atStart => exact ⟨0, l, F, by omega, by go_num, HR.out.symm, by have := HL.out; unfold Q.cnt at this; simp only [cntF]; omega, HS.out, Fr.refl _ _, fun _ h => .inl h⟩
    case round =>
      obtain ⟨i, l', F', hi', rfl, hlo, hcn, hrs, hfr, hF'⟩ := hrel
      have HI := Lib.hid hi'
      have HLO := Lib.hid hlo
      have HCN := Lib.hid hcn
      have HRS := Lib.hid hrs
      have HFR := Lib.hid hfr
      have HF' := Lib.hid hF'
      have hin : i ≤ k := by omega
      have d24 : wr.cell? ⟨c, 24, none⟩ = some (.int .i64 k) := (hrs.keep.cell HN.out.1 HN.out.2.1).trans HN.out.2.2.1
      have lc := World.block_lt_of_cell? wr _ d24
      clear hi' hlo hcn hrs hfr hF'
      by_cases hlt : i < k
      · have hltI : (i : Int) < (k : Int) := by omega
        have hj4 : i < 4 := by omega
        have hj5 : (i : Int) < 4 := by omega
        have hQ := HN.out.2.2.2.2.2 i hlt
        have hQr := Q.At.keep HRS.out.keep _ _ _ HN.out.1 HN.out.2.1 hQ
        obtain ⟨Z, hZ⟩ : ∃ Z, e i = Z := ⟨_, rfl⟩
        rw [hZ] at hQ hQr
        have HQ := Lib.hid hQ
        have HZ := Lib.hid hZ
        clear hQ hZ
        have hq4 := hQr.b4
        obtain ⟨x0, x1, x2, x3⟩ := hq4
        obtain ⟨o0, o1, o2, o3, -, -, -, -, lo⟩ := cells4 HRS.out.b0
        obtain ⟨X, hX⟩ : ∃ X, X = Z.bx := ⟨_, rfl⟩
        rw [← hX] at x0 x1 x2 x3
        have HX := Lib.hid hX
        have hov := overlap_calls X b
        unfold bxA at hov
        obtain ⟨t, ht⟩ : ∃ t, t = ov X b := ⟨_, rfl⟩
        rw [← ht] at hov
        have HT := Lib.hid ht
        have HOV := Lib.hid hov
        have hstep := loopV_step HLO.out (by have := HI.out; omega)
        rw [HZ.out] at hstep
        have hlen1 : cntF (fun i => (e i).cnt) (i + 1) = cntF (fun i => (e i).cnt) i + Z.cnt := by show cntF _ i + (e i).cnt = _; rw [HZ.out]
        have hmono : ∀ d, cntF (fun i => (e i).cnt) (i + 1) ≤ cntF (fun i => (e i).cnt) (i + 1 + d) := by
          intro d
          induction d with
          | zero => exact Nat.le_refl _
          | succ d ihd => exact Nat.le_trans ihd (Nat.le_add_right _ _)
        have hmono2 := hmono (k - (i + 1))
        rw [show i + 1 + (k - (i + 1)) = k by omega] at hmono2
        have hvl : (visit ans b Z l').1.length ≤ l'.length + Z.cnt := visit_len ans b Z l'
        have HVL := Lib.hid hvl
        have HL1 := Lib.hid hlen1
        have HM2 := Lib.hid hmono2
        have HST := Lib.hid hstep
        clear hov ht hX hstep hlen1 hmono hmono2 hvl
        cases Z with
        | item p =>
          obtain ⟨-, x4, x5⟩ := hQr
          have hb0 : X = p.b := by rw [HX.out]; unfold Q.bx; rfl
          have HB0 := Lib.hid hb0
          clear hb0
          go_wp2_with fail
          refine (HOV.out _).mono ?_
          rintro re w2 ⟨rfl, hb2⟩
          have hbE : Below wr.heap.size wr (wr.alloc (.cells #[.float .f64 X.x0, .float .f64 X.y0, .float .f64 X.x1, .float .f64 X.y1, .pointer none, .int .i64 p.id] 78)) := (Below.refl _ _).alloc (Nat.le_refl _) _
          have hN0 : Blk (wr.alloc (.cells #[.float .f64 X.x0, .float .f64 X.y0, .float .f64 X.x1, .float .f64 X.y1, .pointer none, .int .i64 p.id] 78)) wr.heap.size 78 #[.float .f64 X.x0, .float .f64 X.y0, .float .f64 X.x1, .float .f64 X.y1, .pointer none, .int .i64 p.id] := Blk.new _ _ _
          have hN2 := hN0.below hb2 hN0.lt
          have n4 : w2.cell? ⟨wr.heap.size, 4, none⟩ = some (.pointer none) := hN2.cell 4
          have n5 : w2.cell? ⟨wr.heap.size, 5, none⟩ = some (.int .i64 p.id) := hN2.cell 5
          have hb02 : Below wr.heap.size wr w2 := hbE.trans (hb2.mono (by simp))
          have HRS2 := Lib.hid (HRS.out.below CC.out hb02)
          have HFR2 := Lib.hid (HFR.out.trans (Fr.of_below (F := fun _ => False) hb02) (fun _ _ h => h.elim))
          have hs2 := hb02.size
          clear x0 x1 x2 x3 x4 x5 o0 o1 o2 o3 hb2 hbE hN0 hN2 hb02 d24
          cases t with
          | false =>
            have hv : visit ans b (.item p) l' = (l', .none, false) := by unfold visit; rw [if_neg (by rw [← HB0.out, ← HT.out]; decide)]
            have HV := Lib.hid hv
            clear hv
            go_wp2_with fail
            go_roundg (k - (i + 1))
            case measure => have := HI.out; omega
            case rel =>
              have hs := HST.out
              rw [HV.out, if_neg (by intro h; cases h), show gk - 1 = k - (i + 1) by have := HI.out; omega] at hs
              exact ⟨i + 1, l', F', by omega, by go_num, hs, by have := HCN.out; have := HL1.out; have := HM2.out; omega, HRS2.out, HFR2.out, HF'.out⟩
          | true =>
            have cb1 : w2.cell? ⟨r + 1, 0, none⟩ = some (.func (.func fn) #[] #[p1, p2]) := HRS2.out.b1.cell 0
            have hent := CC.out.enter #[.int .i64 p.id, p1, p2]
            have hlc : l'.length ≤ 100000 := by have := HCN.out; have := HL1.out; have := HM2.out; have hc1 : (Q.item p).cnt = 1 := (by unfold Q.cnt; rfl); omega
            go_wp2_with fail
            refine (CC.out.call w2 l' F' p.id hlc HRS2.out.st).mono ?_
            rintro re w3 ⟨rfl, F3, hst3, hfr3, hF3⟩
            have HRS3 := Lib.hid (HRS2.out.called CC.out hst3 hfr3 hF3)
            have hfb := HFR2.out
            have HFR3 := Lib.hid (hfb.trans hfr3 (fun x hx hf => by
              rcases HF'.out x hf with h | h
              · exact h
              · omega))
            have HF3 : Hid (∀ b, F3 b → F b ∨ w.heap.size ≤ b) := Lib.hid fun x hx => by
              rcases hF3 x hx with h | h
              · exact HF'.out x h
              · exact .inr (Nat.le_trans hfb.size h)
            have gv3 := CC.out.gv w3 _ _ hst3
            unfold GV at gv3
            have his := CC.out.is l' p.id
            obtain ⟨er, her⟩ : ∃ er, er = ans (l' ++ [p.id]) := ⟨_, rfl⟩
            rw [← her] at his ⊢
            have hv : visit ans b (.item p) l' = (if er.isStop = true then (l' ++ [p.id], .none, true) else (l' ++ [p.id], er, !er.isNone)) := by unfold visit; rw [if_pos (by rw [← HB0.out, ← HT.out]), ← her]
            have HV := Lib.hid hv
            have HIS := Lib.hid his
            have hneq := neqN S er
            have hgrd := eqG S er
            clear hst3 hfr3 hF3 hfb his her hv cb1 n4 n5
            go_wp2_with fail
            refine (HIS.out w3).mono ?_
            rintro re w4 ⟨rfl, hb4⟩
            have HRS4 := Lib.hid (HRS3.out.below CC.out hb4)
            have HFR4 := Lib.hid (HFR3.out.trans (Fr.of_below (F := fun _ => False) hb4) (fun _ _ h => h.elim))
            clear hb4 gv3
            obtain ⟨s, hs⟩ : ∃ s, s = er.isStop := ⟨_, rfl⟩
            obtain ⟨z, hz⟩ : ∃ z, z = er.isNone := ⟨_, rfl⟩
            rw [← hs]
            rw [← hz] at hneq
            have HSS := Lib.hid hs
            have HZZ := Lib.hid hz
            clear hs hz
            cases s with
            | true =>
              have hRR : R = (l' ++ [p.id], .none) := by
                have hs := HST.out
                have hv1 : visit ans b (.item p) l' = (l' ++ [p.id], .none, true) := by rw [HV.out, if_pos HSS.out.symm]
                rw [hv1, if_pos rfl] at hs
                exact hs.symm
              have HRR := Lib.hid hRR
              clear hRR
              go_wp2_with fail
              exact bodyPost_ret (v := .nilIface) (by simp [results, Tryd.results25, go_sem]) rfl ⟨by rw [HRR.out]; rfl, F3, by rw [HRR.out]; exact HRS4.out, HFR4.out, HF3.out⟩
            | false =>
              cases z with
              | false =>
                have hRR : R = (l' ++ [p.id], er) := by
                  have hs := HST.out
                  have hv1 : visit ans b (.item p) l' = (l' ++ [p.id], er, true) := by rw [HV.out, if_neg (by rw [← HSS.out]; intro h; cases h), ← HZZ.out]; rfl
                  rw [hv1, if_pos rfl] at hs
                  exact hs.symm
                have HRR := Lib.hid hRR
                clear hRR
                go_wp2_with fail
                exact bodyPost_ret (v := er.v S) (by simp [results, Tryd.results25, go_sem]) rfl ⟨by rw [HRR.out], F3, by rw [HRR.out]; exact HRS4.out, HFR4.out, HF3.out⟩
              | true =>
                go_wp2_with fail
                go_roundg (k - (i + 1))
                case measure => have := HI.out; omega
                case rel =>
                  have hs := HST.out
                  have hv1 : visit ans b (.item p) l' = (l' ++ [p.id], er, false) := by rw [HV.out, if_neg (by rw [← HSS.out]; intro h; cases h), ← HZZ.out]; rfl
                  rw [hv1, if_neg (by intro h; cases h), show gk - 1 = k - (i + 1) by have := HI.out; omega] at hs
                  have hc1 : (Q.item p).cnt = 1 := by unfold Q.cnt; rfl
                  have hl1 : (l' ++ [p.id]).length = l'.length + 1 := by simp
                  exact ⟨i + 1, l' ++ [p.id], F3, by omega, by go_num, hs, by have := HCN.out; have := HL1.out; omega, HRS4.out, HFR4.out, HF3.out⟩
        | sub n f =>
          obtain ⟨-, c2, ca, cb, x4, x5, cc⟩ := hQr
          have hbx : X = hq (fun i => (f i).bx) (n - 1) := by rw [HX.out, Q.bx_sub]
          have HBX := Lib.hid hbx
          have hno : NodeAt w0 L c2 n f := by
            obtain ⟨-, c3, h1, h2, h3, h4, h5, h6, h7, h8⟩ := HQ.out
            have h9 := (HRS.out.keep.cell (o := i * 6 + 4) HN.out.1 HN.out.2.1).trans h3
            rw [x4] at h9
            have : c2 = c3 := by injection h9 with h9; injection h9 with h9; injection h9 with h9; injection h9
            subst this
            exact ⟨h1, h2, h5, h6, h7, h8⟩
          have HNO := Lib.hid hno
          clear hbx hno ca cb cc
          go_wp2_with fail
          refine (HOV.out _).mono ?_
          rintro re w2 ⟨rfl, hb2⟩
          have hbE : Below wr.heap.size wr (wr.alloc (.cells #[.float .f64 X.x0, .float .f64 X.y0, .float .f64 X.x1, .float .f64 X.y1, .pointer (some ⟨c2, 0, none⟩), .int .i64 0] 78)) := (Below.refl _ _).alloc (Nat.le_refl _) _
          have hN0 : Blk (wr.alloc (.cells #[.float .f64 X.x0, .float .f64 X.y0, .float .f64 X.x1, .float .f64 X.y1, .pointer (some ⟨c2, 0, none⟩), .int .i64 0] 78)) wr.heap.size 78 #[.float .f64 X.x0, .float .f64 X.y0, .float .f64 X.x1, .float .f64 X.y1, .pointer (some ⟨c2, 0, none⟩), .int .i64 0] := Blk.new _ _ _
          have hN2 := hN0.below hb2 hN0.lt
          have n4 : w2.cell? ⟨wr.heap.size, 4, none⟩ = some (.pointer (some ⟨c2, 0, none⟩)) := hN2.cell 4
          have hb02 : Below wr.heap.size wr w2 := hbE.trans (hb2.mono (by simp))
          have HRS2 := Lib.hid (HRS.out.below CC.out hb02)
          have HFR2 := Lib.hid (HFR.out.trans (Fr.of_below (F := fun _ => False) hb02) (fun _ _ h => h.elim))
          clear x0 x1 x2 x3 x4 x5 o0 o1 o2 o3 hb2 hbE hN0 hN2 hb02 d24
          cases t with
          | false =>
            have hv : visit ans b (.sub n f) l' = (l', .none, false) := by unfold visit; rw [if_neg (by rw [← HBX.out, ← HT.out]; decide)]
            have HV := Lib.hid hv
            clear hv
            go_wp2_with fail
            go_roundg (k - (i + 1))
            case measure => have := HI.out; omega
            case rel =>
              have hs := HST.out
              rw [HV.out, if_neg (by intro h; cases h), show gk - 1 = k - (i + 1) by have := HI.out; omega] at hs
              exact ⟨i + 1, l', F', by omega, by go_num, hs, by have := HCN.out; have := HL1.out; have := HM2.out; omega, HRS2.out, HFR2.out, HF'.out⟩
          | true =>
            have cb1 : w2.cell? ⟨r + 2, 0, none⟩ = some (.func (.func 25) #[] #[.pointer (some ⟨r, 0, none⟩), .pointer (some ⟨r + 1, 0, none⟩), .pointer (some ⟨r + 2, 0, none⟩)]) := HRS2.out.b2.cell 0
            have hlc : l'.length + (Q.sub n f).cnt ≤ 100000 := by have := HCN.out; have := HL1.out; have := HM2.out; omega
            have hih := IH.out i
            rw [HZ.out] at hih
            have hcall := hih n f rfl c2 w2 l' F' HNO.out HRS2.out hlc
            have HCALL := Lib.hid hcall
            clear hih hcall
            obtain ⟨T, hTe⟩ : ∃ T, T = loopV (fun i => visit ans b (f i)) n 0 l' := ⟨_, rfl⟩
            have hv : visit ans b (.sub n f) l' = (T.1, T.2, !T.2.isNone) := by unfold visit; rw [if_pos (by rw [← HBX.out, ← HT.out]), ← hTe]
            have HTE := Lib.hid hTe
            have HV := Lib.hid hv
            clear hTe hv
            go_wp2_with fail
            refine HCALL.out.mono ?_
            rintro re w3 ⟨rfl, hex⟩
            rw [← HTE.out] at hex ⊢
            obtain ⟨F3, hrs3, hfr3, hF3⟩ := RecPost.trans HFR2.out (fun b hb => by
              rcases HF'.out b hb with h | h
              · exact .inl h
              · exact .inr h) hex
            have HRS3 := Lib.hid hrs3
            have HFR3 := Lib.hid hfr3
            have HF3 := Lib.hid hF3
            have hneq := neqN S T.2
            obtain ⟨z, hz⟩ : ∃ z, z = T.2.isNone := ⟨_, rfl⟩
            rw [← hz] at hneq
            have HZZ := Lib.hid hz
            obtain ⟨er, her⟩ : ∃ er, er = T.2 := ⟨_, rfl⟩
            rw [← her] at hneq ⊢
            have hgrd := eqG S er
            have HER := Lib.hid her
            clear hex hrs3 hfr3 hF3 hz her cb1 n4
            cases z with
            | false =>
              have hRR : R = (T.1, er) := by
                have hs := HST.out
                rw [HV.out, if_pos (by show (!T.2.isNone) = true; rw [← HZZ.out]; rfl)] at hs
                rw [HER.out]
                exact hs.symm
              have HRR := Lib.hid hRR
              clear hRR
              go_wp2_with fail
              exact bodyPost_ret (v := er.v S) (by simp [results, Tryd.results25, go_sem]) rfl ⟨by rw [HRR.out], F3, by rw [HRR.out]; exact HRS3.out, HFR3.out, HF3.out⟩
            | true =>
              go_wp2_with fail
              go_roundg (k - (i + 1))
              case measure => have := HI.out; omega
              case rel =>
                have hs := HST.out
                have hvl := HVL.out
                rw [HV.out] at hvl
                rw [HV.out, if_neg (by show ¬ (!T.2.isNone) = true; rw [← HZZ.out]; intro h; cases h), show gk - 1 = k - (i + 1) by have := HI.out; omega] at hs
                exact ⟨i + 1, T.1, F3, by omega, by go_num, hs, by have := HCN.out; have := HL1.out; have : T.1.length ≤ l'.length + (Q.sub n f).cnt := hvl; omega, HRS3.out, HFR3.out, HF3.out⟩
      · have hik : i = k := by omega
        have HIK := Lib.hid hik
        have hltI : (k : Int) ≤ (i : Int) := by omega
        have hu : gk = 0 := by have := HI.out; omega
        have hRR : R = (l', .none) := by have := HLO.out; rw [hu] at this; exact this.symm
        have HRR := Lib.hid hRR
        clear hik hu hRR
        go_wp2_with fail
        refine bodyPost_ret (v := .nilIface) (by simp [results, Tryd.results25, go_sem]) rfl ⟨by rw [HRR.out]; rfl, F', by rw [HRR.out]; exact HRS.out, HFR.out, HF'.out⟩
end Go.Proofs.YtflaklceejokhaaDoor.tree
