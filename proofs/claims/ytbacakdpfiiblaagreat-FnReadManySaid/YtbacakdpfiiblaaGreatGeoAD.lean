/-
  Contracts: a sequence, told as plain data.
-/
import Derived.Test.YtbacakdpfiiblaaGreatGeoR
import Derived.StillTailTactics
namespace Go.Proofs.YtbacakdpfiiblaaGreat.geo
open Go.ChangeShapes Go.WideShapes Go.ChangeAt Go.RowKit
open Go.Proofs.YtbacakdpfiiblaaGreat.mem
set_option linter.unusedVariables false
set_option linter.unusedSimpArgs false

theorem own_capA {w : World} {B n k : Nat} {e : TypeId} {A : Option Addr} {xs : List Value} (h : w.ownsRow B e 1 (.slice A n k) n xs) : n ≤ k := by
  rcases h.2 with ⟨hbad, h0⟩ | ⟨g, cap, cur, hv, _, _, h1, _⟩
  · omega
  · simp only [Value.slice.injEq] at hv
    omega
/-- A row of numbers under way in a struct of plain data, beside a place. -/
structure PS (w0 : World) (g co base : Nat) (K : Int) (D : Nat) (q : Pl) (w : World) (v : Value) (n : Nat) (xs : List Value) : Prop where
  blk : Blk w g 25 #[.int .i64 K, .int .i64 D, v, .slice none 0 0]
  own : w.ownsRow base 31 1 v n xs
  cb : Blk w co 75 #[.float .f64 q.x, .float .f64 q.y, .float .f64 q.z, .float .f64 q.m, .int .u8 D]
  below : Below g w0 w
  sz : base ≤ w.heap.size
  gb : g < base
  gc : g < co
  ne : v.ownBlock ≠ some co
section
variable {w0 w w' : World} {g co base : Nat} {K : Int} {D : Nat} {q : Pl} {v v' : Value} {n n' : Nat} {xs xs' : List Value} {o : Obj}
theorem PS.mid (h : PS w0 g co base K D q w v n xs) (hg : (w.alloc o).grownBy w' v.ownBlock) : Blk w' g 25 #[.int .i64 K, .int .i64 D, v, .slice none 0 0] ∧ Blk w' co 75 #[.float .f64 q.x, .float .f64 q.y, .float .f64 q.z, .float .f64 q.m, .int .u8 D] ∧ Below g w0 w' :=
  ⟨(h.blk.alloc o).grown hg (fun e => by have := (h.own.lt _ e.symm).1; have := h.gb; omega), (h.cb.alloc o).grown hg (fun e => h.ne e.symm), (h.below.alloc (Nat.le_of_lt h.blk.lt) o).grown hg (by have := h.blk.lt; simp; omega) (fun r hr => by have := (h.own.lt r hr).1; have := h.gb; omega)⟩
theorem PS.next (h : PS w0 g co base K D q w v n xs) (hg : (w.alloc o).grownBy w' v.ownBlock) (ho : w'.ownsRow base 31 1 v' n' xs') (ha : v'.ownBlock = v.ownBlock ∨ v'.ownBlock = some (w.alloc o).heap.size) : PS w0 g co base K D q (w'.setCell ⟨g, 2, none⟩ v') v' n' xs' := by
  obtain ⟨m1, m2, -⟩ := h.mid hg
  have hgs := hg.size
  have hcl := h.cb.lt
  refine ⟨?_, ?_, ?_, ?_, ?_, h.gb, h.gc, ?_⟩
  · have := m1.set_ 2 v'
    simpa using this
  · exact ho.kept (grown_set w' ⟨g, 2, none⟩ v') (.inr (fun e => by have h1 := (ho.lt _ e).1; have := h.gb; simp at h1; omega))
  · exact m2.far (p := ⟨g, 2, none⟩) (fun e => by have := h.gc; have e : co = g := e; omega) _
  · exact ((h.below.alloc (Nat.le_of_lt h.blk.lt) o).grown hg (by have := h.blk.lt; simp; omega) (fun r hr => by have := (h.own.lt r hr).1; have := h.gb; omega)).setCell (Nat.le_refl _) _
  · have := h.sz
    simp at hgs ⊢
    omega
  · intro e
    rcases ha with ha | ha
    · exact h.ne (ha ▸ e)
    · rw [ha] at e
      have := Option.some.inj e
      simp at this
      omega
theorem PS.fin {A : Option Addr} {k : Nat} {fs : List Nat} {W : World} {R : Nat} (h : PS w0 g co base K D q w (.slice A n k) n (FL fs)) (hn : fs.length = n) (hb : n ≤ big) (hK : (Lit.int .i64 K).wf = true) (hD : (Lit.int .i64 (D : Int)).wf = true)
    (hW : Below W.heap.size W w0) (hWR : W.heap.size ≤ R) (hR : R < w0.heap.size) (u0 u1 u2 u3 : Value) (hg0 : g = w0.heap.size := by rfl) :
    IPost W (.mk K D fs []) (.returned (.agg #[.int .i64 K, .int .i64 D, .slice A n k, .slice none 0 0])) ((((w.setCell ⟨R, 0, none⟩ u0).setCell ⟨R, 1, none⟩ u1).setCell ⟨R, 2, none⟩ u2).setCell ⟨R, 3, none⟩ u3) := by
  subst hg0
  have hgb := h.gb
  have hbw := hW.trans (h.below.mono hW.size)
  refine ⟨.mk K D A k fs none 0 [], by rw [IG.enc, hn]; rfl, ?_, rfl, (((hbw.setCell hWR _).setCell hWR _).setCell hWR _).setCell hWR _⟩
  rw [IG.In]
  refine ⟨⟨hK, hD⟩, ⟨by rw [hn]; exact hb, by simp⟩, ⟨by rw [hn]; exact own_capA h.own, by simp⟩, ?_, ⟨by simp [Sl], fun h => absurd h (by simp)⟩, trivial⟩
  have h4 : SlS (fun a => base ≤ a) w A fs.length 1 (FL fs) := ⟨by rw [hn]; exact Sl.of_own h.own, fun _ a ha => (h.own.lt a.block (by rw [ha]; rfl)).1⟩
  have hno : ¬ (fun a => base ≤ a) R := fun h => by have h : base ≤ R := h; omega
  refine SlS.less (h4.keep ((((Keeps.set (p := ⟨R, 0, none⟩) hno _).trans (.set (p := ⟨R, 1, none⟩) hno _)).trans (.set (p := ⟨R, 2, none⟩) hno _)).trans (.set (p := ⟨R, 3, none⟩) hno _))) (fun a ha => ?_)
  have h5 : base ≤ a := ha
  show W.heap.size ≤ a
  omega
end
theorem lit_new (w : World) (xs : List Value) (t : TypeId) (b : Nat) (hb : b = w.heap.size) : ∀ j u, xs[j]? = some u → (w.alloc (.cells xs.toArray t)).cell? ((⟨b, 0, none⟩ : Addr).add j) = some u := by
  subst hb
  exact cells_new w xs t
theorem lit_sl {w : World} {xs : List Value} {t : TypeId} {b m : Nat} (hb : b = w.heap.size) (hm : xs.length = m) (hl : m ≤ maxLen) : Sl (w.alloc (.cells xs.toArray t)) (b + 1) (some ⟨b, 0, none⟩) m 1 xs :=
  ⟨by omega, hl, fun _ => ⟨b, 0, rfl, Nat.lt_succ_self b, fun j u hu => by
    have := lit_new w xs t b hb j u hu
    rwa [mem.add_plain] at this⟩⟩
theorem lit_one (fs : List Nat) : ∀ u ∈ FL fs, u.oneCell' = true := FL_one fs
theorem take_emit {d : Nat} (hd : d < 4) {ns : List Nat} {i : Nat} (h : (i + 1) * wd d ≤ ns.length) : ns.take ((i + 1) * wd d) = ns.take (i * wd d) ++ emit d (plAt d ns i) := by
  have h2 := wd_two d
  rw [Nat.succ_mul] at h ⊢
  rw [List.take_add, List.append_cancel_left_eq]
  have e1 : ∀ j, j < wd d → i * wd d + j < ns.length := fun j hj => by omega
  have hg : ∀ k, (ns.drop (i * wd d)).getD k 0 = ns.getD (i * wd d + k) 0 := fun k => by rw [List.getD_eq_getElem?_getD, List.getD_eq_getElem?_getD, List.getElem?_drop]
  have := emit_head hd (ns := ns.drop (i * wd d)) (by rw [List.length_drop]; omega)
  rw [← this]
  unfold plAt
  rw [Nat.zero_mul, hg, hg, hg, hg, Nat.add_zero, Nat.zero_add, Nat.zero_add, show i * wd d + wd d - 1 = i * wd d + (0 + wd d - 1) by omega]

set_option maxHeartbeats 16000000 in
set_option maxRecDepth 100000 in
theorem plainSeq0 (A : Option Addr) (c : Nat) (ns : List Nat) (S : Nat → Prop) (w : World) (h : (MG.ln 0 A c ns).In S w) :
    Calls Tryz.prog 137 #[.agg #[.int .u8 0, .slice A ns.length c]] w (IPost w (.mk 2 0 ns [])) := by
  obtain ⟨hlen, hbig⟩ := MG.ln_len h
  have hwf : (Lit.int .i64 (0 : Int)).wf = true := by decide
  rw [MG.In] at h
  obtain ⟨-, hmod, hp4, hA, hAS⟩ := h
  obtain ⟨i0, hi, hz0, hz1, hz2⟩ := info_parts infoF
  obtain ⟨p, hp⟩ : ∃ p, p = ns.length / wd 0 := ⟨_, rfl⟩
  have hpn : p * 2 = ns.length := by rw [hp]; exact hlen.symm
  rw [← hp] at hp4
  have hLEN := length_calls A ns.length c 0 (by decide) hbig
  rw [← hp] at hLEN
  have hLEN := Lib.hid hLEN
  have hGET := Lib.hid (fun (i : Nat) (w' : World) (hi : i < p) (hA : Sl w' w'.heap.size A ns.length 1 (FL ns)) => get_calls (c := c) (show 0 < 4 by decide) hA hbig (show (i + 1) * 2 ≤ ns.length by rw [← hpn]; exact Nat.mul_le_mul_right _ hi))
  obtain ⟨wA, hwA⟩ : ∃ wA, wA = (w.alloc (.cells #[.int .u8 0, .slice A ns.length c] 81)).alloc (.cells #[.int .i64 0, .int .i64 0, .slice none 0 0, .slice none 0 0] 25) := ⟨_, rfl⟩
  have hbl : Below w.heap.size w wA := by rw [hwA]; exact ((Below.refl _ _).alloc (Nat.le_refl _) _).alloc (by simp) _
  have hB : Blk wA w.heap.size 81 #[.int .u8 0, .slice A ns.length c] := by rw [hwA]; exact (Blk.new _ _ _).alloc _
  have hD : Blk wA (w.heap.size + 1) 25 #[.int .i64 0, .int .i64 0, .slice none 0 0, .slice none 0 0] := by
    rw [hwA]
    have := Blk.new (w.alloc (.cells #[.int .u8 0, .slice A ns.length c] 81)) 25 #[.int .i64 0, .int .i64 0, .slice none 0 0, .slice none 0 0]
    simpa using this
  have HWF := Lib.hid hwf
  have HA := Lib.hid (hA.up hbl)
  have HB := Lib.hid hB
  have HD := Lib.hid hD
  have HBL := Lib.hid hbl
  have HWA := Lib.hid hwA
  have HPN := Lib.hid hpn
  have HBIG := Lib.hid hbig
  have hp4' : p ≤ 4398046511104 := by unfold big at hp4; omega
  clear hA hlen hmod hp hpn hwA hB hD hbl hp4 hbig hwf
  go_enter Tryz.func137, Tryz.ntmps137
  go_wp2_with fail
  rw [← HWA.out]
  refine (seqType _ _ _).mono ?_
  rintro e w1 ⟨rfl, hb1⟩
  have HB1 := Lib.hid (HB.out.below hb1 HB.out.lt)
  have HD1 := Lib.hid (HD.out.below hb1 HD.out.lt)
  have HBL1 := Lib.hid (HBL.out.trans (hb1.mono HBL.out.size))
  have HA1 := Lib.hid (HA.out.up hb1)
  clear hb1 HB HD HBL HWA HA
  obtain ⟨wL, hwL⟩ : ∃ wL, wL = w1.alloc (.cells #[.int .i64 2, .int .i64 0, .slice none 0 0, .slice none 0 0] 25) := ⟨_, rfl⟩
  have hG : Blk wL w1.heap.size 25 #[.int .i64 2, .int .i64 0, .slice none 0 0, .slice none 0 0] := by rw [hwL]; exact Blk.new _ _ _
  have hbL : Below w1.heap.size w1 wL := by rw [hwL]; exact (Below.refl _ _).alloc (Nat.le_refl _) _
  obtain ⟨base, hbase⟩ : ∃ base, base = wL.heap.size := ⟨_, rfl⟩
  have hszL : w1.heap.size + 1 = base := by rw [hbase, hwL]; simp
  have HWL := Lib.hid hwL
  have HG := Lib.hid hG
  have HBL2 := Lib.hid hbL
  have HBA := Lib.hid hbase
  clear hwL hG hbL hbase
  go_wp2_with fail
  rw [← HWL.out]
  go_loopg [4] p (fun q ci wr => ∃ (i : Nat) (A1 : Option Addr) (k1 : Nat), i + q = p ∧ ci = .int .i64 (i : Nat) ∧ Blk wr w1.heap.size 25 #[.int .i64 2, .int .i64 0, .slice A1 (i * 2) k1, .slice none 0 0] ∧
      wr.ownsRow base 31 1 (.slice A1 (i * 2) k1) (i * 2) (FL (ns.take (i * 2))) ∧ i * 2 ≤ k1 ∧ Below w1.heap.size w1 wr ∧ base ≤ wr.heap.size)
  case atStart => exact ⟨0, none, 0, by omega, by go_num, by rw [Nat.zero_mul]; exact HG.out, by rw [Nat.zero_mul]; exact World.ownsRow_nil _ _ _ _, by omega, HBL2.out, by rw [HBA.out]; exact Nat.le_refl _⟩
  case round =>
    obtain ⟨i, A0, k0, hi', rfl, hg, ho, hk0, hb, hsz⟩ := hrel
    have HI := Lib.hid hi'
    have HG' := Lib.hid hg
    have HO := Lib.hid ho
    have HK := Lib.hid hk0
    have HB' := Lib.hid hb
    have HS := Lib.hid hsz
    have hin : i ≤ p := by omega
    obtain ⟨s0, s1, -, -, sl⟩ := cells2 (HB1.out.below hb HB1.out.lt)
    clear hi' hg ho hb hsz hk0
    go_wp2_with fail
    refine (hLEN.out _).mono ?_
    rintro e w2 ⟨rfl, hb2⟩
    have HG2 := Lib.hid (HG'.out.below hb2 HG'.out.lt)
    have HO2 := Lib.hid (HO.out.kept (grown_below (row := none) hb2) (own_row _))
    have HB2 := Lib.hid (HB'.out.trans (hb2.mono HB'.out.size))
    have HS2 := Lib.hid (Nat.le_trans HS.out hb2.size)
    have HBS2 := Lib.hid (HB1.out.below HB2.out HB1.out.lt)
    clear hb2 s0 s1 sl
    by_cases hlt : i < p
    · obtain ⟨s0, s1, -, -, sl⟩ := cells2 HBS2.out
      have hltI : (i : Int) < (p : Int) := by omega
      have HGET := Lib.hid (hGET.out i w2 hlt (HA1.out.up HB2.out))
      obtain ⟨q, hq⟩ : ∃ q, q = plAt 0 ns i := ⟨_, rfl⟩
      rw [← hq] at HGET
      have HQ := Lib.hid hq
      clear hq
      go_wp2_with fail
      refine HGET.out.mono ?_
      rintro e w3 ⟨rfl, hb3⟩
      obtain ⟨wC, hwC⟩ : ∃ wC, wC = w3.alloc (.cells #[.float .f64 q.x, .float .f64 q.y, .float .f64 q.z, .float .f64 q.m, .int .u8 0] 75) := ⟨_, rfl⟩
      have hs3 := hb3.size
      have P0 := Lib.hid (show PS w1 w1.heap.size w3.heap.size base 2 0 q (w3.alloc (.cells #[.float .f64 q.x, .float .f64 q.y, .float .f64 q.z, .float .f64 q.m, .int .u8 0] 75)) (.slice A0 (i * 2) k0) (i * 2) (FL (ns.take (i * 2))) from
        ⟨(HG2.out.below hb3 HG2.out.lt).alloc _, (HO2.out.kept (grown_below (row := none) hb3) (own_row _)).alloc _, Blk.new _ _ _, (HB2.out.trans (hb3.mono HB2.out.size)).alloc (HB2.out.trans (hb3.mono HB2.out.size)).size _, by have := HS2.out; simp; omega, by omega, by have := HS2.out; omega, fun h => by have := ((HO2.out.kept (grown_below (row := none) hb3) (own_row _)).lt _ h).2; omega⟩)
      obtain ⟨x0, x1, x2, x3, y0, y1, y2, y3, xl⟩ := cells4 (HG2.out.below hb3 HG2.out.lt)
      have hne1 : w1.heap.size ≠ w3.heap.size := by have := HS2.out; omega
      have hne2 : w3.heap.size ≠ w1.heap.size := by omega
      clear hb3 s0 s1 sl
      go_wp2_with (at_builtin; refine wpList_append_sl _ rfl (.tmp 20) (.tmp 27) 22 rfl base 31 i0 _ 1 8 Tryz.underlying22 hi hz0 hz1 hz2 rfl (by decide) _ (i * 2) _ rfl (P0.out.own.alloc _) (w3.heap.size + 1 + 1) (some ⟨w3.heap.size + 1, 0, none⟩) 2 2 [.float .f64 q.x, .float .f64 q.y] rfl (lit_sl (by simp) rfl (by decide)) (lit_one [q.x, q.y]) (by unfold maxLen; omega) (by omega) (by have := P0.out.sz; simp at this ⊢; omega) ?_; intro A4 k4 w4 hown4 hgrow4 hat4
                   have M4 := Lib.hid (P0.out.mid hgrow4)
                   obtain ⟨x04, x14, x24, x34, y04, y14, y24, y34, xl4⟩ := cells4 M4.out.1
                   obtain ⟨z04, z14, z24, z34, z44, -, -, -, -, -, zl4⟩ := cells5 M4.out.2.1
                   have P4 := Lib.hid (P0.out.next hgrow4 hown4 hat4)
                   clear x0 x1 x2 x3 y0 y1 y2 y3 xl; clear hown4 hgrow4 hat4)
      refine (is3_calls (show 0 < 4 by decide) _).mono ?_
      rintro e w9 ⟨rfl, h9⟩
      subst h9
      go_wp2_with fail
      refine (isM_calls (show 0 < 4 by decide) _).mono ?_
      rintro e w9 ⟨rfl, h9⟩
      subst h9
      go_wp2_with fail
      go_roundg (p - (i + 1))
      case measure => have := HI.out; omega
      case rel =>
        have hP := P4.out
        have hl : (i + 1) * 2 ≤ ns.length := by rw [← HPN.out]; exact Nat.mul_le_mul_right _ hlt
        refine ⟨i + 1, A4, k4, by omega, by go_num, ?_, ?_, ?_, hP.below, hP.sz⟩
        · rw [show (i + 1) * 2 = i * 2 + 2 by omega]; exact hP.blk
        · have h1 := hP.own
          have h2 : ns.take ((i + 1) * 2) = ns.take (i * 2) ++ emit 0 q := by have h3 := take_emit (d := 0) (by decide) hl; rw [← HQ.out] at h3; exact h3
          rw [h2, show (i + 1) * 2 = i * 2 + 2 by omega, show emit 0 q = [q.x, q.y] from rfl, FL_app]
          simpa [FL] using h1
        · rw [show (i + 1) * 2 = i * 2 + 2 by omega]; exact own_capA hP.own
    · obtain rfl : i = p := by omega
      have hltI : (i : Int) ≤ (i : Int) := Int.le_refl _
      obtain ⟨q0, q1, q2, q3, -, -, -, -, ql⟩ := cells4 HG2.out
      obtain ⟨r0, r1, r2, r3, p0, p1, p2, p3, rl⟩ := cells4 (HD1.out.below HB2.out HD1.out.lt)
      obtain ⟨s0, s1, -, -, sl⟩ := cells2 HBS2.out
      go_wp2_with fail
      have hx1 : w.heap.size ≤ w.heap.size + 1 := by omega
      have hbw := HBL1.out.trans (HB2.out.mono HBL1.out.size)
      refine bodyPost_ret (v := .agg #[.int .i64 2, .int .i64 0, .slice A0 (i * 2) k0, .slice none 0 0]) ?_ rfl ⟨.mk 2 0 A0 k0 ns none 0 [], by rw [IG.enc, ← HPN.out]; rfl, ?_, rfl, (((hbw.setCell hx1 _).setCell hx1 _).setCell hx1 _).setCell hx1 _⟩
      · simp [results, Tryz.results137, go_sem, r0, r1, r2, r3, rl]
      · have hlt1 := HD1.out.lt
        rw [IG.In]
        refine ⟨⟨by decide, by decide⟩, ⟨HBIG.out, by simp⟩, ⟨by rw [← HPN.out]; exact HK.out, by simp⟩, ?_, ⟨by simp [Sl], fun h => absurd h (by simp)⟩, trivial⟩
        have hO := HO2.out
        rw [List.take_of_length_le (show ns.length ≤ i * 2 by rw [HPN.out]; exact Nat.le_refl _)] at hO
        have h4 : SlS (fun a => base ≤ a) w2 A0 ns.length 1 (FL ns) := ⟨by rw [← HPN.out]; exact Sl.of_own hO, fun _ a ha => (hO.lt a.block (by rw [ha]; rfl)).1⟩
        have hno : ¬ (fun a => base ≤ a) (w.heap.size + 1) := fun h => by have h : base ≤ w.heap.size + 1 := h; omega
        refine SlS.less (h4.keep ((((Keeps.set (p := ⟨w.heap.size + 1, 0, none⟩) hno _).trans (.set (p := ⟨w.heap.size + 1, 1, none⟩) hno _)).trans (.set (p := ⟨w.heap.size + 1, 2, none⟩) hno _)).trans (.set (p := ⟨w.heap.size + 1, 3, none⟩) hno _))) (fun a ha => ?_)
        have h5 : base ≤ a := ha
        show w.heap.size ≤ a
        omega

set_option maxHeartbeats 16000000 in
set_option maxRecDepth 100000 in
theorem plainSeq1 (A : Option Addr) (c : Nat) (ns : List Nat) (S : Nat → Prop) (w : World) (h : (MG.ln 1 A c ns).In S w) :
    Calls Tryz.prog 137 #[.agg #[.int .u8 1, .slice A ns.length c]] w (IPost w (.mk 2 1 ns [])) := by
  obtain ⟨hlen, hbig⟩ := MG.ln_len h
  have hwf : (Lit.int .i64 (1 : Int)).wf = true := by decide
  rw [MG.In] at h
  obtain ⟨-, hmod, hp4, hA, hAS⟩ := h
  obtain ⟨i0, hi, hz0, hz1, hz2⟩ := info_parts infoF
  obtain ⟨p, hp⟩ : ∃ p, p = ns.length / wd 1 := ⟨_, rfl⟩
  have hpn : p * 3 = ns.length := by rw [hp]; exact hlen.symm
  rw [← hp] at hp4
  have hLEN := length_calls A ns.length c 1 (by decide) hbig
  rw [← hp] at hLEN
  have hLEN := Lib.hid hLEN
  have hGET := Lib.hid (fun (i : Nat) (w' : World) (hi : i < p) (hA : Sl w' w'.heap.size A ns.length 1 (FL ns)) => get_calls (c := c) (show 1 < 4 by decide) hA hbig (show (i + 1) * 3 ≤ ns.length by rw [← hpn]; exact Nat.mul_le_mul_right _ hi))
  obtain ⟨wA, hwA⟩ : ∃ wA, wA = (w.alloc (.cells #[.int .u8 1, .slice A ns.length c] 81)).alloc (.cells #[.int .i64 0, .int .i64 0, .slice none 0 0, .slice none 0 0] 25) := ⟨_, rfl⟩
  have hbl : Below w.heap.size w wA := by rw [hwA]; exact ((Below.refl _ _).alloc (Nat.le_refl _) _).alloc (by simp) _
  have hB : Blk wA w.heap.size 81 #[.int .u8 1, .slice A ns.length c] := by rw [hwA]; exact (Blk.new _ _ _).alloc _
  have hD : Blk wA (w.heap.size + 1) 25 #[.int .i64 0, .int .i64 0, .slice none 0 0, .slice none 0 0] := by
    rw [hwA]
    have := Blk.new (w.alloc (.cells #[.int .u8 1, .slice A ns.length c] 81)) 25 #[.int .i64 0, .int .i64 0, .slice none 0 0, .slice none 0 0]
    simpa using this
  have HWF := Lib.hid hwf
  have HA := Lib.hid (hA.up hbl)
  have HB := Lib.hid hB
  have HD := Lib.hid hD
  have HBL := Lib.hid hbl
  have HWA := Lib.hid hwA
  have HPN := Lib.hid hpn
  have HBIG := Lib.hid hbig
  have hp4' : p ≤ 4398046511104 := by unfold big at hp4; omega
  clear hA hlen hmod hp hpn hwA hB hD hbl hp4 hbig hwf
  go_enter Tryz.func137, Tryz.ntmps137
  go_wp2_with fail
  rw [← HWA.out]
  refine (seqType _ _ _).mono ?_
  rintro e w1 ⟨rfl, hb1⟩
  have HB1 := Lib.hid (HB.out.below hb1 HB.out.lt)
  have HD1 := Lib.hid (HD.out.below hb1 HD.out.lt)
  have HBL1 := Lib.hid (HBL.out.trans (hb1.mono HBL.out.size))
  have HA1 := Lib.hid (HA.out.up hb1)
  clear hb1 HB HD HBL HWA HA
  obtain ⟨wL, hwL⟩ : ∃ wL, wL = w1.alloc (.cells #[.int .i64 2, .int .i64 1, .slice none 0 0, .slice none 0 0] 25) := ⟨_, rfl⟩
  have hG : Blk wL w1.heap.size 25 #[.int .i64 2, .int .i64 1, .slice none 0 0, .slice none 0 0] := by rw [hwL]; exact Blk.new _ _ _
  have hbL : Below w1.heap.size w1 wL := by rw [hwL]; exact (Below.refl _ _).alloc (Nat.le_refl _) _
  obtain ⟨base, hbase⟩ : ∃ base, base = wL.heap.size := ⟨_, rfl⟩
  have hszL : w1.heap.size + 1 = base := by rw [hbase, hwL]; simp
  have HWL := Lib.hid hwL
  have HG := Lib.hid hG
  have HBL2 := Lib.hid hbL
  have HBA := Lib.hid hbase
  clear hwL hG hbL hbase
  go_wp2_with fail
  rw [← HWL.out]
  go_loopg [4] p (fun q ci wr => ∃ (i : Nat) (A1 : Option Addr) (k1 : Nat), i + q = p ∧ ci = .int .i64 (i : Nat) ∧ Blk wr w1.heap.size 25 #[.int .i64 2, .int .i64 1, .slice A1 (i * 3) k1, .slice none 0 0] ∧
      wr.ownsRow base 31 1 (.slice A1 (i * 3) k1) (i * 3) (FL (ns.take (i * 3))) ∧ i * 3 ≤ k1 ∧ Below w1.heap.size w1 wr ∧ base ≤ wr.heap.size)
  case atStart => exact ⟨0, none, 0, by omega, by go_num, by rw [Nat.zero_mul]; exact HG.out, by rw [Nat.zero_mul]; exact World.ownsRow_nil _ _ _ _, by omega, HBL2.out, by rw [HBA.out]; exact Nat.le_refl _⟩
  case round =>
    obtain ⟨i, A0, k0, hi', rfl, hg, ho, hk0, hb, hsz⟩ := hrel
    have HI := Lib.hid hi'
    have HG' := Lib.hid hg
    have HO := Lib.hid ho
    have HK := Lib.hid hk0
    have HB' := Lib.hid hb
    have HS := Lib.hid hsz
    have hin : i ≤ p := by omega
    obtain ⟨s0, s1, -, -, sl⟩ := cells2 (HB1.out.below hb HB1.out.lt)
    clear hi' hg ho hb hsz hk0
    go_wp2_with fail
    refine (hLEN.out _).mono ?_
    rintro e w2 ⟨rfl, hb2⟩
    have HG2 := Lib.hid (HG'.out.below hb2 HG'.out.lt)
    have HO2 := Lib.hid (HO.out.kept (grown_below (row := none) hb2) (own_row _))
    have HB2 := Lib.hid (HB'.out.trans (hb2.mono HB'.out.size))
    have HS2 := Lib.hid (Nat.le_trans HS.out hb2.size)
    have HBS2 := Lib.hid (HB1.out.below HB2.out HB1.out.lt)
    clear hb2 s0 s1 sl
    by_cases hlt : i < p
    · obtain ⟨s0, s1, -, -, sl⟩ := cells2 HBS2.out
      have hltI : (i : Int) < (p : Int) := by omega
      have HGET := Lib.hid (hGET.out i w2 hlt (HA1.out.up HB2.out))
      obtain ⟨q, hq⟩ : ∃ q, q = plAt 1 ns i := ⟨_, rfl⟩
      rw [← hq] at HGET
      have HQ := Lib.hid hq
      clear hq
      go_wp2_with fail
      refine HGET.out.mono ?_
      rintro e w3 ⟨rfl, hb3⟩
      obtain ⟨wC, hwC⟩ : ∃ wC, wC = w3.alloc (.cells #[.float .f64 q.x, .float .f64 q.y, .float .f64 q.z, .float .f64 q.m, .int .u8 1] 75) := ⟨_, rfl⟩
      have hs3 := hb3.size
      have P0 := Lib.hid (show PS w1 w1.heap.size w3.heap.size base 2 1 q (w3.alloc (.cells #[.float .f64 q.x, .float .f64 q.y, .float .f64 q.z, .float .f64 q.m, .int .u8 1] 75)) (.slice A0 (i * 3) k0) (i * 3) (FL (ns.take (i * 3))) from
        ⟨(HG2.out.below hb3 HG2.out.lt).alloc _, (HO2.out.kept (grown_below (row := none) hb3) (own_row _)).alloc _, Blk.new _ _ _, (HB2.out.trans (hb3.mono HB2.out.size)).alloc (HB2.out.trans (hb3.mono HB2.out.size)).size _, by have := HS2.out; simp; omega, by omega, by have := HS2.out; omega, fun h => by have := ((HO2.out.kept (grown_below (row := none) hb3) (own_row _)).lt _ h).2; omega⟩)
      obtain ⟨x0, x1, x2, x3, y0, y1, y2, y3, xl⟩ := cells4 (HG2.out.below hb3 HG2.out.lt)
      have hne1 : w1.heap.size ≠ w3.heap.size := by have := HS2.out; omega
      have hne2 : w3.heap.size ≠ w1.heap.size := by omega
      clear hb3 s0 s1 sl
      go_wp2_with (at_builtin; refine wpList_append_sl _ rfl (.tmp 20) (.tmp 27) 22 rfl base 31 i0 _ 1 8 Tryz.underlying22 hi hz0 hz1 hz2 rfl (by decide) _ (i * 3) _ rfl (P0.out.own.alloc _) (w3.heap.size + 1 + 1) (some ⟨w3.heap.size + 1, 0, none⟩) 2 2 [.float .f64 q.x, .float .f64 q.y] rfl (lit_sl (by simp) rfl (by decide)) (lit_one [q.x, q.y]) (by unfold maxLen; omega) (by omega) (by have := P0.out.sz; simp at this ⊢; omega) ?_; intro A4 k4 w4 hown4 hgrow4 hat4
                   have M4 := Lib.hid (P0.out.mid hgrow4)
                   obtain ⟨x04, x14, x24, x34, y04, y14, y24, y34, xl4⟩ := cells4 M4.out.1
                   obtain ⟨z04, z14, z24, z34, z44, -, -, -, -, -, zl4⟩ := cells5 M4.out.2.1
                   have P4 := Lib.hid (P0.out.next hgrow4 hown4 hat4)
                   clear x0 x1 x2 x3 y0 y1 y2 y3 xl; clear hown4 hgrow4 hat4)
      refine (is3_calls (show 1 < 4 by decide) _).mono ?_
      rintro e w9 ⟨rfl, h9⟩
      subst h9
      go_wp2_with (at_builtin; refine wpList_append_sl _ rfl (.tmp 34) (.tmp 37) 22 rfl base 31 i0 _ 1 8 Tryz.underlying22 hi hz0 hz1 hz2 rfl (by decide) _ (i * 3 + 2) _ rfl (P4.out.own.alloc _) (w4.heap.size + 1) (some ⟨w4.heap.size, 0, none⟩) 1 1 [.float .f64 q.z] rfl (lit_sl (by simp) rfl (by decide)) (lit_one [q.z]) (by unfold maxLen; omega) (by omega) (by have := P4.out.sz; simp at this ⊢; omega) ?_; intro A5 k5 w5 hown5 hgrow5 hat5
                   have M5 := Lib.hid (P4.out.mid hgrow5)
                   obtain ⟨x05, x15, x25, x35, y05, y15, y25, y35, xl5⟩ := cells4 M5.out.1
                   obtain ⟨z05, z15, z25, z35, z45, -, -, -, -, -, zl5⟩ := cells5 M5.out.2.1
                   have P5 := Lib.hid (P4.out.next hgrow5 hown5 hat5)
                   clear x04 x14 x24 x34 y04 y14 y24 y34 xl4 z04 z14 z24 z34 z44 zl4; clear hown5 hgrow5 hat5)
      refine (isM_calls (show 1 < 4 by decide) _).mono ?_
      rintro e w9 ⟨rfl, h9⟩
      subst h9
      go_wp2_with fail
      go_roundg (p - (i + 1))
      case measure => have := HI.out; omega
      case rel =>
        have hP := P5.out
        have hl : (i + 1) * 3 ≤ ns.length := by rw [← HPN.out]; exact Nat.mul_le_mul_right _ hlt
        refine ⟨i + 1, A5, k5, by omega, by go_num, ?_, ?_, ?_, hP.below, hP.sz⟩
        · rw [show (i + 1) * 3 = i * 3 + 2 + 1 by omega]; exact hP.blk
        · have h1 := hP.own
          have h2 : ns.take ((i + 1) * 3) = ns.take (i * 3) ++ emit 1 q := by have h3 := take_emit (d := 1) (by decide) hl; rw [← HQ.out] at h3; exact h3
          rw [h2, show (i + 1) * 3 = i * 3 + 2 + 1 by omega, show emit 1 q = [q.x, q.y, q.z] from rfl, FL_app]
          simpa [FL] using h1
        · rw [show (i + 1) * 3 = i * 3 + 2 + 1 by omega]; exact own_capA hP.own
    · obtain rfl : i = p := by omega
      have hltI : (i : Int) ≤ (i : Int) := Int.le_refl _
      obtain ⟨q0, q1, q2, q3, -, -, -, -, ql⟩ := cells4 HG2.out
      obtain ⟨r0, r1, r2, r3, p0, p1, p2, p3, rl⟩ := cells4 (HD1.out.below HB2.out HD1.out.lt)
      obtain ⟨s0, s1, -, -, sl⟩ := cells2 HBS2.out
      go_wp2_with fail
      have hx1 : w.heap.size ≤ w.heap.size + 1 := by omega
      have hbw := HBL1.out.trans (HB2.out.mono HBL1.out.size)
      refine bodyPost_ret (v := .agg #[.int .i64 2, .int .i64 1, .slice A0 (i * 3) k0, .slice none 0 0]) ?_ rfl ⟨.mk 2 1 A0 k0 ns none 0 [], by rw [IG.enc, ← HPN.out]; rfl, ?_, rfl, (((hbw.setCell hx1 _).setCell hx1 _).setCell hx1 _).setCell hx1 _⟩
      · simp [results, Tryz.results137, go_sem, r0, r1, r2, r3, rl]
      · have hlt1 := HD1.out.lt
        rw [IG.In]
        refine ⟨⟨by decide, by decide⟩, ⟨HBIG.out, by simp⟩, ⟨by rw [← HPN.out]; exact HK.out, by simp⟩, ?_, ⟨by simp [Sl], fun h => absurd h (by simp)⟩, trivial⟩
        have hO := HO2.out
        rw [List.take_of_length_le (show ns.length ≤ i * 3 by rw [HPN.out]; exact Nat.le_refl _)] at hO
        have h4 : SlS (fun a => base ≤ a) w2 A0 ns.length 1 (FL ns) := ⟨by rw [← HPN.out]; exact Sl.of_own hO, fun _ a ha => (hO.lt a.block (by rw [ha]; rfl)).1⟩
        have hno : ¬ (fun a => base ≤ a) (w.heap.size + 1) := fun h => by have h : base ≤ w.heap.size + 1 := h; omega
        refine SlS.less (h4.keep ((((Keeps.set (p := ⟨w.heap.size + 1, 0, none⟩) hno _).trans (.set (p := ⟨w.heap.size + 1, 1, none⟩) hno _)).trans (.set (p := ⟨w.heap.size + 1, 2, none⟩) hno _)).trans (.set (p := ⟨w.heap.size + 1, 3, none⟩) hno _))) (fun a ha => ?_)
        have h5 : base ≤ a := ha
        show w.heap.size ≤ a
        omega

set_option maxHeartbeats 16000000 in
set_option maxRecDepth 100000 in
theorem plainSeq2 (A : Option Addr) (c : Nat) (ns : List Nat) (S : Nat → Prop) (w : World) (h : (MG.ln 2 A c ns).In S w) :
    Calls Tryz.prog 137 #[.agg #[.int .u8 2, .slice A ns.length c]] w (IPost w (.mk 2 2 ns [])) := by
  obtain ⟨hlen, hbig⟩ := MG.ln_len h
  have hwf : (Lit.int .i64 (2 : Int)).wf = true := by decide
  rw [MG.In] at h
  obtain ⟨-, hmod, hp4, hA, hAS⟩ := h
  obtain ⟨i0, hi, hz0, hz1, hz2⟩ := info_parts infoF
  obtain ⟨p, hp⟩ : ∃ p, p = ns.length / wd 2 := ⟨_, rfl⟩
  have hpn : p * 3 = ns.length := by rw [hp]; exact hlen.symm
  rw [← hp] at hp4
  have hLEN := length_calls A ns.length c 2 (by decide) hbig
  rw [← hp] at hLEN
  have hLEN := Lib.hid hLEN
  have hGET := Lib.hid (fun (i : Nat) (w' : World) (hi : i < p) (hA : Sl w' w'.heap.size A ns.length 1 (FL ns)) => get_calls (c := c) (show 2 < 4 by decide) hA hbig (show (i + 1) * 3 ≤ ns.length by rw [← hpn]; exact Nat.mul_le_mul_right _ hi))
  obtain ⟨wA, hwA⟩ : ∃ wA, wA = (w.alloc (.cells #[.int .u8 2, .slice A ns.length c] 81)).alloc (.cells #[.int .i64 0, .int .i64 0, .slice none 0 0, .slice none 0 0] 25) := ⟨_, rfl⟩
  have hbl : Below w.heap.size w wA := by rw [hwA]; exact ((Below.refl _ _).alloc (Nat.le_refl _) _).alloc (by simp) _
  have hB : Blk wA w.heap.size 81 #[.int .u8 2, .slice A ns.length c] := by rw [hwA]; exact (Blk.new _ _ _).alloc _
  have hD : Blk wA (w.heap.size + 1) 25 #[.int .i64 0, .int .i64 0, .slice none 0 0, .slice none 0 0] := by
    rw [hwA]
    have := Blk.new (w.alloc (.cells #[.int .u8 2, .slice A ns.length c] 81)) 25 #[.int .i64 0, .int .i64 0, .slice none 0 0, .slice none 0 0]
    simpa using this
  have HWF := Lib.hid hwf
  have HA := Lib.hid (hA.up hbl)
  have HB := Lib.hid hB
  have HD := Lib.hid hD
  have HBL := Lib.hid hbl
  have HWA := Lib.hid hwA
  have HPN := Lib.hid hpn
  have HBIG := Lib.hid hbig
  have hp4' : p ≤ 4398046511104 := by unfold big at hp4; omega
  clear hA hlen hmod hp hpn hwA hB hD hbl hp4 hbig hwf
  go_enter Tryz.func137, Tryz.ntmps137
  go_wp2_with fail
  rw [← HWA.out]
  refine (seqType _ _ _).mono ?_
  rintro e w1 ⟨rfl, hb1⟩
  have HB1 := Lib.hid (HB.out.below hb1 HB.out.lt)
  have HD1 := Lib.hid (HD.out.below hb1 HD.out.lt)
  have HBL1 := Lib.hid (HBL.out.trans (hb1.mono HBL.out.size))
  have HA1 := Lib.hid (HA.out.up hb1)
  clear hb1 HB HD HBL HWA HA
  obtain ⟨wL, hwL⟩ : ∃ wL, wL = w1.alloc (.cells #[.int .i64 2, .int .i64 2, .slice none 0 0, .slice none 0 0] 25) := ⟨_, rfl⟩
  have hG : Blk wL w1.heap.size 25 #[.int .i64 2, .int .i64 2, .slice none 0 0, .slice none 0 0] := by rw [hwL]; exact Blk.new _ _ _
  have hbL : Below w1.heap.size w1 wL := by rw [hwL]; exact (Below.refl _ _).alloc (Nat.le_refl _) _
  obtain ⟨base, hbase⟩ : ∃ base, base = wL.heap.size := ⟨_, rfl⟩
  have hszL : w1.heap.size + 1 = base := by rw [hbase, hwL]; simp
  have HWL := Lib.hid hwL
  have HG := Lib.hid hG
  have HBL2 := Lib.hid hbL
  have HBA := Lib.hid hbase
  clear hwL hG hbL hbase
  go_wp2_with fail
  rw [← HWL.out]
  go_loopg [4] p (fun q ci wr => ∃ (i : Nat) (A1 : Option Addr) (k1 : Nat), i + q = p ∧ ci = .int .i64 (i : Nat) ∧ Blk wr w1.heap.size 25 #[.int .i64 2, .int .i64 2, .slice A1 (i * 3) k1, .slice none 0 0] ∧
      wr.ownsRow base 31 1 (.slice A1 (i * 3) k1) (i * 3) (FL (ns.take (i * 3))) ∧ i * 3 ≤ k1 ∧ Below w1.heap.size w1 wr ∧ base ≤ wr.heap.size)
  case atStart => exact ⟨0, none, 0, by omega, by go_num, by rw [Nat.zero_mul]; exact HG.out, by rw [Nat.zero_mul]; exact World.ownsRow_nil _ _ _ _, by omega, HBL2.out, by rw [HBA.out]; exact Nat.le_refl _⟩
  case round =>
    obtain ⟨i, A0, k0, hi', rfl, hg, ho, hk0, hb, hsz⟩ := hrel
    have HI := Lib.hid hi'
    have HG' := Lib.hid hg
    have HO := Lib.hid ho
    have HK := Lib.hid hk0
    have HB' := Lib.hid hb
    have HS := Lib.hid hsz
    have hin : i ≤ p := by omega
    obtain ⟨s0, s1, -, -, sl⟩ := cells2 (HB1.out.below hb HB1.out.lt)
    clear hi' hg ho hb hsz hk0
    go_wp2_with fail
    refine (hLEN.out _).mono ?_
    rintro e w2 ⟨rfl, hb2⟩
    have HG2 := Lib.hid (HG'.out.below hb2 HG'.out.lt)
    have HO2 := Lib.hid (HO.out.kept (grown_below (row := none) hb2) (own_row _))
    have HB2 := Lib.hid (HB'.out.trans (hb2.mono HB'.out.size))
    have HS2 := Lib.hid (Nat.le_trans HS.out hb2.size)
    have HBS2 := Lib.hid (HB1.out.below HB2.out HB1.out.lt)
    clear hb2 s0 s1 sl
    by_cases hlt : i < p
    · obtain ⟨s0, s1, -, -, sl⟩ := cells2 HBS2.out
      have hltI : (i : Int) < (p : Int) := by omega
      have HGET := Lib.hid (hGET.out i w2 hlt (HA1.out.up HB2.out))
      obtain ⟨q, hq⟩ : ∃ q, q = plAt 2 ns i := ⟨_, rfl⟩
      rw [← hq] at HGET
      have HQ := Lib.hid hq
      clear hq
      go_wp2_with fail
      refine HGET.out.mono ?_
      rintro e w3 ⟨rfl, hb3⟩
      obtain ⟨wC, hwC⟩ : ∃ wC, wC = w3.alloc (.cells #[.float .f64 q.x, .float .f64 q.y, .float .f64 q.z, .float .f64 q.m, .int .u8 2] 75) := ⟨_, rfl⟩
      have hs3 := hb3.size
      have P0 := Lib.hid (show PS w1 w1.heap.size w3.heap.size base 2 2 q (w3.alloc (.cells #[.float .f64 q.x, .float .f64 q.y, .float .f64 q.z, .float .f64 q.m, .int .u8 2] 75)) (.slice A0 (i * 3) k0) (i * 3) (FL (ns.take (i * 3))) from
        ⟨(HG2.out.below hb3 HG2.out.lt).alloc _, (HO2.out.kept (grown_below (row := none) hb3) (own_row _)).alloc _, Blk.new _ _ _, (HB2.out.trans (hb3.mono HB2.out.size)).alloc (HB2.out.trans (hb3.mono HB2.out.size)).size _, by have := HS2.out; simp; omega, by omega, by have := HS2.out; omega, fun h => by have := ((HO2.out.kept (grown_below (row := none) hb3) (own_row _)).lt _ h).2; omega⟩)
      obtain ⟨x0, x1, x2, x3, y0, y1, y2, y3, xl⟩ := cells4 (HG2.out.below hb3 HG2.out.lt)
      have hne1 : w1.heap.size ≠ w3.heap.size := by have := HS2.out; omega
      have hne2 : w3.heap.size ≠ w1.heap.size := by omega
      clear hb3 s0 s1 sl
      go_wp2_with (at_builtin; refine wpList_append_sl _ rfl (.tmp 20) (.tmp 27) 22 rfl base 31 i0 _ 1 8 Tryz.underlying22 hi hz0 hz1 hz2 rfl (by decide) _ (i * 3) _ rfl (P0.out.own.alloc _) (w3.heap.size + 1 + 1) (some ⟨w3.heap.size + 1, 0, none⟩) 2 2 [.float .f64 q.x, .float .f64 q.y] rfl (lit_sl (by simp) rfl (by decide)) (lit_one [q.x, q.y]) (by unfold maxLen; omega) (by omega) (by have := P0.out.sz; simp at this ⊢; omega) ?_; intro A4 k4 w4 hown4 hgrow4 hat4
                   have M4 := Lib.hid (P0.out.mid hgrow4)
                   obtain ⟨x04, x14, x24, x34, y04, y14, y24, y34, xl4⟩ := cells4 M4.out.1
                   obtain ⟨z04, z14, z24, z34, z44, -, -, -, -, -, zl4⟩ := cells5 M4.out.2.1
                   have P4 := Lib.hid (P0.out.next hgrow4 hown4 hat4)
                   clear x0 x1 x2 x3 y0 y1 y2 y3 xl; clear hown4 hgrow4 hat4)
      refine (is3_calls (show 2 < 4 by decide) _).mono ?_
      rintro e w9 ⟨rfl, h9⟩
      subst h9
      go_wp2_with fail
      refine (isM_calls (show 2 < 4 by decide) _).mono ?_
      rintro e w9 ⟨rfl, h9⟩
      subst h9
      go_wp2_with (at_builtin; refine wpList_append_sl _ rfl (.tmp 44) (.tmp 47) 22 rfl base 31 i0 _ 1 8 Tryz.underlying22 hi hz0 hz1 hz2 rfl (by decide) _ (i * 3 + 2) _ rfl (P4.out.own.alloc _) (w4.heap.size + 1) (some ⟨w4.heap.size, 0, none⟩) 1 1 [.float .f64 q.m] rfl (lit_sl (by simp) rfl (by decide)) (lit_one [q.m]) (by unfold maxLen; omega) (by omega) (by have := P4.out.sz; simp at this ⊢; omega) ?_; intro A6 k6 w6 hown6 hgrow6 hat6
                   have M6 := Lib.hid (P4.out.mid hgrow6)
                   obtain ⟨x06, x16, x26, x36, y06, y16, y26, y36, xl6⟩ := cells4 M6.out.1
                   obtain ⟨z06, z16, z26, z36, z46, -, -, -, -, -, zl6⟩ := cells5 M6.out.2.1
                   have P6 := Lib.hid (P4.out.next hgrow6 hown6 hat6)
                   clear x04 x14 x24 x34 y04 y14 y24 y34 xl4 z04 z14 z24 z34 z44 zl4; clear hown6 hgrow6 hat6)
      go_roundg (p - (i + 1))
      case measure => have := HI.out; omega
      case rel =>
        have hP := P6.out
        have hl : (i + 1) * 3 ≤ ns.length := by rw [← HPN.out]; exact Nat.mul_le_mul_right _ hlt
        refine ⟨i + 1, A6, k6, by omega, by go_num, ?_, ?_, ?_, hP.below, hP.sz⟩
        · rw [show (i + 1) * 3 = i * 3 + 2 + 1 by omega]; exact hP.blk
        · have h1 := hP.own
          have h2 : ns.take ((i + 1) * 3) = ns.take (i * 3) ++ emit 2 q := by have h3 := take_emit (d := 2) (by decide) hl; rw [← HQ.out] at h3; exact h3
          rw [h2, show (i + 1) * 3 = i * 3 + 2 + 1 by omega, show emit 2 q = [q.x, q.y, q.m] from rfl, FL_app]
          simpa [FL] using h1
        · rw [show (i + 1) * 3 = i * 3 + 2 + 1 by omega]; exact own_capA hP.own
    · obtain rfl : i = p := by omega
      have hltI : (i : Int) ≤ (i : Int) := Int.le_refl _
      obtain ⟨q0, q1, q2, q3, -, -, -, -, ql⟩ := cells4 HG2.out
      obtain ⟨r0, r1, r2, r3, p0, p1, p2, p3, rl⟩ := cells4 (HD1.out.below HB2.out HD1.out.lt)
      obtain ⟨s0, s1, -, -, sl⟩ := cells2 HBS2.out
      go_wp2_with fail
      have hx1 : w.heap.size ≤ w.heap.size + 1 := by omega
      have hbw := HBL1.out.trans (HB2.out.mono HBL1.out.size)
      refine bodyPost_ret (v := .agg #[.int .i64 2, .int .i64 2, .slice A0 (i * 3) k0, .slice none 0 0]) ?_ rfl ⟨.mk 2 2 A0 k0 ns none 0 [], by rw [IG.enc, ← HPN.out]; rfl, ?_, rfl, (((hbw.setCell hx1 _).setCell hx1 _).setCell hx1 _).setCell hx1 _⟩
      · simp [results, Tryz.results137, go_sem, r0, r1, r2, r3, rl]
      · have hlt1 := HD1.out.lt
        rw [IG.In]
        refine ⟨⟨by decide, by decide⟩, ⟨HBIG.out, by simp⟩, ⟨by rw [← HPN.out]; exact HK.out, by simp⟩, ?_, ⟨by simp [Sl], fun h => absurd h (by simp)⟩, trivial⟩
        have hO := HO2.out
        rw [List.take_of_length_le (show ns.length ≤ i * 3 by rw [HPN.out]; exact Nat.le_refl _)] at hO
        have h4 : SlS (fun a => base ≤ a) w2 A0 ns.length 1 (FL ns) := ⟨by rw [← HPN.out]; exact Sl.of_own hO, fun _ a ha => (hO.lt a.block (by rw [ha]; rfl)).1⟩
        have hno : ¬ (fun a => base ≤ a) (w.heap.size + 1) := fun h => by have h : base ≤ w.heap.size + 1 := h; omega
        refine SlS.less (h4.keep ((((Keeps.set (p := ⟨w.heap.size + 1, 0, none⟩) hno _).trans (.set (p := ⟨w.heap.size + 1, 1, none⟩) hno _)).trans (.set (p := ⟨w.heap.size + 1, 2, none⟩) hno _)).trans (.set (p := ⟨w.heap.size + 1, 3, none⟩) hno _))) (fun a ha => ?_)
        have h5 : base ≤ a := ha
        show w.heap.size ≤ a
        omega

set_option maxHeartbeats 16000000 in
set_option maxRecDepth 100000 in
theorem plainSeq3 (A : Option Addr) (c : Nat) (ns : List Nat) (S : Nat → Prop) (w : World) (h : (MG.ln 3 A c ns).In S w) :
    Calls Tryz.prog 137 #[.agg #[.int .u8 3, .slice A ns.length c]] w (IPost w (.mk 2 3 ns [])) := by
  obtain ⟨hlen, hbig⟩ := MG.ln_len h
  have hwf : (Lit.int .i64 (3 : Int)).wf = true := by decide
  rw [MG.In] at h
  obtain ⟨-, hmod, hp4, hA, hAS⟩ := h
  obtain ⟨i0, hi, hz0, hz1, hz2⟩ := info_parts infoF
  obtain ⟨p, hp⟩ : ∃ p, p = ns.length / wd 3 := ⟨_, rfl⟩
  have hpn : p * 4 = ns.length := by rw [hp]; exact hlen.symm
  rw [← hp] at hp4
  have hLEN := length_calls A ns.length c 3 (by decide) hbig
  rw [← hp] at hLEN
  have hLEN := Lib.hid hLEN
  have hGET := Lib.hid (fun (i : Nat) (w' : World) (hi : i < p) (hA : Sl w' w'.heap.size A ns.length 1 (FL ns)) => get_calls (c := c) (show 3 < 4 by decide) hA hbig (show (i + 1) * 4 ≤ ns.length by rw [← hpn]; exact Nat.mul_le_mul_right _ hi))
  obtain ⟨wA, hwA⟩ : ∃ wA, wA = (w.alloc (.cells #[.int .u8 3, .slice A ns.length c] 81)).alloc (.cells #[.int .i64 0, .int .i64 0, .slice none 0 0, .slice none 0 0] 25) := ⟨_, rfl⟩
  have hbl : Below w.heap.size w wA := by rw [hwA]; exact ((Below.refl _ _).alloc (Nat.le_refl _) _).alloc (by simp) _
  have hB : Blk wA w.heap.size 81 #[.int .u8 3, .slice A ns.length c] := by rw [hwA]; exact (Blk.new _ _ _).alloc _
  have hD : Blk wA (w.heap.size + 1) 25 #[.int .i64 0, .int .i64 0, .slice none 0 0, .slice none 0 0] := by
    rw [hwA]
    have := Blk.new (w.alloc (.cells #[.int .u8 3, .slice A ns.length c] 81)) 25 #[.int .i64 0, .int .i64 0, .slice none 0 0, .slice none 0 0]
    simpa using this
  have HWF := Lib.hid hwf
  have HA := Lib.hid (hA.up hbl)
  have HB := Lib.hid hB
  have HD := Lib.hid hD
  have HBL := Lib.hid hbl
  have HWA := Lib.hid hwA
  have HPN := Lib.hid hpn
  have HBIG := Lib.hid hbig
  have hp4' : p ≤ 4398046511104 := by unfold big at hp4; omega
  clear hA hlen hmod hp hpn hwA hB hD hbl hp4 hbig hwf
  go_enter Tryz.func137, Tryz.ntmps137
  go_wp2_with fail
  rw [← HWA.out]
  refine (seqType _ _ _).mono ?_
  rintro e w1 ⟨rfl, hb1⟩
  have HB1 := Lib.hid (HB.out.below hb1 HB.out.lt)
  have HD1 := Lib.hid (HD.out.below hb1 HD.out.lt)
  have HBL1 := Lib.hid (HBL.out.trans (hb1.mono HBL.out.size))
  have HA1 := Lib.hid (HA.out.up hb1)
  clear hb1 HB HD HBL HWA HA
  obtain ⟨wL, hwL⟩ : ∃ wL, wL = w1.alloc (.cells #[.int .i64 2, .int .i64 3, .slice none 0 0, .slice none 0 0] 25) := ⟨_, rfl⟩
  have hG : Blk wL w1.heap.size 25 #[.int .i64 2, .int .i64 3, .slice none 0 0, .slice none 0 0] := by rw [hwL]; exact Blk.new _ _ _
  have hbL : Below w1.heap.size w1 wL := by rw [hwL]; exact (Below.refl _ _).alloc (Nat.le_refl _) _
  obtain ⟨base, hbase⟩ : ∃ base, base = wL.heap.size := ⟨_, rfl⟩
  have hszL : w1.heap.size + 1 = base := by rw [hbase, hwL]; simp
  have HWL := Lib.hid hwL
  have HG := Lib.hid hG
  have HBL2 := Lib.hid hbL
  have HBA := Lib.hid hbase
  clear hwL hG hbL hbase
  go_wp2_with fail
  rw [← HWL.out]
  go_loopg [4] p (fun q ci wr => ∃ (i : Nat) (A1 : Option Addr) (k1 : Nat), i + q = p ∧ ci = .int .i64 (i : Nat) ∧ Blk wr w1.heap.size 25 #[.int .i64 2, .int .i64 3, .slice A1 (i * 4) k1, .slice none 0 0] ∧
      wr.ownsRow base 31 1 (.slice A1 (i * 4) k1) (i * 4) (FL (ns.take (i * 4))) ∧ i * 4 ≤ k1 ∧ Below w1.heap.size w1 wr ∧ base ≤ wr.heap.size)
  case atStart => exact ⟨0, none, 0, by omega, by go_num, by rw [Nat.zero_mul]; exact HG.out, by rw [Nat.zero_mul]; exact World.ownsRow_nil _ _ _ _, by omega, HBL2.out, by rw [HBA.out]; exact Nat.le_refl _⟩
  case round =>
    obtain ⟨i, A0, k0, hi', rfl, hg, ho, hk0, hb, hsz⟩ := hrel
    have HI := Lib.hid hi'
    have HG' := Lib.hid hg
    have HO := Lib.hid ho
    have HK := Lib.hid hk0
    have HB' := Lib.hid hb
    have HS := Lib.hid hsz
    have hin : i ≤ p := by omega
    obtain ⟨s0, s1, -, -, sl⟩ := cells2 (HB1.out.below hb HB1.out.lt)
    clear hi' hg ho hb hsz hk0
    go_wp2_with fail
    refine (hLEN.out _).mono ?_
    rintro e w2 ⟨rfl, hb2⟩
    have HG2 := Lib.hid (HG'.out.below hb2 HG'.out.lt)
    have HO2 := Lib.hid (HO.out.kept (grown_below (row := none) hb2) (own_row _))
    have HB2 := Lib.hid (HB'.out.trans (hb2.mono HB'.out.size))
    have HS2 := Lib.hid (Nat.le_trans HS.out hb2.size)
    have HBS2 := Lib.hid (HB1.out.below HB2.out HB1.out.lt)
    clear hb2 s0 s1 sl
    by_cases hlt : i < p
    · obtain ⟨s0, s1, -, -, sl⟩ := cells2 HBS2.out
      have hltI : (i : Int) < (p : Int) := by omega
      have HGET := Lib.hid (hGET.out i w2 hlt (HA1.out.up HB2.out))
      obtain ⟨q, hq⟩ : ∃ q, q = plAt 3 ns i := ⟨_, rfl⟩
      rw [← hq] at HGET
      have HQ := Lib.hid hq
      clear hq
      go_wp2_with fail
      refine HGET.out.mono ?_
      rintro e w3 ⟨rfl, hb3⟩
      obtain ⟨wC, hwC⟩ : ∃ wC, wC = w3.alloc (.cells #[.float .f64 q.x, .float .f64 q.y, .float .f64 q.z, .float .f64 q.m, .int .u8 3] 75) := ⟨_, rfl⟩
      have hs3 := hb3.size
      have P0 := Lib.hid (show PS w1 w1.heap.size w3.heap.size base 2 3 q (w3.alloc (.cells #[.float .f64 q.x, .float .f64 q.y, .float .f64 q.z, .float .f64 q.m, .int .u8 3] 75)) (.slice A0 (i * 4) k0) (i * 4) (FL (ns.take (i * 4))) from
        ⟨(HG2.out.below hb3 HG2.out.lt).alloc _, (HO2.out.kept (grown_below (row := none) hb3) (own_row _)).alloc _, Blk.new _ _ _, (HB2.out.trans (hb3.mono HB2.out.size)).alloc (HB2.out.trans (hb3.mono HB2.out.size)).size _, by have := HS2.out; simp; omega, by omega, by have := HS2.out; omega, fun h => by have := ((HO2.out.kept (grown_below (row := none) hb3) (own_row _)).lt _ h).2; omega⟩)
      obtain ⟨x0, x1, x2, x3, y0, y1, y2, y3, xl⟩ := cells4 (HG2.out.below hb3 HG2.out.lt)
      have hne1 : w1.heap.size ≠ w3.heap.size := by have := HS2.out; omega
      have hne2 : w3.heap.size ≠ w1.heap.size := by omega
      clear hb3 s0 s1 sl
      go_wp2_with (at_builtin; refine wpList_append_sl _ rfl (.tmp 20) (.tmp 27) 22 rfl base 31 i0 _ 1 8 Tryz.underlying22 hi hz0 hz1 hz2 rfl (by decide) _ (i * 4) _ rfl (P0.out.own.alloc _) (w3.heap.size + 1 + 1) (some ⟨w3.heap.size + 1, 0, none⟩) 2 2 [.float .f64 q.x, .float .f64 q.y] rfl (lit_sl (by simp) rfl (by decide)) (lit_one [q.x, q.y]) (by unfold maxLen; omega) (by omega) (by have := P0.out.sz; simp at this ⊢; omega) ?_; intro A4 k4 w4 hown4 hgrow4 hat4
                   have M4 := Lib.hid (P0.out.mid hgrow4)
                   obtain ⟨x04, x14, x24, x34, y04, y14, y24, y34, xl4⟩ := cells4 M4.out.1
                   obtain ⟨z04, z14, z24, z34, z44, -, -, -, -, -, zl4⟩ := cells5 M4.out.2.1
                   have P4 := Lib.hid (P0.out.next hgrow4 hown4 hat4)
                   clear x0 x1 x2 x3 y0 y1 y2 y3 xl; clear hown4 hgrow4 hat4)
      refine (is3_calls (show 3 < 4 by decide) _).mono ?_
      rintro e w9 ⟨rfl, h9⟩
      subst h9
      go_wp2_with (at_builtin; refine wpList_append_sl _ rfl (.tmp 34) (.tmp 37) 22 rfl base 31 i0 _ 1 8 Tryz.underlying22 hi hz0 hz1 hz2 rfl (by decide) _ (i * 4 + 2) _ rfl (P4.out.own.alloc _) (w4.heap.size + 1) (some ⟨w4.heap.size, 0, none⟩) 1 1 [.float .f64 q.z] rfl (lit_sl (by simp) rfl (by decide)) (lit_one [q.z]) (by unfold maxLen; omega) (by omega) (by have := P4.out.sz; simp at this ⊢; omega) ?_; intro A5 k5 w5 hown5 hgrow5 hat5
                   have M5 := Lib.hid (P4.out.mid hgrow5)
                   obtain ⟨x05, x15, x25, x35, y05, y15, y25, y35, xl5⟩ := cells4 M5.out.1
                   obtain ⟨z05, z15, z25, z35, z45, -, -, -, -, -, zl5⟩ := cells5 M5.out.2.1
                   have P5 := Lib.hid (P4.out.next hgrow5 hown5 hat5)
                   clear x04 x14 x24 x34 y04 y14 y24 y34 xl4 z04 z14 z24 z34 z44 zl4; clear hown5 hgrow5 hat5)
      refine (isM_calls (show 3 < 4 by decide) _).mono ?_
      rintro e w9 ⟨rfl, h9⟩
      subst h9
      go_wp2_with (at_builtin; refine wpList_append_sl _ rfl (.tmp 44) (.tmp 47) 22 rfl base 31 i0 _ 1 8 Tryz.underlying22 hi hz0 hz1 hz2 rfl (by decide) _ (i * 4 + 2 + 1) _ rfl (P5.out.own.alloc _) (w5.heap.size + 1) (some ⟨w5.heap.size, 0, none⟩) 1 1 [.float .f64 q.m] rfl (lit_sl (by simp) rfl (by decide)) (lit_one [q.m]) (by unfold maxLen; omega) (by omega) (by have := P5.out.sz; simp at this ⊢; omega) ?_; intro A6 k6 w6 hown6 hgrow6 hat6
                   have M6 := Lib.hid (P5.out.mid hgrow6)
                   obtain ⟨x06, x16, x26, x36, y06, y16, y26, y36, xl6⟩ := cells4 M6.out.1
                   obtain ⟨z06, z16, z26, z36, z46, -, -, -, -, -, zl6⟩ := cells5 M6.out.2.1
                   have P6 := Lib.hid (P5.out.next hgrow6 hown6 hat6)
                   clear x05 x15 x25 x35 y05 y15 y25 y35 xl5 z05 z15 z25 z35 z45 zl5; clear hown6 hgrow6 hat6)
      go_roundg (p - (i + 1))
      case measure => have := HI.out; omega
      case rel =>
        have hP := P6.out
        have hl : (i + 1) * 4 ≤ ns.length := by rw [← HPN.out]; exact Nat.mul_le_mul_right _ hlt
        refine ⟨i + 1, A6, k6, by omega, by go_num, ?_, ?_, ?_, hP.below, hP.sz⟩
        · rw [show (i + 1) * 4 = i * 4 + 2 + 1 + 1 by omega]; exact hP.blk
        · have h1 := hP.own
          have h2 : ns.take ((i + 1) * 4) = ns.take (i * 4) ++ emit 3 q := by have h3 := take_emit (d := 3) (by decide) hl; rw [← HQ.out] at h3; exact h3
          rw [h2, show (i + 1) * 4 = i * 4 + 2 + 1 + 1 by omega, show emit 3 q = [q.x, q.y, q.z, q.m] from rfl, FL_app]
          simpa [FL] using h1
        · rw [show (i + 1) * 4 = i * 4 + 2 + 1 + 1 by omega]; exact own_capA hP.own
    · obtain rfl : i = p := by omega
      have hltI : (i : Int) ≤ (i : Int) := Int.le_refl _
      obtain ⟨q0, q1, q2, q3, -, -, -, -, ql⟩ := cells4 HG2.out
      obtain ⟨r0, r1, r2, r3, p0, p1, p2, p3, rl⟩ := cells4 (HD1.out.below HB2.out HD1.out.lt)
      obtain ⟨s0, s1, -, -, sl⟩ := cells2 HBS2.out
      go_wp2_with fail
      have hx1 : w.heap.size ≤ w.heap.size + 1 := by omega
      have hbw := HBL1.out.trans (HB2.out.mono HBL1.out.size)
      refine bodyPost_ret (v := .agg #[.int .i64 2, .int .i64 3, .slice A0 (i * 4) k0, .slice none 0 0]) ?_ rfl ⟨.mk 2 3 A0 k0 ns none 0 [], by rw [IG.enc, ← HPN.out]; rfl, ?_, rfl, (((hbw.setCell hx1 _).setCell hx1 _).setCell hx1 _).setCell hx1 _⟩
      · simp [results, Tryz.results137, go_sem, r0, r1, r2, r3, rl]
      · have hlt1 := HD1.out.lt
        rw [IG.In]
        refine ⟨⟨by decide, by decide⟩, ⟨HBIG.out, by simp⟩, ⟨by rw [← HPN.out]; exact HK.out, by simp⟩, ?_, ⟨by simp [Sl], fun h => absurd h (by simp)⟩, trivial⟩
        have hO := HO2.out
        rw [List.take_of_length_le (show ns.length ≤ i * 4 by rw [HPN.out]; exact Nat.le_refl _)] at hO
        have h4 : SlS (fun a => base ≤ a) w2 A0 ns.length 1 (FL ns) := ⟨by rw [← HPN.out]; exact Sl.of_own hO, fun _ a ha => (hO.lt a.block (by rw [ha]; rfl)).1⟩
        have hno : ¬ (fun a => base ≤ a) (w.heap.size + 1) := fun h => by have h : base ≤ w.heap.size + 1 := h; omega
        refine SlS.less (h4.keep ((((Keeps.set (p := ⟨w.heap.size + 1, 0, none⟩) hno _).trans (.set (p := ⟨w.heap.size + 1, 1, none⟩) hno _)).trans (.set (p := ⟨w.heap.size + 1, 2, none⟩) hno _)).trans (.set (p := ⟨w.heap.size + 1, 3, none⟩) hno _))) (fun a ha => ?_)
        have h5 : base ≤ a := ha
        show w.heap.size ≤ a
        omega

theorem plainSeq_calls {d : Nat} {A : Option Addr} {c : Nat} {ns : List Nat} {S : Nat → Prop} {w : World} (h : (MG.ln d A c ns).In S w) :
    Calls Tryz.prog 137 #[.agg #[.int .u8 d, .slice A ns.length c]] w (IPost w (.mk 2 d ns [])) := by
  have hd : d < 4 := by rw [MG.In] at h; exact h.1
  obtain rfl | rfl | rfl | rfl := four hd
  · exact plainSeq0 A c ns S w h
  · exact plainSeq1 A c ns S w h
  · exact plainSeq2 A c ns S w h
  · exact plainSeq3 A c ns S w h
/-- The contract of what tells a geometry as plain data. -/
def PlainC (f : FuncId) (g : MG) : Prop := ∀ (S : Nat → Prop) (w : World), g.In S w → Calls Tryz.prog f #[.agg g.enc.toArray] w (IPost w g.plain)
theorem IPost.up {w w0 : World} {p : PG} {e : Ending} {w' : World} (hb : Below w0.heap.size w0 w) (h : IPost w p e w') : IPost w0 p e w' := by
  obtain ⟨g, e1, e2, e3, e4⟩ := h
  exact ⟨g, e1, IG.less (fun a ha => Nat.le_trans hb.size ha) e2, e3, hb.trans (e4.mono hb.size)⟩
theorem IPost.alloc {w : World} {p : PG} {e : Ending} {w' : World} (h : IPost w p e w') (o : Obj) : IPost w p e (w'.alloc o) := by
  obtain ⟨g, e1, e2, e3, e4⟩ := h
  exact ⟨g, e1, IG.up ((Below.refl _ _).alloc (Nat.le_refl _) _) e2, e3, e4.alloc e4.size _⟩
/-- Behind the last store, into a result of one's own. -/
theorem IPost.store {w : World} {p : PG} {g : IG} {w' : World} {R : Nat} (h : g.In (fun a => R < a) w') (hp : g.plain = p) (hb : Below w.heap.size w w') (hR : w.heap.size ≤ R) (u0 u1 u2 u3 : Value) :
    IPost w p (.returned (.agg g.enc.toArray)) ((((w'.setCell ⟨R, 0, none⟩ u0).setCell ⟨R, 1, none⟩ u1).setCell ⟨R, 2, none⟩ u2).setCell ⟨R, 3, none⟩ u3) := by
  have hno : ¬ (fun a => R < a) R := fun h => Nat.lt_irrefl _ h
  exact ⟨g, rfl, IG.less (fun a ha => Nat.le_of_lt (Nat.lt_of_le_of_lt hR ha)) (IG.keep ((((Keeps.set (p := ⟨R, 0, none⟩) hno _).trans (.set (p := ⟨R, 1, none⟩) hno _)).trans (.set (p := ⟨R, 2, none⟩) hno _)).trans (.set (p := ⟨R, 3, none⟩) hno _)) h), hp, (((hb.setCell hR _).setCell hR _).setCell hR _).setCell hR _⟩

set_option maxHeartbeats 16000000 in
theorem plainLineC {d : Nat} {A : Option Addr} {c : Nat} {ns : List Nat} : PlainC 88 (.ln d A c ns) := fun S w h => by
  obtain ⟨wA, hwA⟩ : ∃ wA, wA = (w.alloc (.cells #[.int .u8 d, .slice A ns.length c] 83)).alloc (.cells #[.int .i64 0, .int .i64 0, .slice none 0 0, .slice none 0 0] 25) := ⟨_, rfl⟩
  have hbl : Below w.heap.size w wA := by rw [hwA]; exact ((Below.refl _ _).alloc (Nat.le_refl _) _).alloc (by simp) _
  have hD : Blk wA (w.heap.size + 1) 25 #[.int .i64 0, .int .i64 0, .slice none 0 0, .slice none 0 0] := by
    rw [hwA]
    have := Blk.new (w.alloc (.cells #[.int .u8 d, .slice A ns.length c] 83)) 25 #[.int .i64 0, .int .i64 0, .slice none 0 0, .slice none 0 0]
    simpa using this
  have hB : Blk wA w.heap.size 83 #[.int .u8 d, .slice A ns.length c] := by rw [hwA]; exact (Blk.new _ _ _).alloc _
  have HD := Lib.hid hD
  have HBL := Lib.hid hbl
  have HWA := Lib.hid hwA
  have HH := Lib.hid (fun w' (hb : Below wA.heap.size wA w') => plainSeq_calls (MG.up hb (MG.up hbl h)))
  obtain ⟨b0, b1, -, -, bl⟩ := cells2 hB
  clear hwA hB hD hbl h
  show Calls Tryz.prog 88 #[.agg #[.int .u8 d, .slice A ns.length c]] w _
  go_enter Tryz.func88, Tryz.ntmps88
  go_wp2_with fail
  rw [← HWA.out]
  refine (coords_calls _ _ _ _ _).mono ?_
  rintro e w1 ⟨rfl, hb1⟩
  have HB1 := Lib.hid hb1
  have HD1 := Lib.hid (HD.out.below hb1 HD.out.lt)
  have HH1 := Lib.hid (HH.out w1 hb1)
  clear hb1
  go_wp2_with fail
  refine HH1.out.mono ?_
  rintro e w2 ⟨⟨k2, d2, A2, ca2, ns2, B2, cb2, ks2⟩, rfl, h2, hp2, hb2⟩
  obtain ⟨r0, r1, r2, r3, p0, p1, p2, p3, rl⟩ := cells4 (HD1.out.below hb2 HD1.out.lt)
  have HB2 := Lib.hid (HBL.out.trans ((HB1.out.trans (hb2.mono HB1.out.size)).mono HBL.out.size))
  have H2 := Lib.hid (IG.less (T := fun a => w.heap.size + 1 < a) (fun a ha => Nat.lt_of_lt_of_le HD1.out.lt ha) h2)
  have HP2 := Lib.hid hp2
  rw [show (IG.mk k2 d2 A2 ca2 ns2 B2 cb2 ks2).enc.toArray = #[.int .i64 k2, .int .i64 d2, .slice A2 ns2.length ca2, .slice B2 ks2.length cb2] from rfl]
  clear hb2 h2 hp2
  go_wp2_with fail
  exact bodyPost_ret (v := .agg #[.int .i64 k2, .int .i64 d2, .slice A2 ns2.length ca2, .slice B2 ks2.length cb2]) (by simp [results, Tryz.results88, go_sem, r0, r1, r2, r3, rl]) rfl (IPost.store (g := .mk k2 d2 A2 ca2 ns2 B2 cb2 ks2) H2.out HP2.out HB2.out (Nat.le_add_right _ 1) _ _ _ _)

set_option maxHeartbeats 16000000 in
set_option maxRecDepth 100000 in
theorem ptCoords_calls (x y z m d : Nat) (b : Bool) (w : World) :
    Calls Tryz.prog 134 #[.agg #[.float .f64 x, .float .f64 y, .float .f64 z, .float .f64 m, .int .u8 d, .bool b]] w (Gives w (.tuple #[.agg #[.float .f64 x, .float .f64 y, .float .f64 z, .float .f64 m, .int .u8 d], .bool b])) := by
  obtain ⟨wA, hwA⟩ : ∃ wA, wA = (w.alloc (.cells #[.float .f64 x, .float .f64 y, .float .f64 z, .float .f64 m, .int .u8 d, .bool b] 77)).alloc (.cells #[.float .f64 0, .float .f64 0, .float .f64 0, .float .f64 0, .int .u8 0] 75) := ⟨_, rfl⟩
  have hbl : Below w.heap.size w wA := by rw [hwA]; exact ((Below.refl _ _).alloc (Nat.le_refl _) _).alloc (by simp) _
  have hB : Blk wA w.heap.size 77 #[.float .f64 x, .float .f64 y, .float .f64 z, .float .f64 m, .int .u8 d, .bool b] := by rw [hwA]; exact (Blk.new _ _ _).alloc _
  have hD : Blk wA (w.heap.size + 1) 75 #[.float .f64 0, .float .f64 0, .float .f64 0, .float .f64 0, .int .u8 0] := by
    rw [hwA]
    have := Blk.new (w.alloc (.cells #[.float .f64 x, .float .f64 y, .float .f64 z, .float .f64 m, .int .u8 d, .bool b] 77)) 75 #[.float .f64 0, .float .f64 0, .float .f64 0, .float .f64 0, .int .u8 0]
    simpa using this
  have HBL := Lib.hid hbl
  have HWA := Lib.hid hwA
  obtain ⟨b0, b1, b2, b3, b4, b5, -, -, -, -, -, -, bl⟩ := cells6 hB
  obtain ⟨r0, r1, r2, r3, r4, p0, p1, p2, p3, p4, rl⟩ := cells5 hD
  clear hwA hB hD hbl
  go_enter Tryz.func134, Tryz.ntmps134
  go_wp2_with fail
  rw [← HWA.out]
  go_region
  all_goals
    go_wp2_with fail
    exact bodyPost_ret (v := .tuple #[.agg #[.float .f64 x, .float .f64 y, .float .f64 z, .float .f64 m, .int .u8 d], .bool b]) (by simp [results, Tryz.results134, go_sem, r0, r1, r2, r3, r4, rl]) rfl ⟨rfl, (set5 HBL.out (Nat.le_add_right _ 1) _ _ _ _ _).drew⟩

set_option maxHeartbeats 16000000 in
set_option maxRecDepth 100000 in
theorem plainPt0 (q : Pl) (w : World) :
    Calls Tryz.prog 86 #[.agg #[.float .f64 q.x, .float .f64 q.y, .float .f64 q.z, .float .f64 q.m, .int .u8 0, .bool true]] w (IPost w (.mk 1 0 (emit 0 q) [])) := by
  obtain ⟨i0, hi, hz0, hz1, hz2⟩ := info_parts infoF
  obtain ⟨wA, hwA⟩ : ∃ wA, wA = (w.alloc (.cells #[.float .f64 q.x, .float .f64 q.y, .float .f64 q.z, .float .f64 q.m, .int .u8 0, .bool true] 77)).alloc (.cells #[.int .i64 0, .int .i64 0, .slice none 0 0, .slice none 0 0] 25) := ⟨_, rfl⟩
  have hbl : Below w.heap.size w wA := by rw [hwA]; exact ((Below.refl _ _).alloc (Nat.le_refl _) _).alloc (by simp) _
  have hB : Blk wA w.heap.size 77 #[.float .f64 q.x, .float .f64 q.y, .float .f64 q.z, .float .f64 q.m, .int .u8 0, .bool true] := by rw [hwA]; exact (Blk.new _ _ _).alloc _
  have hD : Blk wA (w.heap.size + 1) 25 #[.int .i64 0, .int .i64 0, .slice none 0 0, .slice none 0 0] := by
    rw [hwA]
    have := Blk.new (w.alloc (.cells #[.float .f64 q.x, .float .f64 q.y, .float .f64 q.z, .float .f64 q.m, .int .u8 0, .bool true] 77)) 25 #[.int .i64 0, .int .i64 0, .slice none 0 0, .slice none 0 0]
    simpa using this
  have HB := Lib.hid hB
  have HD := Lib.hid hD
  have HBL := Lib.hid hbl
  have HWA := Lib.hid hwA
  clear hwA hB hD hbl
  go_enter Tryz.func86, Tryz.ntmps86
  go_wp2_with fail
  rw [← HWA.out]
  refine (ctype1 _ _ _ _ _ _ _).mono ?_
  rintro e w1 ⟨rfl, hb1⟩
  have HB1 := Lib.hid (HB.out.below hb1 HB.out.lt)
  have HD1 := Lib.hid (HD.out.below hb1 HD.out.lt)
  have HBL1 := Lib.hid (HBL.out.trans (hb1.mono HBL.out.size))
  clear hb1 HB HD HBL HWA
  obtain ⟨wL, hwL⟩ : ∃ wL, wL = w1.alloc (.cells #[.int .i64 1, .int .i64 0, .slice none 0 0, .slice none 0 0] 25) := ⟨_, rfl⟩
  have hG : Blk wL w1.heap.size 25 #[.int .i64 1, .int .i64 0, .slice none 0 0, .slice none 0 0] := by rw [hwL]; exact Blk.new _ _ _
  have hbL : Below w1.heap.size w1 wL := by rw [hwL]; exact (Below.refl _ _).alloc (Nat.le_refl _) _
  have HWL := Lib.hid hwL
  have HG := Lib.hid hG
  have HBL2 := Lib.hid hbL
  obtain ⟨b0, b1, b2, b3, b4, b5, -, -, -, -, -, -, bl⟩ := cells6 HB1.out
  clear hwL hG hbL
  go_wp2_with fail
  rw [← HWL.out]
  refine (ptCoords_calls _ _ _ _ _ _ _).mono ?_
  rintro e w3 ⟨rfl, hb3⟩
  obtain ⟨base, hbase⟩ : ∃ base, base = w3.heap.size + 1 := ⟨_, rfl⟩
  have hs3 := hb3.size
  have hgw := HG.out.lt
  have P0 := Lib.hid (show PS w1 w1.heap.size w3.heap.size base 1 0 q (w3.alloc (.cells #[.float .f64 q.x, .float .f64 q.y, .float .f64 q.z, .float .f64 q.m, .int .u8 0] 75)) (.slice none 0 0) 0 [] from
    ⟨(HG.out.below hb3 HG.out.lt).alloc _, World.ownsRow_nil _ _ _ _, Blk.new _ _ _, (HBL2.out.trans (hb3.mono HBL2.out.size)).alloc (HBL2.out.trans (hb3.mono HBL2.out.size)).size _, by rw [hbase]; simp, by omega, by omega, fun h => by cases h⟩)
  obtain ⟨x0, x1, x2, x3, y0, y1, y2, y3, xl⟩ := cells4 (HG.out.below hb3 HG.out.lt)
  have hne1 : w1.heap.size ≠ w3.heap.size := by omega
  have hne2 : w3.heap.size ≠ w1.heap.size := by omega
  have hne3 : w.heap.size + 1 ≠ w1.heap.size := by have := HD1.out.lt; omega
  have hne4 : w1.heap.size ≠ w.heap.size + 1 := by omega
  have HBS := Lib.hid hbase
  clear hb3 b0 b1 b2 b3 b4 b5 bl hbase
  go_wp2_with (at_builtin; refine wpList_append_sl _ rfl (.tmp 19) (.tmp 26) 22 rfl base 31 i0 _ 1 8 Tryz.underlying22 hi hz0 hz1 hz2 rfl (by decide) _ (0) _ rfl (P0.out.own.alloc _) (w3.heap.size + 1 + 1) (some ⟨w3.heap.size + 1, 0, none⟩) 2 2 [.float .f64 q.x, .float .f64 q.y] rfl (lit_sl (by simp) rfl (by decide)) (lit_one [q.x, q.y]) (by unfold maxLen; omega) (by omega) (by have := P0.out.sz; simp at this ⊢; omega) ?_; intro A4 k4 w4 hown4 hgrow4 hat4
               have M4 := Lib.hid (P0.out.mid hgrow4)
               obtain ⟨x04, x14, x24, x34, y04, y14, y24, y34, xl4⟩ := cells4 M4.out.1
               obtain ⟨z04, z14, z24, z34, z44, -, -, -, -, -, zl4⟩ := cells5 M4.out.2.1
               have P4 := Lib.hid (P0.out.next hgrow4 hown4 hat4)
               clear x0 x1 x2 x3 y0 y1 y2 y3 xl; obtain ⟨r04, r14, r24, r34, p04, p14, p24, p34, rl4⟩ := cells4 (HD1.out.below M4.out.2.2 HD1.out.lt); clear hown4 hgrow4 hat4)
  refine (is3_calls (show 0 < 4 by decide) _).mono ?_
  rintro e w9 ⟨rfl, h9⟩
  subst h9
  go_wp2_with fail
  refine (isM_calls (show 0 < 4 by decide) _).mono ?_
  rintro e w9 ⟨rfl, h9⟩
  subst h9
  go_wp2_with fail
  exact bodyPost_ret (v := .agg #[.int .i64 1, .int .i64 0, .slice A4 (0 + 2) k4, .slice none 0 0]) (by simp [results, Tryz.results86, go_sem, r04, r14, r24, r34, rl4]) rfl (P4.out.fin (fs := emit 0 q) rfl (by decide) (by decide) (by decide) HBL1.out (Nat.le_add_right _ 1) HD1.out.lt _ _ _ _)

set_option maxHeartbeats 16000000 in
set_option maxRecDepth 100000 in
theorem plainPt1 (q : Pl) (w : World) :
    Calls Tryz.prog 86 #[.agg #[.float .f64 q.x, .float .f64 q.y, .float .f64 q.z, .float .f64 q.m, .int .u8 1, .bool true]] w (IPost w (.mk 1 1 (emit 1 q) [])) := by
  obtain ⟨i0, hi, hz0, hz1, hz2⟩ := info_parts infoF
  obtain ⟨wA, hwA⟩ : ∃ wA, wA = (w.alloc (.cells #[.float .f64 q.x, .float .f64 q.y, .float .f64 q.z, .float .f64 q.m, .int .u8 1, .bool true] 77)).alloc (.cells #[.int .i64 0, .int .i64 0, .slice none 0 0, .slice none 0 0] 25) := ⟨_, rfl⟩
  have hbl : Below w.heap.size w wA := by rw [hwA]; exact ((Below.refl _ _).alloc (Nat.le_refl _) _).alloc (by simp) _
  have hB : Blk wA w.heap.size 77 #[.float .f64 q.x, .float .f64 q.y, .float .f64 q.z, .float .f64 q.m, .int .u8 1, .bool true] := by rw [hwA]; exact (Blk.new _ _ _).alloc _
  have hD : Blk wA (w.heap.size + 1) 25 #[.int .i64 0, .int .i64 0, .slice none 0 0, .slice none 0 0] := by
    rw [hwA]
    have := Blk.new (w.alloc (.cells #[.float .f64 q.x, .float .f64 q.y, .float .f64 q.z, .float .f64 q.m, .int .u8 1, .bool true] 77)) 25 #[.int .i64 0, .int .i64 0, .slice none 0 0, .slice none 0 0]
    simpa using this
  have HB := Lib.hid hB
  have HD := Lib.hid hD
  have HBL := Lib.hid hbl
  have HWA := Lib.hid hwA
  clear hwA hB hD hbl
  go_enter Tryz.func86, Tryz.ntmps86
  go_wp2_with fail
  rw [← HWA.out]
  refine (ctype1 _ _ _ _ _ _ _).mono ?_
  rintro e w1 ⟨rfl, hb1⟩
  have HB1 := Lib.hid (HB.out.below hb1 HB.out.lt)
  have HD1 := Lib.hid (HD.out.below hb1 HD.out.lt)
  have HBL1 := Lib.hid (HBL.out.trans (hb1.mono HBL.out.size))
  clear hb1 HB HD HBL HWA
  obtain ⟨wL, hwL⟩ : ∃ wL, wL = w1.alloc (.cells #[.int .i64 1, .int .i64 1, .slice none 0 0, .slice none 0 0] 25) := ⟨_, rfl⟩
  have hG : Blk wL w1.heap.size 25 #[.int .i64 1, .int .i64 1, .slice none 0 0, .slice none 0 0] := by rw [hwL]; exact Blk.new _ _ _
  have hbL : Below w1.heap.size w1 wL := by rw [hwL]; exact (Below.refl _ _).alloc (Nat.le_refl _) _
  have HWL := Lib.hid hwL
  have HG := Lib.hid hG
  have HBL2 := Lib.hid hbL
  obtain ⟨b0, b1, b2, b3, b4, b5, -, -, -, -, -, -, bl⟩ := cells6 HB1.out
  clear hwL hG hbL
  go_wp2_with fail
  rw [← HWL.out]
  refine (ptCoords_calls _ _ _ _ _ _ _).mono ?_
  rintro e w3 ⟨rfl, hb3⟩
  obtain ⟨base, hbase⟩ : ∃ base, base = w3.heap.size + 1 := ⟨_, rfl⟩
  have hs3 := hb3.size
  have hgw := HG.out.lt
  have P0 := Lib.hid (show PS w1 w1.heap.size w3.heap.size base 1 1 q (w3.alloc (.cells #[.float .f64 q.x, .float .f64 q.y, .float .f64 q.z, .float .f64 q.m, .int .u8 1] 75)) (.slice none 0 0) 0 [] from
    ⟨(HG.out.below hb3 HG.out.lt).alloc _, World.ownsRow_nil _ _ _ _, Blk.new _ _ _, (HBL2.out.trans (hb3.mono HBL2.out.size)).alloc (HBL2.out.trans (hb3.mono HBL2.out.size)).size _, by rw [hbase]; simp, by omega, by omega, fun h => by cases h⟩)
  obtain ⟨x0, x1, x2, x3, y0, y1, y2, y3, xl⟩ := cells4 (HG.out.below hb3 HG.out.lt)
  have hne1 : w1.heap.size ≠ w3.heap.size := by omega
  have hne2 : w3.heap.size ≠ w1.heap.size := by omega
  have hne3 : w.heap.size + 1 ≠ w1.heap.size := by have := HD1.out.lt; omega
  have hne4 : w1.heap.size ≠ w.heap.size + 1 := by omega
  have HBS := Lib.hid hbase
  clear hb3 b0 b1 b2 b3 b4 b5 bl hbase
  go_wp2_with (at_builtin; refine wpList_append_sl _ rfl (.tmp 19) (.tmp 26) 22 rfl base 31 i0 _ 1 8 Tryz.underlying22 hi hz0 hz1 hz2 rfl (by decide) _ (0) _ rfl (P0.out.own.alloc _) (w3.heap.size + 1 + 1) (some ⟨w3.heap.size + 1, 0, none⟩) 2 2 [.float .f64 q.x, .float .f64 q.y] rfl (lit_sl (by simp) rfl (by decide)) (lit_one [q.x, q.y]) (by unfold maxLen; omega) (by omega) (by have := P0.out.sz; simp at this ⊢; omega) ?_; intro A4 k4 w4 hown4 hgrow4 hat4
               have M4 := Lib.hid (P0.out.mid hgrow4)
               obtain ⟨x04, x14, x24, x34, y04, y14, y24, y34, xl4⟩ := cells4 M4.out.1
               obtain ⟨z04, z14, z24, z34, z44, -, -, -, -, -, zl4⟩ := cells5 M4.out.2.1
               have P4 := Lib.hid (P0.out.next hgrow4 hown4 hat4)
               clear x0 x1 x2 x3 y0 y1 y2 y3 xl; obtain ⟨r04, r14, r24, r34, p04, p14, p24, p34, rl4⟩ := cells4 (HD1.out.below M4.out.2.2 HD1.out.lt); clear hown4 hgrow4 hat4)
  refine (is3_calls (show 1 < 4 by decide) _).mono ?_
  rintro e w9 ⟨rfl, h9⟩
  subst h9
  go_wp2_with (at_builtin; refine wpList_append_sl _ rfl (.tmp 33) (.tmp 36) 22 rfl base 31 i0 _ 1 8 Tryz.underlying22 hi hz0 hz1 hz2 rfl (by decide) _ (0 + 2) _ rfl (P4.out.own.alloc _) (w4.heap.size + 1) (some ⟨w4.heap.size, 0, none⟩) 1 1 [.float .f64 q.z] rfl (lit_sl (by simp) rfl (by decide)) (lit_one [q.z]) (by unfold maxLen; omega) (by omega) (by have := P4.out.sz; simp at this ⊢; omega) ?_; intro A5 k5 w5 hown5 hgrow5 hat5
               have M5 := Lib.hid (P4.out.mid hgrow5)
               obtain ⟨x05, x15, x25, x35, y05, y15, y25, y35, xl5⟩ := cells4 M5.out.1
               obtain ⟨z05, z15, z25, z35, z45, -, -, -, -, -, zl5⟩ := cells5 M5.out.2.1
               have P5 := Lib.hid (P4.out.next hgrow5 hown5 hat5)
               clear x04 x14 x24 x34 y04 y14 y24 y34 xl4 z04 z14 z24 z34 z44 zl4 r04 r14 r24 r34 p04 p14 p24 p34 rl4; obtain ⟨r05, r15, r25, r35, p05, p15, p25, p35, rl5⟩ := cells4 (HD1.out.below M5.out.2.2 HD1.out.lt); clear hown5 hgrow5 hat5)
  refine (isM_calls (show 1 < 4 by decide) _).mono ?_
  rintro e w9 ⟨rfl, h9⟩
  subst h9
  go_wp2_with fail
  exact bodyPost_ret (v := .agg #[.int .i64 1, .int .i64 1, .slice A5 (0 + 2 + 1) k5, .slice none 0 0]) (by simp [results, Tryz.results86, go_sem, r05, r15, r25, r35, rl5]) rfl (P5.out.fin (fs := emit 1 q) rfl (by decide) (by decide) (by decide) HBL1.out (Nat.le_add_right _ 1) HD1.out.lt _ _ _ _)

set_option maxHeartbeats 16000000 in
set_option maxRecDepth 100000 in
theorem plainPt2 (q : Pl) (w : World) :
    Calls Tryz.prog 86 #[.agg #[.float .f64 q.x, .float .f64 q.y, .float .f64 q.z, .float .f64 q.m, .int .u8 2, .bool true]] w (IPost w (.mk 1 2 (emit 2 q) [])) := by
  obtain ⟨i0, hi, hz0, hz1, hz2⟩ := info_parts infoF
  obtain ⟨wA, hwA⟩ : ∃ wA, wA = (w.alloc (.cells #[.float .f64 q.x, .float .f64 q.y, .float .f64 q.z, .float .f64 q.m, .int .u8 2, .bool true] 77)).alloc (.cells #[.int .i64 0, .int .i64 0, .slice none 0 0, .slice none 0 0] 25) := ⟨_, rfl⟩
  have hbl : Below w.heap.size w wA := by rw [hwA]; exact ((Below.refl _ _).alloc (Nat.le_refl _) _).alloc (by simp) _
  have hB : Blk wA w.heap.size 77 #[.float .f64 q.x, .float .f64 q.y, .float .f64 q.z, .float .f64 q.m, .int .u8 2, .bool true] := by rw [hwA]; exact (Blk.new _ _ _).alloc _
  have hD : Blk wA (w.heap.size + 1) 25 #[.int .i64 0, .int .i64 0, .slice none 0 0, .slice none 0 0] := by
    rw [hwA]
    have := Blk.new (w.alloc (.cells #[.float .f64 q.x, .float .f64 q.y, .float .f64 q.z, .float .f64 q.m, .int .u8 2, .bool true] 77)) 25 #[.int .i64 0, .int .i64 0, .slice none 0 0, .slice none 0 0]
    simpa using this
  have HB := Lib.hid hB
  have HD := Lib.hid hD
  have HBL := Lib.hid hbl
  have HWA := Lib.hid hwA
  clear hwA hB hD hbl
  go_enter Tryz.func86, Tryz.ntmps86
  go_wp2_with fail
  rw [← HWA.out]
  refine (ctype1 _ _ _ _ _ _ _).mono ?_
  rintro e w1 ⟨rfl, hb1⟩
  have HB1 := Lib.hid (HB.out.below hb1 HB.out.lt)
  have HD1 := Lib.hid (HD.out.below hb1 HD.out.lt)
  have HBL1 := Lib.hid (HBL.out.trans (hb1.mono HBL.out.size))
  clear hb1 HB HD HBL HWA
  obtain ⟨wL, hwL⟩ : ∃ wL, wL = w1.alloc (.cells #[.int .i64 1, .int .i64 2, .slice none 0 0, .slice none 0 0] 25) := ⟨_, rfl⟩
  have hG : Blk wL w1.heap.size 25 #[.int .i64 1, .int .i64 2, .slice none 0 0, .slice none 0 0] := by rw [hwL]; exact Blk.new _ _ _
  have hbL : Below w1.heap.size w1 wL := by rw [hwL]; exact (Below.refl _ _).alloc (Nat.le_refl _) _
  have HWL := Lib.hid hwL
  have HG := Lib.hid hG
  have HBL2 := Lib.hid hbL
  obtain ⟨b0, b1, b2, b3, b4, b5, -, -, -, -, -, -, bl⟩ := cells6 HB1.out
  clear hwL hG hbL
  go_wp2_with fail
  rw [← HWL.out]
  refine (ptCoords_calls _ _ _ _ _ _ _).mono ?_
  rintro e w3 ⟨rfl, hb3⟩
  obtain ⟨base, hbase⟩ : ∃ base, base = w3.heap.size + 1 := ⟨_, rfl⟩
  have hs3 := hb3.size
  have hgw := HG.out.lt
  have P0 := Lib.hid (show PS w1 w1.heap.size w3.heap.size base 1 2 q (w3.alloc (.cells #[.float .f64 q.x, .float .f64 q.y, .float .f64 q.z, .float .f64 q.m, .int .u8 2] 75)) (.slice none 0 0) 0 [] from
    ⟨(HG.out.below hb3 HG.out.lt).alloc _, World.ownsRow_nil _ _ _ _, Blk.new _ _ _, (HBL2.out.trans (hb3.mono HBL2.out.size)).alloc (HBL2.out.trans (hb3.mono HBL2.out.size)).size _, by rw [hbase]; simp, by omega, by omega, fun h => by cases h⟩)
  obtain ⟨x0, x1, x2, x3, y0, y1, y2, y3, xl⟩ := cells4 (HG.out.below hb3 HG.out.lt)
  have hne1 : w1.heap.size ≠ w3.heap.size := by omega
  have hne2 : w3.heap.size ≠ w1.heap.size := by omega
  have hne3 : w.heap.size + 1 ≠ w1.heap.size := by have := HD1.out.lt; omega
  have hne4 : w1.heap.size ≠ w.heap.size + 1 := by omega
  have HBS := Lib.hid hbase
  clear hb3 b0 b1 b2 b3 b4 b5 bl hbase
  go_wp2_with (at_builtin; refine wpList_append_sl _ rfl (.tmp 19) (.tmp 26) 22 rfl base 31 i0 _ 1 8 Tryz.underlying22 hi hz0 hz1 hz2 rfl (by decide) _ (0) _ rfl (P0.out.own.alloc _) (w3.heap.size + 1 + 1) (some ⟨w3.heap.size + 1, 0, none⟩) 2 2 [.float .f64 q.x, .float .f64 q.y] rfl (lit_sl (by simp) rfl (by decide)) (lit_one [q.x, q.y]) (by unfold maxLen; omega) (by omega) (by have := P0.out.sz; simp at this ⊢; omega) ?_; intro A4 k4 w4 hown4 hgrow4 hat4
               have M4 := Lib.hid (P0.out.mid hgrow4)
               obtain ⟨x04, x14, x24, x34, y04, y14, y24, y34, xl4⟩ := cells4 M4.out.1
               obtain ⟨z04, z14, z24, z34, z44, -, -, -, -, -, zl4⟩ := cells5 M4.out.2.1
               have P4 := Lib.hid (P0.out.next hgrow4 hown4 hat4)
               clear x0 x1 x2 x3 y0 y1 y2 y3 xl; obtain ⟨r04, r14, r24, r34, p04, p14, p24, p34, rl4⟩ := cells4 (HD1.out.below M4.out.2.2 HD1.out.lt); clear hown4 hgrow4 hat4)
  refine (is3_calls (show 2 < 4 by decide) _).mono ?_
  rintro e w9 ⟨rfl, h9⟩
  subst h9
  go_wp2_with fail
  refine (isM_calls (show 2 < 4 by decide) _).mono ?_
  rintro e w9 ⟨rfl, h9⟩
  subst h9
  go_wp2_with (at_builtin; refine wpList_append_sl _ rfl (.tmp 43) (.tmp 46) 22 rfl base 31 i0 _ 1 8 Tryz.underlying22 hi hz0 hz1 hz2 rfl (by decide) _ (0 + 2) _ rfl (P4.out.own.alloc _) (w4.heap.size + 1) (some ⟨w4.heap.size, 0, none⟩) 1 1 [.float .f64 q.m] rfl (lit_sl (by simp) rfl (by decide)) (lit_one [q.m]) (by unfold maxLen; omega) (by omega) (by have := P4.out.sz; simp at this ⊢; omega) ?_; intro A6 k6 w6 hown6 hgrow6 hat6
               have M6 := Lib.hid (P4.out.mid hgrow6)
               obtain ⟨x06, x16, x26, x36, y06, y16, y26, y36, xl6⟩ := cells4 M6.out.1
               obtain ⟨z06, z16, z26, z36, z46, -, -, -, -, -, zl6⟩ := cells5 M6.out.2.1
               have P6 := Lib.hid (P4.out.next hgrow6 hown6 hat6)
               clear x04 x14 x24 x34 y04 y14 y24 y34 xl4 z04 z14 z24 z34 z44 zl4 r04 r14 r24 r34 p04 p14 p24 p34 rl4; obtain ⟨r06, r16, r26, r36, p06, p16, p26, p36, rl6⟩ := cells4 (HD1.out.below M6.out.2.2 HD1.out.lt); clear hown6 hgrow6 hat6)
  exact bodyPost_ret (v := .agg #[.int .i64 1, .int .i64 2, .slice A6 (0 + 2 + 1) k6, .slice none 0 0]) (by simp [results, Tryz.results86, go_sem, r06, r16, r26, r36, rl6]) rfl (P6.out.fin (fs := emit 2 q) rfl (by decide) (by decide) (by decide) HBL1.out (Nat.le_add_right _ 1) HD1.out.lt _ _ _ _)

set_option maxHeartbeats 16000000 in
set_option maxRecDepth 100000 in
theorem plainPt3 (q : Pl) (w : World) :
    Calls Tryz.prog 86 #[.agg #[.float .f64 q.x, .float .f64 q.y, .float .f64 q.z, .float .f64 q.m, .int .u8 3, .bool true]] w (IPost w (.mk 1 3 (emit 3 q) [])) := by
  obtain ⟨i0, hi, hz0, hz1, hz2⟩ := info_parts infoF
  obtain ⟨wA, hwA⟩ : ∃ wA, wA = (w.alloc (.cells #[.float .f64 q.x, .float .f64 q.y, .float .f64 q.z, .float .f64 q.m, .int .u8 3, .bool true] 77)).alloc (.cells #[.int .i64 0, .int .i64 0, .slice none 0 0, .slice none 0 0] 25) := ⟨_, rfl⟩
  have hbl : Below w.heap.size w wA := by rw [hwA]; exact ((Below.refl _ _).alloc (Nat.le_refl _) _).alloc (by simp) _
  have hB : Blk wA w.heap.size 77 #[.float .f64 q.x, .float .f64 q.y, .float .f64 q.z, .float .f64 q.m, .int .u8 3, .bool true] := by rw [hwA]; exact (Blk.new _ _ _).alloc _
  have hD : Blk wA (w.heap.size + 1) 25 #[.int .i64 0, .int .i64 0, .slice none 0 0, .slice none 0 0] := by
    rw [hwA]
    have := Blk.new (w.alloc (.cells #[.float .f64 q.x, .float .f64 q.y, .float .f64 q.z, .float .f64 q.m, .int .u8 3, .bool true] 77)) 25 #[.int .i64 0, .int .i64 0, .slice none 0 0, .slice none 0 0]
    simpa using this
  have HB := Lib.hid hB
  have HD := Lib.hid hD
  have HBL := Lib.hid hbl
  have HWA := Lib.hid hwA
  clear hwA hB hD hbl
  go_enter Tryz.func86, Tryz.ntmps86
  go_wp2_with fail
  rw [← HWA.out]
  refine (ctype1 _ _ _ _ _ _ _).mono ?_
  rintro e w1 ⟨rfl, hb1⟩
  have HB1 := Lib.hid (HB.out.below hb1 HB.out.lt)
  have HD1 := Lib.hid (HD.out.below hb1 HD.out.lt)
  have HBL1 := Lib.hid (HBL.out.trans (hb1.mono HBL.out.size))
  clear hb1 HB HD HBL HWA
  obtain ⟨wL, hwL⟩ : ∃ wL, wL = w1.alloc (.cells #[.int .i64 1, .int .i64 3, .slice none 0 0, .slice none 0 0] 25) := ⟨_, rfl⟩
  have hG : Blk wL w1.heap.size 25 #[.int .i64 1, .int .i64 3, .slice none 0 0, .slice none 0 0] := by rw [hwL]; exact Blk.new _ _ _
  have hbL : Below w1.heap.size w1 wL := by rw [hwL]; exact (Below.refl _ _).alloc (Nat.le_refl _) _
  have HWL := Lib.hid hwL
  have HG := Lib.hid hG
  have HBL2 := Lib.hid hbL
  obtain ⟨b0, b1, b2, b3, b4, b5, -, -, -, -, -, -, bl⟩ := cells6 HB1.out
  clear hwL hG hbL
  go_wp2_with fail
  rw [← HWL.out]
  refine (ptCoords_calls _ _ _ _ _ _ _).mono ?_
  rintro e w3 ⟨rfl, hb3⟩
  obtain ⟨base, hbase⟩ : ∃ base, base = w3.heap.size + 1 := ⟨_, rfl⟩
  have hs3 := hb3.size
  have hgw := HG.out.lt
  have P0 := Lib.hid (show PS w1 w1.heap.size w3.heap.size base 1 3 q (w3.alloc (.cells #[.float .f64 q.x, .float .f64 q.y, .float .f64 q.z, .float .f64 q.m, .int .u8 3] 75)) (.slice none 0 0) 0 [] from
    ⟨(HG.out.below hb3 HG.out.lt).alloc _, World.ownsRow_nil _ _ _ _, Blk.new _ _ _, (HBL2.out.trans (hb3.mono HBL2.out.size)).alloc (HBL2.out.trans (hb3.mono HBL2.out.size)).size _, by rw [hbase]; simp, by omega, by omega, fun h => by cases h⟩)
  obtain ⟨x0, x1, x2, x3, y0, y1, y2, y3, xl⟩ := cells4 (HG.out.below hb3 HG.out.lt)
  have hne1 : w1.heap.size ≠ w3.heap.size := by omega
  have hne2 : w3.heap.size ≠ w1.heap.size := by omega
  have hne3 : w.heap.size + 1 ≠ w1.heap.size := by have := HD1.out.lt; omega
  have hne4 : w1.heap.size ≠ w.heap.size + 1 := by omega
  have HBS := Lib.hid hbase
  clear hb3 b0 b1 b2 b3 b4 b5 bl hbase
  go_wp2_with (at_builtin; refine wpList_append_sl _ rfl (.tmp 19) (.tmp 26) 22 rfl base 31 i0 _ 1 8 Tryz.underlying22 hi hz0 hz1 hz2 rfl (by decide) _ (0) _ rfl (P0.out.own.alloc _) (w3.heap.size + 1 + 1) (some ⟨w3.heap.size + 1, 0, none⟩) 2 2 [.float .f64 q.x, .float .f64 q.y] rfl (lit_sl (by simp) rfl (by decide)) (lit_one [q.x, q.y]) (by unfold maxLen; omega) (by omega) (by have := P0.out.sz; simp at this ⊢; omega) ?_; intro A4 k4 w4 hown4 hgrow4 hat4
               have M4 := Lib.hid (P0.out.mid hgrow4)
               obtain ⟨x04, x14, x24, x34, y04, y14, y24, y34, xl4⟩ := cells4 M4.out.1
               obtain ⟨z04, z14, z24, z34, z44, -, -, -, -, -, zl4⟩ := cells5 M4.out.2.1
               have P4 := Lib.hid (P0.out.next hgrow4 hown4 hat4)
               clear x0 x1 x2 x3 y0 y1 y2 y3 xl; obtain ⟨r04, r14, r24, r34, p04, p14, p24, p34, rl4⟩ := cells4 (HD1.out.below M4.out.2.2 HD1.out.lt); clear hown4 hgrow4 hat4)
  refine (is3_calls (show 3 < 4 by decide) _).mono ?_
  rintro e w9 ⟨rfl, h9⟩
  subst h9
  go_wp2_with (at_builtin; refine wpList_append_sl _ rfl (.tmp 33) (.tmp 36) 22 rfl base 31 i0 _ 1 8 Tryz.underlying22 hi hz0 hz1 hz2 rfl (by decide) _ (0 + 2) _ rfl (P4.out.own.alloc _) (w4.heap.size + 1) (some ⟨w4.heap.size, 0, none⟩) 1 1 [.float .f64 q.z] rfl (lit_sl (by simp) rfl (by decide)) (lit_one [q.z]) (by unfold maxLen; omega) (by omega) (by have := P4.out.sz; simp at this ⊢; omega) ?_; intro A5 k5 w5 hown5 hgrow5 hat5
               have M5 := Lib.hid (P4.out.mid hgrow5)
               obtain ⟨x05, x15, x25, x35, y05, y15, y25, y35, xl5⟩ := cells4 M5.out.1
               obtain ⟨z05, z15, z25, z35, z45, -, -, -, -, -, zl5⟩ := cells5 M5.out.2.1
               have P5 := Lib.hid (P4.out.next hgrow5 hown5 hat5)
               clear x04 x14 x24 x34 y04 y14 y24 y34 xl4 z04 z14 z24 z34 z44 zl4 r04 r14 r24 r34 p04 p14 p24 p34 rl4; obtain ⟨r05, r15, r25, r35, p05, p15, p25, p35, rl5⟩ := cells4 (HD1.out.below M5.out.2.2 HD1.out.lt); clear hown5 hgrow5 hat5)
  refine (isM_calls (show 3 < 4 by decide) _).mono ?_
  rintro e w9 ⟨rfl, h9⟩
  subst h9
  go_wp2_with (at_builtin; refine wpList_append_sl _ rfl (.tmp 43) (.tmp 46) 22 rfl base 31 i0 _ 1 8 Tryz.underlying22 hi hz0 hz1 hz2 rfl (by decide) _ (0 + 2 + 1) _ rfl (P5.out.own.alloc _) (w5.heap.size + 1) (some ⟨w5.heap.size, 0, none⟩) 1 1 [.float .f64 q.m] rfl (lit_sl (by simp) rfl (by decide)) (lit_one [q.m]) (by unfold maxLen; omega) (by omega) (by have := P5.out.sz; simp at this ⊢; omega) ?_; intro A6 k6 w6 hown6 hgrow6 hat6
               have M6 := Lib.hid (P5.out.mid hgrow6)
               obtain ⟨x06, x16, x26, x36, y06, y16, y26, y36, xl6⟩ := cells4 M6.out.1
               obtain ⟨z06, z16, z26, z36, z46, -, -, -, -, -, zl6⟩ := cells5 M6.out.2.1
               have P6 := Lib.hid (P5.out.next hgrow6 hown6 hat6)
               clear x05 x15 x25 x35 y05 y15 y25 y35 xl5 z05 z15 z25 z35 z45 zl5 r05 r15 r25 r35 p05 p15 p25 p35 rl5; obtain ⟨r06, r16, r26, r36, p06, p16, p26, p36, rl6⟩ := cells4 (HD1.out.below M6.out.2.2 HD1.out.lt); clear hown6 hgrow6 hat6)
  exact bodyPost_ret (v := .agg #[.int .i64 1, .int .i64 3, .slice A6 (0 + 2 + 1 + 1) k6, .slice none 0 0]) (by simp [results, Tryz.results86, go_sem, r06, r16, r26, r36, rl6]) rfl (P6.out.fin (fs := emit 3 q) rfl (by decide) (by decide) (by decide) HBL1.out (Nat.le_add_right _ 1) HD1.out.lt _ _ _ _)

set_option maxHeartbeats 16000000 in
set_option maxRecDepth 100000 in
theorem plainPtNone (d : Nat) (hd : d < 4) (q : Pl) (w : World) :
    Calls Tryz.prog 86 #[.agg #[.float .f64 q.x, .float .f64 q.y, .float .f64 q.z, .float .f64 q.m, .int .u8 d, .bool false]] w (IPost w (.mk 1 d [] [])) := by
  obtain ⟨wA, hwA⟩ : ∃ wA, wA = (w.alloc (.cells #[.float .f64 q.x, .float .f64 q.y, .float .f64 q.z, .float .f64 q.m, .int .u8 d, .bool false] 77)).alloc (.cells #[.int .i64 0, .int .i64 0, .slice none 0 0, .slice none 0 0] 25) := ⟨_, rfl⟩
  have hbl : Below w.heap.size w wA := by rw [hwA]; exact ((Below.refl _ _).alloc (Nat.le_refl _) _).alloc (by simp) _
  have hB : Blk wA w.heap.size 77 #[.float .f64 q.x, .float .f64 q.y, .float .f64 q.z, .float .f64 q.m, .int .u8 d, .bool false] := by rw [hwA]; exact (Blk.new _ _ _).alloc _
  have hD : Blk wA (w.heap.size + 1) 25 #[.int .i64 0, .int .i64 0, .slice none 0 0, .slice none 0 0] := by
    rw [hwA]
    have := Blk.new (w.alloc (.cells #[.float .f64 q.x, .float .f64 q.y, .float .f64 q.z, .float .f64 q.m, .int .u8 d, .bool false] 77)) 25 #[.int .i64 0, .int .i64 0, .slice none 0 0, .slice none 0 0]
    simpa using this
  have hwf : (Lit.int .i64 (d : Int)).wf = true := by
    obtain rfl | rfl | rfl | rfl := four hd <;> decide
  have hcv : IntKind.i64.wrap (d : Int) = d := IntWalk.i64_in _ (by omega)
  have HB := Lib.hid hB
  have HD := Lib.hid hD
  have HBL := Lib.hid hbl
  have HWA := Lib.hid hwA
  have HWF := Lib.hid hwf
  clear hwA hB hD hbl hd hwf
  go_enter Tryz.func86, Tryz.ntmps86
  go_wp2_with fail
  rw [← HWA.out]
  refine (ctype1 _ _ _ _ _ _ _).mono ?_
  rintro e w1 ⟨rfl, hb1⟩
  have HB1 := Lib.hid (HB.out.below hb1 HB.out.lt)
  have HD1 := Lib.hid (HD.out.below hb1 HD.out.lt)
  have HBL1 := Lib.hid (HBL.out.trans (hb1.mono HBL.out.size))
  clear hb1 HB HD HBL HWA
  obtain ⟨wL, hwL⟩ : ∃ wL, wL = w1.alloc (.cells #[.int .i64 1, .int .i64 d, .slice none 0 0, .slice none 0 0] 25) := ⟨_, rfl⟩
  have hG : Blk wL w1.heap.size 25 #[.int .i64 1, .int .i64 d, .slice none 0 0, .slice none 0 0] := by rw [hwL]; exact Blk.new _ _ _
  have hbL : Below w1.heap.size w1 wL := by rw [hwL]; exact (Below.refl _ _).alloc (Nat.le_refl _) _
  have HWL := Lib.hid hwL
  have HG := Lib.hid hG
  have HBL2 := Lib.hid hbL
  obtain ⟨b0, b1, b2, b3, b4, b5, -, -, -, -, -, -, bl⟩ := cells6 HB1.out
  clear hwL hG hbL
  go_wp2_with fail
  rw [← HWL.out]
  refine (ptCoords_calls _ _ _ _ _ _ _).mono ?_
  rintro e w3 ⟨rfl, hb3⟩
  have HB3 := Lib.hid (HBL2.out.trans (hb3.mono HBL2.out.size))
  obtain ⟨x0, x1, x2, x3, y0, y1, y2, y3, xl⟩ := cells4 (HG.out.below hb3 HG.out.lt)
  obtain ⟨r0, r1, r2, r3, p0, p1, p2, p3, rl⟩ := cells4 (HD1.out.below HB3.out HD1.out.lt)
  clear hb3 b0 b1 b2 b3 b4 b5 bl
  go_wp2_with fail
  refine bodyPost_ret (v := .agg #[.int .i64 1, .int .i64 d, .slice none 0 0, .slice none 0 0]) (by simp [results, Tryz.results86, go_sem, r0, r1, r2, r3, rl]) rfl (IPost.alloc (IPost.store (g := .mk 1 d none 0 [] none 0 []) ?_ rfl (HBL1.out.trans (HB3.out.mono HBL1.out.size)) (Nat.le_add_right _ 1) _ _ _ _) _)
  rw [IG.In]
  exact ⟨⟨by decide, HWF.out⟩, ⟨by simp, by simp⟩, ⟨by simp, by simp⟩, ⟨by simp [Sl, FL], fun h => absurd h (by simp)⟩, ⟨by simp [Sl], fun h => absurd h (by simp)⟩, trivial⟩
theorem plainPointC {d : Nat} {full : Bool} {p : Pl} : PlainC 86 (.pt d full p) := fun S w h => by
  have hd : d < 4 := by rw [MG.In] at h; exact h.1
  cases full
  · exact plainPtNone d hd p w
  · obtain rfl | rfl | rfl | rfl := four hd
    · exact plainPt0 p w
    · exact plainPt1 p w
    · exact plainPt2 p w
    · exact plainPt3 p w

end Go.Proofs.YtbacakdpfiiblaaGreat.geo
