/-
  Contract: impl.PartOf, with the panic caught.
-/
import Derived.Test.YtplphaaeibeheaaGreatGeoAO
namespace Go.Proofs.YtplphaaeibeheaaGreat.geo
open Go.ChangeShapes Go.WideShapes Go.ChangeAt Go.RowKit
open Go.Proofs.YtplphaaeibeheaaGreat.mem
set_option linter.unusedVariables false
set_option linter.unusedSimpArgs false
set_option maxRecDepth 100000

theorem part_idle (p q : Addr) (w : World) :
    CallsD Tryz.prog 27 #[.pointer (some p), .pointer (some q)] .returning w fun e u' w' => e = .returned (.tuple #[]) ∧ u' = .returning ∧ w = w' := by
  refine callsD_of_wpS Tryz.func27 rfl fun c₀ cs hu => ?_
  apply wpS_seq
  apply wpS_region
  simp [wpOpsS, go_sem, recoverD, hu, Tryz.ntmps27, Exit.thenS]
  refine wpS_cond (t := false) (by simp [Act.eval, Array.replicate]) ?_
  simp only [Bool.false_eq_true, if_false]
  refine wpS_of_wp (wp_skip ?_)
  cases c₀
  simp_all [bodyPostS, results, Tryz.results27]
theorem part_caught (g b : Nat) (v0 v1 v2 v3 v4 : Value) (u : TypeId) (pv : Value) (older : List PanicEntry) (w : World)
    (h0 : w.cell? ⟨g, 0, none⟩ = some v0) (h1 : w.cell? ⟨g, 1, none⟩ = some v1) (h2 : w.cell? ⟨g, 2, none⟩ = some v2) (h3 : w.cell? ⟨g, 3, none⟩ = some v3) (h4 : w.cell? ⟨b, 0, none⟩ = some v4)
    (f0 : w.frozen? ⟨g, 0, none⟩ = false) (f1 : w.frozen? ⟨g, 1, none⟩ = false) (f2 : w.frozen? ⟨g, 2, none⟩ = false) (f3 : w.frozen? ⟨g, 3, none⟩ = false) (f4 : w.frozen? ⟨b, 0, none⟩ = false) (hne : g ≠ b) :
    CallsD Tryz.prog 27 #[.pointer (some ⟨g, 0, none⟩), .pointer (some ⟨b, 0, none⟩)] (.panicking ({ v := .iface u pv, recovered := false } :: older)) w fun e u' w' =>
      e = .returned (.tuple #[]) ∧ u' = .panicking ({ v := .iface u pv, recovered := true } :: older) ∧
        w' = ((((w.setCell ⟨g, 0, none⟩ (.int .i64 0)).setCell ⟨g, 1, none⟩ (.int .i64 0)).setCell ⟨g, 2, none⟩ (.slice none 0 0)).setCell ⟨g, 3, none⟩ (.slice none 0 0)).setCell ⟨b, 0, none⟩ (.bool false) := by
  have hne2 : b ≠ g := fun e => hne e.symm
  refine callsD_of_wpS Tryz.func27 rfl fun c₀ cs hu => ?_
  apply wpS_seq
  apply wpS_region
  simp [wpOpsS, go_sem, recoverD, hu, Tryz.ntmps27, Exit.thenS]
  refine wpS_cond (t := true) (by simp [Act.eval, Array.replicate]) ?_
  simp only [if_true]
  apply wpS_region
  simp [wpOpsS, go_sem, h0, h1, h2, h3, h4, f0, f1, f2, f3, f4, hne, hne2, bodyPostS, results, Tryz.results27]

theorem Blk.set5 {w : World} {R b : Nat} {t : TypeId} {a0 a1 a2 a3 : Value} (h : Blk w R t #[a0, a1, a2, a3]) (hne : R ≠ b) (u0 u1 u2 u3 u4 : Value) : Blk (((((w.setCell ⟨R, 0, none⟩ u0).setCell ⟨R, 1, none⟩ u1).setCell ⟨R, 2, none⟩ u2).setCell ⟨R, 3, none⟩ u3).setCell ⟨b, 0, none⟩ u4) R t #[u0, u1, u2, u3] :=
  (Blk.set4 h u0 u1 u2 u3).far (p := ⟨b, 0, none⟩) hne u4
theorem Blk.set5b {w : World} {R b : Nat} {t : TypeId} {a0 : Value} (h : Blk w b t #[a0]) (hne : R ≠ b) (u0 u1 u2 u3 u4 : Value) : Blk (((((w.setCell ⟨R, 0, none⟩ u0).setCell ⟨R, 1, none⟩ u1).setCell ⟨R, 2, none⟩ u2).setCell ⟨R, 3, none⟩ u3).setCell ⟨b, 0, none⟩ u4) b t #[u4] := by
  have hne' : b ≠ R := fun e => hne e.symm
  have := ((((h.far (p := ⟨R, 0, none⟩) hne' u0).far (p := ⟨R, 1, none⟩) hne' u1).far (p := ⟨R, 2, none⟩) hne' u2).far (p := ⟨R, 3, none⟩) hne' u3).set_ 0 u4
  simpa using this
theorem keeps5 {T : Nat → Prop} {w : World} {R b : Nat} (hR : ¬ T R) (hb : ¬ T b) (u0 u1 u2 u3 u4 : Value) : Keeps T w (((((w.setCell ⟨R, 0, none⟩ u0).setCell ⟨R, 1, none⟩ u1).setCell ⟨R, 2, none⟩ u2).setCell ⟨R, 3, none⟩ u3).setCell ⟨b, 0, none⟩ u4) :=
  (keeps4 hR u0 u1 u2 u3).trans (.set (p := ⟨b, 0, none⟩) hb u4)
theorem below5 {B : Nat} {w w' : World} (h : Below B w w') {R b : Nat} (hR : B ≤ R) (hb : B ≤ b) (u0 u1 u2 u3 u4 : Value) : Below B w (((((w'.setCell ⟨R, 0, none⟩ u0).setCell ⟨R, 1, none⟩ u1).setCell ⟨R, 2, none⟩ u2).setCell ⟨R, 3, none⟩ u3).setCell ⟨b, 0, none⟩ u4) :=
  ((((h.setCell hR u0).setCell hR u1).setCell hR u2).setCell hR u3).setCell hb u4
theorem IG.zero_in (S : Nat → Prop) (w : World) : (IG.mk 0 0 none 0 [] none 0 []).In S w := by
  rw [IG.In]
  exact ⟨⟨by decide, by decide⟩, ⟨by simp, by simp⟩, ⟨by simp, by simp⟩, ⟨by simp [Sl, FL], fun h => absurd h (by simp)⟩, ⟨by simp [Sl], fun h => absurd h (by simp)⟩, trivial⟩

set_option maxHeartbeats 16000000 in
theorem iPartOf_calls (g : IG) (S : Nat → Prop) (w : World) (h : g.In S w) (hs : g.plain.small) (h1 : g.plain.new.k ≠ 1) (n : Int) (hb : -2147483648 ≤ n ∧ n ≤ 2147483648) :
    Calls Tryz.prog 12 #[.agg g.enc.toArray, .int .i64 n] w (PartPost S w (g.plain.new.part n)) := by
  have hmf : ∀ (fn : Fn) (first cap : Array Value) (w : World), (Instr.makeFunc fn first cap).run Tryz.prog w = .ok (.func fn first cap) w := fun _ _ _ _ => rfl
  obtain ⟨P, hP⟩ : ∃ P, P = g.plain.new := ⟨_, rfl⟩
  have HG := Lib.hid (fun w' (hbw : Below w.heap.size w w') => geometry_calls g S w' (IG.up hbw h) hs)
  unfold MadePost at HG
  rw [← hP] at h1 HG ⊢
  obtain ⟨o, ho⟩ : ∃ o, o = P.part n := ⟨_, rfl⟩
  rw [← ho]
  have HPT := Lib.hid (fun (T : Nat → Prop) w' (a : Nat) (m : MG) (hin : (MG.bx a m).In T w') (hp : (MG.bx a m).plain = P) => show Calls Tryz.prog 28 #[.agg (MG.bx a m).enc.toArray, .int .i64 n] w' (PartC T w' o) from by
    have hk := bx_kind hin
    rw [hp] at hk
    have := part_calls T w' hin (fun e => h1 (by rw [hk, e]; rfl)) n hb
    rw [← show (MG.bx a m).plain = m.plain from rfl, hp, ← ho] at this
    exact this)
  have hin := h
  clear h hs h1 hP ho hb
  obtain ⟨k, d, A, ca, ns, B, cb, kids⟩ := g
  rw [show (IG.mk k d A ca ns B cb kids).enc.toArray = #[.int .i64 k, .int .i64 d, .slice A ns.length ca, .slice B kids.length cb] from rfl] at HG ⊢
  obtain ⟨wA, hwA⟩ : ∃ wA, wA = ((w.alloc (.cells #[.int .i64 k, .int .i64 d, .slice A ns.length ca, .slice B kids.length cb] 25)).alloc (.cells #[.int .i64 0, .int .i64 0, .slice none 0 0, .slice none 0 0] 25)).alloc (.cells #[.bool false] 4) := ⟨_, rfl⟩
  have hbl : Below w.heap.size w wA := by rw [hwA]; exact (((Below.refl _ _).alloc (Nat.le_refl _) _).alloc (by simp) _).alloc (by simp; omega) _
  have hX : Blk wA w.heap.size 25 #[.int .i64 k, .int .i64 d, .slice A ns.length ca, .slice B kids.length cb] := by rw [hwA]; exact ((Blk.new _ _ _).alloc _).alloc _
  have hR : Blk wA (w.heap.size + 1) 25 #[.int .i64 0, .int .i64 0, .slice none 0 0, .slice none 0 0] := by
    rw [hwA]
    have := (Blk.new (w.alloc (.cells #[.int .i64 k, .int .i64 d, .slice A ns.length ca, .slice B kids.length cb] 25)) 25 #[.int .i64 0, .int .i64 0, .slice none 0 0, .slice none 0 0]).alloc (.cells #[.bool false] 4)
    simpa using this
  have hO : Blk wA (w.heap.size + 2) 4 #[.bool false] := by
    rw [hwA]
    have := Blk.new ((w.alloc (.cells #[.int .i64 k, .int .i64 d, .slice A ns.length ca, .slice B kids.length cb] 25)).alloc (.cells #[.int .i64 0, .int .i64 0, .slice none 0 0, .slice none 0 0] 25)) 4 #[.bool false]
    simpa using this
  have hsA : wA.heap.size = w.heap.size + 3 := by rw [hwA]; simp
  obtain ⟨x0, x1, x2, x3, -, -, -, -, xl⟩ := cells4 hX
  have HR := Lib.hid hR
  have HO := Lib.hid hO
  have HBL := Lib.hid hbl
  have HWA := Lib.hid hwA
  have HSA := Lib.hid hsA
  clear hwA hbl hX hR hO hsA hin
  go_enter_defers Tryz.func12, Tryz.ntmps12
  go_wp2_with fail
  rw [← HWA.out]
  refine (HG.out wA HBL.out).mono ?_
  rintro e w1 ⟨m1, rfl, hin1, hk1, hp1, hb1⟩
  obtain ⟨a1, m, rfl⟩ := MG.is_bx hk1 hin1
  have HP1 := Lib.hid (HPT.out _ _ _ _ hin1 hp1)
  have HB1 := Lib.hid (HBL.out.trans (hb1.mono HBL.out.size))
  have HR1 := Lib.hid (HR.out.below hb1 HR.out.lt)
  have HO1 := Lib.hid (HO.out.below hb1 HO.out.lt)
  have hs1 := hb1.size
  obtain ⟨ge, hge⟩ : ∃ ge, ge = (MG.bx a1 m).enc.toArray := ⟨_, rfl⟩
  rw [← hge] at HP1 ⊢
  clear hb1 hin1 hk1 hp1 x0 x1 x2 x3 xl hge
  have hne : w.heap.size + 1 ≠ w.heap.size + 2 := by omega
  have hx1 : w.heap.size ≤ w.heap.size + 1 := by omega
  have hx2 : w.heap.size ≤ w.heap.size + 2 := by omega
  cases o with
  | none =>
    have HP2 := Lib.hid (show Calls Tryz.prog 28 #[.agg ge, .int .i64 n] w1 (Dies w1) from HP1.out)
    clear HP1
    go_wp2_with fail
    refine HP2.out.mono ?_
    rintro e w2 ⟨u, pv, rfl, hb2⟩
    have HB2 := Lib.hid (HB1.out.trans (hb2.mono HB1.out.size))
    have HR2 := Lib.hid (HR1.out.below hb2 HR1.out.lt)
    have HO2 := Lib.hid (HO1.out.below hb2 HO1.out.lt)
    clear hb2
    go_wp2_with fail
    refine leaves_cons (f := 27) (args := #[.pointer (some ⟨w.heap.size + 1, 0, none⟩), .pointer (some ⟨w.heap.size + 1 + 1, 0, none⟩)]) (by simp) (by simp [go_sem]) ?_
    obtain ⟨r0, r1, r2, r3, p0, p1, p2, p3, rl⟩ := cells4 HR2.out
    have q0 : w2.cell? ⟨w.heap.size + 1 + 1, 0, none⟩ = some (.bool false) := HO2.out.cell 0
    have q1 : w2.frozen? ⟨w.heap.size + 1 + 1, 0, none⟩ = false := HO2.out.frozen 0 (show 0 < 1 by omega)
    refine (part_caught _ _ _ _ _ _ _ u pv [] w2 r0 r1 r2 r3 q0 p0 p1 p2 p3 q1 hne).mono ?_
    rintro e u' w'' ⟨rfl, rfl, hw''⟩
    have hB5 := Blk.set5 HR2.out hne (.int .i64 0) (.int .i64 0) (.slice none 0 0) (.slice none 0 0) (.bool false)
    have hB6 := Blk.set5b HO2.out hne (.int .i64 0) (.int .i64 0) (.slice none 0 0) (.slice none 0 0) (.bool false)
    have hbw := below5 HB2.out hx1 hx2 (.int .i64 0) (.int .i64 0) (.slice none 0 0) (.slice none 0 0) (.bool false)
    rw [← show w'' = _ from hw''] at hB5 hB6 hbw
    obtain ⟨c0, c1, c2, c3, -, -, -, -, cl⟩ := cells4 hB5
    have c4 : w''.cell? ⟨w.heap.size + 1 + 1, 0, none⟩ = some (.bool false) := hB6.cell 0
    have HBW := Lib.hid hbw
    clear hB5 hB6 hbw hw'' r0 r1 r2 r3 p0 p1 p2 p3 rl q0 q1
    simp [Leaves, settle, results, Tryz.results12, go_sem, c0, c1, c2, c3, c4]
    exact ⟨.mk 0 0 none 0 [] none 0 [], rfl, IG.zero_in _ _, (fun q hq => by cases hq), HBW.out⟩
  | some q =>
    have HP2 := Lib.hid (show Calls Tryz.prog 28 #[.agg ge, .int .i64 n] w1 (PartOk (fun a => wA.heap.size ≤ a) w1 q) from HP1.out)
    clear HP1
    go_wp2_with fail
    refine HP2.out.mono ?_
    rintro e w2 ⟨m2, rfl, hk2, hin2, hp2, hb2⟩
    obtain ⟨a2, m3, rfl⟩ := MG.is_bx hk2 hin2
    have HPL := Lib.hid (fun w' (hbw : Below w2.heap.size w2 w') => plainK (g := .bx a2 m3) rfl _ w' (MG.up hbw hin2))
    rw [hp2] at HPL
    have HB2 := Lib.hid (HB1.out.trans (hb2.mono HB1.out.size))
    have HR2 := Lib.hid (HR1.out.below hb2 HR1.out.lt)
    have HO2 := Lib.hid (HO1.out.below hb2 HO1.out.lt)
    have HPL := Lib.hid (show ∀ w', Below w2.heap.size w2 w' → Calls Tryz.prog 29 #[.agg #[.int .i64 m3.kind, .iface (pT m3.kind) (.pointer (some ⟨a2, 0, none⟩))]] w' (IPost w' q) from HPL.out)
    rw [show (MG.bx a2 m3).enc.toArray = #[.int .i64 m3.kind, .iface (pT m3.kind) (.pointer (some ⟨a2, 0, none⟩))] from rfl]
    obtain ⟨w3, hw3⟩ : ∃ w3, w3 = w2.alloc (.cells #[.int .i64 m3.kind, .iface (pT m3.kind) (.pointer (some ⟨a2, 0, none⟩))] 39) := ⟨_, rfl⟩
    have hb3 : Below w2.heap.size w2 w3 := by rw [hw3]; exact (Below.refl _ _).alloc (Nat.le_refl _) _
    have hX3 : Blk w3 w2.heap.size 39 #[.int .i64 m3.kind, .iface (pT m3.kind) (.pointer (some ⟨a2, 0, none⟩))] := by rw [hw3]; exact Blk.new _ _ _
    have HW3 := Lib.hid hw3
    have HP3 := Lib.hid (HPL.out w3 hb3)
    have HB3 := Lib.hid (HB2.out.trans (hb3.mono HB2.out.size))
    have HR3 := Lib.hid (HR2.out.below hb3 HR2.out.lt)
    have HO3 := Lib.hid (HO2.out.below hb3 HO2.out.lt)
    obtain ⟨y0, y1, -, -, yl⟩ := cells2 hX3
    have hs3 : w.heap.size + 3 ≤ w3.heap.size := by have := HSA.out; have := hb2.size; have := hb3.size; omega
    clear hb2 hin2 hk2 hp2 hw3 hb3 hX3 HPL
    go_wp2_with fail
    rw [← HW3.out]
    refine HP3.out.mono ?_
    rintro e w4 ⟨⟨k2, d2, A2, ca2, ns2, B2, cb2, ks2⟩, rfl, h4, hp4, hb4⟩
    have HB4 := Lib.hid (HB3.out.trans (hb4.mono HB3.out.size))
    have HR4 := Lib.hid (HR3.out.below hb4 HR3.out.lt)
    have HO4 := Lib.hid (HO3.out.below hb4 HO3.out.lt)
    have H4 := Lib.hid h4
    have HP4 := Lib.hid hp4
    obtain ⟨r0, r1, r2, r3, p0, p1, p2, p3, rl⟩ := cells4 HR4.out
    have q0 : w4.cell? ⟨w.heap.size + 1 + 1, 0, none⟩ = some (.bool false) := HO4.out.cell 0
    have q1 : w4.frozen? ⟨w.heap.size + 1 + 1, 0, none⟩ = false := HO4.out.frozen 0 (show 0 < 1 by omega)
    rw [show (IG.mk k2 d2 A2 ca2 ns2 B2 cb2 ks2).enc.toArray = #[.int .i64 k2, .int .i64 d2, .slice A2 ns2.length ca2, .slice B2 ks2.length cb2] from rfl]
    clear h4 hp4 hb4 y0 y1 yl
    go_wp2_with fail
    refine leaves_cons (f := 27) (args := #[.pointer (some ⟨w.heap.size + 1, 0, none⟩), .pointer (some ⟨w.heap.size + 1 + 1, 0, none⟩)]) (by simp) (by simp [go_sem]) ?_
    refine (part_idle _ _ _).mono ?_
    rintro e u' w'' ⟨rfl, rfl, hw''⟩
    have hB5 := Blk.set5 HR4.out hne (.int .i64 k2) (.int .i64 d2) (.slice A2 ns2.length ca2) (.slice B2 ks2.length cb2) (.bool true)
    have hB6 := Blk.set5b HO4.out hne (.int .i64 k2) (.int .i64 d2) (.slice A2 ns2.length ca2) (.slice B2 ks2.length cb2) (.bool true)
    have hbw := below5 HB4.out hx1 hx2 (.int .i64 k2) (.int .i64 d2) (.slice A2 ns2.length ca2) (.slice B2 ks2.length cb2) (.bool true)
    have hno1 : ¬ (fun a => w3.heap.size ≤ a) (w.heap.size + 1) := fun h => by have h : w3.heap.size ≤ w.heap.size + 1 := h; omega
    have hno2 : ¬ (fun a => w3.heap.size ≤ a) (w.heap.size + 2) := fun h => by have h : w3.heap.size ≤ w.heap.size + 2 := h; omega
    have h5 := IG.keep (keeps5 hno1 hno2 (.int .i64 k2) (.int .i64 d2) (.slice A2 ns2.length ca2) (.slice B2 ks2.length cb2) (.bool true)) H4.out
    rw [show _ = w'' from hw''] at hB5 hB6 hbw h5
    obtain ⟨c0, c1, c2, c3, -, -, -, -, cl⟩ := cells4 hB5
    have c4 : w''.cell? ⟨w.heap.size + 1 + 1, 0, none⟩ = some (.bool true) := hB6.cell 0
    have HBW := Lib.hid hbw
    have H5 := Lib.hid h5
    clear hB5 hB6 hbw hw'' r0 r1 r2 r3 p0 p1 p2 p3 rl q0 q1 h5 hno1 hno2
    simp [Leaves, settle, results, Tryz.results12, go_sem, c0, c1, c2, c3, c4]
    exact ⟨.mk k2 d2 A2 ca2 ns2 B2 cb2 ks2, rfl, IG.less (fun a ha => .inr (by have ha : w3.heap.size ≤ a := ha; omega)) H5.out, (fun q2 hq => by rw [HP4.out]; exact Option.some.inj hq), HBW.out⟩
end Go.Proofs.YtplphaaeibeheaaGreat.geo
