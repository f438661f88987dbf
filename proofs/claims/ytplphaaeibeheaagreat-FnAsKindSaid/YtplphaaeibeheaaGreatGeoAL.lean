/-
  Contracts: a part of a geometry, kind by kind.
-/
import Derived.Test.YtplphaaeibeheaaGreatGeoAK
namespace Go.Proofs.YtplphaaeibeheaaGreat.geo
open Go.ChangeShapes Go.WideShapes Go.ChangeAt Go.RowKit
open Go.Proofs.YtplphaaeibeheaaGreat.mem
set_option linter.unusedVariables false
set_option linter.unusedSimpArgs false
set_option maxRecDepth 100000

/-- A part comes back, and that there is one. -/
def PartOk (S : Nat → Prop) (w : World) (q : PG) (e : Ending) (w' : World) : Prop :=
  ∃ g : MG, e = .returned (.tuple #[.agg g.enc.toArray, .bool true]) ∧ g.kind = 7 ∧ g.In (Fresh S w) w' ∧ g.plain = q ∧ Below w.heap.size w w'
theorem sl_nil {w : World} {B : Nat} {A : Option Addr} {n c : Nat} {xs : List Value} (h : Sl w B A n c xs) : A = none → n = 0 := fun e => by
  by_cases h0 : n = 0
  · exact h0
  · obtain ⟨b, off, e2, -⟩ := h.2.2 (by omega)
    rw [e] at e2
    cases e2
theorem PartOk.box {S : Nat → Prop} {w w' : World} {m : MG} {a R : Nat} (hk : m.kind < 7) (hb : Blk w' a (sT m.kind) m.enc.toArray) (ha : R < a) (hin : m.In (Old S w) w') (hbw : Below w.heap.size w w') (hR : w.heap.size ≤ R) (u0 u1 : Value) :
    PartOk S w m.plain (.returned (.tuple #[.agg #[.int .i64 m.kind, .iface (pT m.kind) (.pointer (some ⟨a, 0, none⟩))], .bool true])) ((w'.setCell ⟨R, 0, none⟩ u0).setCell ⟨R, 1, none⟩ u1) := by
  have hno : ¬ (fun b => (S b ∧ b < w.heap.size) ∨ R < b) R := fun h => by
    rcases h with h | h
    · exact absurd h.2 (by omega)
    · exact Nat.lt_irrefl _ h
  refine ⟨.bx a m, rfl, rfl, ?_, rfl, (hbw.setCell hR _).setCell hR _⟩
  refine MG.less (S := fun b => (S b ∧ b < w.heap.size) ∨ R < b) (fun b h => ?_) (MG.keep ((Keeps.set (p := ⟨R, 0, none⟩) hno _).trans (.set (p := ⟨R, 1, none⟩) hno _)) ?_)
  · rcases h with h | h
    · exact .inl h.1
    · exact .inr (by omega)
  · rw [MG.In]
    exact ⟨hk, .inr ha, hb, MG.less (fun b h => .inl h) hin⟩
theorem PartOk.ring {S : Nat → Prop} {w w1 w' : World} {m : MG} {q : PG} {a R : Nat} (hp : m.plain = q) (hk : m.kind < 7) (hb : Blk w' a (sT m.kind) m.enc.toArray) (ha : R < a) (hin : m.In (Fresh S w1) w') (hw1 : R < w1.heap.size) (hbw : Below w.heap.size w w') (hR : w.heap.size ≤ R) (hS : ∀ b, S b → b ≠ R) (u0 u1 : Value) :
    PartOk S w q (.returned (.tuple #[.agg #[.int .i64 m.kind, .iface (pT m.kind) (.pointer (some ⟨a, 0, none⟩))], .bool true])) ((w'.setCell ⟨R, 0, none⟩ u0).setCell ⟨R, 1, none⟩ u1) := by
  have hno : ¬ (fun b => Fresh S w1 b ∨ R < b) R := fun h => by
    rcases h with (h | h) | h
    · exact hS _ h rfl
    · omega
    · exact Nat.lt_irrefl _ h
  refine ⟨.bx a m, rfl, rfl, ?_, hp, (hbw.setCell hR _).setCell hR _⟩
  refine MG.less (S := fun b => Fresh S w1 b ∨ R < b) (fun b h => ?_) (MG.keep ((Keeps.set (p := ⟨R, 0, none⟩) hno _).trans (.set (p := ⟨R, 1, none⟩) hno _)) ?_)
  · rcases h with (h | h) | h
    · exact .inl h
    · exact .inr (by omega)
    · exact .inr (by omega)
  · rw [MG.In]
    exact ⟨hk, .inr ha, hb, MG.less (fun b h => .inl h) hin⟩
theorem PartOk.lift {S : Nat → Prop} {w : World} {q : PG} {e : Ending} {w' : World} (h : PartOk (fun _ => False) w q e w') : PartOk S w q e w' := by
  obtain ⟨g, e1, e2, e3, e4, e5⟩ := h
  exact ⟨g, e1, e2, MG.less (fun b h => h.elim (fun h => h.elim) .inr) e3, e4, e5⟩
theorem PartOk.same {S : Nat → Prop} {w w' : World} {g : MG} {R : Nat} {u v : Value} (he : g.enc = [u, v]) (hk : g.kind = 7) (hin : g.In (Old S w) w') (hbw : Below w.heap.size w w') (hR : w.heap.size ≤ R) (u0 u1 : Value) :
    PartOk S w g.plain (.returned (.tuple #[.agg #[u, v], .bool true])) ((w'.setCell ⟨R, 0, none⟩ u0).setCell ⟨R, 1, none⟩ u1) := by
  have hno : ¬ (Old S w) R := fun h => absurd h.2 (by omega)
  refine ⟨g, by rw [he], hk, ?_, rfl, (hbw.setCell hR _).setCell hR _⟩
  exact MG.less (fun b h => .inl h.1) (MG.keep ((Keeps.set (p := ⟨R, 0, none⟩) hno _).trans (.set (p := ⟨R, 1, none⟩) hno _)) hin)


set_option maxHeartbeats 8000000 in
theorem part4_in {a : Nat} {d : Nat} {A : Option Addr} {c : Nat} {kids : List MG} {i : Nat} {g : MG} (hi : kids[i]? = some g) (S : Nat → Prop) (w : World) (h : (MG.bx a (.mu 4 d A c kids)).In S w) :
    Calls Tryz.prog 28 #[.agg #[.int .i64 4, .iface 138 (.pointer (some ⟨a, 0, none⟩))], .int .i64 i] w (PartOk S w g.plain) := by
  rw [MG.In] at h
  obtain ⟨-, hSa, hblk, hin0⟩ := h
  rw [MG.In] at hin0
  obtain ⟨hd, -, hkb, hA0, hkid0⟩ := hin0
  have hblk : Blk w a 73 #[.slice A kids.length c, .int .u8 d] := hblk
  have hE : ∀ g ∈ kids, g.enc.length = esz 4 := MG.enc_esz hkid0 (by decide)
  have hE : ∀ g ∈ kids, g.enc.length = 6 := hE
  obtain ⟨hk, hin⟩ := MG.inL_iff.1 hkid0 g (List.mem_of_getElem? hi)
  have hk : g.kind = 1 := hk
  have HNTH := Lib.hid (fun (w' : World) (hb : Below w.heap.size w w') => nth4 (c := c) (d := .int .u8 d) (hA0.1.up hb) hE hkb hi hk hin)
  obtain ⟨d1, full, p, rfl⟩ := MG.is_pt hk hin
  have HNTH := Lib.hid (show ∀ w', Below w.heap.size w w' → Calls Tryz.prog 67 #[.agg #[.slice A kids.length c, .int .u8 d], .int .i64 i] w' (Gives w' (.agg #[.float .f64 p.x, .float .f64 p.y, .float .f64 p.z, .float .f64 p.m, .int .u8 d1, .bool full])) from HNTH.out)
  have HIN := Lib.hid (MG.old hin)
  obtain ⟨wA, hwA⟩ : ∃ wA, wA = (w.alloc (.cells #[.int .i64 4, .iface 138 (.pointer (some ⟨a, 0, none⟩))] 39)).alloc (.cells #[.int .i64 0, .nilIface] 39) := ⟨_, rfl⟩
  have hbl : Below w.heap.size w wA := by rw [hwA]; exact ((Below.refl _ _).alloc (Nat.le_refl _) _).alloc (by simp) _
  have hB : Blk wA w.heap.size 39 #[.int .i64 4, .iface 138 (.pointer (some ⟨a, 0, none⟩))] := by rw [hwA]; exact (Blk.new _ _ _).alloc _
  have hD : Blk wA (w.heap.size + 1) 39 #[.int .i64 0, .nilIface] := by
    rw [hwA]
    have := Blk.new (w.alloc (.cells #[.int .i64 4, .iface 138 (.pointer (some ⟨a, 0, none⟩))] 39)) 39 #[.int .i64 0, .nilIface]
    simpa using this
  have HB := Lib.hid hB
  have HD := Lib.hid hD
  have HM := Lib.hid (fun w' (hb : Below w.heap.size w w') => must4 (hblk.below hb hblk.lt))
  have HBL := Lib.hid hbl
  have HWA := Lib.hid hwA
  obtain ⟨pl, hpl⟩ : ∃ pl, pl = MG.plain (.pt d1 full p) := ⟨_, rfl⟩
  rw [← hpl]
  have HPL := Lib.hid hpl
  obtain ⟨n, hn⟩ : ∃ n, n = kids.length := ⟨_, rfl⟩
  rw [← hn] at HNTH HM
  clear hbl hwA hblk hin hk hB hD hpl hn hi hE hkid0 hA0 hkb
  go_enter Tryz.func28, Tryz.ntmps28
  go_wp2_with fail
  rw [← HWA.out]
  refine (gtype_calls _ _ _).mono ?_
  rintro e w0 ⟨rfl, hb0⟩
  have HB0 := Lib.hid (HBL.out.trans (hb0.mono HBL.out.size))
  have HD0 := Lib.hid (HD.out.below hb0 HD.out.lt)
  obtain ⟨b0, b1, -, -, bl⟩ := cells2 (HB.out.below hb0 HB.out.lt)
  have HM0 := Lib.hid (HM.out w0 HB0.out)
  clear hb0
  go_wp2_with fail
  refine HM0.out.mono ?_
  rintro e w1 ⟨rfl, hb1⟩
  have HB1 := Lib.hid (HB0.out.trans (hb1.mono HB0.out.size))
  have HD1 := Lib.hid (HD0.out.below hb1 HD0.out.lt)
  clear hb1 b0 b1 bl
  go_wp2_with fail
  refine (HNTH.out w1 HB1.out).mono ?_
  rintro e w2 ⟨rfl, hb2⟩
  have HB2 := Lib.hid (HB1.out.trans (hb2.mono HB1.out.size))
  have HD2 := Lib.hid (HD1.out.below hb2 HD1.out.lt)
  clear hb2
  go_wp2_with fail
  refine (asGeo1 _ _ _ _ _ _ _).mono ?_
  rintro e w3 ⟨a3, rfl, hk3, ha3, hb3⟩
  have HB3 := Lib.hid (HB2.out.trans (hb3.mono HB2.out.size))
  obtain ⟨r0, r1, p0, p1, rl⟩ := cells2 (HD2.out.below hb3 HD2.out.lt)
  have HK3 := Lib.hid hk3
  have HA3 := Lib.hid ha3
  have hd2 := HD2.out.lt
  clear hb3 hk3 ha3
  go_wp2_with fail
  refine bodyPost_ret (v := .tuple #[.agg #[.int .i64 1, .iface 130 (.pointer (some ⟨a3, 0, none⟩))], .bool true]) (by simp [results, Tryz.results28, go_sem, r0, r1, rl]; try rfl) rfl ?_
  rw [HPL.out]
  exact PartOk.box (m := .pt d1 full p) (R := w.heap.size + 1) (show (1 : Nat) < 7 by decide) HK3.out (by have := HA3.out; omega) (MG.up HB3.out HIN.out) HB3.out (Nat.le_add_right _ 1) _ _


set_option maxHeartbeats 8000000 in
theorem part4_out {a : Nat} {d : Nat} {A : Option Addr} {c : Nat} {kids : List MG} {i : Int} (ho : i < 0 ∨ (kids.length : Int) ≤ i) (S : Nat → Prop) (w : World) (h : (MG.bx a (.mu 4 d A c kids)).In S w) :
    Calls Tryz.prog 28 #[.agg #[.int .i64 4, .iface 138 (.pointer (some ⟨a, 0, none⟩))], .int .i64 i] w (Dies w) := by
  rw [MG.In] at h
  obtain ⟨-, hSa, hblk, hin0⟩ := h
  rw [MG.In] at hin0
  obtain ⟨hd, -, hkb, hA0, hkid0⟩ := hin0
  have hblk : Blk w a 73 #[.slice A kids.length c, .int .u8 d] := hblk
  have HOUT := Lib.hid (fun (w' : World) => out4 (c := c) (d := .int .u8 d) (w := w') ho (sl_nil hA0.1))
  obtain ⟨wA, hwA⟩ : ∃ wA, wA = (w.alloc (.cells #[.int .i64 4, .iface 138 (.pointer (some ⟨a, 0, none⟩))] 39)).alloc (.cells #[.int .i64 0, .nilIface] 39) := ⟨_, rfl⟩
  have hbl : Below w.heap.size w wA := by rw [hwA]; exact ((Below.refl _ _).alloc (Nat.le_refl _) _).alloc (by simp) _
  have hB : Blk wA w.heap.size 39 #[.int .i64 4, .iface 138 (.pointer (some ⟨a, 0, none⟩))] := by rw [hwA]; exact (Blk.new _ _ _).alloc _
  have hD : Blk wA (w.heap.size + 1) 39 #[.int .i64 0, .nilIface] := by
    rw [hwA]
    have := Blk.new (w.alloc (.cells #[.int .i64 4, .iface 138 (.pointer (some ⟨a, 0, none⟩))] 39)) 39 #[.int .i64 0, .nilIface]
    simpa using this
  have HB := Lib.hid hB
  have HD := Lib.hid hD
  have HM := Lib.hid (fun w' (hb : Below w.heap.size w w') => must4 (hblk.below hb hblk.lt))
  have HBL := Lib.hid hbl
  have HWA := Lib.hid hwA
  obtain ⟨n, hn⟩ : ∃ n, n = kids.length := ⟨_, rfl⟩
  rw [← hn] at HOUT HM
  clear hbl hwA hblk hB hD hn hkid0 hA0 hkb ho
  go_enter Tryz.func28, Tryz.ntmps28
  go_wp2_with fail
  rw [← HWA.out]
  refine (gtype_calls _ _ _).mono ?_
  rintro e w0 ⟨rfl, hb0⟩
  have HB0 := Lib.hid (HBL.out.trans (hb0.mono HBL.out.size))
  have HD0 := Lib.hid (HD.out.below hb0 HD.out.lt)
  obtain ⟨b0, b1, -, -, bl⟩ := cells2 (HB.out.below hb0 HB.out.lt)
  have HM0 := Lib.hid (HM.out w0 HB0.out)
  clear hb0
  go_wp2_with fail
  refine HM0.out.mono ?_
  rintro e w1 ⟨rfl, hb1⟩
  have HB1 := Lib.hid (HB0.out.trans (hb1.mono HB0.out.size))
  have HD1 := Lib.hid (HD0.out.below hb1 HD0.out.lt)
  clear hb1 b0 b1 bl
  go_wp2_with fail
  refine (HOUT.out w1).mono ?_
  rintro e w2 ⟨u, pv, rfl, hb2⟩
  have HB2 := Lib.hid (HB1.out.trans (hb2.mono HB1.out.size))
  clear hb2
  go_wp2_with fail
  exact ⟨rfl, u, pv, rfl, HB2.out⟩


set_option maxHeartbeats 8000000 in
theorem part5_in {a : Nat} {d : Nat} {A : Option Addr} {c : Nat} {kids : List MG} {i : Nat} {g : MG} (hi : kids[i]? = some g) (S : Nat → Prop) (w : World) (h : (MG.bx a (.mu 5 d A c kids)).In S w) :
    Calls Tryz.prog 28 #[.agg #[.int .i64 5, .iface 141 (.pointer (some ⟨a, 0, none⟩))], .int .i64 i] w (PartOk S w g.plain) := by
  rw [MG.In] at h
  obtain ⟨-, hSa, hblk, hin0⟩ := h
  rw [MG.In] at hin0
  obtain ⟨hd, -, hkb, hA0, hkid0⟩ := hin0
  have hblk : Blk w a 76 #[.slice A kids.length c, .int .u8 d] := hblk
  have hE : ∀ g ∈ kids, g.enc.length = esz 5 := MG.enc_esz hkid0 (by decide)
  have hE : ∀ g ∈ kids, g.enc.length = 2 := hE
  obtain ⟨hk, hin⟩ := MG.inL_iff.1 hkid0 g (List.mem_of_getElem? hi)
  have hk : g.kind = 2 := hk
  have HNTH := Lib.hid (fun (w' : World) (hb : Below w.heap.size w w') => nth5 (c := c) (d := .int .u8 d) (hA0.1.up hb) hE hkb hi hk hin)
  obtain ⟨d1, A1, c1, ns, rfl⟩ := MG.is_ln hk hin
  have HNTH := Lib.hid (show ∀ w', Below w.heap.size w w' → Calls Tryz.prog 69 #[.agg #[.slice A kids.length c, .int .u8 d], .int .i64 i] w' (Gives w' (.agg #[.int .u8 d1, .slice A1 ns.length c1])) from HNTH.out)
  have HIN := Lib.hid (MG.old hin)
  obtain ⟨wA, hwA⟩ : ∃ wA, wA = (w.alloc (.cells #[.int .i64 5, .iface 141 (.pointer (some ⟨a, 0, none⟩))] 39)).alloc (.cells #[.int .i64 0, .nilIface] 39) := ⟨_, rfl⟩
  have hbl : Below w.heap.size w wA := by rw [hwA]; exact ((Below.refl _ _).alloc (Nat.le_refl _) _).alloc (by simp) _
  have hB : Blk wA w.heap.size 39 #[.int .i64 5, .iface 141 (.pointer (some ⟨a, 0, none⟩))] := by rw [hwA]; exact (Blk.new _ _ _).alloc _
  have hD : Blk wA (w.heap.size + 1) 39 #[.int .i64 0, .nilIface] := by
    rw [hwA]
    have := Blk.new (w.alloc (.cells #[.int .i64 5, .iface 141 (.pointer (some ⟨a, 0, none⟩))] 39)) 39 #[.int .i64 0, .nilIface]
    simpa using this
  have HB := Lib.hid hB
  have HD := Lib.hid hD
  have HM := Lib.hid (fun w' (hb : Below w.heap.size w w') => must5 (hblk.below hb hblk.lt))
  have HBL := Lib.hid hbl
  have HWA := Lib.hid hwA
  obtain ⟨pl, hpl⟩ : ∃ pl, pl = MG.plain (.ln d1 A1 c1 ns) := ⟨_, rfl⟩
  rw [← hpl]
  have HPL := Lib.hid hpl
  obtain ⟨n, hn⟩ : ∃ n, n = kids.length := ⟨_, rfl⟩
  rw [← hn] at HNTH HM
  clear hbl hwA hblk hin hk hB hD hpl hn hi hE hkid0 hA0 hkb
  go_enter Tryz.func28, Tryz.ntmps28
  go_wp2_with fail
  rw [← HWA.out]
  refine (gtype_calls _ _ _).mono ?_
  rintro e w0 ⟨rfl, hb0⟩
  have HB0 := Lib.hid (HBL.out.trans (hb0.mono HBL.out.size))
  have HD0 := Lib.hid (HD.out.below hb0 HD.out.lt)
  obtain ⟨b0, b1, -, -, bl⟩ := cells2 (HB.out.below hb0 HB.out.lt)
  have HM0 := Lib.hid (HM.out w0 HB0.out)
  clear hb0
  go_wp2_with fail
  refine HM0.out.mono ?_
  rintro e w1 ⟨rfl, hb1⟩
  have HB1 := Lib.hid (HB0.out.trans (hb1.mono HB0.out.size))
  have HD1 := Lib.hid (HD0.out.below hb1 HD0.out.lt)
  clear hb1 b0 b1 bl
  go_wp2_with fail
  refine (HNTH.out w1 HB1.out).mono ?_
  rintro e w2 ⟨rfl, hb2⟩
  have HB2 := Lib.hid (HB1.out.trans (hb2.mono HB1.out.size))
  have HD2 := Lib.hid (HD1.out.below hb2 HD1.out.lt)
  clear hb2
  go_wp2_with fail
  refine (asGeo2 _ _ _).mono ?_
  rintro e w3 ⟨a3, rfl, hk3, ha3, hb3⟩
  have HB3 := Lib.hid (HB2.out.trans (hb3.mono HB2.out.size))
  obtain ⟨r0, r1, p0, p1, rl⟩ := cells2 (HD2.out.below hb3 HD2.out.lt)
  have HK3 := Lib.hid hk3
  have HA3 := Lib.hid ha3
  have hd2 := HD2.out.lt
  clear hb3 hk3 ha3
  go_wp2_with fail
  refine bodyPost_ret (v := .tuple #[.agg #[.int .i64 2, .iface 132 (.pointer (some ⟨a3, 0, none⟩))], .bool true]) (by simp [results, Tryz.results28, go_sem, r0, r1, rl]; try rfl) rfl ?_
  rw [HPL.out]
  exact PartOk.box (m := .ln d1 A1 c1 ns) (R := w.heap.size + 1) (show (2 : Nat) < 7 by decide) HK3.out (by have := HA3.out; omega) (MG.up HB3.out HIN.out) HB3.out (Nat.le_add_right _ 1) _ _


set_option maxHeartbeats 8000000 in
theorem part5_out {a : Nat} {d : Nat} {A : Option Addr} {c : Nat} {kids : List MG} {i : Int} (ho : i < 0 ∨ (kids.length : Int) ≤ i) (S : Nat → Prop) (w : World) (h : (MG.bx a (.mu 5 d A c kids)).In S w) :
    Calls Tryz.prog 28 #[.agg #[.int .i64 5, .iface 141 (.pointer (some ⟨a, 0, none⟩))], .int .i64 i] w (Dies w) := by
  rw [MG.In] at h
  obtain ⟨-, hSa, hblk, hin0⟩ := h
  rw [MG.In] at hin0
  obtain ⟨hd, -, hkb, hA0, hkid0⟩ := hin0
  have hblk : Blk w a 76 #[.slice A kids.length c, .int .u8 d] := hblk
  have HOUT := Lib.hid (fun (w' : World) => out5 (c := c) (d := .int .u8 d) (w := w') ho (sl_nil hA0.1))
  obtain ⟨wA, hwA⟩ : ∃ wA, wA = (w.alloc (.cells #[.int .i64 5, .iface 141 (.pointer (some ⟨a, 0, none⟩))] 39)).alloc (.cells #[.int .i64 0, .nilIface] 39) := ⟨_, rfl⟩
  have hbl : Below w.heap.size w wA := by rw [hwA]; exact ((Below.refl _ _).alloc (Nat.le_refl _) _).alloc (by simp) _
  have hB : Blk wA w.heap.size 39 #[.int .i64 5, .iface 141 (.pointer (some ⟨a, 0, none⟩))] := by rw [hwA]; exact (Blk.new _ _ _).alloc _
  have hD : Blk wA (w.heap.size + 1) 39 #[.int .i64 0, .nilIface] := by
    rw [hwA]
    have := Blk.new (w.alloc (.cells #[.int .i64 5, .iface 141 (.pointer (some ⟨a, 0, none⟩))] 39)) 39 #[.int .i64 0, .nilIface]
    simpa using this
  have HB := Lib.hid hB
  have HD := Lib.hid hD
  have HM := Lib.hid (fun w' (hb : Below w.heap.size w w') => must5 (hblk.below hb hblk.lt))
  have HBL := Lib.hid hbl
  have HWA := Lib.hid hwA
  obtain ⟨n, hn⟩ : ∃ n, n = kids.length := ⟨_, rfl⟩
  rw [← hn] at HOUT HM
  clear hbl hwA hblk hB hD hn hkid0 hA0 hkb ho
  go_enter Tryz.func28, Tryz.ntmps28
  go_wp2_with fail
  rw [← HWA.out]
  refine (gtype_calls _ _ _).mono ?_
  rintro e w0 ⟨rfl, hb0⟩
  have HB0 := Lib.hid (HBL.out.trans (hb0.mono HBL.out.size))
  have HD0 := Lib.hid (HD.out.below hb0 HD.out.lt)
  obtain ⟨b0, b1, -, -, bl⟩ := cells2 (HB.out.below hb0 HB.out.lt)
  have HM0 := Lib.hid (HM.out w0 HB0.out)
  clear hb0
  go_wp2_with fail
  refine HM0.out.mono ?_
  rintro e w1 ⟨rfl, hb1⟩
  have HB1 := Lib.hid (HB0.out.trans (hb1.mono HB0.out.size))
  have HD1 := Lib.hid (HD0.out.below hb1 HD0.out.lt)
  clear hb1 b0 b1 bl
  go_wp2_with fail
  refine (HOUT.out w1).mono ?_
  rintro e w2 ⟨u, pv, rfl, hb2⟩
  have HB2 := Lib.hid (HB1.out.trans (hb2.mono HB1.out.size))
  clear hb2
  go_wp2_with fail
  exact ⟨rfl, u, pv, rfl, HB2.out⟩


set_option maxHeartbeats 8000000 in
theorem part6_in {a : Nat} {d : Nat} {A : Option Addr} {c : Nat} {kids : List MG} {i : Nat} {g : MG} (hi : kids[i]? = some g) (S : Nat → Prop) (w : World) (h : (MG.bx a (.mu 6 d A c kids)).In S w) :
    Calls Tryz.prog 28 #[.agg #[.int .i64 6, .iface 144 (.pointer (some ⟨a, 0, none⟩))], .int .i64 i] w (PartOk S w g.plain) := by
  rw [MG.In] at h
  obtain ⟨-, hSa, hblk, hin0⟩ := h
  rw [MG.In] at hin0
  obtain ⟨hd, -, hkb, hA0, hkid0⟩ := hin0
  have hblk : Blk w a 80 #[.slice A kids.length c, .int .u8 d] := hblk
  have hE : ∀ g ∈ kids, g.enc.length = esz 6 := MG.enc_esz hkid0 (by decide)
  have hE : ∀ g ∈ kids, g.enc.length = 2 := hE
  obtain ⟨hk, hin⟩ := MG.inL_iff.1 hkid0 g (List.mem_of_getElem? hi)
  have hk : g.kind = 3 := hk
  have HNTH := Lib.hid (fun (w' : World) (hb : Below w.heap.size w w') => nth6 (c := c) (d := .int .u8 d) (hA0.1.up hb) hE hkb hi hk hin)
  obtain ⟨d1, A1, c1, ks, rfl⟩ := MG.is_mu (S := S) (w := w) (k := 3) hk (by decide) (by decide) (by decide)
  have HNTH := Lib.hid (show ∀ w', Below w.heap.size w w' → Calls Tryz.prog 71 #[.agg #[.slice A kids.length c, .int .u8 d], .int .i64 i] w' (Gives w' (.agg #[.slice A1 ks.length c1, .int .u8 d1])) from HNTH.out)
  have HIN := Lib.hid (MG.old hin)
  obtain ⟨wA, hwA⟩ : ∃ wA, wA = (w.alloc (.cells #[.int .i64 6, .iface 144 (.pointer (some ⟨a, 0, none⟩))] 39)).alloc (.cells #[.int .i64 0, .nilIface] 39) := ⟨_, rfl⟩
  have hbl : Below w.heap.size w wA := by rw [hwA]; exact ((Below.refl _ _).alloc (Nat.le_refl _) _).alloc (by simp) _
  have hB : Blk wA w.heap.size 39 #[.int .i64 6, .iface 144 (.pointer (some ⟨a, 0, none⟩))] := by rw [hwA]; exact (Blk.new _ _ _).alloc _
  have hD : Blk wA (w.heap.size + 1) 39 #[.int .i64 0, .nilIface] := by
    rw [hwA]
    have := Blk.new (w.alloc (.cells #[.int .i64 6, .iface 144 (.pointer (some ⟨a, 0, none⟩))] 39)) 39 #[.int .i64 0, .nilIface]
    simpa using this
  have HB := Lib.hid hB
  have HD := Lib.hid hD
  have HM := Lib.hid (fun w' (hb : Below w.heap.size w w') => must6 (hblk.below hb hblk.lt))
  have HBL := Lib.hid hbl
  have HWA := Lib.hid hwA
  obtain ⟨pl, hpl⟩ : ∃ pl, pl = MG.plain (.mu 3 d1 A1 c1 ks) := ⟨_, rfl⟩
  rw [← hpl]
  have HPL := Lib.hid hpl
  obtain ⟨n, hn⟩ : ∃ n, n = kids.length := ⟨_, rfl⟩
  rw [← hn] at HNTH HM
  clear hbl hwA hblk hin hk hB hD hpl hn hi hE hkid0 hA0 hkb
  go_enter Tryz.func28, Tryz.ntmps28
  go_wp2_with fail
  rw [← HWA.out]
  refine (gtype_calls _ _ _).mono ?_
  rintro e w0 ⟨rfl, hb0⟩
  have HB0 := Lib.hid (HBL.out.trans (hb0.mono HBL.out.size))
  have HD0 := Lib.hid (HD.out.below hb0 HD.out.lt)
  obtain ⟨b0, b1, -, -, bl⟩ := cells2 (HB.out.below hb0 HB.out.lt)
  have HM0 := Lib.hid (HM.out w0 HB0.out)
  clear hb0
  go_wp2_with fail
  refine HM0.out.mono ?_
  rintro e w1 ⟨rfl, hb1⟩
  have HB1 := Lib.hid (HB0.out.trans (hb1.mono HB0.out.size))
  have HD1 := Lib.hid (HD0.out.below hb1 HD0.out.lt)
  clear hb1 b0 b1 bl
  go_wp2_with fail
  refine (HNTH.out w1 HB1.out).mono ?_
  rintro e w2 ⟨rfl, hb2⟩
  have HB2 := Lib.hid (HB1.out.trans (hb2.mono HB1.out.size))
  have HD2 := Lib.hid (HD1.out.below hb2 HD1.out.lt)
  clear hb2
  go_wp2_with fail
  refine (asGeo3 _ _ _).mono ?_
  rintro e w3 ⟨a3, rfl, hk3, ha3, hb3⟩
  have HB3 := Lib.hid (HB2.out.trans (hb3.mono HB2.out.size))
  obtain ⟨r0, r1, p0, p1, rl⟩ := cells2 (HD2.out.below hb3 HD2.out.lt)
  have HK3 := Lib.hid hk3
  have HA3 := Lib.hid ha3
  have hd2 := HD2.out.lt
  clear hb3 hk3 ha3
  go_wp2_with fail
  refine bodyPost_ret (v := .tuple #[.agg #[.int .i64 3, .iface 135 (.pointer (some ⟨a3, 0, none⟩))], .bool true]) (by simp [results, Tryz.results28, go_sem, r0, r1, rl]; try rfl) rfl ?_
  rw [HPL.out]
  exact PartOk.box (m := .mu 3 d1 A1 c1 ks) (R := w.heap.size + 1) (show (3 : Nat) < 7 by decide) HK3.out (by have := HA3.out; omega) (MG.up HB3.out HIN.out) HB3.out (Nat.le_add_right _ 1) _ _


set_option maxHeartbeats 8000000 in
theorem part6_out {a : Nat} {d : Nat} {A : Option Addr} {c : Nat} {kids : List MG} {i : Int} (ho : i < 0 ∨ (kids.length : Int) ≤ i) (S : Nat → Prop) (w : World) (h : (MG.bx a (.mu 6 d A c kids)).In S w) :
    Calls Tryz.prog 28 #[.agg #[.int .i64 6, .iface 144 (.pointer (some ⟨a, 0, none⟩))], .int .i64 i] w (Dies w) := by
  rw [MG.In] at h
  obtain ⟨-, hSa, hblk, hin0⟩ := h
  rw [MG.In] at hin0
  obtain ⟨hd, -, hkb, hA0, hkid0⟩ := hin0
  have hblk : Blk w a 80 #[.slice A kids.length c, .int .u8 d] := hblk
  have HOUT := Lib.hid (fun (w' : World) => out6 (c := c) (d := .int .u8 d) (w := w') ho (sl_nil hA0.1))
  obtain ⟨wA, hwA⟩ : ∃ wA, wA = (w.alloc (.cells #[.int .i64 6, .iface 144 (.pointer (some ⟨a, 0, none⟩))] 39)).alloc (.cells #[.int .i64 0, .nilIface] 39) := ⟨_, rfl⟩
  have hbl : Below w.heap.size w wA := by rw [hwA]; exact ((Below.refl _ _).alloc (Nat.le_refl _) _).alloc (by simp) _
  have hB : Blk wA w.heap.size 39 #[.int .i64 6, .iface 144 (.pointer (some ⟨a, 0, none⟩))] := by rw [hwA]; exact (Blk.new _ _ _).alloc _
  have hD : Blk wA (w.heap.size + 1) 39 #[.int .i64 0, .nilIface] := by
    rw [hwA]
    have := Blk.new (w.alloc (.cells #[.int .i64 6, .iface 144 (.pointer (some ⟨a, 0, none⟩))] 39)) 39 #[.int .i64 0, .nilIface]
    simpa using this
  have HB := Lib.hid hB
  have HD := Lib.hid hD
  have HM := Lib.hid (fun w' (hb : Below w.heap.size w w') => must6 (hblk.below hb hblk.lt))
  have HBL := Lib.hid hbl
  have HWA := Lib.hid hwA
  obtain ⟨n, hn⟩ : ∃ n, n = kids.length := ⟨_, rfl⟩
  rw [← hn] at HOUT HM
  clear hbl hwA hblk hB hD hn hkid0 hA0 hkb ho
  go_enter Tryz.func28, Tryz.ntmps28
  go_wp2_with fail
  rw [← HWA.out]
  refine (gtype_calls _ _ _).mono ?_
  rintro e w0 ⟨rfl, hb0⟩
  have HB0 := Lib.hid (HBL.out.trans (hb0.mono HBL.out.size))
  have HD0 := Lib.hid (HD.out.below hb0 HD.out.lt)
  obtain ⟨b0, b1, -, -, bl⟩ := cells2 (HB.out.below hb0 HB.out.lt)
  have HM0 := Lib.hid (HM.out w0 HB0.out)
  clear hb0
  go_wp2_with fail
  refine HM0.out.mono ?_
  rintro e w1 ⟨rfl, hb1⟩
  have HB1 := Lib.hid (HB0.out.trans (hb1.mono HB0.out.size))
  have HD1 := Lib.hid (HD0.out.below hb1 HD0.out.lt)
  clear hb1 b0 b1 bl
  go_wp2_with fail
  refine (HOUT.out w1).mono ?_
  rintro e w2 ⟨u, pv, rfl, hb2⟩
  have HB2 := Lib.hid (HB1.out.trans (hb2.mono HB1.out.size))
  clear hb2
  go_wp2_with fail
  exact ⟨rfl, u, pv, rfl, HB2.out⟩


set_option maxHeartbeats 8000000 in
theorem part0_in {a : Nat} {d : Nat} {A : Option Addr} {c : Nat} {kids : List MG} {i : Nat} {g : MG} (hi : kids[i]? = some g) (S : Nat → Prop) (w : World) (h : (MG.bx a (.mu 0 d A c kids)).In S w) :
    Calls Tryz.prog 28 #[.agg #[.int .i64 0, .iface 148 (.pointer (some ⟨a, 0, none⟩))], .int .i64 i] w (PartOk S w g.plain) := by
  rw [MG.In] at h
  obtain ⟨-, hSa, hblk, hin0⟩ := h
  rw [MG.In] at hin0
  obtain ⟨hd, -, hkb, hA0, hkid0⟩ := hin0
  have hblk : Blk w a 84 #[.slice A kids.length c, .int .u8 d] := hblk
  have hE : ∀ g ∈ kids, g.enc.length = esz 0 := MG.enc_esz hkid0 (by decide)
  have hE : ∀ g ∈ kids, g.enc.length = 2 := hE
  obtain ⟨hk, hin⟩ := MG.inL_iff.1 hkid0 g (List.mem_of_getElem? hi)
  have hk : g.kind = 7 := hk
  have HNTH := Lib.hid (fun (w' : World) (hb : Below w.heap.size w w') => nth0 (c := c) (d := .int .u8 d) (hA0.1.up hb) hE hkb hi hk hin)
  obtain ⟨a1, m, rfl⟩ := MG.is_bx hk hin
  have HNTH := Lib.hid (show ∀ w', Below w.heap.size w w' → Calls Tryz.prog 73 #[.agg #[.slice A kids.length c, .int .u8 d], .int .i64 i] w' (Gives w' (.agg #[.int .i64 m.kind, .iface (pT m.kind) (.pointer (some ⟨a1, 0, none⟩))])) from HNTH.out)
  have HIN := Lib.hid (MG.old hin)
  obtain ⟨wA, hwA⟩ : ∃ wA, wA = (w.alloc (.cells #[.int .i64 0, .iface 148 (.pointer (some ⟨a, 0, none⟩))] 39)).alloc (.cells #[.int .i64 0, .nilIface] 39) := ⟨_, rfl⟩
  have hbl : Below w.heap.size w wA := by rw [hwA]; exact ((Below.refl _ _).alloc (Nat.le_refl _) _).alloc (by simp) _
  have hB : Blk wA w.heap.size 39 #[.int .i64 0, .iface 148 (.pointer (some ⟨a, 0, none⟩))] := by rw [hwA]; exact (Blk.new _ _ _).alloc _
  have hD : Blk wA (w.heap.size + 1) 39 #[.int .i64 0, .nilIface] := by
    rw [hwA]
    have := Blk.new (w.alloc (.cells #[.int .i64 0, .iface 148 (.pointer (some ⟨a, 0, none⟩))] 39)) 39 #[.int .i64 0, .nilIface]
    simpa using this
  have HB := Lib.hid hB
  have HD := Lib.hid hD
  have HM := Lib.hid (fun w' (hb : Below w.heap.size w w') => must0 (hblk.below hb hblk.lt))
  have HBL := Lib.hid hbl
  have HWA := Lib.hid hwA
  obtain ⟨pl, hpl⟩ : ∃ pl, pl = MG.plain (.bx a1 m) := ⟨_, rfl⟩
  rw [← hpl]
  have HPL := Lib.hid hpl
  obtain ⟨n, hn⟩ : ∃ n, n = kids.length := ⟨_, rfl⟩
  rw [← hn] at HNTH HM
  clear hbl hwA hblk hin hk hB hD hpl hn hi hE hkid0 hA0 hkb
  go_enter Tryz.func28, Tryz.ntmps28
  go_wp2_with fail
  rw [← HWA.out]
  refine (gtype_calls _ _ _).mono ?_
  rintro e w0 ⟨rfl, hb0⟩
  have HB0 := Lib.hid (HBL.out.trans (hb0.mono HBL.out.size))
  have HD0 := Lib.hid (HD.out.below hb0 HD.out.lt)
  obtain ⟨b0, b1, -, -, bl⟩ := cells2 (HB.out.below hb0 HB.out.lt)
  have HM0 := Lib.hid (HM.out w0 HB0.out)
  clear hb0
  go_wp2_with fail
  refine HM0.out.mono ?_
  rintro e w1 ⟨rfl, hb1⟩
  have HB1 := Lib.hid (HB0.out.trans (hb1.mono HB0.out.size))
  have HD1 := Lib.hid (HD0.out.below hb1 HD0.out.lt)
  clear hb1 b0 b1 bl
  go_wp2_with fail
  refine (HNTH.out w1 HB1.out).mono ?_
  rintro e w2 ⟨rfl, hb2⟩
  have HB2 := Lib.hid (HB1.out.trans (hb2.mono HB1.out.size))
  have HD2 := Lib.hid (HD1.out.below hb2 HD1.out.lt)
  clear hb2
  obtain ⟨r0, r1, p0, p1, rl⟩ := cells2 HD2.out
  go_wp2_with fail
  refine bodyPost_ret (v := .tuple #[.agg #[.int .i64 m.kind, .iface (pT m.kind) (.pointer (some ⟨a1, 0, none⟩))], .bool true]) (by simp [results, Tryz.results28, go_sem, r0, r1, rl]; try rfl) rfl ?_
  rw [HPL.out]
  exact PartOk.same (R := w.heap.size + 1) rfl rfl (MG.up HB2.out HIN.out) HB2.out (Nat.le_add_right _ 1) _ _


set_option maxHeartbeats 8000000 in
theorem part0_out {a : Nat} {d : Nat} {A : Option Addr} {c : Nat} {kids : List MG} {i : Int} (ho : i < 0 ∨ (kids.length : Int) ≤ i) (S : Nat → Prop) (w : World) (h : (MG.bx a (.mu 0 d A c kids)).In S w) :
    Calls Tryz.prog 28 #[.agg #[.int .i64 0, .iface 148 (.pointer (some ⟨a, 0, none⟩))], .int .i64 i] w (Dies w) := by
  rw [MG.In] at h
  obtain ⟨-, hSa, hblk, hin0⟩ := h
  rw [MG.In] at hin0
  obtain ⟨hd, -, hkb, hA0, hkid0⟩ := hin0
  have hblk : Blk w a 84 #[.slice A kids.length c, .int .u8 d] := hblk
  have HOUT := Lib.hid (fun (w' : World) => out0 (c := c) (d := .int .u8 d) (w := w') ho (sl_nil hA0.1))
  obtain ⟨wA, hwA⟩ : ∃ wA, wA = (w.alloc (.cells #[.int .i64 0, .iface 148 (.pointer (some ⟨a, 0, none⟩))] 39)).alloc (.cells #[.int .i64 0, .nilIface] 39) := ⟨_, rfl⟩
  have hbl : Below w.heap.size w wA := by rw [hwA]; exact ((Below.refl _ _).alloc (Nat.le_refl _) _).alloc (by simp) _
  have hB : Blk wA w.heap.size 39 #[.int .i64 0, .iface 148 (.pointer (some ⟨a, 0, none⟩))] := by rw [hwA]; exact (Blk.new _ _ _).alloc _
  have hD : Blk wA (w.heap.size + 1) 39 #[.int .i64 0, .nilIface] := by
    rw [hwA]
    have := Blk.new (w.alloc (.cells #[.int .i64 0, .iface 148 (.pointer (some ⟨a, 0, none⟩))] 39)) 39 #[.int .i64 0, .nilIface]
    simpa using this
  have HB := Lib.hid hB
  have HD := Lib.hid hD
  have HM := Lib.hid (fun w' (hb : Below w.heap.size w w') => must0 (hblk.below hb hblk.lt))
  have HBL := Lib.hid hbl
  have HWA := Lib.hid hwA
  obtain ⟨n, hn⟩ : ∃ n, n = kids.length := ⟨_, rfl⟩
  rw [← hn] at HOUT HM
  clear hbl hwA hblk hB hD hn hkid0 hA0 hkb ho
  go_enter Tryz.func28, Tryz.ntmps28
  go_wp2_with fail
  rw [← HWA.out]
  refine (gtype_calls _ _ _).mono ?_
  rintro e w0 ⟨rfl, hb0⟩
  have HB0 := Lib.hid (HBL.out.trans (hb0.mono HBL.out.size))
  have HD0 := Lib.hid (HD.out.below hb0 HD.out.lt)
  obtain ⟨b0, b1, -, -, bl⟩ := cells2 (HB.out.below hb0 HB.out.lt)
  have HM0 := Lib.hid (HM.out w0 HB0.out)
  clear hb0
  go_wp2_with fail
  refine HM0.out.mono ?_
  rintro e w1 ⟨rfl, hb1⟩
  have HB1 := Lib.hid (HB0.out.trans (hb1.mono HB0.out.size))
  have HD1 := Lib.hid (HD0.out.below hb1 HD0.out.lt)
  clear hb1 b0 b1 bl
  go_wp2_with fail
  refine (HOUT.out w1).mono ?_
  rintro e w2 ⟨u, pv, rfl, hb2⟩
  have HB2 := Lib.hid (HB1.out.trans (hb2.mono HB1.out.size))
  clear hb2
  go_wp2_with fail
  exact ⟨rfl, u, pv, rfl, HB2.out⟩


set_option maxHeartbeats 8000000 in
theorem part2_in {a : Nat} {d : Nat} {A : Option Addr} {c : Nat} {ns : List Nat} {i : Nat} (ho : i < ns.length / wd d) (S : Nat → Prop) (w : World) (h : (MG.bx a (.ln d A c ns)).In S w) :
    Calls Tryz.prog 28 #[.agg #[.int .i64 2, .iface 132 (.pointer (some ⟨a, 0, none⟩))], .int .i64 i] w (PartOk S w (.mk 1 d (emit d (plAt d ns i)) [])) := by
  rw [MG.In] at h
  obtain ⟨-, hSa, hblk, hin0⟩ := h
  obtain ⟨hlen, hbig⟩ := MG.ln_len hin0
  rw [MG.In] at hin0
  obtain ⟨hd, hmod, hp4, hA, hAS⟩ := hin0
  have hblk : Blk w a 65 #[.int .u8 d, .slice A ns.length c] := hblk
  have hi : (i + 1) * wd d ≤ ns.length := by rw [hlen]; exact Nat.mul_le_mul_right _ ho
  obtain ⟨q, hq⟩ : ∃ q, q = plAt d ns i := ⟨_, rfl⟩
  have hqc : clip d q = q := by rw [hq]; exact plAt_clip d ns i
  have HGET := Lib.hid (fun (w' : World) (hb : Below w.heap.size w w') => get_calls (c := c) hd (hA.up hb) hbig hi)
  rw [← hq] at HGET ⊢
  have HIN := Lib.hid (show ∀ w', (MG.pt d true q).In (Old S w) w' from fun w' => by rw [MG.In]; exact ⟨hd, hqc⟩)
  obtain ⟨wA, hwA⟩ : ∃ wA, wA = (w.alloc (.cells #[.int .i64 2, .iface 132 (.pointer (some ⟨a, 0, none⟩))] 39)).alloc (.cells #[.int .i64 0, .nilIface] 39) := ⟨_, rfl⟩
  have hbl : Below w.heap.size w wA := by rw [hwA]; exact ((Below.refl _ _).alloc (Nat.le_refl _) _).alloc (by simp) _
  have hB : Blk wA w.heap.size 39 #[.int .i64 2, .iface 132 (.pointer (some ⟨a, 0, none⟩))] := by rw [hwA]; exact (Blk.new _ _ _).alloc _
  have hD : Blk wA (w.heap.size + 1) 39 #[.int .i64 0, .nilIface] := by
    rw [hwA]
    have := Blk.new (w.alloc (.cells #[.int .i64 2, .iface 132 (.pointer (some ⟨a, 0, none⟩))] 39)) 39 #[.int .i64 0, .nilIface]
    simpa using this
  have HB := Lib.hid hB
  have HD := Lib.hid hD
  have HM := Lib.hid (fun w' (hb : Below w.heap.size w w') => must2 (hblk.below hb hblk.lt))
  have HBL := Lib.hid hbl
  have HWA := Lib.hid hwA
  obtain ⟨n, hn⟩ : ∃ n, n = ns.length := ⟨_, rfl⟩
  rw [← hn] at HGET HM
  clear hbl hwA hblk hB hD hn hq hqc hi hA hp4 hmod hlen hbig ho
  go_enter Tryz.func28, Tryz.ntmps28
  go_wp2_with fail
  rw [← HWA.out]
  refine (gtype_calls _ _ _).mono ?_
  rintro e w0 ⟨rfl, hb0⟩
  have HB0 := Lib.hid (HBL.out.trans (hb0.mono HBL.out.size))
  have HD0 := Lib.hid (HD.out.below hb0 HD.out.lt)
  obtain ⟨b0, b1, -, -, bl⟩ := cells2 (HB.out.below hb0 HB.out.lt)
  have HM0 := Lib.hid (HM.out w0 HB0.out)
  clear hb0
  go_wp2_with fail
  refine HM0.out.mono ?_
  rintro e w1 ⟨rfl, hb1⟩
  have HB1 := Lib.hid (HB0.out.trans (hb1.mono HB0.out.size))
  have HD1 := Lib.hid (HD0.out.below hb1 HD0.out.lt)
  clear hb1 b0 b1 bl
  go_wp2_with fail
  refine (coords_calls _ _ _ _ _).mono ?_
  rintro e w4 ⟨rfl, hb4⟩
  have HB4 := Lib.hid (HB1.out.trans (hb4.mono HB1.out.size))
  have HD4 := Lib.hid (HD1.out.below hb4 HD1.out.lt)
  clear hb4
  go_wp2_with fail
  refine (HGET.out w4 HB4.out).mono ?_
  rintro e w5 ⟨rfl, hb5⟩
  have HB5 := Lib.hid (HB4.out.trans (hb5.mono HB4.out.size))
  have HD5 := Lib.hid (HD4.out.below hb5 HD4.out.lt)
  clear hb5
  go_wp2_with fail
  refine (asPoint_calls _ _ _ _ _ _).mono ?_
  rintro e w2 ⟨rfl, hb2⟩
  have HB2 := Lib.hid (HB5.out.trans (hb2.mono HB5.out.size))
  have HD2 := Lib.hid (HD5.out.below hb2 HD5.out.lt)
  clear hb2
  go_wp2_with fail
  refine (asGeo1 _ _ _ _ _ _ _).mono ?_
  rintro e w3 ⟨a3, rfl, hk3, ha3, hb3⟩
  have HB3 := Lib.hid (HB2.out.trans (hb3.mono HB2.out.size))
  obtain ⟨r0, r1, p0, p1, rl⟩ := cells2 (HD2.out.below hb3 HD2.out.lt)
  have HK3 := Lib.hid hk3
  have HA3 := Lib.hid ha3
  have hd2 := HD2.out.lt
  clear hb3 hk3 ha3
  go_wp2_with fail
  refine bodyPost_ret (v := .tuple #[.agg #[.int .i64 1, .iface 130 (.pointer (some ⟨a3, 0, none⟩))], .bool true]) (by simp [results, Tryz.results28, go_sem, r0, r1, rl]; try rfl) rfl ?_
  exact PartOk.box (m := .pt d true q) (R := w.heap.size + 1) (show (1 : Nat) < 7 by decide) HK3.out (by have := HA3.out; omega) (HIN.out _) HB3.out (Nat.le_add_right _ 1) _ _


set_option maxHeartbeats 8000000 in
theorem part2_out {a : Nat} {d : Nat} {A : Option Addr} {c : Nat} {ns : List Nat} {i : Int} (ho : i < 0 ∨ ((ns.length / wd d : Nat) : Int) ≤ i) (hbi : -2147483648 ≤ i ∧ i ≤ 2147483648) (S : Nat → Prop) (w : World) (h : (MG.bx a (.ln d A c ns)).In S w) :
    Calls Tryz.prog 28 #[.agg #[.int .i64 2, .iface 132 (.pointer (some ⟨a, 0, none⟩))], .int .i64 i] w (Dies w) := by
  rw [MG.In] at h
  obtain ⟨-, hSa, hblk, hin0⟩ := h
  obtain ⟨hlen, hbig⟩ := MG.ln_len hin0
  rw [MG.In] at hin0
  obtain ⟨hd, hmod, hp4, hA, hAS⟩ := hin0
  have hblk : Blk w a 65 #[.int .u8 d, .slice A ns.length c] := hblk
  have ho2 : i < 0 ∨ (ns.length : Int) ≤ i * (wd d : Int) := by
    rcases ho with h | h
    · exact .inl h
    · refine .inr ?_
      have h2 := Int.mul_le_mul_of_nonneg_right h (Int.natCast_nonneg (wd d))
      rw [← Int.natCast_mul, ← hlen] at h2
      exact h2
  have HOUT := Lib.hid (fun (w' : World) => getOut_calls (c := c) (w := w') hd ho2 hbi (sl_nil hA))
  obtain ⟨wA, hwA⟩ : ∃ wA, wA = (w.alloc (.cells #[.int .i64 2, .iface 132 (.pointer (some ⟨a, 0, none⟩))] 39)).alloc (.cells #[.int .i64 0, .nilIface] 39) := ⟨_, rfl⟩
  have hbl : Below w.heap.size w wA := by rw [hwA]; exact ((Below.refl _ _).alloc (Nat.le_refl _) _).alloc (by simp) _
  have hB : Blk wA w.heap.size 39 #[.int .i64 2, .iface 132 (.pointer (some ⟨a, 0, none⟩))] := by rw [hwA]; exact (Blk.new _ _ _).alloc _
  have hD : Blk wA (w.heap.size + 1) 39 #[.int .i64 0, .nilIface] := by
    rw [hwA]
    have := Blk.new (w.alloc (.cells #[.int .i64 2, .iface 132 (.pointer (some ⟨a, 0, none⟩))] 39)) 39 #[.int .i64 0, .nilIface]
    simpa using this
  have HB := Lib.hid hB
  have HD := Lib.hid hD
  have HM := Lib.hid (fun w' (hb : Below w.heap.size w w') => must2 (hblk.below hb hblk.lt))
  have HBL := Lib.hid hbl
  have HWA := Lib.hid hwA
  obtain ⟨n, hn⟩ : ∃ n, n = ns.length := ⟨_, rfl⟩
  rw [← hn] at HOUT HM
  clear hbl hwA hblk hB hD hn hA hp4 hmod hlen hbig ho ho2 hbi
  go_enter Tryz.func28, Tryz.ntmps28
  go_wp2_with fail
  rw [← HWA.out]
  refine (gtype_calls _ _ _).mono ?_
  rintro e w0 ⟨rfl, hb0⟩
  have HB0 := Lib.hid (HBL.out.trans (hb0.mono HBL.out.size))
  have HD0 := Lib.hid (HD.out.below hb0 HD.out.lt)
  obtain ⟨b0, b1, -, -, bl⟩ := cells2 (HB.out.below hb0 HB.out.lt)
  have HM0 := Lib.hid (HM.out w0 HB0.out)
  clear hb0
  go_wp2_with fail
  refine HM0.out.mono ?_
  rintro e w1 ⟨rfl, hb1⟩
  have HB1 := Lib.hid (HB0.out.trans (hb1.mono HB0.out.size))
  have HD1 := Lib.hid (HD0.out.below hb1 HD0.out.lt)
  clear hb1 b0 b1 bl
  go_wp2_with fail
  refine (coords_calls _ _ _ _ _).mono ?_
  rintro e w4 ⟨rfl, hb4⟩
  have HB4 := Lib.hid (HB1.out.trans (hb4.mono HB1.out.size))
  clear hb4
  go_wp2_with fail
  refine (HOUT.out w4).mono ?_
  rintro e w2 ⟨u, pv, rfl, hb2⟩
  have HB2 := Lib.hid (HB4.out.trans (hb2.mono HB4.out.size))
  clear hb2
  go_wp2_with fail
  exact ⟨rfl, u, pv, rfl, HB2.out⟩


set_option maxHeartbeats 8000000 in
theorem part3_outer {a : Nat} {d : Nat} {A : Option Addr} {c : Nat} {kids : List MG} {g : MG} (hi : kids[0]? = some g) (S : Nat → Prop) (w : World) (h : (MG.bx a (.mu 3 d A c kids)).In S w) :
    Calls Tryz.prog 28 #[.agg #[.int .i64 3, .iface 135 (.pointer (some ⟨a, 0, none⟩))], .int .i64 0] w (PartOk S w g.plain) := by
  rw [MG.In] at h
  obtain ⟨-, hSa, hblk, hin0⟩ := h
  rw [MG.In] at hin0
  obtain ⟨hd, -, hkb, hA0, hkid0⟩ := hin0
  have hblk : Blk w a 69 #[.slice A kids.length c, .int .u8 d] := hblk
  have hE : ∀ g ∈ kids, g.enc.length = 2 := MG.enc_esz hkid0 (by decide)
  obtain ⟨hk, hin⟩ := MG.inL_iff.1 hkid0 g (List.mem_of_getElem? hi)
  have hk : g.kind = 2 := hk
  have HNTH := Lib.hid (fun (w' : World) (hb : Below w.heap.size w w') => extRing_some (c := c) (d := .int .u8 d) (hA0.1.up hb) hE hi hk (MG.up hb hin))
  obtain ⟨d1, A1, c1, ns, rfl⟩ := MG.is_ln hk hin
  have HNTH := Lib.hid (show ∀ w', Below w.heap.size w w' → Calls Tryz.prog 64 #[.agg #[.slice A kids.length c, .int .u8 d]] w' (Gives w' (.agg #[.int .u8 d1, .slice A1 ns.length c1])) from HNTH.out)
  have HIN := Lib.hid (MG.old hin)
  obtain ⟨wA, hwA⟩ : ∃ wA, wA = (w.alloc (.cells #[.int .i64 3, .iface 135 (.pointer (some ⟨a, 0, none⟩))] 39)).alloc (.cells #[.int .i64 0, .nilIface] 39) := ⟨_, rfl⟩
  have hbl : Below w.heap.size w wA := by rw [hwA]; exact ((Below.refl _ _).alloc (Nat.le_refl _) _).alloc (by simp) _
  have hB : Blk wA w.heap.size 39 #[.int .i64 3, .iface 135 (.pointer (some ⟨a, 0, none⟩))] := by rw [hwA]; exact (Blk.new _ _ _).alloc _
  have hD : Blk wA (w.heap.size + 1) 39 #[.int .i64 0, .nilIface] := by
    rw [hwA]
    have := Blk.new (w.alloc (.cells #[.int .i64 3, .iface 135 (.pointer (some ⟨a, 0, none⟩))] 39)) 39 #[.int .i64 0, .nilIface]
    simpa using this
  have HB := Lib.hid hB
  have HD := Lib.hid hD
  have HM := Lib.hid (fun w' (hb : Below w.heap.size w w') => must3 (hblk.below hb hblk.lt))
  have HBL := Lib.hid hbl
  have HWA := Lib.hid hwA
  obtain ⟨pl, hpl⟩ : ∃ pl, pl = MG.plain (.ln d1 A1 c1 ns) := ⟨_, rfl⟩
  rw [← hpl]
  have HPL := Lib.hid hpl
  obtain ⟨n, hn⟩ : ∃ n, n = kids.length := ⟨_, rfl⟩
  rw [← hn] at HNTH HM
  clear hbl hwA hblk hin hk hB hD hpl hn hi hE hkid0 hA0 hkb
  go_enter Tryz.func28, Tryz.ntmps28
  go_wp2_with fail
  rw [← HWA.out]
  refine (gtype_calls _ _ _).mono ?_
  rintro e w0 ⟨rfl, hb0⟩
  have HB0 := Lib.hid (HBL.out.trans (hb0.mono HBL.out.size))
  have HD0 := Lib.hid (HD.out.below hb0 HD.out.lt)
  obtain ⟨b0, b1, -, -, bl⟩ := cells2 (HB.out.below hb0 HB.out.lt)
  have HM0 := Lib.hid (HM.out w0 HB0.out)
  clear hb0
  go_wp2_with fail
  refine HM0.out.mono ?_
  rintro e w1 ⟨rfl, hb1⟩
  have HB1 := Lib.hid (HB0.out.trans (hb1.mono HB0.out.size))
  have HD1 := Lib.hid (HD0.out.below hb1 HD0.out.lt)
  clear hb1 b0 b1 bl
  go_wp2_with fail
  refine (HNTH.out w1 HB1.out).mono ?_
  rintro e w2 ⟨rfl, hb2⟩
  have HB2 := Lib.hid (HB1.out.trans (hb2.mono HB1.out.size))
  have HD2 := Lib.hid (HD1.out.below hb2 HD1.out.lt)
  clear hb2
  go_wp2_with fail
  refine (asGeo2 _ _ _).mono ?_
  rintro e w3 ⟨a3, rfl, hk3, ha3, hb3⟩
  have HB3 := Lib.hid (HB2.out.trans (hb3.mono HB2.out.size))
  obtain ⟨r0, r1, p0, p1, rl⟩ := cells2 (HD2.out.below hb3 HD2.out.lt)
  have HK3 := Lib.hid hk3
  have HA3 := Lib.hid ha3
  have hd2 := HD2.out.lt
  clear hb3 hk3 ha3
  go_wp2_with fail
  refine bodyPost_ret (v := .tuple #[.agg #[.int .i64 2, .iface 132 (.pointer (some ⟨a3, 0, none⟩))], .bool true]) (by simp [results, Tryz.results28, go_sem, r0, r1, rl]; try rfl) rfl ?_
  rw [HPL.out]
  exact PartOk.box (m := .ln d1 A1 c1 ns) (R := w.heap.size + 1) (show (2 : Nat) < 7 by decide) HK3.out (by have := HA3.out; omega) (MG.up HB3.out HIN.out) HB3.out (Nat.le_add_right _ 1) _ _


set_option maxHeartbeats 8000000 in
theorem part3_inner {a : Nat} {d : Nat} {A : Option Addr} {c : Nat} {kids : List MG} {i : Nat} {g : MG} (hi : kids[i]? = some g) (h0 : i ≠ 0) (S : Nat → Prop) (w : World) (h : (MG.bx a (.mu 3 d A c kids)).In S w) :
    Calls Tryz.prog 28 #[.agg #[.int .i64 3, .iface 135 (.pointer (some ⟨a, 0, none⟩))], .int .i64 i] w (PartOk S w g.plain) := by
  rw [MG.In] at h
  obtain ⟨-, hSa, hblk, hin0⟩ := h
  rw [MG.In] at hin0
  obtain ⟨hd, -, hkb, hA0, hkid0⟩ := hin0
  have hblk : Blk w a 69 #[.slice A kids.length c, .int .u8 d] := hblk
  have hE : ∀ g ∈ kids, g.enc.length = 2 := MG.enc_esz hkid0 (by decide)
  obtain ⟨hk, hin⟩ := MG.inL_iff.1 hkid0 g (List.mem_of_getElem? hi)
  have hk : g.kind = 2 := hk
  have HNTH := Lib.hid (fun (w' : World) (hb : Below w.heap.size w w') => intRing_in (c := c) (d := .int .u8 d) (hA0.1.up hb) hE hkb hi h0 hk (MG.up hb hin))
  obtain ⟨d1, A1, c1, ns, rfl⟩ := MG.is_ln hk hin
  have HNTH := Lib.hid (show ∀ w', Below w.heap.size w w' → Calls Tryz.prog 65 #[.agg #[.slice A kids.length c, .int .u8 d], .int .i64 ((i : Int) - 1)] w' (Gives w' (.agg #[.int .u8 d1, .slice A1 ns.length c1])) from HNTH.out)
  have HIN := Lib.hid (MG.old hin)
  obtain ⟨wA, hwA⟩ : ∃ wA, wA = (w.alloc (.cells #[.int .i64 3, .iface 135 (.pointer (some ⟨a, 0, none⟩))] 39)).alloc (.cells #[.int .i64 0, .nilIface] 39) := ⟨_, rfl⟩
  have hbl : Below w.heap.size w wA := by rw [hwA]; exact ((Below.refl _ _).alloc (Nat.le_refl _) _).alloc (by simp) _
  have hB : Blk wA w.heap.size 39 #[.int .i64 3, .iface 135 (.pointer (some ⟨a, 0, none⟩))] := by rw [hwA]; exact (Blk.new _ _ _).alloc _
  have hD : Blk wA (w.heap.size + 1) 39 #[.int .i64 0, .nilIface] := by
    rw [hwA]
    have := Blk.new (w.alloc (.cells #[.int .i64 3, .iface 135 (.pointer (some ⟨a, 0, none⟩))] 39)) 39 #[.int .i64 0, .nilIface]
    simpa using this
  have HB := Lib.hid hB
  have HD := Lib.hid hD
  have HM := Lib.hid (fun w' (hb : Below w.heap.size w w') => must3 (hblk.below hb hblk.lt))
  have HBL := Lib.hid hbl
  have HWA := Lib.hid hwA
  obtain ⟨pl, hpl⟩ : ∃ pl, pl = MG.plain (.ln d1 A1 c1 ns) := ⟨_, rfl⟩
  rw [← hpl]
  have HPL := Lib.hid hpl
  obtain ⟨n, hn⟩ : ∃ n, n = kids.length := ⟨_, rfl⟩
  rw [← hn] at HNTH HM
  have h0i : ((i : Int) == 0) = false := beq_eq_false_iff_ne.2 (by omega)
  have h0j : ¬ (i : Int) = 0 := by omega
  have hwj : IntKind.i64.wrap ((i : Int) - 1) = (i : Int) - 1 := IntWalk.i64_in _ (by have := (List.getElem?_eq_some_iff.1 hi).1; unfold kbig at hkb; omega)
  clear h0
  clear hbl hwA hblk hin hk hB hD hpl hn hi hE hkid0 hA0 hkb
  go_enter Tryz.func28, Tryz.ntmps28
  go_wp2_with fail
  rw [← HWA.out]
  refine (gtype_calls _ _ _).mono ?_
  rintro e w0 ⟨rfl, hb0⟩
  have HB0 := Lib.hid (HBL.out.trans (hb0.mono HBL.out.size))
  have HD0 := Lib.hid (HD.out.below hb0 HD.out.lt)
  obtain ⟨b0, b1, -, -, bl⟩ := cells2 (HB.out.below hb0 HB.out.lt)
  have HM0 := Lib.hid (HM.out w0 HB0.out)
  clear hb0
  go_wp2_with fail
  refine HM0.out.mono ?_
  rintro e w1 ⟨rfl, hb1⟩
  have HB1 := Lib.hid (HB0.out.trans (hb1.mono HB0.out.size))
  have HD1 := Lib.hid (HD0.out.below hb1 HD0.out.lt)
  clear hb1 b0 b1 bl
  go_wp2_with fail
  refine (HNTH.out w1 HB1.out).mono ?_
  rintro e w2 ⟨rfl, hb2⟩
  have HB2 := Lib.hid (HB1.out.trans (hb2.mono HB1.out.size))
  have HD2 := Lib.hid (HD1.out.below hb2 HD1.out.lt)
  clear hb2
  go_wp2_with fail
  refine (asGeo2 _ _ _).mono ?_
  rintro e w3 ⟨a3, rfl, hk3, ha3, hb3⟩
  have HB3 := Lib.hid (HB2.out.trans (hb3.mono HB2.out.size))
  obtain ⟨r0, r1, p0, p1, rl⟩ := cells2 (HD2.out.below hb3 HD2.out.lt)
  have HK3 := Lib.hid hk3
  have HA3 := Lib.hid ha3
  have hd2 := HD2.out.lt
  clear hb3 hk3 ha3
  go_wp2_with fail
  refine bodyPost_ret (v := .tuple #[.agg #[.int .i64 2, .iface 132 (.pointer (some ⟨a3, 0, none⟩))], .bool true]) (by simp [results, Tryz.results28, go_sem, r0, r1, rl]; try rfl) rfl ?_
  rw [HPL.out]
  exact PartOk.box (m := .ln d1 A1 c1 ns) (R := w.heap.size + 1) (show (2 : Nat) < 7 by decide) HK3.out (by have := HA3.out; omega) (MG.up HB3.out HIN.out) HB3.out (Nat.le_add_right _ 1) _ _


set_option maxHeartbeats 8000000 in
theorem part3_none {a : Nat} {d : Nat} {A : Option Addr} {c : Nat} {kids : List MG} (hz : kids = []) (S : Nat → Prop) (w : World) (h : (MG.bx a (.mu 3 d A c kids)).In S w) :
    Calls Tryz.prog 28 #[.agg #[.int .i64 3, .iface 135 (.pointer (some ⟨a, 0, none⟩))], .int .i64 0] w (PartOk S w (.mk 2 d [] [])) := by
  rw [MG.In] at h
  obtain ⟨-, hSa, hblk, hin0⟩ := h
  rw [MG.In] at hin0
  obtain ⟨hd, -, hkb, hA0, hkid0⟩ := hin0
  have hblk : Blk w a 69 #[.slice A kids.length c, .int .u8 d] := hblk
  subst hz
  have HF := Lib.hid (fun w' => extRing_none hd A c (fun _ => False) w')
  obtain ⟨wA, hwA⟩ : ∃ wA, wA = (w.alloc (.cells #[.int .i64 3, .iface 135 (.pointer (some ⟨a, 0, none⟩))] 39)).alloc (.cells #[.int .i64 0, .nilIface] 39) := ⟨_, rfl⟩
  have hbl : Below w.heap.size w wA := by rw [hwA]; exact ((Below.refl _ _).alloc (Nat.le_refl _) _).alloc (by simp) _
  have hB : Blk wA w.heap.size 39 #[.int .i64 3, .iface 135 (.pointer (some ⟨a, 0, none⟩))] := by rw [hwA]; exact (Blk.new _ _ _).alloc _
  have hD : Blk wA (w.heap.size + 1) 39 #[.int .i64 0, .nilIface] := by
    rw [hwA]
    have := Blk.new (w.alloc (.cells #[.int .i64 3, .iface 135 (.pointer (some ⟨a, 0, none⟩))] 39)) 39 #[.int .i64 0, .nilIface]
    simpa using this
  have HB := Lib.hid hB
  have HD := Lib.hid hD
  have HM := Lib.hid (fun w' (hb : Below w.heap.size w w') => must3 (hblk.below hb hblk.lt))
  have HBL := Lib.hid hbl
  have HWA := Lib.hid hwA
  have HM := Lib.hid (show ∀ w', Below w.heap.size w w' → Calls Tryz.prog 63 #[.agg #[.int .i64 3, .iface 135 (.pointer (some ⟨a, 0, none⟩))]] w' (Gives w' (.agg #[.slice A 0 c, .int .u8 d])) from HM.out)
  clear hbl hwA hblk hB hD hkid0 hA0 hkb
  go_enter Tryz.func28, Tryz.ntmps28
  go_wp2_with fail
  rw [← HWA.out]
  refine (gtype_calls _ _ _).mono ?_
  rintro e w0 ⟨rfl, hb0⟩
  have HB0 := Lib.hid (HBL.out.trans (hb0.mono HBL.out.size))
  have HD0 := Lib.hid (HD.out.below hb0 HD.out.lt)
  obtain ⟨b0, b1, -, -, bl⟩ := cells2 (HB.out.below hb0 HB.out.lt)
  have HM0 := Lib.hid (HM.out w0 HB0.out)
  clear hb0
  go_wp2_with fail
  refine HM0.out.mono ?_
  rintro e w1 ⟨rfl, hb1⟩
  have HB1 := Lib.hid (HB0.out.trans (hb1.mono HB0.out.size))
  have HD1 := Lib.hid (HD0.out.below hb1 HD0.out.lt)
  clear hb1 b0 b1 bl
  go_wp2_with fail
  refine (HF.out w1).mono ?_
  rintro e w2 ⟨g, rfl, hk, hin, hp, hb2⟩
  obtain ⟨d1, A1, c1, ns, rfl⟩ := MG.is_ln hk hin
  rw [show (MG.ln d1 A1 c1 ns).enc.toArray = #[.int .u8 d1, .slice A1 ns.length c1] from rfl]
  have HB2 := Lib.hid (HB1.out.trans (hb2.mono HB1.out.size))
  have HD2 := Lib.hid (HD1.out.below hb2 HD1.out.lt)
  have HIN := Lib.hid hin
  have HPL := Lib.hid hp
  clear hb2 hk hin hp
  go_wp2_with fail
  refine (asGeo2 _ _ _).mono ?_
  rintro e w3 ⟨a3, rfl, hk3, ha3, hb3⟩
  have HB23 := Lib.hid hb3
  have HB3 := Lib.hid (HB2.out.trans (hb3.mono HB2.out.size))
  obtain ⟨r0, r1, p0, p1, rl⟩ := cells2 (HD2.out.below hb3 HD2.out.lt)
  have HK3 := Lib.hid hk3
  have HA3 := Lib.hid ha3
  have hd2 := HD2.out.lt
  clear hb3 hk3 ha3
  go_wp2_with fail
  refine bodyPost_ret (v := .tuple #[.agg #[.int .i64 2, .iface 132 (.pointer (some ⟨a3, 0, none⟩))], .bool true]) (by simp [results, Tryz.results28, go_sem, r0, r1, rl]; try rfl) rfl ?_
  have hd1 := HD1.out.lt
  refine PartOk.lift (PartOk.ring (m := .ln d1 A1 c1 ns) HPL.out (R := w.heap.size + 1) (show (2 : Nat) < 7 by decide) HK3.out (by have := HA3.out; omega) (MG.up HB23.out HIN.out) (by omega) HB3.out (Nat.le_add_right _ 1) (fun b h => h.elim) _ _)


set_option maxHeartbeats 8000000 in
theorem part3_out {a : Nat} {d : Nat} {A : Option Addr} {c : Nat} {kids : List MG} {i : Int} (ho : i < 0 ∨ (kids.length : Int) ≤ i) (h0 : i ≠ 0) (hbi : -2147483648 ≤ i ∧ i ≤ 2147483648) (S : Nat → Prop) (w : World) (h : (MG.bx a (.mu 3 d A c kids)).In S w) :
    Calls Tryz.prog 28 #[.agg #[.int .i64 3, .iface 135 (.pointer (some ⟨a, 0, none⟩))], .int .i64 i] w (Dies w) := by
  rw [MG.In] at h
  obtain ⟨-, hSa, hblk, hin0⟩ := h
  rw [MG.In] at hin0
  obtain ⟨hd, -, hkb, hA0, hkid0⟩ := hin0
  have hblk : Blk w a 69 #[.slice A kids.length c, .int .u8 d] := hblk
  have HOUT := Lib.hid (fun (w' : World) => intRing_out (c := c) (d := .int .u8 d) (w := w') ho hbi h0 (sl_nil hA0.1))
  obtain ⟨wA, hwA⟩ : ∃ wA, wA = (w.alloc (.cells #[.int .i64 3, .iface 135 (.pointer (some ⟨a, 0, none⟩))] 39)).alloc (.cells #[.int .i64 0, .nilIface] 39) := ⟨_, rfl⟩
  have hbl : Below w.heap.size w wA := by rw [hwA]; exact ((Below.refl _ _).alloc (Nat.le_refl _) _).alloc (by simp) _
  have hB : Blk wA w.heap.size 39 #[.int .i64 3, .iface 135 (.pointer (some ⟨a, 0, none⟩))] := by rw [hwA]; exact (Blk.new _ _ _).alloc _
  have hD : Blk wA (w.heap.size + 1) 39 #[.int .i64 0, .nilIface] := by
    rw [hwA]
    have := Blk.new (w.alloc (.cells #[.int .i64 3, .iface 135 (.pointer (some ⟨a, 0, none⟩))] 39)) 39 #[.int .i64 0, .nilIface]
    simpa using this
  have HB := Lib.hid hB
  have HD := Lib.hid hD
  have HM := Lib.hid (fun w' (hb : Below w.heap.size w w') => must3 (hblk.below hb hblk.lt))
  have HBL := Lib.hid hbl
  have HWA := Lib.hid hwA
  obtain ⟨n, hn⟩ : ∃ n, n = kids.length := ⟨_, rfl⟩
  rw [← hn] at HOUT HM
  have h0i : (i == 0) = false := beq_eq_false_iff_ne.2 h0
  have hwj : IntKind.i64.wrap (i - 1) = i - 1 := IntWalk.i64_in _ (by omega)
  clear hbl hwA hblk hB hD hn hkid0 hA0 hkb ho hbi
  go_enter Tryz.func28, Tryz.ntmps28
  go_wp2_with fail
  rw [← HWA.out]
  refine (gtype_calls _ _ _).mono ?_
  rintro e w0 ⟨rfl, hb0⟩
  have HB0 := Lib.hid (HBL.out.trans (hb0.mono HBL.out.size))
  have HD0 := Lib.hid (HD.out.below hb0 HD.out.lt)
  obtain ⟨b0, b1, -, -, bl⟩ := cells2 (HB.out.below hb0 HB.out.lt)
  have HM0 := Lib.hid (HM.out w0 HB0.out)
  clear hb0
  go_wp2_with fail
  refine HM0.out.mono ?_
  rintro e w1 ⟨rfl, hb1⟩
  have HB1 := Lib.hid (HB0.out.trans (hb1.mono HB0.out.size))
  have HD1 := Lib.hid (HD0.out.below hb1 HD0.out.lt)
  clear hb1 b0 b1 bl
  go_wp2_with fail
  refine (HOUT.out w1).mono ?_
  rintro e w2 ⟨u, pv, rfl, hb2⟩
  have HB2 := Lib.hid (HB1.out.trans (hb2.mono HB1.out.size))
  clear hb2
  go_wp2_with fail
  exact ⟨rfl, u, pv, rfl, HB2.out⟩

end Go.Proofs.YtplphaaeibeheaaGreat.geo
