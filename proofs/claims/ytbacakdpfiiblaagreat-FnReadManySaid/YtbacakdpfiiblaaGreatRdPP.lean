/-
  Contracts of the package's reader: what a geometry within another is; of which kind one is. Plain: what a part of a form is, as the package reads it.
-/
import Derived.Test.YtbacakdpfiiblaaGreatRdN
import Derived.Test.YtbacakdpfiiblaaGreatGeoI
import Derived.Test.YtbacakdpfiiblaaGreatGeoE
import Derived.Test.YtbacakdpfiiblaaGreatGeoG
import Derived.Test.YtbacakdpfiiblaaGreatGeoJ
import Derived.Deep.DeepCutAuto
namespace Go.Proofs.YtbacakdpfiiblaaGreat.geo
open Go.ChangeShapes Go.WideShapes Go.ChangeAt Go.RowKit
open Go.Proofs.YtbacakdpfiiblaaGreat.mem
set_option linter.unusedVariables false
set_option linter.unusedSimpArgs false

/-- A whole form was read: an error, or a geometry. -/
def PGPost (S : Nat → Prop) (w : World) (P : Nat) (o : Option (PG × List Nat)) (e : Ending) (w' : World) : Prop :=
  w.grownBy w' (some P) ∧ match o with
    | none => Bod w' P ∧ ∃ (k : Int) (v : Value) (T : TypeId) (x : Value), (v = .nilIface ∨ ∃ T2 x2, v = .iface T2 x2) ∧ e = .returned (.tuple #[.agg #[.int .i64 k, v], .iface T x])
    | some (p, r) => ∃ a m b, e = .returned (.tuple #[.agg (MG.bx a m).enc.toArray, .nilIface]) ∧ (MG.bx a m).In (fun a => w.heap.size ≤ a) w' ∧ (m.kind : Int) = p.k ∧ m.plain = p.new ∧ WPs S w' P b r
/-- A form within another was read. -/
def InPost (S : Nat → Prop) (w : World) (P : Nat) (big : Bool) (o : Option (PG × List Nat)) (e : Ending) (w' : World) : Prop :=
  w.grownBy w' (some P) ∧ match o with
    | none => Bod w' P ∧ ∃ T x, e = .returned (.tuple #[.agg #[.int .i64 0, .nilIface], .iface T x])
    | some (p, r) => ∃ a m, e = .returned (.tuple #[.agg (MG.bx a m).enc.toArray, .nilIface]) ∧ (MG.bx a m).In (fun a => w.heap.size ≤ a) w' ∧ (m.kind : Int) = p.k ∧ m.plain = p.new ∧ WPs S w' P big r
theorem gis1_calls (k : Int) (v : Value) (w : World) : Calls Tryz.prog 41 #[.agg #[.int .i64 k, v]] w (Gives w (.bool (k == 1))) := by
  have HB := Lib.hid ((Below.refl w.heap.size w).alloc (Nat.le_refl _) (.cells #[.int .i64 k, v] 47))
  go_enter Tryz.func41, Tryz.ntmps41
  go_wp2_with fail
  exact bodyPost_ret (v := .bool (k == 1)) (by simp [results, go_sem]) rfl ⟨rfl, HB.out⟩
theorem gis2_calls (k : Int) (v : Value) (w : World) : Calls Tryz.prog 42 #[.agg #[.int .i64 k, v]] w (Gives w (.bool (k == 2))) := by
  have HB := Lib.hid ((Below.refl w.heap.size w).alloc (Nat.le_refl _) (.cells #[.int .i64 k, v] 47))
  go_enter Tryz.func42, Tryz.ntmps42
  go_wp2_with fail
  exact bodyPost_ret (v := .bool (k == 2)) (by simp [results, go_sem]) rfl ⟨rfl, HB.out⟩
theorem gis3_calls (k : Int) (v : Value) (w : World) : Calls Tryz.prog 43 #[.agg #[.int .i64 k, v]] w (Gives w (.bool (k == 3))) := by
  have HB := Lib.hid ((Below.refl w.heap.size w).alloc (Nat.le_refl _) (.cells #[.int .i64 k, v] 47))
  go_enter Tryz.func43, Tryz.ntmps43
  go_wp2_with fail
  exact bodyPost_ret (v := .bool (k == 3)) (by simp [results, go_sem]) rfl ⟨rfl, HB.out⟩
/-- A new reader, of some bytes. -/
theorem WPs.start {S : Nat → Prop} {w : World} {A : Option Addr} {c : Nat} {l : List Nat} (hS : ∀ a, S a → a < w.heap.size) (hl : l.length ≤ 2000) (hc : l.length ≤ c) (hb : Byt l) (hA : SlS S w A l.length 1 (BL l)) :
    WPs S (w.alloc (.cells #[.slice A l.length c, .int .u8 0, .bool false] 148)) w.heap.size true l :=
  ⟨hS, A, l.length, c, Blk.new _ _ _, rfl, hc, hl, hb, hA.keep (.of_below ((Below.refl _ _).alloc (Nat.le_refl _) _))⟩
/-- What a reader holds. -/
theorem WPs.open {S : Nat → Prop} {w : World} {P : Nat} {b : Bool} {l : List Nat} (h : WPs S w P b l) : ∃ A c, Blk w P 148 #[.slice A l.length c, .int .u8 (if b then 0 else 1), .bool (!b)] ∧ l.length ≤ c ∧ l.length ≤ 2000 ∧ Byt l ∧ SlS S w A l.length 1 (BL l) ∧ ∀ a, S a → a < P := by
  obtain ⟨h0, A, n, c, h1, h2, h3, h4, h5, h6⟩ := h
  subst h2
  exact ⟨A, c, h1, h3, h4, h5, h6, h0⟩
/-- A reader is handed other bytes. -/
theorem WPs.hand {S : Nat → Prop} {w : World} {P c : Nat} {b : Bool} {l r : List Nat} {A : Option Addr} (h : WPs S w P b l) (h3 : r.length ≤ c) (h4 : r.length ≤ 2000) (h5 : Byt r) (h6 : SlS S w A r.length 1 (BL r)) : WPs S (w.setCell ⟨P, 0, none⟩ (.slice A r.length c)) P b r := by
  obtain ⟨A0, c0, h1, -, -, -, -, h0⟩ := h.open
  refine ⟨h0, A, r.length, c, ?_, rfl, h3, h4, h5, h6.keep (Keeps.set (p := ⟨P, 0, none⟩) (fun h => Nat.lt_irrefl _ (h0 P h)) _)⟩
  have := h1.set_ 0 (.slice A r.length c)
  simpa using this
/-- What grew of a new block is new. -/
theorem grown_fresh {n P : Nat} {w w1 w2 : World} (hb : Below n w w1) (hn : n ≤ w1.heap.size) (hg : w1.grownBy w2 (some P)) (hP : n ≤ P) : Below n w w2 :=
  ⟨hg.os.trans hb.os, hg.tape.trans hb.tape, hg.output.trans hb.output, Nat.le_trans hb.size hg.size, fun j hj => (hg.block j (by omega) (fun e => by have := Option.some.inj e; omega)).trans (hb.block j hj)⟩
set_option maxHeartbeats 8000000 in
set_option maxRecDepth 100000 in
theorem inner_calls {S : Nat → Prop} {w : World} {P N : Nat} {big : Bool} {l : List Nat} {fi : List Nat → Option (PG × List Nat)}
    (hrun : ∀ (w : World) (P : Nat) (b : Bool) (l : List Nat), WPs S w P b l → l.length ≤ N → Calls Tryz.prog 104 #[.pointer (some ⟨P, 0, none⟩)] w (PGPost S w P (fi l)))
    (h : WPs S w P big l) (hN : l.length ≤ N) : Calls Tryz.prog 178 #[.pointer (some ⟨P, 0, none⟩)] w (InPost S w P big (fi l)) := by
  obtain ⟨w1, hw1⟩ : ∃ w1, w1 = w.alloc (.cells #[.int .i64 0, .nilIface] 47) := ⟨_, rfl⟩
  have hb1 : Below w.heap.size w w1 := by rw [hw1]; exact (Below.refl _ _).alloc (Nat.le_refl _) _
  have hs1 : w1.heap.size = w.heap.size + 1 := by rw [hw1]; simp
  have hz1 : Blk w1 w.heap.size 47 #[.int .i64 0, .nilIface] := by rw [hw1]; exact Blk.new _ _ _
  have hp1 := h.below hb1
  obtain ⟨A, c, hB, hc, h2000, hbyt, hA, hS⟩ := hp1.open
  obtain ⟨c0, c1, c2, f0, f1, f2, hlt⟩ := cells3 hB
  have hPw := h.lt
  have hws := WPs.start (w := w1) (fun a ha => Nat.lt_trans (hS a ha) hlt) h2000 hc hbyt hA
  rw [hs1] at hws
  have HR := Lib.hid (hrun _ _ _ _ hws hN)
  have hb2 : Below w.heap.size w (w1.alloc (.cells #[.slice A l.length c, .int .u8 0, .bool false] 148)) := hb1.alloc hb1.size _
  have hz2 := hz1.alloc (.cells #[.slice A l.length c, .int .u8 0, .bool false] 148)
  have hp2 := hp1.below ((Below.refl w1.heap.size w1).alloc (Nat.le_refl _) (.cells #[.slice A l.length c, .int .u8 0, .bool false] 148))
  obtain ⟨o, ho⟩ : ∃ o, o = fi l := ⟨_, rfl⟩
  rw [← ho] at HR ⊢
  have HW1 := Lib.hid hw1
  have HB2 := Lib.hid hb2
  have HZ2 := Lib.hid hz2
  have HP2 := Lib.hid hp2
  have hne : w.heap.size ≠ P := by omega
  clear hw1 hb1 hz1 hp1 hB hbyt hA hS hws hb2 hz2 hp2 ho h hrun c1 c2
  go_enter Tryz.func178, Tryz.ntmps178
  go_upto_region 1 with fail
  rw [← HW1.out]
  go_wp2_with fail
  refine HR.out.mono ?_
  rintro e w3 ⟨hg, hx⟩
  have hb3 := grown_fresh HB2.out (by simp; omega) hg (by omega)
  have hz3 := HZ2.out.grown hg (fun e => by have := Option.some.inj e; omega)
  have hp3 : WPs S w3 P big l := HP2.out.grown hg (fun q e => by have := Option.some.inj e; omega)
  have HB3 := Lib.hid hb3
  have HZ3 := Lib.hid hz3
  have HP3 := Lib.hid hp3
  clear hg hb3 hz3 hp3
  cases o with
  | none =>
    obtain ⟨-, k, v, T, x, hv, rfl⟩ := hx
    rcases hv with rfl | ⟨T2, x2, rfl⟩
    · obtain ⟨z0, z1, y0, y1, zl⟩ := cells2 (HZ3.out.alloc (.cells #[.int .i64 k, .nilIface] 47))
      go_wp2_with fail
      refine bodyPost_ret (v := .tuple #[.agg #[.int .i64 0, .nilIface], .iface T x]) (by simp [results, Tryz.results178, go_sem, z0, z1, zl]) rfl ?_
      exact ⟨far_grown (far_grown (grown_below (HB3.out.alloc HB3.out.size _)) (Nat.le_refl _) 0 _) (Nat.le_refl _) 1 _, ((HP3.out.bod.below ((Below.refl _ _).alloc (Nat.le_refl _) _)).far (i := 0) hPw _).far (i := 1) hPw _, T, x, rfl⟩
    · obtain ⟨z0, z1, y0, y1, zl⟩ := cells2 (HZ3.out.alloc (.cells #[.int .i64 k, .iface T2 x2] 47))
      go_wp2_with fail
      refine bodyPost_ret (v := .tuple #[.agg #[.int .i64 0, .nilIface], .iface T x]) (by simp [results, Tryz.results178, go_sem, z0, z1, zl]) rfl ?_
      exact ⟨far_grown (far_grown (grown_below (HB3.out.alloc HB3.out.size _)) (Nat.le_refl _) 0 _) (Nat.le_refl _) 1 _, ((HP3.out.bod.below ((Below.refl _ _).alloc (Nat.le_refl _) _)).far (i := 0) hPw _).far (i := 1) hPw _, T, x, rfl⟩
  | some p =>
    obtain ⟨p, r⟩ := p
    obtain ⟨a, m, b, rfl, hin, hk, hpl, hws⟩ := hx
    rw [show (MG.bx a m).enc.toArray = #[.int .i64 m.kind, .iface (pT m.kind) (.pointer (some ⟨a, 0, none⟩))] from rfl]
    obtain ⟨w4, hw4⟩ : ∃ w4, w4 = w3.alloc (.cells #[.int .i64 m.kind, .iface (pT m.kind) (.pointer (some ⟨a, 0, none⟩))] 47) := ⟨_, rfl⟩
    have hb4 : Below w3.heap.size w3 w4 := by rw [hw4]; exact (Below.refl _ _).alloc (Nat.le_refl _) _
    have hg4 : Blk w4 w3.heap.size 47 #[.int .i64 m.kind, .iface (pT m.kind) (.pointer (some ⟨a, 0, none⟩))] := by rw [hw4]; exact Blk.new _ _ _
    have hws4 := hws.below hb4
    obtain ⟨A2, c2, hB, hc2, h2002, hby2, hA2, hS2⟩ := hws4.open
    have HIN := Lib.hid (show (MG.bx a m).In (fun a => w.heap.size < a) w4 from MG.up hb4 (MG.less (fun q hq => by have h1 : (w1.alloc (.cells #[.slice A l.length c, .int .u8 0, .bool false] 148)).heap.size ≤ q := hq; simp at h1; show w.heap.size < q; omega) hin))
    obtain ⟨d0, d1, d2, -, -, -, dl⟩ := cells3 hB
    obtain ⟨z0, z1, y0, y1, zl⟩ := cells2 (HZ3.out.below hb4 HZ3.out.lt)
    obtain ⟨g0, g1, x0, x1, gl⟩ := cells2 hg4
    have hp4 := HP3.out.below hb4
    obtain ⟨A5, c5, e0, -, -, k0, -, -, el⟩ := hp4.cells
    have hsw : w.heap.size < w3.heap.size := HZ3.out.lt
    have hw2 : w.heap.size + 1 ≠ P := by omega
    have hnPr : w3.heap.size ≠ P := by omega
    have HB4 := Lib.hid (show Below w.heap.size w w4 from HB3.out.trans (hb4.mono HB3.out.size))
    have HP4 := Lib.hid (hp4.hand hc2 h2002 hby2 hA2)
    have HW4 := Lib.hid hw4
    have HKP := Lib.hid (And.intro hk hpl)
    clear hw4 hb4 hg4 hws hws4 hB hby2 hA2 hS2 hin hp4 hk hpl d1 d2
    go_upto_region 3 with fail
    rw [← HW4.out]
    go_wp2_with fail
    refine bodyPost_ret (v := .tuple #[.agg #[.int .i64 m.kind, .iface (pT m.kind) (.pointer (some ⟨a, 0, none⟩))], .nilIface]) (by simp [results, Tryz.results178, go_sem, z0, z1, zl]) rfl ?_
    have hgr : w.grownBy (w4.setCell ⟨P, 0, none⟩ (.slice A2 r.length c2)) (some P) := grown_trans (grown_below HB4.out) (grown_set w4 ⟨P, 0, none⟩ _)
    have hT : ¬ (fun a => w.heap.size < a) w.heap.size := Nat.lt_irrefl _
    have hTP : ¬ (fun a => w.heap.size < a) P := fun h => by have h1 : w.heap.size < P := h; omega
    refine ⟨far_grown (far_grown hgr (Nat.le_refl _) 0 _) (Nat.le_refl _) 1 _, a, m, rfl, ?_, HKP.out.1, HKP.out.2, (HP4.out.far (g := w.heap.size) (i := 0) hPw _).far (g := w.heap.size) (i := 1) hPw _⟩
    exact MG.less (fun a ha => Nat.le_of_lt ha) (MG.keep ((((Keeps.refl (fun a => w.heap.size < a) w4).setFar hTP _).setFar hT _).setFar hT _) HIN.out)
end Go.Proofs.YtbacakdpfiiblaaGreat.geo

namespace Go.Proofs.YtbacakdpfiiblaaGreat.geo
open Go.ChangeShapes Go.WideShapes Go.ChangeAt Go.RowKit
open Go.Proofs.YtbacakdpfiiblaaGreat.mem
set_option linter.unusedVariables false
set_option linter.unusedSimpArgs false

/-- A part of a kind (or of any), as the package reads it. -/
def fItem (fi : List Nat → Option (PG × List Nat)) (z : Int) (bs : List Nat) : Option (PG × List Nat) := match fi bs with
  | none => none
  | some (p, r) => if z < 0 ∨ p.k = z then some (p.new, r) else none
end Go.Proofs.YtbacakdpfiiblaaGreat.geo
