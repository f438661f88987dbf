/-
  Geometries so far, in a row of their own. Contracts of the reference: a geometry of bytes; whether it was asked; forms one behind another. Contract of the reference: forms one behind another.
-/
import Derived.Test.YtbacakdpfiiblaaGreatRdC
import Derived.Test.YtbacakdpfiiblaaGreatGeoT
import Derived.Test.YtbacakdpfiiblaaGreatRdD
import Derived.Test.YtbacakdpfiiblaaGreatRdEP
import Derived.Test.YtbacakdpfiiblaaGreatRdEL
import Derived.Test.YtbacakdpfiiblaaGreatRdER
import Derived.Test.YtbacakdpfiiblaaGreatRdEK
import Derived.Test.YtbacakdpfiiblaaGreatGeoU
import Derived.Deep.DeepCutAuto
namespace Go.Proofs.YtbacakdpfiiblaaGreat.geo
open Go.ChangeShapes Go.WideShapes Go.ChangeAt Go.RowKit
open Go.Proofs.YtbacakdpfiiblaaGreat.mem
set_option linter.unusedVariables false
set_option linter.unusedSimpArgs false

/-- Geometries so far, in a row of their own. -/
structure GsI (base i : Nat) (L : List IG) (A : Option Addr) (c : Nat) (wx : World) : Prop where
  len : L.length = i
  own : wx.ownsRow base 25 4 (.slice A i c) i (L.flatMap IG.enc)
  inn : ∀ g ∈ L, g.In (fun a => base ≤ a ∧ some a ≠ (Value.slice A i c).ownBlock) wx
  siz : base ≤ wx.heap.size
section
variable {base i : Nat} {L : List IG} {A : Option Addr} {c : Nat} {w w' : World}
theorem GsI.nil (h : base ≤ w.heap.size) : GsI base 0 [] none 0 w := ⟨rfl, World.ownsRow_nil _ _ _ _, (fun g hg => by cases hg), h⟩
theorem GsI.lift {row : Option Nat} (h : GsI base i L A c w) (hg : w.grownBy w' row) (hr : ∀ q, row = some q → q < base) : GsI base i L A c w' := by
  refine ⟨h.len, h.own.kept hg ?_, fun g hgm => IG.keep (Keeps.grown hg (fun q hq ha => ?_)) (h.inn g hgm), Nat.le_trans h.siz hg.size⟩
  · rcases ho : (Value.slice A i c).ownBlock with _ | q
    · exact .inl rfl
    · refine .inr (fun e => ?_)
      have h1 := (h.own.lt q ho).1
      have h2 := hr q e.symm
      omega
  · have h1 := hr q hq
    have h2 : base ≤ q := ha.1
    omega
theorem GsI.below (h : GsI base i L A c w) (hb : Below w.heap.size w w') : GsI base i L A c w' := h.lift (grown_below (row := none) hb) (fun q hq => by cases hq)
/-- A geometry more. -/
theorem GsI.next {w8 : World} {g : IG} {A8 : Option Addr} {c8 : Nat} {ob : Obj} (h : GsI base i L A c w) (hg : g.In (fun a => base ≤ a ∧ some a ≠ (Value.slice A i c).ownBlock) w)
    (ho8 : w8.ownsRow base 25 4 (.slice A8 (i + 1) c8) (i + 1) (L.flatMap IG.enc ++ g.enc)) (hg8 : (w.alloc ob).grownBy w8 (Value.slice A i c).ownBlock)
    (ha8 : (Value.slice A8 (i + 1) c8).ownBlock = (Value.slice A i c).ownBlock ∨ (Value.slice A8 (i + 1) c8).ownBlock = some (w.alloc ob).heap.size) : GsI base (i + 1) (L ++ [g]) A8 c8 w8 := by
  have hb7 : Below w.heap.size w (w.alloc ob) := (Below.refl w.heap.size w).alloc (Nat.le_refl _) _
  have hsa : (w.alloc ob).heap.size = w.heap.size + 1 := by simp
  have hgeo : ∀ g : IG, g.In (fun a => base ≤ a ∧ some a ≠ (Value.slice A i c).ownBlock) w → g.In (fun a => base ≤ a ∧ some a ≠ (Value.slice A8 (i + 1) c8).ownBlock) w8 := fun g hg => by
    refine IG.less (fun a ha => ⟨ha.1.1, fun e => ?_⟩) (IG.keep (Keeps.grown hg8 (fun r hr ha => ha.1.2 hr.symm)) (IG.up hb7 (IG.old hg)))
    rcases ha8 with h | h
    · exact ha.1.2 (e.trans h)
    · rw [h] at e
      have h1 := Option.some.inj e
      have h2 := ha.2
      omega
  refine ⟨by simp [h.len], ?_, ?_, by have h1 := hg8.size; have h2 := h.siz; omega⟩
  · rw [List.flatMap_append, List.flatMap_cons, List.flatMap_nil, List.append_nil]
    exact ho8
  · intro g' hg'
    rcases List.mem_append.1 hg' with hg' | hg'
    · exact hgeo g' (h.inn g' hg')
    · have := List.mem_singleton.1 hg'
      subst this
      exact hgeo _ hg
/-- What is new is in it. -/
theorem GsI.fresh {w0 : World} {g : IG} (h : GsI base i L A c w0) (hs : base ≤ w0.heap.size) (hg : g.In (fun a => w0.heap.size ≤ a) w) : g.In (fun a => base ≤ a ∧ some a ≠ (Value.slice A i c).ownBlock) w :=
  IG.less (fun a ha => by
    have h1 : w0.heap.size ≤ a := ha
    exact ⟨by omega, fun e => by have := (h.own.lt a e.symm).2; omega⟩) hg
end
/-- Geometries of forms, how many bytes are left. -/
def SRPost (w : World) (F : List PG × Nat) (e : Ending) (w' : World) : Prop :=
  ∃ (L : List IG) (A : Option Addr) (c n : Nat) (b : Bool), e = .returned (.tuple #[.slice A L.length c, .int .i64 n, .bool b]) ∧ GsI w.heap.size L.length L A c w' ∧ Below w.heap.size w w' ∧ L.length ≤ 2000 ∧ n ≤ 2000 ∧ (b = true → L.map IG.plain = F.1 ∧ n = F.2)
end Go.Proofs.YtbacakdpfiiblaaGreat.geo

namespace Go.Proofs.YtbacakdpfiiblaaGreat.geo
open Go.ChangeShapes Go.WideShapes Go.ChangeAt Go.RowKit
open Go.Proofs.YtbacakdpfiiblaaGreat.mem
set_option linter.unusedVariables false
set_option linter.unusedSimpArgs false

theorem geom_calls (S : Nat → Prop) (any : Bool) : ∀ (fuel : Nat) (w : World) (R : Nat) (l : List Nat) (kind : Int), RS S w R any (some l) → l.length < fuel → Calls Tryz.prog 48 #[.pointer (some ⟨R, 0, none⟩), .int .i64 kind] w (GPost S w R any (rdG any fuel kind l)) := by
  intro fuel
  induction fuel with
  | zero => intro w R l kind h hf; omega
  | succ fuel ih =>
    intro w R l kind h hf
    rcases hr : rdH any kind l with _ | ⟨⟨b0, K, D0⟩, r0⟩
    · exact geom_pt S any fuel ih w R l kind h hf (fun b K D r e => by rw [hr] at e; cases e)
    · by_cases h1 : K = 1
      · exact geom_pt S any fuel ih w R l kind h hf (fun b K' D r e => by rw [hr] at e; cases e; exact h1)
      by_cases h2 : K = 2
      · exact geom_ln S any fuel ih w R l kind h hf (fun b K' D r e => by rw [hr] at e; cases e; exact h2)
      by_cases h3 : K = 3
      · subst h3
        exact geom_ri S any fuel ih w R l kind h hf b0 D0 r0 hr
      · exact geom_mu S any fuel ih w R l kind h hf (fun b K' D r e => by rw [hr] at e; cases e; exact ⟨h1, h2, h3⟩)
/-- What changed is new, or the reader, that is new itself. -/
theorem grown_new {n R : Nat} {w w1 w2 : World} (hb : Below n w w1) (hn : n ≤ w1.heap.size) (hg : w1.grownBy w2 (some R)) (hR : n ≤ R) : Below n w w2 :=
  ⟨hg.os.trans hb.os, hg.tape.trans hb.tape, hg.output.trans hb.output, Nat.le_trans hb.size hg.size, fun j hj => (hg.block j (by omega) (fun e => by have := Option.some.inj e; omega)).trans (hb.block j hj)⟩
/-- A new reader. -/
theorem RS.start {S : Nat → Prop} {w : World} {A : Option Addr} {c : Nat} {l : List Nat} (any : Bool) (hS : ∀ a, S a → a < w.heap.size) (hl : l.length ≤ 2000) (hc : l.length ≤ c) (hb : Byt l) (hA : SlS S w A l.length 1 (BL l)) :
    RS S (w.alloc (.cells #[.slice A l.length c, .bool any, .bool false, .bool false] 62)) w.heap.size any (some l) :=
  ⟨hS, A, l.length, c, l, false, Blk.new _ _ _, rfl, hc, hl, hb, hA.keep (.of_below ((Below.refl _ _).alloc (Nat.le_refl _) _)), fun _ h => Option.some.inj h⟩
set_option maxHeartbeats 8000000 in
set_option maxRecDepth 100000 in
theorem asked_calls {S : Nat → Prop} {w : World} {A : Option Addr} {c : Nat} {l : List Nat} (hS : ∀ a, S a → a < w.heap.size) (hl : l.length ≤ 2000) (hc : l.length ≤ c) (hb : Byt l) (hA : SlS S w A l.length 1 (BL l)) :
    Calls Tryz.prog 47 #[.slice A l.length c] w fun e w' => (∃ b : Bool, e = .returned (.bool b)) ∧ Below w.heap.size w w' := by
  have HR := Lib.hid (RS.start true hS hl hc hb hA)
  have HG := Lib.hid (geom_calls S true (l.length + 1) _ _ l (-1) HR.out (by omega))
  clear hS hb hA
  go_enter Tryz.func47, Tryz.ntmps47
  go_wp2_with fail
  refine HG.out.mono ?_
  rintro e w2 ⟨g, rfl, hg1, hg2, hg3, hg4⟩
  have hbl : Below w.heap.size w w2 := grown_new ((Below.refl _ _).alloc (Nat.le_refl _) _) (by simp) hg3 (Nat.le_refl _)
  obtain ⟨st, hst⟩ : ∃ st, RS S w2 w.heap.size true st := by
    cases ho : rdG true (l.length + 1) (-1) l with
    | none => rw [ho] at hg4; exact ⟨_, hg4⟩
    | some p => rw [ho] at hg4; exact ⟨_, hg4.2⟩
  obtain ⟨-, A5, n5, c5, l5, gr, hB, -⟩ := hst
  obtain ⟨c0, c1, c2, c3, -, -, -, -, hlt⟩ := cells4 hB
  have HBL := Lib.hid hbl
  clear hg1 hg2 hg3 hg4 hB hbl
  go_wp2_with fail
  exact bodyPost_ret (v := .bool (!gr)) (by simp [results, go_sem]) rfl ⟨⟨_, rfl⟩, HBL.out⟩
end Go.Proofs.YtbacakdpfiiblaaGreat.geo

namespace Go.Proofs.YtbacakdpfiiblaaGreat.geo
open Go.ChangeShapes Go.WideShapes Go.ChangeAt Go.RowKit
open Go.Proofs.YtbacakdpfiiblaaGreat.mem
set_option linter.unusedVariables false
set_option linter.unusedSimpArgs false

/-- What grew is above. -/
theorem grown_low {n : Nat} {w w1 w2 : World} {row : Option Nat} (hb : Below w.heap.size w w1) (hg : w1.grownBy w2 row) (hr : ∀ q, row = some q → n ≤ q) (hn : n ≤ w.heap.size) : Below n w w2 :=
  ⟨hg.os.trans hb.os, hg.tape.trans hb.tape, hg.output.trans hb.output, Nat.le_trans hb.size hg.size, fun j hj => (hg.block j (Nat.lt_of_lt_of_le (Nat.lt_of_lt_of_le hj hn) hb.size) (fun e => by have := hr j e.symm; omega)).trans (hb.block j (Nat.lt_of_lt_of_le hj hn))⟩
set_option maxHeartbeats 8000000 in
set_option maxRecDepth 100000 in
theorem sread_calls {S : Nat → Prop} {w : World} {A : Option Addr} {c : Nat} {l : List Nat} (hS : ∀ a, S a → a < w.heap.size) (hl : l.length ≤ 2000) (hc : l.length ≤ c) (hb : Byt l) (hA : SlS S w A l.length 1 (BL l)) :
    Calls Tryz.prog 18 #[.slice A l.length c] w (SRPost w (rdAll (l.length + 1) l)) := by
  obtain ⟨i0, hi, hz0, hz1, hz2⟩ := info_parts infoGm
  obtain ⟨F, hF⟩ : ∃ F, F = rdAll (l.length + 1) l := ⟨_, rfl⟩
  rw [← hF]
  have HF := Lib.hid hF
  have HB := Lib.hid hb
  have HA := Lib.hid hA
  have HS := Lib.hid hS
  clear hF hb hA hS
  go_enter Tryz.func18, Tryz.ntmps18
  go_wp2_with fail
  go_loopg [0, 2] l.length (fun q bv gv wr => ∃ (m : List Nat) (A1 : Option Addr) (c1 i : Nat) (L : List IG) (A2 : Option Addr) (c2 k : Nat), m.length = q ∧ bv = .slice A1 m.length c1 ∧ gv = .slice A2 i c2 ∧ m.length ≤ c1 ∧ m <:+ l ∧ SlS S wr A1 m.length 1 (BL m) ∧ GsI w.heap.size i L A2 c2 wr ∧ i + m.length ≤ 2000 ∧ m.length < k ∧ F = (L.map IG.plain ++ (rdAll k m).1, (rdAll k m).2) ∧ Below w.heap.size w wr)
  case atStart => exact ⟨l, A, c, 0, [], none, 0, l.length + 1, rfl, rfl, rfl, hc, List.suffix_refl _, HA.out, GsI.nil (Nat.le_refl _), by omega, Nat.lt_succ_self _, by rw [HF.out]; rfl, Below.refl _ _⟩
  case round =>
    obtain ⟨m, A1, c1, i, L, A2, c2, k, rfl, rfl, rfl, hmc, hsx, hA, hG, him, hk, hFm, hbl⟩ := hrel
    have HA1 := Lib.hid hA
    have HG := Lib.hid hG
    have HFM := Lib.hid hFm
    have HBL := Lib.hid hbl
    have HSX := Lib.hid hsx
    have hi2 : i ≤ 2000 := by omega
    have HDONE := Lib.hid (show ∀ (wx : World) (n : Nat) (b : Bool), Below wr.heap.size wr wx → n ≤ 2000 → (b = true → L.map IG.plain = F.1 ∧ n = F.2) → SRPost w F (.returned (.tuple #[.slice A2 i c2, .int .i64 n, .bool b])) wx from fun wx n b hb hn h => by
      have e := HG.out.len
      subst e
      exact ⟨L, A2, c2, n, b, rfl, HG.out.below hb, HBL.out.trans (hb.mono HBL.out.size), by omega, hn, h⟩)
    clear hA hG hFm hbl hsx
    obtain ⟨f, hf⟩ : ∃ f, k = f + 1 := ⟨k - 1, by omega⟩
    subst hf
    by_cases hm : m = []
    · subst hm
      go_wp2_with fail
      exact bodyPost_ret (v := .tuple #[.slice A2 i c2, .int .i64 (0 : Nat), .bool true]) (by simp [results, Tryz.results18, go_sem]) rfl (HDONE.out _ 0 true (Below.refl _ _) (by omega) (fun _ => by rw [HFM.out]; simp [rdAll]))
    · have hml : 0 < m.length := List.length_pos_iff.2 hm
      have hmI : (0 : Int) < (m.length : Int) := by omega
      have HASK := Lib.hid (fun w' (hb : Below wr.heap.size wr w') => asked_calls (S := S) (w := w') (A := A1) (c := c1) (l := m) (fun a ha => Nat.lt_of_lt_of_le (HS.out a ha) (Nat.le_trans HBL.out.size hb.size)) (by omega) hmc (HB.out.sfx HSX.out) (HA1.out.keep (.of_below hb)))
      go_wp2_with fail
      refine (HASK.out _ (Below.refl _ _)).mono ?_
      rintro e w1 ⟨⟨b, rfl⟩, hb1⟩
      have HB1 := Lib.hid hb1
      clear hb1
      cases b with
      | false =>
        go_wp2_with fail
        exact bodyPost_ret (v := .tuple #[.slice A2 i c2, .int .i64 m.length, .bool false]) (by simp [results, Tryz.results18, go_sem]) rfl (HDONE.out _ _ false HB1.out (by omega) (fun h => by cases h))
      | true =>
        have HR := Lib.hid (RS.start (S := S) (w := w1) (A := A1) (c := c1) (l := m) false (fun a ha => Nat.lt_of_lt_of_le (HS.out a ha) (Nat.le_trans HBL.out.size HB1.out.size)) (by omega) hmc (HB.out.sfx HSX.out) (HA1.out.keep (.of_below HB1.out)))
        have HGC := Lib.hid (geom_calls S false (m.length + 1) _ _ m (-1) HR.out (by omega))
        obtain ⟨o, ho⟩ : ∃ o, o = rdG false (m.length + 1) (-1) m := ⟨_, rfl⟩
        rw [← ho] at HGC
        have HO := Lib.hid ho
        clear ho
        go_wp2_with fail
        refine HGC.out.mono ?_
        rintro e w2 ⟨g, rfl, hg1, hg2, hg3, hg4⟩
        have hb2 : Below w1.heap.size w1 w2 := grown_new ((Below.refl _ _).alloc (Nat.le_refl _) _) (by simp) hg3 (Nat.le_refl _)
        have HB2 := Lib.hid hb2
        have HG4 := Lib.hid hg4
        have HNC := Lib.hid (snew_calls g _ w2 hg1 hg2)
        clear hg1 hg2 hg3 hg4 hb2
        go_wp2_with fail
        refine HNC.out.mono ?_
        rintro e w3 ⟨⟨k2, d2, A3, ca2, ns2, B2, cb2, ks2⟩, rfl, hg5, hp5, hb3⟩
        rw [show (IG.mk k2 d2 A3 ca2 ns2 B2 cb2 ks2).enc.toArray = #[.int .i64 k2, .int .i64 d2, .slice A3 ns2.length ca2, .slice B2 ks2.length cb2] from rfl]
        have HG5 := Lib.hid hg5
        have HP5 := Lib.hid hp5
        have HB3 := Lib.hid hb3
        clear hg5 hp5 hb3
        obtain ⟨w4, hw4⟩ : ∃ w4, w4 = w3.alloc (.cells #[.int .i64 k2, .int .i64 d2, .slice A3 ns2.length ca2, .slice B2 ks2.length cb2] 25) := ⟨_, rfl⟩
        have hb4 : Below w2.heap.size w2 w4 := by rw [hw4]; exact HB3.out.alloc HB3.out.size _
        have hGB : Blk w4 w3.heap.size 25 #[.int .i64 k2, .int .i64 d2, .slice A3 ns2.length ca2, .slice B2 ks2.length cb2] := by rw [hw4]; exact Blk.new _ _ _
        have hs34 : w4.heap.size = w3.heap.size + 1 := by rw [hw4]; simp
        have HW4 := Lib.hid hw4
        have HB4 := Lib.hid hb4
        have HGB := Lib.hid hGB
        have HS34 := Lib.hid hs34
        have HBR4 := Lib.hid (show Below wr.heap.size wr w4 from HB1.out.trans ((HB2.out.trans (hb4.mono HB2.out.size)).mono HB1.out.size))
        clear hw4 hb4 hGB hs34
        cases o with
        | none =>
          have hrs : RS S w4 w1.heap.size false none := RS.below HG4.out HB4.out
          obtain ⟨-, A5, n5, c5, l5, gr, hBR, -⟩ := hrs
          obtain ⟨c0, c1', c2', c3, -, -, -, -, hlt⟩ := cells4 hBR
          clear hBR
          go_upto_region 6 with fail
          rw [← HW4.out]
          go_wp2_with fail
          exact bodyPost_ret (v := .tuple #[.slice A2 i c2, .int .i64 m.length, .bool true]) (by simp [results, Tryz.results18, go_sem]) rfl (HDONE.out _ _ true HBR4.out (by omega) (fun _ => by rw [HFM.out, rdAll, if_neg hm, ← HO.out]; simp))
        | some pr =>
          obtain ⟨p, r⟩ := pr
          have hrs : RS S w4 w1.heap.size false (some r) := RS.below HG4.out.2 HB4.out
          have HRS := Lib.hid hrs
          obtain ⟨-, A5, n5, c5, l5, gr, hBR, hln5, hnc5, hn5, hby5, hA5, hst⟩ := hrs
          obtain rfl := (hst r rfl).symm
          obtain rfl := hln5.symm
          have HBR := Lib.hid hBR
          have HA5 := Lib.hid hA5
          obtain ⟨c0, c1', c2', c3, -, -, -, -, hlt⟩ := cells4 hBR
          obtain ⟨e0, e1, e2, e3, -, -, -, -, elt⟩ := cells4 HGB.out
          have hless := rdG_less HO.out.symm
          have HSF := Lib.hid (rdG_len HO.out.symm)
          have hg4g : GsI w.heap.size i L A2 c2 w4 := HG.out.below HBR4.out
          have hgin := hg4g
          have HG4I := Lib.hid hg4g
          have HGIN := Lib.hid (show (IG.mk k2 d2 A3 ca2 ns2 B2 cb2 ks2).In (fun a => w.heap.size ≤ a ∧ some a ≠ (Value.slice A2 i c2).ownBlock) w4 from HG.out.fresh HG.out.siz (IG.less (fun a ha => Nat.le_trans (Nat.le_trans HB1.out.size HB2.out.size) ha) (IG.up (by rw [HW4.out]; exact (Below.refl _ _).alloc (Nat.le_refl _) _) HG5.out)))
          have hsw4 : w.heap.size ≤ w4.heap.size := Nat.le_trans HG.out.siz HBR4.out.size
          clear hBR hA5 hby5 hst hgin hg4g
          go_upto_region 6 with fail
          rw [← HW4.out]
          go_wp2_with fail
          have c0a : ∀ ob, (w4.alloc ob).cell? ⟨w1.heap.size, 0, none⟩ = some (.slice A5 r.length c5) := fun ob => (cells4 (HBR.out.alloc ob)).1
          have e0d : w4.drew.cell? ⟨w1.heap.size, 0, none⟩ = some (.slice A5 r.length c5) := c0
          have HREL := Lib.hid (show ∀ A8 c8 w8, w8.ownsRow w.heap.size 25 4 (.slice A8 (i + 1) c8) (i + 1) (L.flatMap IG.enc ++ (IG.mk k2 d2 A3 ca2 ns2 B2 cb2 ks2).enc) → (w4.alloc (.cells #[.int .i64 k2, .int .i64 d2, .slice A3 ns2.length ca2, .slice B2 ks2.length cb2] 25)).grownBy w8 (Value.slice A2 i c2).ownBlock → w8.cell? ⟨w1.heap.size, 0, none⟩ = some (.slice A5 r.length c5) from fun A8 c8 w8 h1 h2 => by
            have := (HBR.out.alloc (.cells #[.int .i64 k2, .int .i64 d2, .slice A3 ns2.length ca2, .slice B2 ks2.length cb2] 25)).grown h2 (fun e => by have h3 := (HG.out.own.lt _ e.symm).2; have h4 := HB1.out.size; omega)
            exact (cells4 this).1)
          go_region_law (first
            | (refine step_append_sl _ (by rfl) _ _ _ (by rfl) w.heap.size 25 i0 _ 4 64 Tryz.underlying23 hi hz0 hz1 hz2 rfl (by decide) (.slice A2 i c2) i (L.flatMap IG.enc) (by rfl) (HG4I.out.own.alloc (.cells #[.int .i64 k2, .int .i64 d2, .slice A3 ns2.length ca2, .slice B2 ks2.length cb2] 25))
                   (w4.alloc (.cells #[.int .i64 k2, .int .i64 d2, .slice A3 ns2.length ca2, .slice B2 ks2.length cb2] 25)).heap.size (some ⟨w4.heap.size, 0, none⟩) 1 1 [.int .i64 k2, .int .i64 d2, .slice A3 ns2.length ca2, .slice B2 ks2.length cb2] (by rfl) (slBlk (n := 1) (c := 4) (heap_alloc_new w4 _) rfl (by unfold maxLen; omega)) (IG.enc_one (.mk k2 d2 A3 ca2 ns2 B2 cb2 ks2)) (by unfold maxLen; omega) (by omega) (by simp; omega) ?_; intro A8 c8 w8 ho8 hg8d ha8
               have hg8 : (w4.alloc (.cells #[.int .i64 k2, .int .i64 d2, .slice A3 ns2.length ca2, .slice B2 ks2.length cb2] 25)).grownBy w8 (Value.slice A2 i c2).ownBlock := by first | exact hg8d | exact ⟨hg8d.os, hg8d.tape, hg8d.output, hg8d.size, hg8d.block⟩
               have c0e := HREL.out A8 c8 w8 ho8 hg8))
          all_goals
            have HHO := Lib.hid ho8
            have HHG := Lib.hid hg8
            have HHA := Lib.hid ha8
            clear ho8 hg8 ha8
            go_wp2_with fail
            go_roundg r.length
            case measure => omega
            case rel =>
              have hG8 : GsI w.heap.size (i + 1) (L ++ [_]) _ _ _ := HG4I.out.next HGIN.out HHO.out HHG.out HHA.out
              have hgb : Below w.heap.size w _ := (HBL.out.trans (HBR4.out.mono HBL.out.size)).trans (grown_low (n := w.heap.size) ((Below.refl w4.heap.size w4).alloc (Nat.le_refl _) _) HHG.out (fun q hq => (HG4I.out.own.lt q hq).1) hsw4)
              refine ⟨r, A5, c5, i + 1, _, _, _, f, rfl, by go_num, by go_num, hnc5, HSF.out.trans HSX.out, HA5.out.keep ?_, hG8, by omega, by omega, ?_, hgb⟩
              · exact (Keeps.of_below ((Below.refl w4.heap.size w4).alloc (Nat.le_refl _) _)).trans (Keeps.grown HHG.out (fun q hq hSq => by have h1 := (HG4I.out.own.lt q hq).1; have h2 := HS.out q hSq; omega))
              · rw [HFM.out, rdAll, if_neg hm, ← HO.out]
                simp only [List.map_append, List.map_cons, List.map_nil, List.append_assoc, List.cons_append, List.nil_append]
                rw [HP5.out, HG4.out.1]
end Go.Proofs.YtbacakdpfiiblaaGreat.geo
