/-
  Contract of the reader of the reference: a geometry.
-/
import Derived.Test.YtbacakdpfiiblaaGreatRdD
import Derived.Test.YtbacakdpfiiblaaGreatRdT
import Derived.Test.YtbacakdpfiiblaaGreatGeoR
import Derived.Deep.DeepCutAuto
import Derived.Deep.RegionHeld3
namespace Go.Proofs.YtbacakdpfiiblaaGreat.geo
open Go.ChangeShapes Go.WideShapes Go.ChangeAt Go.RowKit
open Go.Proofs.YtbacakdpfiiblaaGreat.mem
set_option linter.unusedVariables false
set_option linter.unusedSimpArgs false

/-- A geometry was read. -/
def GPost (S : Nat → Prop) (w : World) (R : Nat) (any : Bool) (o : Option (PG × List Nat)) (e : Ending) (w' : World) : Prop :=
  ∃ g : IG, e = .returned (.agg g.enc.toArray) ∧ g.In (fun a => w.heap.size ≤ a) w' ∧ g.plain.fit ∧ w.grownBy w' (some R) ∧ match o with
    | none => RS S w' R any none
    | some (p, r) => g.plain = p ∧ RS S w' R any (some r)
/-- While a geometry is read: the reader, the geometry so far (block G), the result's cell. -/
structure GI (S : Nat → Prop) (w : World) (R G : Nat) (any : Bool) (st : Option (List Nat)) (K D : Int) (v2 v3 : Value) (wx : World) : Prop where
  rs : RS S wx R any st
  gb : Blk wx G 25 #[.int .i64 K, .int .i64 D, v2, v3]
  zb : Blk wx w.heap.size 25 #[.int .i64 0, .int .i64 0, .slice none 0 0, .slice none 0 0]
  gr : w.grownBy wx (some R)
  lo : R < w.heap.size
  hi : w.heap.size < G
section
variable {S : Nat → Prop} {w wx : World} {R G : Nat} {any : Bool} {st : Option (List Nat)} {K D : Int} {v2 v3 : Value}
theorem RS.bad (h : RS S wx R any st) : RS S (wx.setCell ⟨R, 2, none⟩ (.bool true)) R any none := by
  obtain ⟨h0, A, n, c, l, gr, h1, h2, h3, h4, h5, h6, h7⟩ := h
  refine ⟨h0, A, n, c, l, gr, ?_, h2, h3, h4, h5, h6.keep (Keeps.set (p := ⟨R, 2, none⟩) (fun h => Nat.lt_irrefl _ (h0 R h)) _), fun _ h => by cases h⟩
  have := h1.set_ 2 (.bool true)
  simpa using this
theorem RS.far (h : RS S wx R any st) {g i : Nat} (hg : R < g) (u : Value) : RS S (wx.setCell ⟨g, i, none⟩ u) R any st := by
  obtain ⟨h0, A, n, c, l, gr, h1, h2, h3, h4, h5, h6, h7⟩ := h
  exact ⟨h0, A, n, c, l, gr, h1.far (p := ⟨g, i, none⟩) (show R ≠ g by omega) u, h2, h3, h4, h5, h6.keep (Keeps.set (p := ⟨g, i, none⟩) (fun h => by have h' : g < R := h0 g h; omega) _), h7⟩
theorem RS.cells (h : RS S wx R any st) : wx.cell? ⟨R, 1, none⟩ = some (.bool any) ∧ wx.cell? ⟨R, 2, none⟩ = some (.bool st.isNone) ∧ wx.frozen? ⟨R, 2, none⟩ = false ∧ R < wx.heap.size := by
  obtain ⟨h0, A, n, c, l, gr, h1, _⟩ := h
  exact ⟨h1.cell 1, h1.cell 2, h1.frozen 2 (show 2 < 4 by omega), h1.lt⟩
theorem GI.bad (h : GI S w R G any st K D v2 v3 wx) : GI S w R G any none K D v2 v3 (wx.setCell ⟨R, 2, none⟩ (.bool true)) :=
  have hl := h.lo
  have hh := h.hi
  ⟨h.rs.bad, h.gb.far (p := ⟨R, 2, none⟩) (show G ≠ R by omega) _, h.zb.far (p := ⟨R, 2, none⟩) (show w.heap.size ≠ R by omega) _, grown_trans h.gr (grown_set wx ⟨R, 2, none⟩ _), h.lo, h.hi⟩
theorem GI.setG (h : GI S w R G any st K D v2 v3 wx) (i : Nat) (u : Value) {K' D' : Int} {v2' v3' : Value} (hc : (#[.int .i64 K, .int .i64 D, v2, v3] : Array Value).setIfInBounds i u = #[.int .i64 K', .int .i64 D', v2', v3']) : GI S w R G any st K' D' v2' v3' (wx.setCell ⟨G, i, none⟩ u) := by
  have hl := h.lo
  have hh := h.hi
  refine ⟨h.rs.far (by omega) u, ?_, h.zb.far (p := ⟨G, i, none⟩) (show w.heap.size ≠ G by omega) _, ?_, h.lo, h.hi⟩
  · rw [← hc]; exact h.gb.set_ i u
  · exact ⟨h.gr.os, h.gr.tape, h.gr.output, by have := h.gr.size; simpa using this, fun j hj hne => by rw [Below.heap_setCell wx ⟨G, i, none⟩ u j (show j ≠ G by omega)]; exact h.gr.block j hj hne⟩
theorem GI.same {wy : World} (h : GI S w R G any st K D v2 v3 wx) (hb : Below wx.heap.size wx wy) : GI S w R G any st K D v2 v3 wy :=
  ⟨h.rs.below hb, h.gb.below hb h.gb.lt, h.zb.below hb h.zb.lt, ⟨hb.os.trans h.gr.os, hb.tape.trans h.gr.tape, hb.output.trans h.gr.output, Nat.le_trans h.gr.size hb.size, fun j hj hne => (hb.block j (Nat.lt_of_lt_of_le hj h.gr.size)).trans (h.gr.block j hj hne)⟩, h.lo, h.hi⟩
end
theorem cell_beside {w : World} {g i j : Nat} {v : Value} (h : w.cell? ⟨g, i, none⟩ = some v) (hn : i ≠ j) (u : Value) : (w.setCell ⟨g, j, none⟩ u).cell? ⟨g, i, none⟩ = some v := by
  refine (World.cell?_setCell_other (w := w) (a := ⟨g, j, none⟩) (v := u) (b := ⟨g, i, none⟩) (fun e => hn (by injection e with e1 e2; exact e2.symm))).trans h
theorem head_nums {x : Nat} (h : x < 4294967296) : IntKind.i64.wrap (x : Int) = (x : Int) ∧ (Int.tmod (x : Int) 1000) = ((x % 1000 : Nat) : Int) ∧ IntKind.i64.wrap (Int.tdiv (x : Int) 1000) = ((x / 1000 : Nat) : Int) := by
  have e1 : IntKind.i64.wrap (x : Int) = (x : Int) := by rw [IntKind.wrap_i64]; omega
  refine ⟨e1, ?_, ?_⟩
  · rw [Int.tmod_eq_emod_of_nonneg (by omega)]; rfl
  · rw [Int.tdiv_eq_ediv_of_nonneg (by omega), show (x : Int) / 1000 = ((x / 1000 : Nat) : Int) from rfl, IntKind.wrap_i64]; omega
theorem rdB_pt {f : Int → List Nat → Option (PG × List Nat)} {any big : Bool} {d : Nat} {bs : List Nat} : rdB f any big 1 d bs = match rdN big (wd d) bs with
    | none => none
    | some (ns, r) => if nanB (ns.getD 0 0) && nanB (ns.getD 1 0) then some (.mk 1 d [] [], r) else if (nanB (ns.getD 0 0) || nanB (ns.getD 1 0)) && !any then none else some (.mk 1 d ns [], r) := by
  unfold rdB
  rw [if_pos (show (1 : Nat) = 1 from rfl)]
  rfl
theorem rdB_pt_none {f : Int → List Nat → Option (PG × List Nat)} {any big : Bool} {d : Nat} {bs : List Nat} (h : rdN big (wd d) bs = none) : rdB f any big 1 d bs = none := by
  rw [rdB_pt, h]
theorem rdB_pt_some {f : Int → List Nat → Option (PG × List Nat)} {any big : Bool} {d : Nat} {bs fs r : List Nat} (h : rdN big (wd d) bs = some (fs, r)) : rdB f any big 1 d bs = if nanB (fs.getD 0 0) && nanB (fs.getD 1 0) then some (.mk 1 d [] [], r) else if (nanB (fs.getD 0 0) || nanB (fs.getD 1 0)) && !any then none else some (.mk 1 d fs [], r) := by
  rw [rdB_pt, h]
theorem nanB_ne (x : Nat) : (FloatKind.f64.format.order x x != some .eq) = nanB x := by unfold nanB; rfl
theorem rdB_ln {f : Int → List Nat → Option (PG × List Nat)} {any big : Bool} {d : Nat} {bs : List Nat} : rdB f any big 2 d bs = match rdL d big bs with
    | none => none
    | some (ns, r) => some (.mk 2 d ns [], r) := by
  unfold rdB
  rw [if_neg (show ¬ (2 : Nat) = 1 by decide), if_pos (show (2 : Nat) = 2 from rfl)]
  rfl
theorem rdB_mu {f : Int → List Nat → Option (PG × List Nat)} {any big : Bool} {k d : Nat} {bs : List Nat} (h1 : k ≠ 1) (h2 : k ≠ 2) : rdB f any big k d bs = match rdC big bs with
    | none => none
    | some (n, r) => match (if k = 3 then rdR d big n r else rdK (f (kidK k)) n r) with
      | none => none
      | some (l, r2) => some (.mk k d [] l, r2) := by
  unfold rdB
  rw [if_neg h1, if_neg h2]
  rfl
theorem rdL_bind {d : Nat} {big : Bool} {bs : List Nat} : rdL d big bs = (((rdC big bs).map (·.2)).bind (rdN big (((rdC big bs).map (·.1)).getD 0 * wd d))) := by
  unfold rdL
  cases rdC big bs with
  | none => rfl
  | some p => rfl
theorem rdB_ln2 {f : Int → List Nat → Option (PG × List Nat)} {any big : Bool} {d : Nat} {bs : List Nat} : rdB f any big 2 d bs = (rdL d big bs).map (fun p => (.mk 2 d p.1 [], p.2)) := by
  rw [rdB_ln]
  cases rdL d big bs with
  | none => rfl
  | some p => rfl
theorem ln_law {f : Int → List Nat → Option (PG × List Nat)} {any big : Bool} {D W X N : Nat} {bs : List Nat} {oc : Option (Nat × List Nat)} {st : Option (List Nat)} {oN : Option (List Nat × List Nat)} {o : Option (PG × List Nat)}
    (ho : o = rdB f any big 2 D bs) (hoc : oc = rdC big bs) (hX : X = (oc.map (·.1)).getD 0) (hst : st = oc.map (·.2)) (hW : W = wd D) (hN : N = X * W) (hoN : oN = st.bind (rdN big N)) : (o = none ∧ oN = none) ∨ ∃ ns r, oN = some (ns, r) ∧ o = some (.mk 2 D ns [], r) := by
  subst hoc hX hst hW hN
  have e : oN = rdL D big bs := hoN.trans rdL_bind.symm
  rw [ho, rdB_ln2, ← e]
  cases oN with
  | none => exact .inl ⟨rfl, rfl⟩
  | some p => exact .inr ⟨p.1, p.2, rfl, rfl⟩
/-- How a part is read. -/
def itemF (f : Int → List Nat → Option (PG × List Nat)) (big : Bool) (K D : Nat) : List Nat → Option (PG × List Nat) :=
  if K = 3 then fun bs => (rdL D big bs).map (fun p => (.mk 2 D p.1 [], p.2)) else f (kidK K)
theorem rdR_K (d : Nat) (big : Bool) : ∀ (n : Nat) (bs : List Nat), rdR d big n bs = rdK (fun bs => (rdL d big bs).map (fun p => (.mk 2 d p.1 [], p.2))) n bs
  | 0, bs => rfl
  | n + 1, bs => by
    rw [rdR, rdK]
    cases rdL d big bs with
    | none => rfl
    | some p =>
      obtain ⟨ns, r⟩ := p
      simp only [Option.map_some]
      rw [rdR_K d big n r]
theorem itemF_kid {f : Int → List Nat → Option (PG × List Nat)} {big : Bool} {K D : Nat} {bs : List Nat} (h : K ≠ 3) : itemF f big K D bs = f (kidK K) bs := by
  unfold itemF
  rw [if_neg h]
theorem itemF_len {f : Int → List Nat → Option (PG × List Nat)} {big : Bool} {K D : Nat} (hf : ∀ k bs g r, f k bs = some (g, r) → r <:+ bs) {bs : List Nat} {p : PG × List Nat} (h : itemF f big K D bs = some p) : p.2 <:+ bs := by
  unfold itemF at h
  split at h
  · replace h : (rdL D big bs).map (fun p => ((.mk 2 D p.1 [] : PG), p.2)) = some p := h
    cases hL : rdL D big bs with
    | none => rw [hL] at h; cases h
    | some q =>
      rw [hL] at h
      cases h
      exact (rdL_len (ns := q.1) (r := q.2) hL).1
  · exact hf _ bs p.1 p.2 h
theorem mu_law {f : Int → List Nat → Option (PG × List Nat)} {any big : Bool} {K D X : Nat} {bs : List Nat} {oc : Option (Nat × List Nat)} {st : Option (List Nat)} {o : Option (PG × List Nat)} {F : List Nat → Option (PG × List Nat)}
    (ho : o = rdB f any big K D bs) (h1 : K ≠ 1) (h2 : K ≠ 2) (hoc : oc = rdC big bs) (hX : X = (oc.map (·.1)).getD 0) (hst : st = oc.map (·.2)) (hF : F = itemF f big K D) :
    (st.bind (rdK F X) = none → o = none) ∧ (∀ L r, st.bind (rdK F X) = some (L, r) → o = some (.mk K D [] L, r)) := by
  have e : o = (st.bind (rdK F X)).map (fun p => (.mk K D [] p.1, p.2)) := by
    rw [ho, rdB_mu h1 h2, ← hoc, hst, hX, hF]
    cases oc with
    | none => rfl
    | some p =>
      obtain ⟨n, r⟩ := p
      show _ = (rdK _ n r).map _
      simp only
      have hh : (if K = 3 then rdR D big n r else rdK (f (kidK K)) n r) = rdK (itemF f big K D) n r := by
        unfold itemF
        by_cases h3 : K = 3
        · rw [if_pos h3, if_pos h3, rdR_K]
        · rw [if_neg h3, if_neg h3]
      rw [hh]
      cases rdK (itemF f big K D) n r with
      | none => rfl
      | some p => rfl
  rw [e]
  exact ⟨fun h => by rw [h]; rfl, fun L r h => by rw [h]; rfl⟩
/-- How far the parts are read. -/
def KSt (f : List Nat → Option (PG × List Nat)) (X i : Nat) (Lp : List PG) (st : Option (List Nat)) : Option (List Nat) → Prop
  | none => st.bind (rdK f X) = none
  | some r => ∃ r0, st = some r0 ∧ ∀ m, rdK f (i + m) r0 = (rdK f m r).map (fun p => (Lp ++ p.1, p.2))
section
variable {f : List Nat → Option (PG × List Nat)} {X i : Nat} {Lp : List PG} {st : Option (List Nat)} {r : List Nat}
theorem KSt.start : KSt f X 0 [] st st := by
  cases st with
  | none => rfl
  | some r =>
    refine ⟨r, rfl, fun m => ?_⟩
    rw [Nat.zero_add]
    cases rdK f m r with
    | none => rfl
    | some p => rfl
theorem KSt.dead_o (h : KSt f X i Lp st none) : st.bind (rdK f X) = none := h
theorem KSt.fin (h : KSt f X X Lp st (some r)) : st.bind (rdK f X) = some (Lp, r) := by
  obtain ⟨r0, rfl, h⟩ := h
  have := h 0
  rw [Nat.add_zero] at this
  show rdK f X r0 = _
  rw [this]
  simp [rdK]
theorem KSt.step {oI : Option (PG × List Nat)} {p : PG} (h : KSt f X i Lp st (some r)) (hi : i < X) (ho : oI = f r ∧ (oI.map (·.1) = none ∨ oI.map (·.1) = some p)) : KSt f X (i + 1) (Lp ++ [p]) st (oI.map (·.2)) := by
  obtain ⟨r0, rfl, h⟩ := h
  obtain ⟨h1, h2⟩ := ho
  cases oI with
  | none =>
    show rdK f X r0 = none
    have := h (X - i)
    rw [show i + (X - i) = X by omega] at this
    rw [this, show X - i = (X - i - 1) + 1 by omega, rdK, ← h1]
    rfl
  | some q =>
    obtain ⟨g, r2⟩ := q
    have hg : g = p := by
      rcases h2 with h2 | h2
      · cases h2
      · exact Option.some.inj h2
    subst hg
    refine ⟨r0, rfl, fun m => ?_⟩
    have := h (m + 1)
    rw [show i + (m + 1) = i + 1 + m by omega] at this
    rw [this, rdK, ← h1]
    simp only
    cases rdK f m r2 with
    | none => rfl
    | some p => simp
end
theorem ring_law {f : Int → List Nat → Option (PG × List Nat)} {big : Bool} {K D W Y N : Nat} {bs : List Nat} {oc : Option (Nat × List Nat)} {st : Option (List Nat)} {oN : Option (List Nat × List Nat)} {oI : Option (PG × List Nat)}
    (hK : K = 3) (ho : oI = itemF f big K D bs) (hoc : oc = rdC big bs) (hY : Y = (oc.map (·.1)).getD 0) (hst : st = oc.map (·.2)) (hW : W = wd D) (hN : N = Y * W) (hoN : oN = st.bind (rdN big N)) : (oI = none ∧ oN = none) ∨ ∃ ns r, oN = some (ns, r) ∧ oI = some (.mk 2 D ns [], r) := by
  unfold itemF at ho
  rw [if_pos hK] at ho
  subst hoc hY hst hW hN
  have e : oN = rdL D big bs := hoN.trans rdL_bind.symm
  rw [ho, ← e]
  cases oN with
  | none => exact .inl ⟨rfl, rfl⟩
  | some p => exact .inr ⟨p.1, p.2, rfl, rfl⟩
theorem ring_rs {S : Nat → Prop} {w : World} {R D : Nat} {any : Bool} {fs : List Nat} {oN : Option (List Nat × List Nat)} {oI : Option (PG × List Nat)}
    (hm : match oN with | none => RS S w R any none | some (ns, r) => fs = ns ∧ RS S w R any (some r)) (hl : (oI = none ∧ oN = none) ∨ ∃ ns r, oN = some (ns, r) ∧ oI = some (.mk 2 D ns [], r)) : RS S w R any (oI.map (·.2)) := by
  rcases hl with ⟨rfl, rfl⟩ | ⟨ns, r, rfl, rfl⟩
  · exact hm
  · exact hm.2
theorem ring_val {S : Nat → Prop} {w : World} {R D : Nat} {any : Bool} {fs : List Nat} {oN : Option (List Nat × List Nat)} {oI : Option (PG × List Nat)} {A : Option Addr} {c : Nat}
    (hm : match oN with | none => RS S w R any none | some (ns, r) => fs = ns ∧ RS S w R any (some r)) (hl : (oI = none ∧ oN = none) ∨ ∃ ns r, oN = some (ns, r) ∧ oI = some (.mk 2 D ns [], r)) : oI.map (·.1) = none ∨ oI.map (·.1) = some (IG.mk (2 : Nat) D A c fs none 0 []).plain := by
  rcases hl with ⟨rfl, rfl⟩ | ⟨ns, r, rfl, rfl⟩
  · exact .inl rfl
  · rw [hm.1]; exact .inr rfl
theorem GI.grown {S : Nat → Prop} {w wx wy : World} {R G : Nat} {any : Bool} {st : Option (List Nat)} {K D : Int} {v2 v3 : Value} {row : Option Nat} (h : GI S w R G any st K D v2 v3 wx) (hg : wx.grownBy wy row) (hr : ∀ q, row = some q → G < q) : GI S w R G any st K D v2 v3 wy := by
  have hl := h.lo
  have hh := h.hi
  have hs := h.gr.size
  exact ⟨h.rs.grown hg (fun q e => by have := hr q e; omega), h.gb.grown hg (fun e => by have := hr G e.symm; omega), h.zb.grown hg (fun e => by have := hr _ e.symm; omega),
    ⟨hg.os.trans h.gr.os, hg.tape.trans h.gr.tape, hg.output.trans h.gr.output, Nat.le_trans h.gr.size hg.size, fun j hj hne => (hg.block j (by omega) (fun e => by have := hr j e.symm; omega)).trans (h.gr.block j hj hne)⟩, h.lo, h.hi⟩
/-- While parts are read: how many are there. -/
def PartsI (S : Nat → Prop) (w : World) (R G : Nat) (any : Bool) (K D : Nat) (f : List Nat → Option (PG × List Nat)) (X : Nat) (st5 : Option (List Nat)) (w5 : World) (fuel q : Nat) (ci : Value) (wr : World) : Prop :=
  ∃ (i : Nat) (L : List IG) (A1 : Option Addr) (c1 : Nat) (st' : Option (List Nat)), i + q = X ∧ ci = .int .i64 (i : Nat) ∧ L.length = i ∧ wr.ownsRow w5.heap.size 25 4 (.slice A1 i c1) i (L.flatMap IG.enc) ∧ (∀ g ∈ L, g.In (fun a => w5.heap.size ≤ a ∧ some a ≠ (Value.slice A1 i c1).ownBlock) wr) ∧ (∀ g ∈ L, g.plain.fit) ∧ GI S w R G any st' K D (.slice none 0 0) (.slice A1 i c1) wr ∧ KSt f X i (L.map IG.plain) st5 st' ∧ w5.heap.size ≤ wr.heap.size ∧ (∀ r, st' = some r → r.length < fuel)
theorem part_next {S : Nat → Prop} {w : World} {R G : Nat} {any : Bool} {K D X fuel : Nat} {f : List Nat → Option (PG × List Nat)} {st5 : Option (List Nat)} {w5 wr w7 w8 : World} {i : Nat} {L : List IG} {A1 A8 : Option Addr} {c1 c8 : Nat} {oI : Option (PG × List Nat)} {r : List Nat} {g : IG} {ob : Obj}
    (hi : i < X) (hll : L.length = i) (hown : wr.ownsRow w5.heap.size 25 4 (.slice A1 i c1) i (L.flatMap IG.enc)) (hlin : ∀ g ∈ L, g.In (fun a => w5.heap.size ≤ a ∧ some a ≠ (Value.slice A1 i c1).ownBlock) wr) (hlf : ∀ g ∈ L, g.plain.fit) (hks : KSt f X i (L.map IG.plain) st5 (some r))
    (hG7 : GI S w R G any (oI.map (·.2)) K D (.slice none 0 0) (.slice A1 i c1) w7) (hgw5 : G < w5.heap.size) (hw7s : wr.heap.size ≤ w7.heap.size) (hsr : w5.heap.size ≤ wr.heap.size) (hkw : Keeps (fun a => w5.heap.size ≤ a ∧ some a ≠ (Value.slice A1 i c1).ownBlock) wr w7) (hkid : g.In (fun a => wr.heap.size ≤ a) w7 ∧ g.plain.fit)
    (hoi : oI = f r ∧ (oI.map (·.1) = none ∨ oI.map (·.1) = some g.plain)) (hoil : ∀ r', oI.map (·.2) = some r' → r'.length ≤ r.length) (hrf : r.length < fuel)
    (ho8 : w8.ownsRow w5.heap.size 25 4 (.slice A8 (i + 1) c8) (i + 1) (L.flatMap IG.enc ++ g.enc)) (hg8 : (w7.alloc ob).grownBy w8 (Value.slice A1 i c1).ownBlock) (ha8 : (Value.slice A8 (i + 1) c8).ownBlock = (Value.slice A1 i c1).ownBlock ∨ (Value.slice A8 (i + 1) c8).ownBlock = some (w7.alloc ob).heap.size)
    {ci : Value} (hci : ci = .int .i64 ((i + 1 : Nat) : Int)) : PartsI S w R G any K D f X st5 w5 fuel (X - (i + 1)) ci (w8.setCell ⟨G, 3, none⟩ (.slice A8 (i + 1) c8)) := by
  have hb7 : Below w7.heap.size w7 (w7.alloc ob) := (Below.refl w7.heap.size w7).alloc (Nat.le_refl _) _
  have hG8b := ((hG7.same hb7).grown hg8 (fun q hq => by have h1 := (hown.lt q hq).1; omega)).setG 3 (.slice A8 (i + 1) c8) (K' := K) (D' := D) (v2' := .slice none 0 0) (v3' := .slice A8 (i + 1) c8) (by simp)
  have hGn : ∀ (T : Nat → Prop), (∀ a, T a → w5.heap.size ≤ a) → ¬ T G := fun T h h' => by have := h G h'; omega
  have hbx : ∀ q, (Value.slice A1 i c1).ownBlock = some q → w5.heap.size ≤ q ∧ q < wr.heap.size := fun q hq => hown.lt q hq
  have hsa : (w7.alloc ob).heap.size = w7.heap.size + 1 := by simp
  have hgeo : ∀ g : IG, g.In (fun a => w5.heap.size ≤ a ∧ some a ≠ (Value.slice A1 i c1).ownBlock) w7 → g.In (fun a => w5.heap.size ≤ a ∧ some a ≠ (Value.slice A8 (i + 1) c8).ownBlock) (w8.setCell ⟨G, 3, none⟩ (.slice A8 (i + 1) c8)) := fun g hg => by
    refine IG.less (fun a ha => ⟨ha.1.1, fun e => ?_⟩) (IG.keep ((Keeps.grown hg8 (fun r hr ha => ha.1.2 hr.symm)).trans (Keeps.set (p := ⟨G, 3, none⟩) (hGn _ (fun a h => h.1.1)) _)) (IG.up hb7 (IG.old hg)))
    rcases ha8 with h | h
    · exact ha.1.2 (e.trans h)
    · rw [h] at e
      have h1 := Option.some.inj e
      have h2 := ha.2
      omega
  refine ⟨i + 1, L ++ [g], A8, c8, oI.map (·.2), by omega, hci, by simp [hll], ?_, ?_, ?_, hG8b, ?_, ?_, ?_⟩
  · rw [List.flatMap_append, List.flatMap_cons, List.flatMap_nil, List.append_nil]
    exact ho8.kept (grown_set w8 ⟨G, 3, none⟩ (.slice A8 (i + 1) c8)) (.inr (fun e => by have h1 : w5.heap.size ≤ G := (ho8.lt _ e).1; omega))
  · intro g' hg
    rcases List.mem_append.1 hg with hg | hg
    · exact hgeo g' (IG.keep hkw (hlin g' hg))
    · have := List.mem_singleton.1 hg
      subst this
      refine hgeo _ (IG.less (fun a ha => ?_) hkid.1)
      have h1 : wr.heap.size ≤ a := ha
      exact ⟨by omega, fun e => by have := (hbx a e.symm).2; omega⟩
  · intro g' hg
    rcases List.mem_append.1 hg with hg | hg
    · exact hlf g' hg
    · have := List.mem_singleton.1 hg
      subst this
      exact hkid.2
  · rw [List.map_append, List.map_cons, List.map_nil]
    exact hks.step hi hoi
  · have := hg8.size
    simp at this ⊢
    omega
  · intro r' hr'
    have h1 := hoil r' hr'
    omega
/-- What the head has told. -/
def HeadR (any : Bool) (kind : Int) (l : List Nat) (bg : Bool) (K D : Nat) : Option (List Nat) → Prop
  | none => rdH any kind l = none
  | some r2 => rdH any kind l = some ((bg, K, D), r2)
/-- After a read, with the geometry so far kept. -/
theorem GI.read {S : Nat → Prop} {w wx wy : World} {R G : Nat} {any : Bool} {st st' : Option (List Nat)} {K D : Int} {v2 v3 : Value} (h : GI S w R G any st K D v2 v3 wx) (hg : wx.grownBy wy (some R)) (hr : RS S wy R any st') : GI S w R G any st' K D v2 v3 wy := by
  have hl := h.lo
  have hh := h.hi
  exact ⟨hr, h.gb.grown hg (fun e => by have := Option.some.inj e; omega), h.zb.grown hg (fun e => by have := Option.some.inj e; omega), grown_trans h.gr hg, h.lo, h.hi⟩
/-- The result is stored. -/
theorem GI.done {S : Nat → Prop} {w wx : World} {R G : Nat} {any : Bool} {st : Option (List Nat)} {K D : Int} {v2 v3 : Value} {o : Option (PG × List Nat)} (h : GI S w R G any st K D v2 v3 wx) (u0 u1 u2 u3 : Value) (g : IG) (hin : g.In (fun a => w.heap.size < a) wx) (hfit : g.plain.fit) (ho : (o = none ∧ st = none) ∨ ∃ r, o = some (g.plain, r) ∧ st = some r) :
    GPost S w R any o (.returned (.agg g.enc.toArray)) ((((wx.setCell ⟨w.heap.size, 0, none⟩ u0).setCell ⟨w.heap.size, 1, none⟩ u1).setCell ⟨w.heap.size, 2, none⟩ u2).setCell ⟨w.heap.size, 3, none⟩ u3) := by
  have hl := h.lo
  have hR := (((h.rs.far (i := 0) hl u0).far (i := 1) hl u1).far (i := 2) hl u2).far (i := 3) hl u3
  have hk : Keeps (fun a => w.heap.size < a) wx ((((wx.setCell ⟨w.heap.size, 0, none⟩ u0).setCell ⟨w.heap.size, 1, none⟩ u1).setCell ⟨w.heap.size, 2, none⟩ u2).setCell ⟨w.heap.size, 3, none⟩ u3) :=
    ((((Keeps.refl _ wx).setFar (Nat.lt_irrefl _) _).setFar (Nat.lt_irrefl _) _).setFar (Nat.lt_irrefl _) _).setFar (Nat.lt_irrefl _) _
  refine ⟨g, rfl, IG.less (fun a ha => Nat.le_of_lt ha) (IG.keep hk hin), hfit, ?_, ?_⟩
  · refine ⟨h.gr.os, h.gr.tape, h.gr.output, by have := h.gr.size; simpa using this, fun j hj hne => ?_⟩
    rw [Below.heap_setCell _ ⟨w.heap.size, 3, none⟩ u3 j (show j ≠ w.heap.size by omega), Below.heap_setCell _ ⟨w.heap.size, 2, none⟩ u2 j (show j ≠ w.heap.size by omega), Below.heap_setCell _ ⟨w.heap.size, 1, none⟩ u1 j (show j ≠ w.heap.size by omega), Below.heap_setCell _ ⟨w.heap.size, 0, none⟩ u0 j (show j ≠ w.heap.size by omega)]
    exact h.gr.block j hj hne
  · rcases ho with ⟨rfl, rfl⟩ | ⟨r, rfl, rfl⟩
    · exact hR
    · exact ⟨rfl, hR⟩
theorem small_wf {n : Nat} (h : n < 7) : (Lit.int .i64 (n : Int)).wf = true := by
  obtain rfl | rfl | rfl | rfl | rfl | rfl | rfl : n = 0 ∨ n = 1 ∨ n = 2 ∨ n = 3 ∨ n = 4 ∨ n = 5 ∨ n = 6 := by omega
  all_goals decide
/-- A point's data. -/
theorem pt_in {T : Nat → Prop} {w : World} {D : Nat} (hD : D < 4) {A : Option Addr} {c : Nat} {fs : List Nat} (hA : SlS T w A fs.length 1 (FL fs)) (hn : fs.length ≤ 16384) (hc : fs.length ≤ c) {k : Nat} (hk : k < 7) : (IG.mk k D A c fs none 0 []).In T w ∧ (IG.mk k D A c fs none 0 []).plain.fit := by
  have h2 := wd_two D
  constructor
  · rw [IG.In]
    exact ⟨⟨small_wf hk, small_wf (by omega)⟩, ⟨by unfold big; omega, Nat.zero_le _⟩, ⟨hc, Nat.le_refl _⟩, hA, ⟨Sl.nil _ _ _, fun h => absurd h (Nat.lt_irrefl 0)⟩, trivial⟩
  · rw [IG.plain_eq, PG.fit]
    refine ⟨⟨?_, by simp⟩, trivial⟩
    have := Nat.div_le_self fs.length (wd (dm (D : Int)))
    omega
theorem zero_in (T : Nat → Prop) (w : World) : (IG.mk 0 0 none 0 [] none 0 []).In T w := by
  rw [IG.In]
  exact ⟨⟨by decide, by decide⟩, ⟨Nat.zero_le _, Nat.zero_le _⟩, ⟨Nat.le_refl _, Nat.le_refl _⟩, ⟨Sl.nil _ _ _, fun h => absurd h (Nat.lt_irrefl 0)⟩, ⟨Sl.nil _ _ _, fun h => absurd h (Nat.lt_irrefl 0)⟩, trivial⟩
theorem zero_fit : (IG.mk 0 0 none 0 [] none 0 []).plain.fit := by
  rw [IG.plain_eq, PG.fit]
  exact ⟨⟨by simp, by simp⟩, trivial⟩
/-- What the reads of a head say. -/
theorem head_law {any : Bool} {kind : Int} {l : List Nat} {x1 x2 : Nat} {st1 st2 : Option (List Nat)}
    (h1 : match rdU 1 false l with | none => x1 = 0 ∧ st1 = none | some (y, r) => x1 = y ∧ st1 = some r)
    (h2 : match st1.bind (rdU 4 (x1 == 0)) with | none => x2 = 0 ∧ st2 = none | some (y, r) => x2 = y ∧ st2 = some r) :
    ((1 < x1 ∨ x2 % 1000 < 1 ∨ 7 < x2 % 1000 ∨ 3 < x2 / 1000) → rdH any kind l = none) ∧
    (¬ (1 < x1 ∨ x2 % 1000 < 1 ∨ 7 < x2 % 1000 ∨ 3 < x2 / 1000) → ∃ r2, st2 = some r2 ∧ rdH any kind l = if 0 ≤ kind ∧ (kdOf (x2 % 1000) : Int) ≠ kind ∧ any = false then none else some ((x1 == 0, kdOf (x2 % 1000), x2 / 1000), r2)) := by
  unfold rdH
  cases hu : rdU 1 false l with
  | none =>
    rw [hu] at h1
    obtain ⟨rfl, rfl⟩ := h1
    obtain ⟨rfl, rfl⟩ := h2
    exact ⟨fun _ => rfl, fun h => absurd (.inr (.inl (by decide))) h⟩
  | some p =>
    obtain ⟨o, r⟩ := p
    rw [hu] at h1
    obtain ⟨rfl, rfl⟩ := h1
    simp only
    cases hv : rdU 4 (x1 == 0) r with
    | none =>
      rw [show (some r).bind (rdU 4 (x1 == 0)) = none from hv] at h2
      obtain ⟨rfl, rfl⟩ := h2
      refine ⟨fun _ => ?_, fun h => absurd (.inr (.inl (by decide))) h⟩
      by_cases ho : 1 < x1
      · rw [if_pos ho]
      · rw [if_neg ho]
    | some p =>
      obtain ⟨c, r2⟩ := p
      rw [show (some r).bind (rdU 4 (x1 == 0)) = some (c, r2) from hv] at h2
      obtain ⟨rfl, rfl⟩ := h2
      simp only
      constructor
      · intro h
        by_cases ho : 1 < x1
        · rw [if_pos ho]
        · rw [if_neg ho, if_pos (by omega)]
      · intro h
        refine ⟨r2, rfl, ?_⟩
        rw [if_neg (by omega), if_neg (by omega)]
end Go.Proofs.YtbacakdpfiiblaaGreat.geo
