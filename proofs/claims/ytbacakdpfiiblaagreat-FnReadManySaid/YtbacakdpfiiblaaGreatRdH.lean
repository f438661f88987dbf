/-
  Contract of the package's reader: a point.
-/
import Derived.Test.YtbacakdpfiiblaaGreatRdF
import Derived.Test.YtbacakdpfiiblaaGreatGeoF
import Derived.Deep.DeepCutAuto
namespace Go.Proofs.YtbacakdpfiiblaaGreat.geo
open Go.ChangeShapes Go.WideShapes Go.ChangeAt Go.RowKit
open Go.Proofs.YtbacakdpfiiblaaGreat.mem
set_option linter.unusedVariables false
set_option linter.unusedSimpArgs false

/-- What reads a geometry of a kind: an error, or the geometry. -/
def PKPost (S : Nat → Prop) (w : World) (P : Nat) (big : Bool) (k : Nat) (o : Option (PG × List Nat)) (e : Ending) (w' : World) : Prop :=
  ∃ m : MG, m.kind = k ∧ m.In (fun a => w.heap.size ≤ a) w' ∧ w.grownBy w' (some P) ∧ match o with
    | none => Bod w' P ∧ ∃ T x, e = .returned (.tuple #[.agg m.enc.toArray, .iface T x])
    | some (p, r) => e = .returned (.tuple #[.agg m.enc.toArray, .nilIface]) ∧ m.plain = p ∧ WPs S w' P big r
/-- A point of some bytes, as the package reads it. -/
def rdPt (d : Nat) (big : Bool) (bs : List Nat) : Option (PG × List Nat) := match rdN big (wd d) bs with
  | none => none
  | some (ns, r) => if nanB (ns.getD 0 0) && nanB (ns.getD 1 0) then some (.mk 1 d [] [], r) else if nanB (ns.getD 0 0) || nanB (ns.getD 1 0) then none else some (.mk 1 d ns [], r)
/-- Six cells of a block stored. -/
abbrev st6 (w : World) (g : Nat) (u0 u1 u2 u3 u4 u5 : Value) : World :=
  World.setCell (World.setCell (World.setCell (World.setCell (World.setCell (World.setCell w ⟨g, 0, none⟩ u0) ⟨g, 1, none⟩ u1) ⟨g, 2, none⟩ u2) ⟨g, 3, none⟩ u3) ⟨g, 4, none⟩ u4) ⟨g, 5, none⟩ u5
theorem st6_heap (w : World) (g : Nat) (u0 u1 u2 u3 u4 u5 : Value) (j : Nat) (h : j ≠ g) : (st6 w g u0 u1 u2 u3 u4 u5).heap[j]? = w.heap[j]? := by
  unfold st6
  rw [Below.heap_setCell _ ⟨g, 5, none⟩ u5 j h, Below.heap_setCell _ ⟨g, 4, none⟩ u4 j h, Below.heap_setCell _ ⟨g, 3, none⟩ u3 j h, Below.heap_setCell _ ⟨g, 2, none⟩ u2 j h, Below.heap_setCell _ ⟨g, 1, none⟩ u1 j h, Below.heap_setCell _ ⟨g, 0, none⟩ u0 j h]
theorem far_grown {w0 w : World} {g P : Nat} (hg : w0.grownBy w (some P)) (hw : w0.heap.size ≤ g) (i : Nat) (u : Value) : w0.grownBy (w.setCell ⟨g, i, none⟩ u) (some P) :=
  ⟨hg.os, hg.tape, hg.output, by have := hg.size; simpa using this, fun j hj hne => by rw [Below.heap_setCell w ⟨g, i, none⟩ u j (show j ≠ g by omega)]; exact hg.block j hj hne⟩
theorem st6_grown {w0 w : World} {g P : Nat} (hg : w0.grownBy w (some P)) (hw : w0.heap.size ≤ g) (u0 u1 u2 u3 u4 u5 : Value) : w0.grownBy (st6 w g u0 u1 u2 u3 u4 u5) (some P) :=
  far_grown (far_grown (far_grown (far_grown (far_grown (far_grown hg hw 0 u0) hw 1 u1) hw 2 u2) hw 3 u3) hw 4 u4) hw 5 u5
theorem st6_ws {S : Nat → Prop} {w : World} {P : Nat} {big : Bool} {r : List Nat} {g : Nat} (h : WPs S w P big r) (hl : P < g) (u0 u1 u2 u3 u4 u5 : Value) : WPs S (st6 w g u0 u1 u2 u3 u4 u5) P big r :=
  (((((h.far (i := 0) hl u0).far (i := 1) hl u1).far (i := 2) hl u2).far (i := 3) hl u3).far (i := 4) hl u4).far (i := 5) hl u5
theorem st6_bod {w : World} {P g : Nat} (h : Bod w P) (hl : P < g) (u0 u1 u2 u3 u4 u5 : Value) : Bod (st6 w g u0 u1 u2 u3 u4 u5) P :=
  (((((h.far (i := 0) hl u0).far (i := 1) hl u1).far (i := 2) hl u2).far (i := 3) hl u3).far (i := 4) hl u4).far (i := 5) hl u5
/-- While a point is read. -/
structure PtI (S : Nat → Prop) (w : World) (P : Nat) (big : Bool) (r : List Nat) (x y z m d : Nat) (wx : World) : Prop where
  ws : WPs S wx P big r
  cb : Blk wx (w.heap.size + 1) 75 #[.float .f64 x, .float .f64 y, .float .f64 z, .float .f64 m, .int .u8 d]
  zb : Blk wx w.heap.size 77 #[.float .f64 0, .float .f64 0, .float .f64 0, .float .f64 0, .int .u8 0, .bool false]
  gr : w.grownBy wx (some P)
  lo : P < w.heap.size
section
variable {S : Nat → Prop} {w wx wy : World} {P : Nat} {big : Bool} {r r' : List Nat} {x y z m d : Nat}
theorem PtI.read (h : PtI S w P big r x y z m d wx) (hg : wx.grownBy wy (some P)) (hr : WPs S wy P big r') : PtI S w P big r' x y z m d wy := by
  have hl := h.lo
  exact ⟨hr, h.cb.grown hg (fun e => by have := Option.some.inj e; omega), h.zb.grown hg (fun e => by have := Option.some.inj e; omega), grown_trans h.gr hg, h.lo⟩
theorem PtI.setC (h : PtI S w P big r x y z m d wx) (i : Nat) (u : Value) {x' y' z' m' : Nat} (hc : (#[.float .f64 x, .float .f64 y, .float .f64 z, .float .f64 m, .int .u8 d] : Array Value).setIfInBounds i u = #[.float .f64 x', .float .f64 y', .float .f64 z', .float .f64 m', .int .u8 d]) : PtI S w P big r x' y' z' m' d (wx.setCell ⟨w.heap.size + 1, i, none⟩ u) := by
  have hl := h.lo
  refine ⟨h.ws.far (by omega) u, ?_, h.zb.far (p := ⟨w.heap.size + 1, i, none⟩) (show w.heap.size ≠ w.heap.size + 1 by omega) _, ?_, h.lo⟩
  · rw [← hc]; exact h.cb.set_ i u
  · exact ⟨h.gr.os, h.gr.tape, h.gr.output, by have := h.gr.size; simpa using this, fun j hj hne => by rw [Below.heap_setCell wx ⟨w.heap.size + 1, i, none⟩ u j (show j ≠ w.heap.size + 1 by omega)]; exact h.gr.block j hj hne⟩
theorem PtI.same (h : PtI S w P big r x y z m d wx) (hb : Below wx.heap.size wx wy) : PtI S w P big r x y z m d wy :=
  ⟨h.ws.below hb, h.cb.below hb h.cb.lt, h.zb.below hb h.zb.lt, ⟨hb.os.trans h.gr.os, hb.tape.trans h.gr.tape, hb.output.trans h.gr.output, Nat.le_trans h.gr.size hb.size, fun j hj hne => (hb.block j (Nat.lt_of_lt_of_le hj h.gr.size)).trans (h.gr.block j hj hne)⟩, h.lo⟩
/-- The result is stored. -/
theorem PtI.stored (h : PtI S w P big r x y z m d wx) (u0 u1 u2 u3 u4 u5 : Value) : w.grownBy (st6 wx w.heap.size u0 u1 u2 u3 u4 u5) (some P) ∧
    WPs S (st6 wx w.heap.size u0 u1 u2 u3 u4 u5) P big r := by
  exact ⟨st6_grown h.gr (Nat.le_refl _) _ _ _ _ _ _, st6_ws h.ws h.lo _ _ _ _ _ _⟩
/-- An error: the point none. -/
theorem PtI.err {o : Option (PG × List Nat)} {T : TypeId} {v : Value} (h : PtI S w P big r x y z m d wx) (u0 u1 u2 u3 u4 u5 : Value) (ho : o = none) : PKPost S w P big 1 o (.returned (.tuple #[.agg #[.float .f64 0, .float .f64 0, .float .f64 0, .float .f64 0, .int .u8 0, .bool false], .iface T v])) (st6 wx w.heap.size u0 u1 u2 u3 u4 u5) := by
  subst ho
  exact ⟨.pt 0 false ⟨0, 0, 0, 0⟩, rfl, by rw [MG.In]; exact ⟨by decide, rfl⟩, (h.stored u0 u1 u2 u3 u4 u5).1, (h.stored u0 u1 u2 u3 u4 u5).2.bod, T, v, rfl⟩
end
set_option maxHeartbeats 8000000 in
set_option maxRecDepth 100000 in
theorem parsePt0 {S : Nat → Prop} {w : World} {P : Nat} {big : Bool} {l : List Nat} (h : WPs S w P big l) :
    Calls Tryz.prog 164 #[.pointer (some ⟨P, 0, none⟩), .int .u8 0] w (PKPost S w P big 1 (rdPt 0 big l)) := by
  obtain ⟨w1, hw1⟩ : ∃ w1, w1 = (w.alloc (.cells #[.float .f64 0, .float .f64 0, .float .f64 0, .float .f64 0, .int .u8 0, .bool false] 77)).alloc (.cells #[.float .f64 0, .float .f64 0, .float .f64 0, .float .f64 0, .int .u8 0] 75) := ⟨_, rfl⟩
  have hI : PtI S w P big l 0 0 0 0 0 w1 := by
    have hb : Below w.heap.size w w1 := by rw [hw1]; exact ((Below.refl _ _).alloc (Nat.le_refl _) _).alloc (by simp) _
    refine ⟨h.below hb, ?_, by rw [hw1]; exact (Blk.new _ _ _).alloc _, grown_below hb, h.lt⟩
    rw [hw1]
    have := Blk.new (w.alloc (.cells #[.float .f64 0, .float .f64 0, .float .f64 0, .float .f64 0, .int .u8 0, .bool false] 77)) 75 #[.float .f64 0, .float .f64 0, .float .f64 0, .float .f64 0, .int .u8 0]
    simpa using this
  have HW1 := Lib.hid hw1
  have HI := Lib.hid hI
  obtain ⟨o, ho⟩ : ∃ o, o = rdPt 0 big l := ⟨_, rfl⟩
  rw [← ho]
  have HO := Lib.hid ho
  clear hw1 hI h ho
  have r0 : l = l := rfl
  clear r0
  go_enter Tryz.func164, Tryz.ntmps164
  go_wp2_with fail
  rw [← HW1.out]
  refine (parse64_calls HI.out.ws).mono ?_
  rintro e w2 ⟨hg, hx⟩
  cases hu0 : rdU 8 big l with
  | none =>
    rw [hu0] at hx
    obtain ⟨hbo, T, xe, rfl⟩ := hx
    have HBO := Lib.hid hbo
    clear hbo
    have ho : o = none := by rw [HO.out]; simp [rdPt, wd, rdN, hu0]
    have hcb := HI.out.cb.grown hg (fun e => by have := Option.some.inj e; have := HI.out.lo; omega)
    have hzb := HI.out.zb.grown hg (fun e => by have := Option.some.inj e; have := HI.out.lo; omega)
    have HG := Lib.hid hg
    obtain ⟨c0, c1, c2, c3, c4, f0, f1, f2, f3, f4, cl⟩ := cells5 hcb
    obtain ⟨z0, z1, z2, z3, z4, z5, y0, y1, y2, y3, y4, y5, zl⟩ := cells6 hzb
    have hne : w.heap.size + 1 ≠ w.heap.size := by omega
    clear hg hcb hzb
    go_wp2_with fail
    refine bodyPost_ret (v := .tuple #[.agg #[.float .f64 0, .float .f64 0, .float .f64 0, .float .f64 0, .int .u8 0, .bool false], .iface T xe]) (by simp [results, Tryz.results164, go_sem, z0, z1, z2, z3, z4, z5, zl]) rfl ?_
    refine ⟨.pt 0 false ⟨0, 0, 0, 0⟩, rfl, by rw [MG.In]; exact ⟨by decide, rfl⟩, ?_, ?_⟩
    · have hl := HI.out.lo
      have hg2 := grown_trans HI.out.gr HG.out
      exact st6_grown (far_grown hg2 (Nat.le_succ _) 0 _) (Nat.le_refl _) _ _ _ _ _ _
    · rw [ho]
      have hl := HI.out.lo
      exact ⟨st6_bod (HBO.out.far (i := 0) (Nat.lt_succ_of_lt hl) _) hl _ _ _ _ _ _, T, xe, rfl⟩
  | some q =>
    obtain ⟨x, r1⟩ := q
    rw [hu0] at hx
    obtain ⟨rfl, hws⟩ := hx
    have hI2 := HI.out.read hg hws
    have HI2 := Lib.hid (hI2.setC 0 (.float .f64 x) (x' := x) (y' := 0) (z' := 0) (m' := 0) (by simp))
    obtain ⟨c0, c1, c2, c3, c4, f0, f1, f2, f3, f4, cl⟩ := cells5 hI2.cb
    clear hg hws hI2 HI
    have HI := HI2
    clear HI2
    go_wp2_with fail
    obtain ⟨v0, hv0⟩ : ∃ v0, v0 = w2.setCell ⟨w.heap.size + 1, 0, none⟩ (.float .f64 x) := ⟨_, rfl⟩
    rw [← hv0] at HI ⊢
    clear hv0 c0 c1 c2 c3 c4 f0 f1 f2 f3 f4 cl
    refine (parse64_calls HI.out.ws).mono ?_
    rintro e w3 ⟨hg, hx⟩
    cases hu1 : rdU 8 big r1 with
    | none =>
      rw [hu1] at hx
      obtain ⟨hbo, T, xe, rfl⟩ := hx
      have HBO := Lib.hid hbo
      clear hbo
      have ho : o = none := by rw [HO.out]; simp [rdPt, wd, rdN, hu0, hu1]
      have hcb := HI.out.cb.grown hg (fun e => by have := Option.some.inj e; have := HI.out.lo; omega)
      have hzb := HI.out.zb.grown hg (fun e => by have := Option.some.inj e; have := HI.out.lo; omega)
      have HG := Lib.hid hg
      obtain ⟨c0, c1, c2, c3, c4, f0, f1, f2, f3, f4, cl⟩ := cells5 hcb
      obtain ⟨z0, z1, z2, z3, z4, z5, y0, y1, y2, y3, y4, y5, zl⟩ := cells6 hzb
      have hne : w.heap.size + 1 ≠ w.heap.size := by omega
      clear hg hcb hzb
      go_wp2_with fail
      refine bodyPost_ret (v := .tuple #[.agg #[.float .f64 0, .float .f64 0, .float .f64 0, .float .f64 0, .int .u8 0, .bool false], .iface T xe]) (by simp [results, Tryz.results164, go_sem, z0, z1, z2, z3, z4, z5, zl]) rfl ?_
      refine ⟨.pt 0 false ⟨0, 0, 0, 0⟩, rfl, by rw [MG.In]; exact ⟨by decide, rfl⟩, ?_, ?_⟩
      · have hl := HI.out.lo
        have hg2 := grown_trans HI.out.gr HG.out
        exact st6_grown (far_grown hg2 (Nat.le_succ _) 1 _) (Nat.le_refl _) _ _ _ _ _ _
      · rw [ho]
        have hl := HI.out.lo
        exact ⟨st6_bod (HBO.out.far (i := 1) (Nat.lt_succ_of_lt hl) _) hl _ _ _ _ _ _, T, xe, rfl⟩
    | some q =>
      obtain ⟨y, r2⟩ := q
      rw [hu1] at hx
      obtain ⟨rfl, hws⟩ := hx
      have hI2 := HI.out.read hg hws
      have HI2 := Lib.hid (hI2.setC 1 (.float .f64 y) (x' := x) (y' := y) (z' := 0) (m' := 0) (by simp))
      obtain ⟨c0, c1, c2, c3, c4, f0, f1, f2, f3, f4, cl⟩ := cells5 hI2.cb
      clear hg hws hI2 HI
      have HI := HI2
      clear HI2
      have HOE := Lib.hid (show o = if nanB x && nanB y then some (.mk 1 0 [] [], r2) else if nanB x || nanB y then none else some (.mk 1 0 [x, y] [], r2) from by
        rw [HO.out]
        simp only [rdPt, wd, rdN, hu0, hu1]
        rfl)
      go_upto_region 17 with fail
      obtain ⟨vE, hvE⟩ : ∃ vE, vE = w3.setCell ⟨w.heap.size + 1, 1, none⟩ (.float .f64 y) := ⟨_, rfl⟩
      rw [← hvE] at HI ⊢
      clear hvE c0 c1 c2 c3 c4 f0 f1 f2 f3 f4 cl
      obtain ⟨c0, c1, c2, c3, c4, f0, f1, f2, f3, f4, cl⟩ := cells5 HI.out.cb
      obtain ⟨z0, z1, z2, z3, z4, z5, y0, y1, y2, y3, y4, y5, zl⟩ := cells6 HI.out.zb
      have HX := Lib.hid (isNaN_calls x)
      have HY := Lib.hid (isNaN_calls y)
      obtain ⟨bx, hbx⟩ : ∃ bx, bx = nanB x := ⟨_, rfl⟩
      obtain ⟨by', hby⟩ : ∃ by', by' = nanB y := ⟨_, rfl⟩
      rw [← hbx] at HX HOE
      rw [← hby] at HY HOE
      clear hbx hby
      cases bx with
      | true =>
        cases by' with
        | true =>
          have HO3 := Lib.hid (show o = some (.mk 1 0 [] [], r2) from HOE.out)
          go_wp2_with fail
          refine (HX.out _).mono ?_
          rintro e9 w9 ⟨rfl, h9⟩
          obtain rfl := h9.symm
          go_wp2_with fail
          refine (HY.out _).mono ?_
          rintro e9 w9 ⟨rfl, h9⟩
          obtain rfl := h9.symm
          go_wp2_with fail
          refine (ptForce_none (d := 0) (d' := 0) ⟨0, 0, 0, 0⟩ _).mono ?_
          rintro e9 w9 ⟨rfl, hb9⟩
          have HI9 := Lib.hid (HI.out.same hb9)
          clear hb9 c0 c1 c2 c3 c4 f0 f1 f2 f3 f4 cl z0 z1 z2 z3 z4 z5 y0 y1 y2 y3 y4 y5 zl
          obtain ⟨z0, z1, z2, z3, z4, z5, y0, y1, y2, y3, y4, y5, zl⟩ := cells6 HI9.out.zb
          go_wp2_with fail
          refine bodyPost_ret (v := .tuple #[.agg #[.float .f64 0, .float .f64 0, .float .f64 0, .float .f64 0, .int .u8 0, .bool false], .nilIface]) (by simp [results, Tryz.results164, go_sem, z0, z1, z2, z3, z4, z5, zl]) rfl ?_
          obtain ⟨s1, s2⟩ := HI9.out.stored (.float .f64 0) (.float .f64 0) (.float .f64 0) (.float .f64 0) (.int .u8 0) (.bool false)
          refine ⟨.pt 0 false ⟨0, 0, 0, 0⟩, rfl, by rw [MG.In]; exact ⟨by decide, rfl⟩, s1, ?_⟩
          rw [HO3.out]
          exact ⟨rfl, rfl, s2⟩
        | false =>
          have HO3 := Lib.hid (show o = none from HOE.out)
          go_wp2_with fail
          refine (HX.out _).mono ?_
          rintro e9 w9 ⟨rfl, h9⟩
          obtain rfl := h9.symm
          go_wp2_with fail
          refine (HY.out _).mono ?_
          rintro e9 w9 ⟨rfl, h9⟩
          obtain rfl := h9.symm
          go_wp2_with fail
          refine (HX.out _).mono ?_
          rintro e9 w9 ⟨rfl, h9⟩
          obtain rfl := h9.symm
          go_wp2_with fail
          refine bodyPost_ret (v := .tuple #[.agg #[.float .f64 0, .float .f64 0, .float .f64 0, .float .f64 0, .int .u8 0, .bool false], .iface 207 ?_]) (by simp [results, Tryz.results164, go_sem, z0, z1, z2, z3, z4, z5, zl]; rfl) rfl ?_
          exact HI.out.err _ _ _ _ _ _ HO3.out
      | false =>
        cases by' with
        | true =>
          have HO3 := Lib.hid (show o = none from HOE.out)
          go_wp2_with fail
          refine (HX.out _).mono ?_
          rintro e9 w9 ⟨rfl, h9⟩
          obtain rfl := h9.symm
          go_wp2_with fail
          refine (HX.out _).mono ?_
          rintro e9 w9 ⟨rfl, h9⟩
          obtain rfl := h9.symm
          go_wp2_with fail
          refine (HY.out _).mono ?_
          rintro e9 w9 ⟨rfl, h9⟩
          obtain rfl := h9.symm
          go_wp2_with fail
          refine bodyPost_ret (v := .tuple #[.agg #[.float .f64 0, .float .f64 0, .float .f64 0, .float .f64 0, .int .u8 0, .bool false], .iface 207 ?_]) (by simp [results, Tryz.results164, go_sem, z0, z1, z2, z3, z4, z5, zl]; rfl) rfl ?_
          exact HI.out.err _ _ _ _ _ _ HO3.out
        | false =>
          have HO3 := Lib.hid (show o = some (.mk 1 0 [x, y] [], r2) from HOE.out)
          go_wp2_with fail
          refine (HX.out _).mono ?_
          rintro e9 w9 ⟨rfl, h9⟩
          obtain rfl := h9.symm
          go_wp2_with fail
          refine (HX.out _).mono ?_
          rintro e9 w9 ⟨rfl, h9⟩
          obtain rfl := h9.symm
          go_wp2_with fail
          refine (HY.out _).mono ?_
          rintro e9 w9 ⟨rfl, h9⟩
          obtain rfl := h9.symm
          go_wp2_with fail
          refine (newPoint_calls x y 0 0 0 _).mono ?_
          rintro e9 w9 ⟨rfl, hb9⟩
          have HI9 := Lib.hid (HI.out.same hb9)
          clear hb9 c0 c1 c2 c3 c4 f0 f1 f2 f3 f4 cl z0 z1 z2 z3 z4 z5 y0 y1 y2 y3 y4 y5 zl
          obtain ⟨z0, z1, z2, z3, z4, z5, y0, y1, y2, y3, y4, y5, zl⟩ := cells6 HI9.out.zb
          go_wp2_with fail
          refine bodyPost_ret (v := .tuple #[.agg #[.float .f64 x, .float .f64 y, .float .f64 0, .float .f64 0, .int .u8 0, .bool true], .nilIface]) (by simp [results, Tryz.results164, go_sem, z0, z1, z2, z3, z4, z5, zl]) rfl ?_
          obtain ⟨s1, s2⟩ := HI9.out.stored (.float .f64 x) (.float .f64 y) (.float .f64 0) (.float .f64 0) (.int .u8 0) (.bool true)
          refine ⟨.pt 0 true ⟨x, y, 0, 0⟩, rfl, by rw [MG.In]; exact ⟨by decide, rfl⟩, s1, ?_⟩
          rw [HO3.out]
          exact ⟨rfl, rfl, s2⟩
set_option maxHeartbeats 8000000 in
set_option maxRecDepth 100000 in
theorem parsePt1 {S : Nat → Prop} {w : World} {P : Nat} {big : Bool} {l : List Nat} (h : WPs S w P big l) :
    Calls Tryz.prog 164 #[.pointer (some ⟨P, 0, none⟩), .int .u8 1] w (PKPost S w P big 1 (rdPt 1 big l)) := by
  obtain ⟨w1, hw1⟩ : ∃ w1, w1 = (w.alloc (.cells #[.float .f64 0, .float .f64 0, .float .f64 0, .float .f64 0, .int .u8 0, .bool false] 77)).alloc (.cells #[.float .f64 0, .float .f64 0, .float .f64 0, .float .f64 0, .int .u8 1] 75) := ⟨_, rfl⟩
  have hI : PtI S w P big l 0 0 0 0 1 w1 := by
    have hb : Below w.heap.size w w1 := by rw [hw1]; exact ((Below.refl _ _).alloc (Nat.le_refl _) _).alloc (by simp) _
    refine ⟨h.below hb, ?_, by rw [hw1]; exact (Blk.new _ _ _).alloc _, grown_below hb, h.lt⟩
    rw [hw1]
    have := Blk.new (w.alloc (.cells #[.float .f64 0, .float .f64 0, .float .f64 0, .float .f64 0, .int .u8 0, .bool false] 77)) 75 #[.float .f64 0, .float .f64 0, .float .f64 0, .float .f64 0, .int .u8 1]
    simpa using this
  have HW1 := Lib.hid hw1
  have HI := Lib.hid hI
  obtain ⟨o, ho⟩ : ∃ o, o = rdPt 1 big l := ⟨_, rfl⟩
  rw [← ho]
  have HO := Lib.hid ho
  clear hw1 hI h ho
  have r0 : l = l := rfl
  clear r0
  go_enter Tryz.func164, Tryz.ntmps164
  go_wp2_with fail
  rw [← HW1.out]
  refine (parse64_calls HI.out.ws).mono ?_
  rintro e w2 ⟨hg, hx⟩
  cases hu0 : rdU 8 big l with
  | none =>
    rw [hu0] at hx
    obtain ⟨hbo, T, xe, rfl⟩ := hx
    have HBO := Lib.hid hbo
    clear hbo
    have ho : o = none := by rw [HO.out]; simp [rdPt, wd, rdN, hu0]
    have hcb := HI.out.cb.grown hg (fun e => by have := Option.some.inj e; have := HI.out.lo; omega)
    have hzb := HI.out.zb.grown hg (fun e => by have := Option.some.inj e; have := HI.out.lo; omega)
    have HG := Lib.hid hg
    obtain ⟨c0, c1, c2, c3, c4, f0, f1, f2, f3, f4, cl⟩ := cells5 hcb
    obtain ⟨z0, z1, z2, z3, z4, z5, y0, y1, y2, y3, y4, y5, zl⟩ := cells6 hzb
    have hne : w.heap.size + 1 ≠ w.heap.size := by omega
    clear hg hcb hzb
    go_wp2_with fail
    refine bodyPost_ret (v := .tuple #[.agg #[.float .f64 0, .float .f64 0, .float .f64 0, .float .f64 0, .int .u8 0, .bool false], .iface T xe]) (by simp [results, Tryz.results164, go_sem, z0, z1, z2, z3, z4, z5, zl]) rfl ?_
    refine ⟨.pt 0 false ⟨0, 0, 0, 0⟩, rfl, by rw [MG.In]; exact ⟨by decide, rfl⟩, ?_, ?_⟩
    · have hl := HI.out.lo
      have hg2 := grown_trans HI.out.gr HG.out
      exact st6_grown (far_grown hg2 (Nat.le_succ _) 0 _) (Nat.le_refl _) _ _ _ _ _ _
    · rw [ho]
      have hl := HI.out.lo
      exact ⟨st6_bod (HBO.out.far (i := 0) (Nat.lt_succ_of_lt hl) _) hl _ _ _ _ _ _, T, xe, rfl⟩
  | some q =>
    obtain ⟨x, r1⟩ := q
    rw [hu0] at hx
    obtain ⟨rfl, hws⟩ := hx
    have hI2 := HI.out.read hg hws
    have HI2 := Lib.hid (hI2.setC 0 (.float .f64 x) (x' := x) (y' := 0) (z' := 0) (m' := 0) (by simp))
    obtain ⟨c0, c1, c2, c3, c4, f0, f1, f2, f3, f4, cl⟩ := cells5 hI2.cb
    clear hg hws hI2 HI
    have HI := HI2
    clear HI2
    go_wp2_with fail
    obtain ⟨v0, hv0⟩ : ∃ v0, v0 = w2.setCell ⟨w.heap.size + 1, 0, none⟩ (.float .f64 x) := ⟨_, rfl⟩
    rw [← hv0] at HI ⊢
    clear hv0 c0 c1 c2 c3 c4 f0 f1 f2 f3 f4 cl
    refine (parse64_calls HI.out.ws).mono ?_
    rintro e w3 ⟨hg, hx⟩
    cases hu1 : rdU 8 big r1 with
    | none =>
      rw [hu1] at hx
      obtain ⟨hbo, T, xe, rfl⟩ := hx
      have HBO := Lib.hid hbo
      clear hbo
      have ho : o = none := by rw [HO.out]; simp [rdPt, wd, rdN, hu0, hu1]
      have hcb := HI.out.cb.grown hg (fun e => by have := Option.some.inj e; have := HI.out.lo; omega)
      have hzb := HI.out.zb.grown hg (fun e => by have := Option.some.inj e; have := HI.out.lo; omega)
      have HG := Lib.hid hg
      obtain ⟨c0, c1, c2, c3, c4, f0, f1, f2, f3, f4, cl⟩ := cells5 hcb
      obtain ⟨z0, z1, z2, z3, z4, z5, y0, y1, y2, y3, y4, y5, zl⟩ := cells6 hzb
      have hne : w.heap.size + 1 ≠ w.heap.size := by omega
      clear hg hcb hzb
      go_wp2_with fail
      refine bodyPost_ret (v := .tuple #[.agg #[.float .f64 0, .float .f64 0, .float .f64 0, .float .f64 0, .int .u8 0, .bool false], .iface T xe]) (by simp [results, Tryz.results164, go_sem, z0, z1, z2, z3, z4, z5, zl]) rfl ?_
      refine ⟨.pt 0 false ⟨0, 0, 0, 0⟩, rfl, by rw [MG.In]; exact ⟨by decide, rfl⟩, ?_, ?_⟩
      · have hl := HI.out.lo
        have hg2 := grown_trans HI.out.gr HG.out
        exact st6_grown (far_grown hg2 (Nat.le_succ _) 1 _) (Nat.le_refl _) _ _ _ _ _ _
      · rw [ho]
        have hl := HI.out.lo
        exact ⟨st6_bod (HBO.out.far (i := 1) (Nat.lt_succ_of_lt hl) _) hl _ _ _ _ _ _, T, xe, rfl⟩
    | some q =>
      obtain ⟨y, r2⟩ := q
      rw [hu1] at hx
      obtain ⟨rfl, hws⟩ := hx
      have hI2 := HI.out.read hg hws
      have HI2 := Lib.hid (hI2.setC 1 (.float .f64 y) (x' := x) (y' := y) (z' := 0) (m' := 0) (by simp))
      obtain ⟨c0, c1, c2, c3, c4, f0, f1, f2, f3, f4, cl⟩ := cells5 hI2.cb
      clear hg hws hI2 HI
      have HI := HI2
      clear HI2
      go_wp2_with fail
      obtain ⟨v1, hv1⟩ : ∃ v1, v1 = w3.setCell ⟨w.heap.size + 1, 1, none⟩ (.float .f64 y) := ⟨_, rfl⟩
      rw [← hv1] at HI ⊢
      clear hv1 c0 c1 c2 c3 c4 f0 f1 f2 f3 f4 cl
      refine (parse64_calls HI.out.ws).mono ?_
      rintro e w4 ⟨hg, hx⟩
      cases hu2 : rdU 8 big r2 with
      | none =>
        rw [hu2] at hx
        obtain ⟨hbo, T, xe, rfl⟩ := hx
        have HBO := Lib.hid hbo
        clear hbo
        have ho : o = none := by rw [HO.out]; simp [rdPt, wd, rdN, hu0, hu1, hu2]
        have hcb := HI.out.cb.grown hg (fun e => by have := Option.some.inj e; have := HI.out.lo; omega)
        have hzb := HI.out.zb.grown hg (fun e => by have := Option.some.inj e; have := HI.out.lo; omega)
        have HG := Lib.hid hg
        obtain ⟨c0, c1, c2, c3, c4, f0, f1, f2, f3, f4, cl⟩ := cells5 hcb
        obtain ⟨z0, z1, z2, z3, z4, z5, y0, y1, y2, y3, y4, y5, zl⟩ := cells6 hzb
        have hne : w.heap.size + 1 ≠ w.heap.size := by omega
        clear hg hcb hzb
        go_wp2_with fail
        refine bodyPost_ret (v := .tuple #[.agg #[.float .f64 0, .float .f64 0, .float .f64 0, .float .f64 0, .int .u8 0, .bool false], .iface T xe]) (by simp [results, Tryz.results164, go_sem, z0, z1, z2, z3, z4, z5, zl]) rfl ?_
        refine ⟨.pt 0 false ⟨0, 0, 0, 0⟩, rfl, by rw [MG.In]; exact ⟨by decide, rfl⟩, ?_, ?_⟩
        · have hl := HI.out.lo
          have hg2 := grown_trans HI.out.gr HG.out
          exact st6_grown (far_grown hg2 (Nat.le_succ _) 2 _) (Nat.le_refl _) _ _ _ _ _ _
        · rw [ho]
          have hl := HI.out.lo
          exact ⟨st6_bod (HBO.out.far (i := 2) (Nat.lt_succ_of_lt hl) _) hl _ _ _ _ _ _, T, xe, rfl⟩
      | some q =>
        obtain ⟨z, r3⟩ := q
        rw [hu2] at hx
        obtain ⟨rfl, hws⟩ := hx
        have hI2 := HI.out.read hg hws
        have HI2 := Lib.hid (hI2.setC 2 (.float .f64 z) (x' := x) (y' := y) (z' := z) (m' := 0) (by simp))
        obtain ⟨c0, c1, c2, c3, c4, f0, f1, f2, f3, f4, cl⟩ := cells5 hI2.cb
        clear hg hws hI2 HI
        have HI := HI2
        clear HI2
        have HOE := Lib.hid (show o = if nanB x && nanB y then some (.mk 1 1 [] [], r3) else if nanB x || nanB y then none else some (.mk 1 1 [x, y, z] [], r3) from by
          rw [HO.out]
          simp only [rdPt, wd, rdN, hu0, hu1, hu2]
          rfl)
        go_upto_region 17 with fail
        obtain ⟨vE, hvE⟩ : ∃ vE, vE = w4.setCell ⟨w.heap.size + 1, 2, none⟩ (.float .f64 z) := ⟨_, rfl⟩
        rw [← hvE] at HI ⊢
        clear hvE c0 c1 c2 c3 c4 f0 f1 f2 f3 f4 cl
        obtain ⟨c0, c1, c2, c3, c4, f0, f1, f2, f3, f4, cl⟩ := cells5 HI.out.cb
        obtain ⟨z0, z1, z2, z3, z4, z5, y0, y1, y2, y3, y4, y5, zl⟩ := cells6 HI.out.zb
        have HX := Lib.hid (isNaN_calls x)
        have HY := Lib.hid (isNaN_calls y)
        obtain ⟨bx, hbx⟩ : ∃ bx, bx = nanB x := ⟨_, rfl⟩
        obtain ⟨by', hby⟩ : ∃ by', by' = nanB y := ⟨_, rfl⟩
        rw [← hbx] at HX HOE
        rw [← hby] at HY HOE
        clear hbx hby
        cases bx with
        | true =>
          cases by' with
          | true =>
            have HO3 := Lib.hid (show o = some (.mk 1 1 [] [], r3) from HOE.out)
            go_wp2_with fail
            refine (HX.out _).mono ?_
            rintro e9 w9 ⟨rfl, h9⟩
            obtain rfl := h9.symm
            go_wp2_with fail
            refine (HY.out _).mono ?_
            rintro e9 w9 ⟨rfl, h9⟩
            obtain rfl := h9.symm
            go_wp2_with fail
            refine (ptForce_none (d := 0) (d' := 1) ⟨0, 0, 0, 0⟩ _).mono ?_
            rintro e9 w9 ⟨rfl, hb9⟩
            have HI9 := Lib.hid (HI.out.same hb9)
            clear hb9 c0 c1 c2 c3 c4 f0 f1 f2 f3 f4 cl z0 z1 z2 z3 z4 z5 y0 y1 y2 y3 y4 y5 zl
            obtain ⟨z0, z1, z2, z3, z4, z5, y0, y1, y2, y3, y4, y5, zl⟩ := cells6 HI9.out.zb
            go_wp2_with fail
            refine bodyPost_ret (v := .tuple #[.agg #[.float .f64 0, .float .f64 0, .float .f64 0, .float .f64 0, .int .u8 1, .bool false], .nilIface]) (by simp [results, Tryz.results164, go_sem, z0, z1, z2, z3, z4, z5, zl]) rfl ?_
            obtain ⟨s1, s2⟩ := HI9.out.stored (.float .f64 0) (.float .f64 0) (.float .f64 0) (.float .f64 0) (.int .u8 1) (.bool false)
            refine ⟨.pt 1 false ⟨0, 0, 0, 0⟩, rfl, by rw [MG.In]; exact ⟨by decide, rfl⟩, s1, ?_⟩
            rw [HO3.out]
            exact ⟨rfl, rfl, s2⟩
          | false =>
            have HO3 := Lib.hid (show o = none from HOE.out)
            go_wp2_with fail
            refine (HX.out _).mono ?_
            rintro e9 w9 ⟨rfl, h9⟩
            obtain rfl := h9.symm
            go_wp2_with fail
            refine (HY.out _).mono ?_
            rintro e9 w9 ⟨rfl, h9⟩
            obtain rfl := h9.symm
            go_wp2_with fail
            refine (HX.out _).mono ?_
            rintro e9 w9 ⟨rfl, h9⟩
            obtain rfl := h9.symm
            go_wp2_with fail
            refine bodyPost_ret (v := .tuple #[.agg #[.float .f64 0, .float .f64 0, .float .f64 0, .float .f64 0, .int .u8 0, .bool false], .iface 207 ?_]) (by simp [results, Tryz.results164, go_sem, z0, z1, z2, z3, z4, z5, zl]; rfl) rfl ?_
            exact HI.out.err _ _ _ _ _ _ HO3.out
        | false =>
          cases by' with
          | true =>
            have HO3 := Lib.hid (show o = none from HOE.out)
            go_wp2_with fail
            refine (HX.out _).mono ?_
            rintro e9 w9 ⟨rfl, h9⟩
            obtain rfl := h9.symm
            go_wp2_with fail
            refine (HX.out _).mono ?_
            rintro e9 w9 ⟨rfl, h9⟩
            obtain rfl := h9.symm
            go_wp2_with fail
            refine (HY.out _).mono ?_
            rintro e9 w9 ⟨rfl, h9⟩
            obtain rfl := h9.symm
            go_wp2_with fail
            refine bodyPost_ret (v := .tuple #[.agg #[.float .f64 0, .float .f64 0, .float .f64 0, .float .f64 0, .int .u8 0, .bool false], .iface 207 ?_]) (by simp [results, Tryz.results164, go_sem, z0, z1, z2, z3, z4, z5, zl]; rfl) rfl ?_
            exact HI.out.err _ _ _ _ _ _ HO3.out
          | false =>
            have HO3 := Lib.hid (show o = some (.mk 1 1 [x, y, z] [], r3) from HOE.out)
            go_wp2_with fail
            refine (HX.out _).mono ?_
            rintro e9 w9 ⟨rfl, h9⟩
            obtain rfl := h9.symm
            go_wp2_with fail
            refine (HX.out _).mono ?_
            rintro e9 w9 ⟨rfl, h9⟩
            obtain rfl := h9.symm
            go_wp2_with fail
            refine (HY.out _).mono ?_
            rintro e9 w9 ⟨rfl, h9⟩
            obtain rfl := h9.symm
            go_wp2_with fail
            refine (newPoint_calls x y z 0 1 _).mono ?_
            rintro e9 w9 ⟨rfl, hb9⟩
            have HI9 := Lib.hid (HI.out.same hb9)
            clear hb9 c0 c1 c2 c3 c4 f0 f1 f2 f3 f4 cl z0 z1 z2 z3 z4 z5 y0 y1 y2 y3 y4 y5 zl
            obtain ⟨z0, z1, z2, z3, z4, z5, y0, y1, y2, y3, y4, y5, zl⟩ := cells6 HI9.out.zb
            go_wp2_with fail
            refine bodyPost_ret (v := .tuple #[.agg #[.float .f64 x, .float .f64 y, .float .f64 z, .float .f64 0, .int .u8 1, .bool true], .nilIface]) (by simp [results, Tryz.results164, go_sem, z0, z1, z2, z3, z4, z5, zl]) rfl ?_
            obtain ⟨s1, s2⟩ := HI9.out.stored (.float .f64 x) (.float .f64 y) (.float .f64 z) (.float .f64 0) (.int .u8 1) (.bool true)
            refine ⟨.pt 1 true ⟨x, y, z, 0⟩, rfl, by rw [MG.In]; exact ⟨by decide, rfl⟩, s1, ?_⟩
            rw [HO3.out]
            exact ⟨rfl, rfl, s2⟩
set_option maxHeartbeats 8000000 in
set_option maxRecDepth 100000 in
theorem parsePt2 {S : Nat → Prop} {w : World} {P : Nat} {big : Bool} {l : List Nat} (h : WPs S w P big l) :
    Calls Tryz.prog 164 #[.pointer (some ⟨P, 0, none⟩), .int .u8 2] w (PKPost S w P big 1 (rdPt 2 big l)) := by
  obtain ⟨w1, hw1⟩ : ∃ w1, w1 = (w.alloc (.cells #[.float .f64 0, .float .f64 0, .float .f64 0, .float .f64 0, .int .u8 0, .bool false] 77)).alloc (.cells #[.float .f64 0, .float .f64 0, .float .f64 0, .float .f64 0, .int .u8 2] 75) := ⟨_, rfl⟩
  have hI : PtI S w P big l 0 0 0 0 2 w1 := by
    have hb : Below w.heap.size w w1 := by rw [hw1]; exact ((Below.refl _ _).alloc (Nat.le_refl _) _).alloc (by simp) _
    refine ⟨h.below hb, ?_, by rw [hw1]; exact (Blk.new _ _ _).alloc _, grown_below hb, h.lt⟩
    rw [hw1]
    have := Blk.new (w.alloc (.cells #[.float .f64 0, .float .f64 0, .float .f64 0, .float .f64 0, .int .u8 0, .bool false] 77)) 75 #[.float .f64 0, .float .f64 0, .float .f64 0, .float .f64 0, .int .u8 2]
    simpa using this
  have HW1 := Lib.hid hw1
  have HI := Lib.hid hI
  obtain ⟨o, ho⟩ : ∃ o, o = rdPt 2 big l := ⟨_, rfl⟩
  rw [← ho]
  have HO := Lib.hid ho
  clear hw1 hI h ho
  have r0 : l = l := rfl
  clear r0
  go_enter Tryz.func164, Tryz.ntmps164
  go_wp2_with fail
  rw [← HW1.out]
  refine (parse64_calls HI.out.ws).mono ?_
  rintro e w2 ⟨hg, hx⟩
  cases hu0 : rdU 8 big l with
  | none =>
    rw [hu0] at hx
    obtain ⟨hbo, T, xe, rfl⟩ := hx
    have HBO := Lib.hid hbo
    clear hbo
    have ho : o = none := by rw [HO.out]; simp [rdPt, wd, rdN, hu0]
    have hcb := HI.out.cb.grown hg (fun e => by have := Option.some.inj e; have := HI.out.lo; omega)
    have hzb := HI.out.zb.grown hg (fun e => by have := Option.some.inj e; have := HI.out.lo; omega)
    have HG := Lib.hid hg
    obtain ⟨c0, c1, c2, c3, c4, f0, f1, f2, f3, f4, cl⟩ := cells5 hcb
    obtain ⟨z0, z1, z2, z3, z4, z5, y0, y1, y2, y3, y4, y5, zl⟩ := cells6 hzb
    have hne : w.heap.size + 1 ≠ w.heap.size := by omega
    clear hg hcb hzb
    go_wp2_with fail
    refine bodyPost_ret (v := .tuple #[.agg #[.float .f64 0, .float .f64 0, .float .f64 0, .float .f64 0, .int .u8 0, .bool false], .iface T xe]) (by simp [results, Tryz.results164, go_sem, z0, z1, z2, z3, z4, z5, zl]) rfl ?_
    refine ⟨.pt 0 false ⟨0, 0, 0, 0⟩, rfl, by rw [MG.In]; exact ⟨by decide, rfl⟩, ?_, ?_⟩
    · have hl := HI.out.lo
      have hg2 := grown_trans HI.out.gr HG.out
      exact st6_grown (far_grown hg2 (Nat.le_succ _) 0 _) (Nat.le_refl _) _ _ _ _ _ _
    · rw [ho]
      have hl := HI.out.lo
      exact ⟨st6_bod (HBO.out.far (i := 0) (Nat.lt_succ_of_lt hl) _) hl _ _ _ _ _ _, T, xe, rfl⟩
  | some q =>
    obtain ⟨x, r1⟩ := q
    rw [hu0] at hx
    obtain ⟨rfl, hws⟩ := hx
    have hI2 := HI.out.read hg hws
    have HI2 := Lib.hid (hI2.setC 0 (.float .f64 x) (x' := x) (y' := 0) (z' := 0) (m' := 0) (by simp))
    obtain ⟨c0, c1, c2, c3, c4, f0, f1, f2, f3, f4, cl⟩ := cells5 hI2.cb
    clear hg hws hI2 HI
    have HI := HI2
    clear HI2
    go_wp2_with fail
    obtain ⟨v0, hv0⟩ : ∃ v0, v0 = w2.setCell ⟨w.heap.size + 1, 0, none⟩ (.float .f64 x) := ⟨_, rfl⟩
    rw [← hv0] at HI ⊢
    clear hv0 c0 c1 c2 c3 c4 f0 f1 f2 f3 f4 cl
    refine (parse64_calls HI.out.ws).mono ?_
    rintro e w3 ⟨hg, hx⟩
    cases hu1 : rdU 8 big r1 with
    | none =>
      rw [hu1] at hx
      obtain ⟨hbo, T, xe, rfl⟩ := hx
      have HBO := Lib.hid hbo
      clear hbo
      have ho : o = none := by rw [HO.out]; simp [rdPt, wd, rdN, hu0, hu1]
      have hcb := HI.out.cb.grown hg (fun e => by have := Option.some.inj e; have := HI.out.lo; omega)
      have hzb := HI.out.zb.grown hg (fun e => by have := Option.some.inj e; have := HI.out.lo; omega)
      have HG := Lib.hid hg
      obtain ⟨c0, c1, c2, c3, c4, f0, f1, f2, f3, f4, cl⟩ := cells5 hcb
      obtain ⟨z0, z1, z2, z3, z4, z5, y0, y1, y2, y3, y4, y5, zl⟩ := cells6 hzb
      have hne : w.heap.size + 1 ≠ w.heap.size := by omega
      clear hg hcb hzb
      go_wp2_with fail
      refine bodyPost_ret (v := .tuple #[.agg #[.float .f64 0, .float .f64 0, .float .f64 0, .float .f64 0, .int .u8 0, .bool false], .iface T xe]) (by simp [results, Tryz.results164, go_sem, z0, z1, z2, z3, z4, z5, zl]) rfl ?_
      refine ⟨.pt 0 false ⟨0, 0, 0, 0⟩, rfl, by rw [MG.In]; exact ⟨by decide, rfl⟩, ?_, ?_⟩
      · have hl := HI.out.lo
        have hg2 := grown_trans HI.out.gr HG.out
        exact st6_grown (far_grown hg2 (Nat.le_succ _) 1 _) (Nat.le_refl _) _ _ _ _ _ _
      · rw [ho]
        have hl := HI.out.lo
        exact ⟨st6_bod (HBO.out.far (i := 1) (Nat.lt_succ_of_lt hl) _) hl _ _ _ _ _ _, T, xe, rfl⟩
    | some q =>
      obtain ⟨y, r2⟩ := q
      rw [hu1] at hx
      obtain ⟨rfl, hws⟩ := hx
      have hI2 := HI.out.read hg hws
      have HI2 := Lib.hid (hI2.setC 1 (.float .f64 y) (x' := x) (y' := y) (z' := 0) (m' := 0) (by simp))
      obtain ⟨c0, c1, c2, c3, c4, f0, f1, f2, f3, f4, cl⟩ := cells5 hI2.cb
      clear hg hws hI2 HI
      have HI := HI2
      clear HI2
      go_wp2_with fail
      obtain ⟨v1, hv1⟩ : ∃ v1, v1 = w3.setCell ⟨w.heap.size + 1, 1, none⟩ (.float .f64 y) := ⟨_, rfl⟩
      rw [← hv1] at HI ⊢
      clear hv1 c0 c1 c2 c3 c4 f0 f1 f2 f3 f4 cl
      refine (parse64_calls HI.out.ws).mono ?_
      rintro e w4 ⟨hg, hx⟩
      cases hu2 : rdU 8 big r2 with
      | none =>
        rw [hu2] at hx
        obtain ⟨hbo, T, xe, rfl⟩ := hx
        have HBO := Lib.hid hbo
        clear hbo
        have ho : o = none := by rw [HO.out]; simp [rdPt, wd, rdN, hu0, hu1, hu2]
        have hcb := HI.out.cb.grown hg (fun e => by have := Option.some.inj e; have := HI.out.lo; omega)
        have hzb := HI.out.zb.grown hg (fun e => by have := Option.some.inj e; have := HI.out.lo; omega)
        have HG := Lib.hid hg
        obtain ⟨c0, c1, c2, c3, c4, f0, f1, f2, f3, f4, cl⟩ := cells5 hcb
        obtain ⟨z0, z1, z2, z3, z4, z5, y0, y1, y2, y3, y4, y5, zl⟩ := cells6 hzb
        have hne : w.heap.size + 1 ≠ w.heap.size := by omega
        clear hg hcb hzb
        go_wp2_with fail
        refine bodyPost_ret (v := .tuple #[.agg #[.float .f64 0, .float .f64 0, .float .f64 0, .float .f64 0, .int .u8 0, .bool false], .iface T xe]) (by simp [results, Tryz.results164, go_sem, z0, z1, z2, z3, z4, z5, zl]) rfl ?_
        refine ⟨.pt 0 false ⟨0, 0, 0, 0⟩, rfl, by rw [MG.In]; exact ⟨by decide, rfl⟩, ?_, ?_⟩
        · have hl := HI.out.lo
          have hg2 := grown_trans HI.out.gr HG.out
          exact st6_grown (far_grown hg2 (Nat.le_succ _) 3 _) (Nat.le_refl _) _ _ _ _ _ _
        · rw [ho]
          have hl := HI.out.lo
          exact ⟨st6_bod (HBO.out.far (i := 3) (Nat.lt_succ_of_lt hl) _) hl _ _ _ _ _ _, T, xe, rfl⟩
      | some q =>
        obtain ⟨m, r3⟩ := q
        rw [hu2] at hx
        obtain ⟨rfl, hws⟩ := hx
        have hI2 := HI.out.read hg hws
        have HI2 := Lib.hid (hI2.setC 3 (.float .f64 m) (x' := x) (y' := y) (z' := 0) (m' := m) (by simp))
        obtain ⟨c0, c1, c2, c3, c4, f0, f1, f2, f3, f4, cl⟩ := cells5 hI2.cb
        clear hg hws hI2 HI
        have HI := HI2
        clear HI2
        have HOE := Lib.hid (show o = if nanB x && nanB y then some (.mk 1 2 [] [], r3) else if nanB x || nanB y then none else some (.mk 1 2 [x, y, m] [], r3) from by
          rw [HO.out]
          simp only [rdPt, wd, rdN, hu0, hu1, hu2]
          rfl)
        go_upto_region 17 with fail
        obtain ⟨vE, hvE⟩ : ∃ vE, vE = w4.setCell ⟨w.heap.size + 1, 3, none⟩ (.float .f64 m) := ⟨_, rfl⟩
        rw [← hvE] at HI ⊢
        clear hvE c0 c1 c2 c3 c4 f0 f1 f2 f3 f4 cl
        obtain ⟨c0, c1, c2, c3, c4, f0, f1, f2, f3, f4, cl⟩ := cells5 HI.out.cb
        obtain ⟨z0, z1, z2, z3, z4, z5, y0, y1, y2, y3, y4, y5, zl⟩ := cells6 HI.out.zb
        have HX := Lib.hid (isNaN_calls x)
        have HY := Lib.hid (isNaN_calls y)
        obtain ⟨bx, hbx⟩ : ∃ bx, bx = nanB x := ⟨_, rfl⟩
        obtain ⟨by', hby⟩ : ∃ by', by' = nanB y := ⟨_, rfl⟩
        rw [← hbx] at HX HOE
        rw [← hby] at HY HOE
        clear hbx hby
        cases bx with
        | true =>
          cases by' with
          | true =>
            have HO3 := Lib.hid (show o = some (.mk 1 2 [] [], r3) from HOE.out)
            go_wp2_with fail
            refine (HX.out _).mono ?_
            rintro e9 w9 ⟨rfl, h9⟩
            obtain rfl := h9.symm
            go_wp2_with fail
            refine (HY.out _).mono ?_
            rintro e9 w9 ⟨rfl, h9⟩
            obtain rfl := h9.symm
            go_wp2_with fail
            refine (ptForce_none (d := 0) (d' := 2) ⟨0, 0, 0, 0⟩ _).mono ?_
            rintro e9 w9 ⟨rfl, hb9⟩
            have HI9 := Lib.hid (HI.out.same hb9)
            clear hb9 c0 c1 c2 c3 c4 f0 f1 f2 f3 f4 cl z0 z1 z2 z3 z4 z5 y0 y1 y2 y3 y4 y5 zl
            obtain ⟨z0, z1, z2, z3, z4, z5, y0, y1, y2, y3, y4, y5, zl⟩ := cells6 HI9.out.zb
            go_wp2_with fail
            refine bodyPost_ret (v := .tuple #[.agg #[.float .f64 0, .float .f64 0, .float .f64 0, .float .f64 0, .int .u8 2, .bool false], .nilIface]) (by simp [results, Tryz.results164, go_sem, z0, z1, z2, z3, z4, z5, zl]) rfl ?_
            obtain ⟨s1, s2⟩ := HI9.out.stored (.float .f64 0) (.float .f64 0) (.float .f64 0) (.float .f64 0) (.int .u8 2) (.bool false)
            refine ⟨.pt 2 false ⟨0, 0, 0, 0⟩, rfl, by rw [MG.In]; exact ⟨by decide, rfl⟩, s1, ?_⟩
            rw [HO3.out]
            exact ⟨rfl, rfl, s2⟩
          | false =>
            have HO3 := Lib.hid (show o = none from HOE.out)
            go_wp2_with fail
            refine (HX.out _).mono ?_
            rintro e9 w9 ⟨rfl, h9⟩
            obtain rfl := h9.symm
            go_wp2_with fail
            refine (HY.out _).mono ?_
            rintro e9 w9 ⟨rfl, h9⟩
            obtain rfl := h9.symm
            go_wp2_with fail
            refine (HX.out _).mono ?_
            rintro e9 w9 ⟨rfl, h9⟩
            obtain rfl := h9.symm
            go_wp2_with fail
            refine bodyPost_ret (v := .tuple #[.agg #[.float .f64 0, .float .f64 0, .float .f64 0, .float .f64 0, .int .u8 0, .bool false], .iface 207 ?_]) (by simp [results, Tryz.results164, go_sem, z0, z1, z2, z3, z4, z5, zl]; rfl) rfl ?_
            exact HI.out.err _ _ _ _ _ _ HO3.out
        | false =>
          cases by' with
          | true =>
            have HO3 := Lib.hid (show o = none from HOE.out)
            go_wp2_with fail
            refine (HX.out _).mono ?_
            rintro e9 w9 ⟨rfl, h9⟩
            obtain rfl := h9.symm
            go_wp2_with fail
            refine (HX.out _).mono ?_
            rintro e9 w9 ⟨rfl, h9⟩
            obtain rfl := h9.symm
            go_wp2_with fail
            refine (HY.out _).mono ?_
            rintro e9 w9 ⟨rfl, h9⟩
            obtain rfl := h9.symm
            go_wp2_with fail
            refine bodyPost_ret (v := .tuple #[.agg #[.float .f64 0, .float .f64 0, .float .f64 0, .float .f64 0, .int .u8 0, .bool false], .iface 207 ?_]) (by simp [results, Tryz.results164, go_sem, z0, z1, z2, z3, z4, z5, zl]; rfl) rfl ?_
            exact HI.out.err _ _ _ _ _ _ HO3.out
          | false =>
            have HO3 := Lib.hid (show o = some (.mk 1 2 [x, y, m] [], r3) from HOE.out)
            go_wp2_with fail
            refine (HX.out _).mono ?_
            rintro e9 w9 ⟨rfl, h9⟩
            obtain rfl := h9.symm
            go_wp2_with fail
            refine (HX.out _).mono ?_
            rintro e9 w9 ⟨rfl, h9⟩
            obtain rfl := h9.symm
            go_wp2_with fail
            refine (HY.out _).mono ?_
            rintro e9 w9 ⟨rfl, h9⟩
            obtain rfl := h9.symm
            go_wp2_with fail
            refine (newPoint_calls x y 0 m 2 _).mono ?_
            rintro e9 w9 ⟨rfl, hb9⟩
            have HI9 := Lib.hid (HI.out.same hb9)
            clear hb9 c0 c1 c2 c3 c4 f0 f1 f2 f3 f4 cl z0 z1 z2 z3 z4 z5 y0 y1 y2 y3 y4 y5 zl
            obtain ⟨z0, z1, z2, z3, z4, z5, y0, y1, y2, y3, y4, y5, zl⟩ := cells6 HI9.out.zb
            go_wp2_with fail
            refine bodyPost_ret (v := .tuple #[.agg #[.float .f64 x, .float .f64 y, .float .f64 0, .float .f64 m, .int .u8 2, .bool true], .nilIface]) (by simp [results, Tryz.results164, go_sem, z0, z1, z2, z3, z4, z5, zl]) rfl ?_
            obtain ⟨s1, s2⟩ := HI9.out.stored (.float .f64 x) (.float .f64 y) (.float .f64 0) (.float .f64 m) (.int .u8 2) (.bool true)
            refine ⟨.pt 2 true ⟨x, y, 0, m⟩, rfl, by rw [MG.In]; exact ⟨by decide, rfl⟩, s1, ?_⟩
            rw [HO3.out]
            exact ⟨rfl, rfl, s2⟩
set_option maxHeartbeats 8000000 in
set_option maxRecDepth 100000 in
theorem parsePt3 {S : Nat → Prop} {w : World} {P : Nat} {big : Bool} {l : List Nat} (h : WPs S w P big l) :
    Calls Tryz.prog 164 #[.pointer (some ⟨P, 0, none⟩), .int .u8 3] w (PKPost S w P big 1 (rdPt 3 big l)) := by
  obtain ⟨w1, hw1⟩ : ∃ w1, w1 = (w.alloc (.cells #[.float .f64 0, .float .f64 0, .float .f64 0, .float .f64 0, .int .u8 0, .bool false] 77)).alloc (.cells #[.float .f64 0, .float .f64 0, .float .f64 0, .float .f64 0, .int .u8 3] 75) := ⟨_, rfl⟩
  have hI : PtI S w P big l 0 0 0 0 3 w1 := by
    have hb : Below w.heap.size w w1 := by rw [hw1]; exact ((Below.refl _ _).alloc (Nat.le_refl _) _).alloc (by simp) _
    refine ⟨h.below hb, ?_, by rw [hw1]; exact (Blk.new _ _ _).alloc _, grown_below hb, h.lt⟩
    rw [hw1]
    have := Blk.new (w.alloc (.cells #[.float .f64 0, .float .f64 0, .float .f64 0, .float .f64 0, .int .u8 0, .bool false] 77)) 75 #[.float .f64 0, .float .f64 0, .float .f64 0, .float .f64 0, .int .u8 3]
    simpa using this
  have HW1 := Lib.hid hw1
  have HI := Lib.hid hI
  obtain ⟨o, ho⟩ : ∃ o, o = rdPt 3 big l := ⟨_, rfl⟩
  rw [← ho]
  have HO := Lib.hid ho
  clear hw1 hI h ho
  have r0 : l = l := rfl
  clear r0
  go_enter Tryz.func164, Tryz.ntmps164
  go_wp2_with fail
  rw [← HW1.out]
  refine (parse64_calls HI.out.ws).mono ?_
  rintro e w2 ⟨hg, hx⟩
  cases hu0 : rdU 8 big l with
  | none =>
    rw [hu0] at hx
    obtain ⟨hbo, T, xe, rfl⟩ := hx
    have HBO := Lib.hid hbo
    clear hbo
    have ho : o = none := by rw [HO.out]; simp [rdPt, wd, rdN, hu0]
    have hcb := HI.out.cb.grown hg (fun e => by have := Option.some.inj e; have := HI.out.lo; omega)
    have hzb := HI.out.zb.grown hg (fun e => by have := Option.some.inj e; have := HI.out.lo; omega)
    have HG := Lib.hid hg
    obtain ⟨c0, c1, c2, c3, c4, f0, f1, f2, f3, f4, cl⟩ := cells5 hcb
    obtain ⟨z0, z1, z2, z3, z4, z5, y0, y1, y2, y3, y4, y5, zl⟩ := cells6 hzb
    have hne : w.heap.size + 1 ≠ w.heap.size := by omega
    clear hg hcb hzb
    go_wp2_with fail
    refine bodyPost_ret (v := .tuple #[.agg #[.float .f64 0, .float .f64 0, .float .f64 0, .float .f64 0, .int .u8 0, .bool false], .iface T xe]) (by simp [results, Tryz.results164, go_sem, z0, z1, z2, z3, z4, z5, zl]) rfl ?_
    refine ⟨.pt 0 false ⟨0, 0, 0, 0⟩, rfl, by rw [MG.In]; exact ⟨by decide, rfl⟩, ?_, ?_⟩
    · have hl := HI.out.lo
      have hg2 := grown_trans HI.out.gr HG.out
      exact st6_grown (far_grown hg2 (Nat.le_succ _) 0 _) (Nat.le_refl _) _ _ _ _ _ _
    · rw [ho]
      have hl := HI.out.lo
      exact ⟨st6_bod (HBO.out.far (i := 0) (Nat.lt_succ_of_lt hl) _) hl _ _ _ _ _ _, T, xe, rfl⟩
  | some q =>
    obtain ⟨x, r1⟩ := q
    rw [hu0] at hx
    obtain ⟨rfl, hws⟩ := hx
    have hI2 := HI.out.read hg hws
    have HI2 := Lib.hid (hI2.setC 0 (.float .f64 x) (x' := x) (y' := 0) (z' := 0) (m' := 0) (by simp))
    obtain ⟨c0, c1, c2, c3, c4, f0, f1, f2, f3, f4, cl⟩ := cells5 hI2.cb
    clear hg hws hI2 HI
    have HI := HI2
    clear HI2
    go_wp2_with fail
    obtain ⟨v0, hv0⟩ : ∃ v0, v0 = w2.setCell ⟨w.heap.size + 1, 0, none⟩ (.float .f64 x) := ⟨_, rfl⟩
    rw [← hv0] at HI ⊢
    clear hv0 c0 c1 c2 c3 c4 f0 f1 f2 f3 f4 cl
    refine (parse64_calls HI.out.ws).mono ?_
    rintro e w3 ⟨hg, hx⟩
    cases hu1 : rdU 8 big r1 with
    | none =>
      rw [hu1] at hx
      obtain ⟨hbo, T, xe, rfl⟩ := hx
      have HBO := Lib.hid hbo
      clear hbo
      have ho : o = none := by rw [HO.out]; simp [rdPt, wd, rdN, hu0, hu1]
      have hcb := HI.out.cb.grown hg (fun e => by have := Option.some.inj e; have := HI.out.lo; omega)
      have hzb := HI.out.zb.grown hg (fun e => by have := Option.some.inj e; have := HI.out.lo; omega)
      have HG := Lib.hid hg
      obtain ⟨c0, c1, c2, c3, c4, f0, f1, f2, f3, f4, cl⟩ := cells5 hcb
      obtain ⟨z0, z1, z2, z3, z4, z5, y0, y1, y2, y3, y4, y5, zl⟩ := cells6 hzb
      have hne : w.heap.size + 1 ≠ w.heap.size := by omega
      clear hg hcb hzb
      go_wp2_with fail
      refine bodyPost_ret (v := .tuple #[.agg #[.float .f64 0, .float .f64 0, .float .f64 0, .float .f64 0, .int .u8 0, .bool false], .iface T xe]) (by simp [results, Tryz.results164, go_sem, z0, z1, z2, z3, z4, z5, zl]) rfl ?_
      refine ⟨.pt 0 false ⟨0, 0, 0, 0⟩, rfl, by rw [MG.In]; exact ⟨by decide, rfl⟩, ?_, ?_⟩
      · have hl := HI.out.lo
        have hg2 := grown_trans HI.out.gr HG.out
        exact st6_grown (far_grown hg2 (Nat.le_succ _) 1 _) (Nat.le_refl _) _ _ _ _ _ _
      · rw [ho]
        have hl := HI.out.lo
        exact ⟨st6_bod (HBO.out.far (i := 1) (Nat.lt_succ_of_lt hl) _) hl _ _ _ _ _ _, T, xe, rfl⟩
    | some q =>
      obtain ⟨y, r2⟩ := q
      rw [hu1] at hx
      obtain ⟨rfl, hws⟩ := hx
      have hI2 := HI.out.read hg hws
      have HI2 := Lib.hid (hI2.setC 1 (.float .f64 y) (x' := x) (y' := y) (z' := 0) (m' := 0) (by simp))
      obtain ⟨c0, c1, c2, c3, c4, f0, f1, f2, f3, f4, cl⟩ := cells5 hI2.cb
      clear hg hws hI2 HI
      have HI := HI2
      clear HI2
      go_wp2_with fail
      obtain ⟨v1, hv1⟩ : ∃ v1, v1 = w3.setCell ⟨w.heap.size + 1, 1, none⟩ (.float .f64 y) := ⟨_, rfl⟩
      rw [← hv1] at HI ⊢
      clear hv1 c0 c1 c2 c3 c4 f0 f1 f2 f3 f4 cl
      refine (parse64_calls HI.out.ws).mono ?_
      rintro e w4 ⟨hg, hx⟩
      cases hu2 : rdU 8 big r2 with
      | none =>
        rw [hu2] at hx
        obtain ⟨hbo, T, xe, rfl⟩ := hx
        have HBO := Lib.hid hbo
        clear hbo
        have ho : o = none := by rw [HO.out]; simp [rdPt, wd, rdN, hu0, hu1, hu2]
        have hcb := HI.out.cb.grown hg (fun e => by have := Option.some.inj e; have := HI.out.lo; omega)
        have hzb := HI.out.zb.grown hg (fun e => by have := Option.some.inj e; have := HI.out.lo; omega)
        have HG := Lib.hid hg
        obtain ⟨c0, c1, c2, c3, c4, f0, f1, f2, f3, f4, cl⟩ := cells5 hcb
        obtain ⟨z0, z1, z2, z3, z4, z5, y0, y1, y2, y3, y4, y5, zl⟩ := cells6 hzb
        have hne : w.heap.size + 1 ≠ w.heap.size := by omega
        clear hg hcb hzb
        go_wp2_with fail
        refine bodyPost_ret (v := .tuple #[.agg #[.float .f64 0, .float .f64 0, .float .f64 0, .float .f64 0, .int .u8 0, .bool false], .iface T xe]) (by simp [results, Tryz.results164, go_sem, z0, z1, z2, z3, z4, z5, zl]) rfl ?_
        refine ⟨.pt 0 false ⟨0, 0, 0, 0⟩, rfl, by rw [MG.In]; exact ⟨by decide, rfl⟩, ?_, ?_⟩
        · have hl := HI.out.lo
          have hg2 := grown_trans HI.out.gr HG.out
          exact st6_grown (far_grown hg2 (Nat.le_succ _) 2 _) (Nat.le_refl _) _ _ _ _ _ _
        · rw [ho]
          have hl := HI.out.lo
          exact ⟨st6_bod (HBO.out.far (i := 2) (Nat.lt_succ_of_lt hl) _) hl _ _ _ _ _ _, T, xe, rfl⟩
      | some q =>
        obtain ⟨z, r3⟩ := q
        rw [hu2] at hx
        obtain ⟨rfl, hws⟩ := hx
        have hI2 := HI.out.read hg hws
        have HI2 := Lib.hid (hI2.setC 2 (.float .f64 z) (x' := x) (y' := y) (z' := z) (m' := 0) (by simp))
        obtain ⟨c0, c1, c2, c3, c4, f0, f1, f2, f3, f4, cl⟩ := cells5 hI2.cb
        clear hg hws hI2 HI
        have HI := HI2
        clear HI2
        go_wp2_with fail
        obtain ⟨v2, hv2⟩ : ∃ v2, v2 = w4.setCell ⟨w.heap.size + 1, 2, none⟩ (.float .f64 z) := ⟨_, rfl⟩
        rw [← hv2] at HI ⊢
        clear hv2 c0 c1 c2 c3 c4 f0 f1 f2 f3 f4 cl
        refine (parse64_calls HI.out.ws).mono ?_
        rintro e w5 ⟨hg, hx⟩
        cases hu3 : rdU 8 big r3 with
        | none =>
          rw [hu3] at hx
          obtain ⟨hbo, T, xe, rfl⟩ := hx
          have HBO := Lib.hid hbo
          clear hbo
          have ho : o = none := by rw [HO.out]; simp [rdPt, wd, rdN, hu0, hu1, hu2, hu3]
          have hcb := HI.out.cb.grown hg (fun e => by have := Option.some.inj e; have := HI.out.lo; omega)
          have hzb := HI.out.zb.grown hg (fun e => by have := Option.some.inj e; have := HI.out.lo; omega)
          have HG := Lib.hid hg
          obtain ⟨c0, c1, c2, c3, c4, f0, f1, f2, f3, f4, cl⟩ := cells5 hcb
          obtain ⟨z0, z1, z2, z3, z4, z5, y0, y1, y2, y3, y4, y5, zl⟩ := cells6 hzb
          have hne : w.heap.size + 1 ≠ w.heap.size := by omega
          clear hg hcb hzb
          go_wp2_with fail
          refine bodyPost_ret (v := .tuple #[.agg #[.float .f64 0, .float .f64 0, .float .f64 0, .float .f64 0, .int .u8 0, .bool false], .iface T xe]) (by simp [results, Tryz.results164, go_sem, z0, z1, z2, z3, z4, z5, zl]) rfl ?_
          refine ⟨.pt 0 false ⟨0, 0, 0, 0⟩, rfl, by rw [MG.In]; exact ⟨by decide, rfl⟩, ?_, ?_⟩
          · have hl := HI.out.lo
            have hg2 := grown_trans HI.out.gr HG.out
            exact st6_grown (far_grown hg2 (Nat.le_succ _) 3 _) (Nat.le_refl _) _ _ _ _ _ _
          · rw [ho]
            have hl := HI.out.lo
            exact ⟨st6_bod (HBO.out.far (i := 3) (Nat.lt_succ_of_lt hl) _) hl _ _ _ _ _ _, T, xe, rfl⟩
        | some q =>
          obtain ⟨m, r4⟩ := q
          rw [hu3] at hx
          obtain ⟨rfl, hws⟩ := hx
          have hI2 := HI.out.read hg hws
          have HI2 := Lib.hid (hI2.setC 3 (.float .f64 m) (x' := x) (y' := y) (z' := z) (m' := m) (by simp))
          obtain ⟨c0, c1, c2, c3, c4, f0, f1, f2, f3, f4, cl⟩ := cells5 hI2.cb
          clear hg hws hI2 HI
          have HI := HI2
          clear HI2
          have HOE := Lib.hid (show o = if nanB x && nanB y then some (.mk 1 3 [] [], r4) else if nanB x || nanB y then none else some (.mk 1 3 [x, y, z, m] [], r4) from by
            rw [HO.out]
            simp only [rdPt, wd, rdN, hu0, hu1, hu2, hu3]
            rfl)
          go_upto_region 17 with fail
          obtain ⟨vE, hvE⟩ : ∃ vE, vE = w5.setCell ⟨w.heap.size + 1, 3, none⟩ (.float .f64 m) := ⟨_, rfl⟩
          rw [← hvE] at HI ⊢
          clear hvE c0 c1 c2 c3 c4 f0 f1 f2 f3 f4 cl
          obtain ⟨c0, c1, c2, c3, c4, f0, f1, f2, f3, f4, cl⟩ := cells5 HI.out.cb
          obtain ⟨z0, z1, z2, z3, z4, z5, y0, y1, y2, y3, y4, y5, zl⟩ := cells6 HI.out.zb
          have HX := Lib.hid (isNaN_calls x)
          have HY := Lib.hid (isNaN_calls y)
          obtain ⟨bx, hbx⟩ : ∃ bx, bx = nanB x := ⟨_, rfl⟩
          obtain ⟨by', hby⟩ : ∃ by', by' = nanB y := ⟨_, rfl⟩
          rw [← hbx] at HX HOE
          rw [← hby] at HY HOE
          clear hbx hby
          cases bx with
          | true =>
            cases by' with
            | true =>
              have HO3 := Lib.hid (show o = some (.mk 1 3 [] [], r4) from HOE.out)
              go_wp2_with fail
              refine (HX.out _).mono ?_
              rintro e9 w9 ⟨rfl, h9⟩
              obtain rfl := h9.symm
              go_wp2_with fail
              refine (HY.out _).mono ?_
              rintro e9 w9 ⟨rfl, h9⟩
              obtain rfl := h9.symm
              go_wp2_with fail
              refine (ptForce_none (d := 0) (d' := 3) ⟨0, 0, 0, 0⟩ _).mono ?_
              rintro e9 w9 ⟨rfl, hb9⟩
              have HI9 := Lib.hid (HI.out.same hb9)
              clear hb9 c0 c1 c2 c3 c4 f0 f1 f2 f3 f4 cl z0 z1 z2 z3 z4 z5 y0 y1 y2 y3 y4 y5 zl
              obtain ⟨z0, z1, z2, z3, z4, z5, y0, y1, y2, y3, y4, y5, zl⟩ := cells6 HI9.out.zb
              go_wp2_with fail
              refine bodyPost_ret (v := .tuple #[.agg #[.float .f64 0, .float .f64 0, .float .f64 0, .float .f64 0, .int .u8 3, .bool false], .nilIface]) (by simp [results, Tryz.results164, go_sem, z0, z1, z2, z3, z4, z5, zl]) rfl ?_
              obtain ⟨s1, s2⟩ := HI9.out.stored (.float .f64 0) (.float .f64 0) (.float .f64 0) (.float .f64 0) (.int .u8 3) (.bool false)
              refine ⟨.pt 3 false ⟨0, 0, 0, 0⟩, rfl, by rw [MG.In]; exact ⟨by decide, rfl⟩, s1, ?_⟩
              rw [HO3.out]
              exact ⟨rfl, rfl, s2⟩
            | false =>
              have HO3 := Lib.hid (show o = none from HOE.out)
              go_wp2_with fail
              refine (HX.out _).mono ?_
              rintro e9 w9 ⟨rfl, h9⟩
              obtain rfl := h9.symm
              go_wp2_with fail
              refine (HY.out _).mono ?_
              rintro e9 w9 ⟨rfl, h9⟩
              obtain rfl := h9.symm
              go_wp2_with fail
              refine (HX.out _).mono ?_
              rintro e9 w9 ⟨rfl, h9⟩
              obtain rfl := h9.symm
              go_wp2_with fail
              refine bodyPost_ret (v := .tuple #[.agg #[.float .f64 0, .float .f64 0, .float .f64 0, .float .f64 0, .int .u8 0, .bool false], .iface 207 ?_]) (by simp [results, Tryz.results164, go_sem, z0, z1, z2, z3, z4, z5, zl]; rfl) rfl ?_
              exact HI.out.err _ _ _ _ _ _ HO3.out
          | false =>
            cases by' with
            | true =>
              have HO3 := Lib.hid (show o = none from HOE.out)
              go_wp2_with fail
              refine (HX.out _).mono ?_
              rintro e9 w9 ⟨rfl, h9⟩
              obtain rfl := h9.symm
              go_wp2_with fail
              refine (HX.out _).mono ?_
              rintro e9 w9 ⟨rfl, h9⟩
              obtain rfl := h9.symm
              go_wp2_with fail
              refine (HY.out _).mono ?_
              rintro e9 w9 ⟨rfl, h9⟩
              obtain rfl := h9.symm
              go_wp2_with fail
              refine bodyPost_ret (v := .tuple #[.agg #[.float .f64 0, .float .f64 0, .float .f64 0, .float .f64 0, .int .u8 0, .bool false], .iface 207 ?_]) (by simp [results, Tryz.results164, go_sem, z0, z1, z2, z3, z4, z5, zl]; rfl) rfl ?_
              exact HI.out.err _ _ _ _ _ _ HO3.out
            | false =>
              have HO3 := Lib.hid (show o = some (.mk 1 3 [x, y, z, m] [], r4) from HOE.out)
              go_wp2_with fail
              refine (HX.out _).mono ?_
              rintro e9 w9 ⟨rfl, h9⟩
              obtain rfl := h9.symm
              go_wp2_with fail
              refine (HX.out _).mono ?_
              rintro e9 w9 ⟨rfl, h9⟩
              obtain rfl := h9.symm
              go_wp2_with fail
              refine (HY.out _).mono ?_
              rintro e9 w9 ⟨rfl, h9⟩
              obtain rfl := h9.symm
              go_wp2_with fail
              refine (newPoint_calls x y z m 3 _).mono ?_
              rintro e9 w9 ⟨rfl, hb9⟩
              have HI9 := Lib.hid (HI.out.same hb9)
              clear hb9 c0 c1 c2 c3 c4 f0 f1 f2 f3 f4 cl z0 z1 z2 z3 z4 z5 y0 y1 y2 y3 y4 y5 zl
              obtain ⟨z0, z1, z2, z3, z4, z5, y0, y1, y2, y3, y4, y5, zl⟩ := cells6 HI9.out.zb
              go_wp2_with fail
              refine bodyPost_ret (v := .tuple #[.agg #[.float .f64 x, .float .f64 y, .float .f64 z, .float .f64 m, .int .u8 3, .bool true], .nilIface]) (by simp [results, Tryz.results164, go_sem, z0, z1, z2, z3, z4, z5, zl]) rfl ?_
              obtain ⟨s1, s2⟩ := HI9.out.stored (.float .f64 x) (.float .f64 y) (.float .f64 z) (.float .f64 m) (.int .u8 3) (.bool true)
              refine ⟨.pt 3 true ⟨x, y, z, m⟩, rfl, by rw [MG.In]; exact ⟨by decide, rfl⟩, s1, ?_⟩
              rw [HO3.out]
              exact ⟨rfl, rfl, s2⟩
theorem parsePt_calls {S : Nat → Prop} {w : World} {P d : Nat} {big : Bool} {l : List Nat} (hd : d < 4) (h : WPs S w P big l) :
    Calls Tryz.prog 164 #[.pointer (some ⟨P, 0, none⟩), .int .u8 d] w (PKPost S w P big 1 (rdPt d big l)) := by
  obtain rfl | rfl | rfl | rfl := four hd
  · exact parsePt0 h
  · exact parsePt1 h
  · exact parsePt2 h
  · exact parsePt3 h
end Go.Proofs.YtbacakdpfiiblaaGreat.geo
