/-
  Nearest, Extent.
-/
import Derived.Test.YtflaklceejokhaaDoorTreeS4
import Derived.Test.YtflaklceejokhaaDoorTreeX2
namespace Go.Proofs.YtflaklceejokhaaDoor.tree
open Go.ChangeShapes Go.WideShapes Go.ChangeAt Go.RowKit
open Go.Proofs.YtflaklceejokhaaDoor.mem Go.Proofs.YtflaklceejokhaaDoor.flt Ieee
set_option linter.unusedVariables false
set_option linter.unusedSimpArgs false

/-- The last number that was noted, and whether there is one. -/
structure NS (B : Nat) (S : Addr) (p q : Nat) (w : World) (l : List Int) (F : Nat → Prop) : Prop where
  id : Blk w p 3 #[.int .i64 (l.getLastD 0)]
  found : Blk w q 4 #[.bool !l.isEmpty]
  f : ∀ b, F b ↔ b = p ∨ b = q
  gv : GV w S
  g0 : 0 < B
  p0 : B ≤ p
  q0 : B ≤ q
  ne : p ≠ q

theorem near1_calls {B p q : Nat} {S : Addr} {w : World} {l : List Int} {F : Nat → Prop} (id : Int) (h : NS B S p q w l F) :
    Calls Tryd.prog 31 #[.int .i64 id, .pointer (some ⟨p, 0, none⟩), .pointer (some ⟨q, 0, none⟩)] w fun e w' => e = .returned (Er.stop.v S) ∧ ∃ F', NS B S p q w' (l ++ [id]) F' ∧ Fr F w w' ∧ ∀ b, F' b → F b ∨ w.heap.size ≤ b := by
  have c0 := h.id.cell 0
  have c1 := h.found.cell 0
  have d0 : w.cell? ⟨p, 0, none⟩ = some (.int .i64 (l.getLastD 0)) := c0
  have d1 : w.cell? ⟨q, 0, none⟩ = some (.bool !l.isEmpty) := c1
  have f0 : w.frozen? ⟨p, 0, none⟩ = false := h.id.frozen 0 (show 0 < 1 by omega)
  have f1 : w.frozen? ⟨q, 0, none⟩ = false := h.found.frozen 0 (show 0 < 1 by omega)
  have gv := h.gv
  unfold GV at gv
  have hp0 : p ≠ 0 := by have := h.p0; have := h.g0; omega
  have hq0 : q ≠ 0 := by have := h.q0; have := h.g0; omega
  have hpq := h.ne
  have hpq2 : q ≠ p := fun e => hpq e.symm
  have lp := h.id.lt
  have lq := h.found.lt
  have hend : ∃ F', NS B S p q ((w.setCell ⟨p, 0, none⟩ (.int .i64 id)).setCell ⟨q, 0, none⟩ (.bool true)) (l ++ [id]) F' ∧ Fr F w ((w.setCell ⟨p, 0, none⟩ (.int .i64 id)).setCell ⟨q, 0, none⟩ (.bool true)) ∧ ∀ b, F' b → F b ∨ w.heap.size ≤ b := by
    refine ⟨F, ⟨?_, ?_, h.f, ?_, h.g0, h.p0, h.q0, h.ne⟩, (Fr.set w ⟨p, 0, none⟩ _ ((h.f p).2 (.inl rfl))).trans (Fr.set _ ⟨q, 0, none⟩ _ ((h.f q).2 (.inr rfl))) (fun _ _ h => h), fun b hb => .inl hb⟩
    · have := (h.id.set_ 0 (.int .i64 id)).far (p := ⟨q, 0, none⟩) hpq (.bool true)
      simpa using this
    · have := (h.found.far (p := ⟨p, 0, none⟩) hpq2 (.int .i64 id)).set_ 0 (.bool true)
      have e : (!(l ++ [id]).isEmpty) = true := by cases l <;> rfl
      rw [e]
      simpa using this
    · unfold GV
      rw [World.cell?_setCell_other _ _ _ _ (fun e => hq0 (congrArg Addr.block e)), World.cell?_setCell_other _ _ _ _ (fun e => hp0 (congrArg Addr.block e))]
      exact gv
  have HEND := Lib.hid hend
  clear h c0 c1 hend
  go_enter Tryd.func31, Tryd.ntmps31
  go_wp2_with fail
  exact bodyPost_ret (v := Er.stop.v S) (by simp [results, Tryd.results31, go_sem, Er.v]) rfl ⟨rfl, HEND.out⟩

theorem NS.keep {B p q : Nat} {S : Addr} {w w' : World} {l : List Int} {F G : Nat → Prop} (h : NS B S p q w l F) (hf : Fr G w w') (hG : ∀ b, G b → B ≤ b) (hd : ∀ b, F b → ¬ G b) : NS B S p q w' l F := by
  have gv := h.gv
  have g0 := h.g0
  unfold GV at gv
  have h0 := hf.block 0 (World.block_lt_of_cell? w _ gv) (fun hg => by have := hG _ hg; omega)
  refine ⟨h.id.of_heap (hf.block p h.id.lt (hd p ((h.f p).2 (.inl rfl)))), h.found.of_heap (hf.block q h.found.lt (hd q ((h.f q).2 (.inr rfl)))), h.f, ?_, h.g0, h.p0, h.q0, h.ne⟩
  unfold GV
  unfold World.cell? at gv ⊢
  simp only [h0]
  exact gv

theorem nearCb {B p q : Nat} {S : Addr} : Cb B 31 (.pointer (some ⟨p, 0, none⟩)) (.pointer (some ⟨q, 0, none⟩)) S (fun _ => .stop) (NS B S p q) :=
  ⟨fun w l F id _ h => near1_calls id h, fun w w' l F G h hf hG hd => h.keep hf hG hd, fun args w => by kernel_rfl, fun w l F b h hb => by
    rcases (h.f b).1 hb with rfl | rfl
    · exact ⟨h.p0, h.id.lt⟩
    · exact ⟨h.q0, h.found.lt⟩, fun w l F h => h.gv, fun l id w => is_stop S w⟩

/-- What Nearest finds. -/
def neF (n : Nat) (K : Nat × (Nat → Q)) (b : Bx) : List Int := (psF n K (fun _ => .stop) b).1

set_option maxRecDepth 100000 in
set_option maxHeartbeats 8000000 in
theorem nearest_calls {L t n : Nat} {K : Nat × (Nat → Q)} {S : Addr} {w0 w : World} {b : Bx} (hT : RT L w0 t n K) (hk : Keep L w0 w) (hgv : GV w S) (h0 : 0 < w0.heap.size) (hb : Gd b) (hr : sumF (fun i => (K.2 i).rounds) K.1 ≤ 10000) :
    Calls Tryd.prog 21 #[.pointer (some ⟨t, 0, none⟩), .agg (bxA b)] w fun e w' => e = .returned (.tuple #[.int .i64 ((neF n K b).getLastD 0), .bool !(neF n K b).isEmpty]) ∧ Below w.heap.size w w' := by
  obtain ⟨wA, hwA⟩ : ∃ wA, wA = ((w.alloc (.cells (bxA b) 52)).alloc (.cells #[.int .i64 0] 3)).alloc (.cells #[.bool false] 4) := ⟨_, rfl⟩
  have hbA : Below w.heap.size w wA := by rw [hwA]; exact (((Below.refl _ _).alloc (Nat.le_refl _) _).alloc (by simp) _).alloc (by simp; omega) _
  have b1 : Blk wA (w.heap.size + 1) 3 #[.int .i64 0] := by
    rw [hwA]
    refine Blk.alloc ?_ _
    have := Blk.new (w.alloc (.cells (bxA b) 52)) 3 #[.int .i64 0]
    rw [show (w.alloc (.cells (bxA b) 52)).heap.size = w.heap.size + 1 by simp] at this
    exact this
  have b2 : Blk wA (w.heap.size + 1 + 1) 4 #[.bool false] := by
    rw [hwA]
    have := Blk.new ((w.alloc (.cells (bxA b) 52)).alloc (.cells #[.int .i64 0] 3)) 4 #[.bool false]
    rw [show ((w.alloc (.cells (bxA b) 52)).alloc (.cells #[.int .i64 0] 3)).heap.size = w.heap.size + 1 + 1 by simp] at this
    exact this
  have hgA : GV wA S := by
    unfold GV at hgv ⊢
    exact (hbA.cell (p := ⟨0, 0, none⟩) (World.block_lt_of_cell? w _ hgv)).trans hgv
  have hsz := hk.1
  have hNS : NS w0.heap.size S (w.heap.size + 1) (w.heap.size + 1 + 1) wA [] (fun b => b = w.heap.size + 1 ∨ b = w.heap.size + 1 + 1) := ⟨b1, b2, fun b => Iff.rfl, hgA, h0, by omega, by omega, by omega⟩
  have hcall := prio_calls (b := b) nearCb hT (hk.trans (Keep.of_below hbA)) hNS hb hr
  have HCALL := Lib.hid hcall
  have HBA := Lib.hid hbA
  have HWA := Lib.hid hwA
  obtain ⟨R, hR⟩ : ∃ R, R = psF n K (fun _ => .stop) b := ⟨_, rfl⟩
  have hne : neF n K b = R.1 := by unfold neF; rw [hR]
  rw [hne]
  have HR := Lib.hid hR
  have hs3 : w.heap.size + 1 + 1 < wA.heap.size := b2.lt
  obtain ⟨x, hx⟩ : ∃ x, x = R.1.getLastD 0 := ⟨_, rfl⟩
  obtain ⟨y, hy⟩ : ∃ y, y = !R.1.isEmpty := ⟨_, rfl⟩
  rw [← hx, ← hy]
  have HX := Lib.hid hx
  have HY := Lib.hid hy
  clear hx hy
  clear hT hk hgv hb hr hwA hbA b1 b2 hgA hNS hcall hR hne
  unfold bxA at HWA HCALL
  unfold bxA
  go_enter Tryd.func21, Tryd.ntmps21
  go_wp2_with fail
  rw [← HWA.out]
  refine HCALL.out.mono ?_
  rintro e w2 ⟨rfl, F2, hns, hfr, hF⟩
  rw [← HR.out] at hns ⊢
  have hb02 : Below w.heap.size w w2 := HBA.out.trans (hfr.toBelow (fun x hx => by rcases hx with rfl | rfl <;> omega) HBA.out.size)
  have q1 := hns.id
  have q2 := hns.found
  rw [← HX.out] at q1
  rw [← HY.out] at q2
  have d0 : w2.cell? ⟨w.heap.size + 1, 0, none⟩ = some (.int .i64 x) := q1.cell 0
  have d1 : w2.cell? ⟨w.heap.size + 1 + 1, 0, none⟩ = some (.bool y) := q2.cell 0
  have f0 : w2.frozen? ⟨w.heap.size + 1, 0, none⟩ = false := q1.frozen 0 (show 0 < 1 by omega)
  have f1 : w2.frozen? ⟨w.heap.size + 1 + 1, 0, none⟩ = false := q2.frozen 0 (show 0 < 1 by omega)
  have l0 := q1.lt
  have l1 := q2.lt
  have HB02 := Lib.hid hb02
  have Q1 := Lib.hid q1
  have Q2 := Lib.hid q2
  clear hns hfr hF hb02 q1 q2
  go_wp2_with fail
  go_region
  have r1 : Blk ((w2.setCell ⟨w.heap.size + 1, 0, none⟩ (.int .i64 x)).setCell ⟨w.heap.size + 1 + 1, 0, none⟩ (.bool y)) (w.heap.size + 1) 3 #[.int .i64 x] := by
    have := (Q1.out.set_ 0 (.int .i64 x)).far (p := ⟨w.heap.size + 1 + 1, 0, none⟩) (by show w.heap.size + 1 ≠ w.heap.size + 1 + 1; omega) (.bool y)
    simpa using this
  have r2 : Blk ((w2.setCell ⟨w.heap.size + 1, 0, none⟩ (.int .i64 x)).setCell ⟨w.heap.size + 1 + 1, 0, none⟩ (.bool y)) (w.heap.size + 1 + 1) 4 #[.bool y] := by
    have := (Q2.out.far (p := ⟨w.heap.size + 1, 0, none⟩) (by show w.heap.size + 1 + 1 ≠ w.heap.size + 1; omega) (.int .i64 x)).set_ 0 (.bool y)
    simpa using this
  have hbW : Below w.heap.size w ((w2.setCell ⟨w.heap.size + 1, 0, none⟩ (.int .i64 x)).setCell ⟨w.heap.size + 1 + 1, 0, none⟩ (.bool y)) := (HB02.out.setCell (by show w.heap.size ≤ w.heap.size + 1; omega) _).setCell (by show w.heap.size ≤ w.heap.size + 1 + 1; omega) _
  have e0 := (r1.below (Below.refl _ _).drew r1.lt).cell 0
  have e1 := (r2.below (Below.refl _ _).drew r2.lt).cell 0
  have hbD := hbW.drew
  obtain ⟨W, hW⟩ : ∃ W, W = ((w2.setCell ⟨w.heap.size + 1, 0, none⟩ (.int .i64 x)).setCell ⟨w.heap.size + 1 + 1, 0, none⟩ (.bool y)).drew := ⟨_, rfl⟩
  rw [← hW] at e0 e1 hbD ⊢
  have g0 : W.cell? ⟨w.heap.size + 1, 0, none⟩ = some (.int .i64 x) := e0
  have g1 : W.cell? ⟨w.heap.size + 1 + 1, 0, none⟩ = some (.bool y) := e1
  have HBD := Lib.hid hbD
  clear r1 r2 hbW e0 e1 hbD hW
  go_wp2_with fail
  exact bodyPost_ret (v := .tuple #[.int .i64 x, .bool y]) (by simp [results, Tryd.results21, go_sem, g0, g1]) rfl ⟨rfl, HBD.out⟩

/-- The extent: of n = 0 items none. -/
def exF (n : Nat) (K : Nat × (Nat → Q)) : Bx := if n = 0 then ⟨0, 0, 0, 0⟩ else (Q.sub K.1 K.2).bx

set_option maxRecDepth 100000 in
set_option maxHeartbeats 8000000 in
theorem extent_calls {L t n : Nat} {K : Nat × (Nat → Q)} {w0 w : World} (hT : RT L w0 t n K) (hk : Keep L w0 w) :
    Calls Tryd.prog 22 #[.pointer (some ⟨t, 0, none⟩)] w fun e w' => e = .returned (.tuple #[.agg (bxA (exF n K)), .bool (decide (0 < n))]) ∧ Below w.heap.size w w' := by
  have hsz := hk.1
  have htl : t < w.heap.size := Nat.lt_of_lt_of_le hT.lt hsz
  rcases hT.root with ⟨hn, h0⟩ | ⟨hn, c, h0, hN, hO, hcnt⟩
  · have c0 := (hk.cell (o := 0) hT.ge hT.lt).trans h0
    subst hn
    have e1 : exF 0 K = ⟨0, 0, 0, 0⟩ := by unfold exF; rw [if_pos rfl]
    rw [e1]
    unfold bxA
    clear hT hk h0 e1
    go_enter Tryd.func22, Tryd.ntmps22
    go_wp2_with fail
    exact bodyPost_ret (v := .tuple #[.agg #[.float .f64 0, .float .f64 0, .float .f64 0, .float .f64 0], .bool false]) (by simp [results, Tryd.results22, go_sem]) rfl ⟨by simp, (Below.refl _ _).alloc (Nat.le_refl _) _⟩
  · have c0 := (hk.cell (o := 0) hT.ge hT.lt).trans h0
    have e1 : exF n K = (Q.sub K.1 K.2).bx := by unfold exF; rw [if_neg (by omega)]
    rw [e1]
    have hd : decide (0 < n) = true := by simp; omega
    rw [hd]
    have hb := bound_calls L c K.1 K.2
    obtain ⟨B, hB⟩ : ∃ B, B = (Q.sub K.1 K.2).bx := ⟨_, rfl⟩
    rw [← hB] at hb ⊢
    unfold bxA at hb ⊢
    have HBO := Lib.hid hb
    have HN := Lib.hid (hN.keep hk)
    have d24 := (hN.keep hk).2.2.1
    have hk1 := hN.2.2.2.1
    have hcl : c < w.heap.size := (hN.keep hk).2.1
    have t0 : ((K.1 : Int) == 0) = false := by simp; omega
    obtain ⟨kk, hkk⟩ : ∃ kk, kk = K.1 := ⟨_, rfl⟩
    rw [← hkk] at d24 t0
    clear hT hk h0 hN hO hcnt e1 hd hb hB hk1 hkk
    go_enter Tryd.func22, Tryd.ntmps22
    go_wp2_with fail
    refine (HBO.out _ (HN.out.keep (Keep.of_below ((Below.refl _ _).alloc (Nat.le_refl _) _)))).mono ?_
    rintro e w2 ⟨rfl, hb2⟩
    have hA2 : Blk w2 w.heap.size 52 #[.float .f64 0, .float .f64 0, .float .f64 0, .float .f64 0] := (Blk.new w 52 #[.float .f64 0, .float .f64 0, .float .f64 0, .float .f64 0]).below hb2 (Blk.new w _ _).lt
    have hb02 : Below w.heap.size w w2 := ((Below.refl w.heap.size w).alloc (Nat.le_refl _) _).trans (hb2.mono (by simp))
    obtain ⟨z0, z1, z2, z3, y0, y1, y2, y3, zl⟩ := cells4 hA2
    have HA2 := Lib.hid hA2
    have HB02 := Lib.hid hb02
    clear hb2 hA2 hb02
    go_wp2_with fail
    have hW : Blk ((((w2.setCell ⟨w.heap.size, 0, none⟩ (.float .f64 B.x0)).setCell ⟨w.heap.size, 1, none⟩ (.float .f64 B.y0)).setCell ⟨w.heap.size, 2, none⟩ (.float .f64 B.x1)).setCell ⟨w.heap.size, 3, none⟩ (.float .f64 B.y1)) w.heap.size 52 #[.float .f64 B.x0, .float .f64 B.y0, .float .f64 B.x1, .float .f64 B.y1] := by
      have := (((HA2.out.set_ 0 (.float .f64 B.x0)).set_ 1 (.float .f64 B.y0)).set_ 2 (.float .f64 B.x1)).set_ 3 (.float .f64 B.y1)
      simpa using this
    have hbW := set4 HB02.out (Nat.le_refl _) (.float .f64 B.x0) (.float .f64 B.y0) (.float .f64 B.x1) (.float .f64 B.y1)
    obtain ⟨W, hWe⟩ : ∃ W, W = (((w2.setCell ⟨w.heap.size, 0, none⟩ (.float .f64 B.x0)).setCell ⟨w.heap.size, 1, none⟩ (.float .f64 B.y0)).setCell ⟨w.heap.size, 2, none⟩ (.float .f64 B.x1)).setCell ⟨w.heap.size, 3, none⟩ (.float .f64 B.y1) := ⟨_, rfl⟩
    rw [← hWe] at hW hbW ⊢
    obtain ⟨g0, g1, g2, g3, -, -, -, -, -⟩ := cells4 hW
    exact bodyPost_ret (v := .tuple #[.agg #[.float .f64 B.x0, .float .f64 B.y0, .float .f64 B.x1, .float .f64 B.y1], .bool true]) (by simp [results, Tryd.results22, go_sem, g0, g1, g2, g3]) rfl ⟨rfl, hbW⟩
end Go.Proofs.YtflaklceejokhaaDoor.tree
