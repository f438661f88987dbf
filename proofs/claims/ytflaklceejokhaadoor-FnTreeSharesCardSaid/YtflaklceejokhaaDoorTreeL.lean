/-
  Bulk loading: what it makes of n items, plainly; the walk where they fit into one node.
-/
import Derived.Test.YtflaklceejokhaaDoorTreeK
namespace Go.Proofs.YtflaklceejokhaaDoor.tree
open Go.ChangeShapes Go.WideShapes Go.ChangeAt Go.RowKit
open Go.Proofs.YtflaklceejokhaaDoor.mem Go.Proofs.YtflaklceejokhaaDoor.flt Ieee
set_option linter.unusedVariables false
set_option linter.unusedSimpArgs false

/-- Block r reads as the cells g 0 .. g (n - 1), none of them frozen. -/
def Cel (w : World) (r n : Nat) (g : Nat → Value) : Prop := r < w.heap.size ∧ ∀ o, o < n → w.cell? ⟨r, o, none⟩ = some (g o) ∧ w.frozen? ⟨r, o, none⟩ = false
theorem Cel.set {w : World} {r n : Nat} {g : Nat → Value} (h : Cel w r n g) {a : Nat} (ha : a < n) (v : Value) : Cel (w.setCell ⟨r, a, none⟩ v) r n (fun o => if o = a then v else g o) := by
  refine ⟨by simpa using h.1, fun o ho => ⟨?_, by simpa using (h.2 o ho).2⟩⟩
  rw [set_get (h.2 a ha).1]
  by_cases e : o = a
  · simp [e]
  · simp only [e, if_false]; exact (h.2 o ho).1
theorem Cel.of_blk {w : World} {r : Nat} {t : TypeId} {cs : Array Value} (h : Blk w r t cs) (d : Value) : Cel w r cs.size (fun o => cs.getD o d) := by
  refine ⟨h.lt, fun o ho => ⟨?_, h.frozen o ho⟩⟩
  rw [h.cell o]
  simp [Array.getD, ho]
theorem Cel.below {B : Nat} {w w' : World} {r n : Nat} {g : Nat → Value} (h : Cel w r n g) (hb : Below B w w') (hr : r < B) : Cel w' r n g :=
  ⟨Nat.lt_of_lt_of_le h.1 hb.size, fun o ho => ⟨(hb.cell (p := ⟨r, o, none⟩) hr).trans (h.2 o ho).1, (hb.frozen (p := ⟨r, o, none⟩) hr).trans (h.2 o ho).2⟩⟩
theorem Cel.get {w : World} {r n : Nat} {g : Nat → Value} (h : Cel w r n g) {o : Nat} (ho : o < n) : w.cell? ⟨r, o, none⟩ = some (g o) := (h.2 o ho).1
theorem Cel.fr {w : World} {r n : Nat} {g : Nat → Value} (h : Cel w r n g) {o : Nat} (ho : o < n) : w.frozen? ⟨r, o, none⟩ = false := (h.2 o ho).2

/-- A new node: its cells. -/
def nodeA (k : Nat) : Array Value := #[.float .f64 0, .float .f64 0, .float .f64 0, .float .f64 0, .pointer none, .int .i64 0, .float .f64 0, .float .f64 0, .float .f64 0, .float .f64 0, .pointer none, .int .i64 0,
  .float .f64 0, .float .f64 0, .float .f64 0, .float .f64 0, .pointer none, .int .i64 0, .float .f64 0, .float .f64 0, .float .f64 0, .float .f64 0, .pointer none, .int .i64 0, .int .i64 k]

def itV (p : It) : Nat → Value
  | 0 => .float .f64 p.b.x0
  | 1 => .float .f64 p.b.y0
  | 2 => .float .f64 p.b.x1
  | 3 => .float .f64 p.b.y1
  | 4 => .pointer none
  | _ => .int .i64 p.id

/-- The cells of a node with the items f 0 .. f (i - 1) in it. -/
def Leaf (w : World) (r k i : Nat) (f : Nat → It) : Prop := ∃ g, Cel w r 25 g ∧ g 24 = .int .i64 k ∧ ∀ j, j < i → ∀ c, c < 6 → g (j * 6 + c) = itV (f j) c

theorem Leaf.node {w : World} {L r k : Nat} {f : Nat → It} (h : Leaf w r k k f) (hL : L ≤ r) (h1 : 1 ≤ k) (h4 : k ≤ 4) : NodeAt w L r k (fun i => .item (f i)) := by
  obtain ⟨g, hc, h24, hg⟩ := h
  refine ⟨hL, hc.1, by rw [hc.get (by omega), h24], h1, h4, fun i hi => ?_⟩
  have e : ∀ c, c < 6 → w.cell? ⟨r, i * 6 + c, none⟩ = some (itV (f i) c) := fun c hcc => by rw [hc.get (by omega), hg i hi c hcc]
  exact ⟨⟨e 0 (by omega), e 1 (by omega), e 2 (by omega), e 3 (by omega)⟩, e 4 (by omega), e 5 (by omega)⟩
theorem Leaf.below {B : Nat} {w w' : World} {r k i : Nat} {f : Nat → It} (h : Leaf w r k i f) (hb : Below B w w') (hr : r < B) : Leaf w' r k i f := by
  obtain ⟨g, hc, h⟩ := h
  exact ⟨g, hc.below hb hr, h⟩
theorem Leaf.drew {w : World} {r k i : Nat} {f : Nat → It} (h : Leaf w r k i f) : Leaf w.drew r k i f := by
  have hl : r < w.heap.size := by obtain ⟨g, hc, -⟩ := h; exact hc.1
  exact h.below (Below.refl _ w).drew hl
theorem Leaf.new (w : World) (t : TypeId) (k : Nat) (f : Nat → It) : Leaf (w.alloc (.cells (nodeA k) t)) w.heap.size k 0 f :=
  ⟨_, Cel.of_blk (cs := nodeA k) (Blk.new w t (nodeA k)) (.int .i64 0), rfl, fun j hj => absurd hj (by omega)⟩
theorem Leaf.put {w : World} {r k i : Nat} {f : Nat → It} (h : Leaf w r k i f) (hi : i < 4) :
    Leaf ((((((w.setCell ⟨r, i * 6, none⟩ (.float .f64 (f i).b.x0)).setCell ⟨r, i * 6 + 1, none⟩ (.float .f64 (f i).b.y0)).setCell ⟨r, i * 6 + 2, none⟩ (.float .f64 (f i).b.x1)).setCell ⟨r, i * 6 + 3, none⟩ (.float .f64 (f i).b.y1)).setCell ⟨r, i * 6 + 4, none⟩ (.pointer none)).setCell ⟨r, i * 6 + 5, none⟩ (.int .i64 (f i).id)) r k (i + 1) f := by
  obtain ⟨g, hc, h24, hg⟩ := h
  refine ⟨_, (((((hc.set (a := i * 6) (by omega) _).set (a := i * 6 + 1) (by omega) _).set (a := i * 6 + 2) (by omega) _).set (a := i * 6 + 3) (by omega) _).set (a := i * 6 + 4) (by omega) _).set (a := i * 6 + 5) (by omega) _, ?_, ?_⟩
  · rw [if_neg (by omega), if_neg (by omega), if_neg (by omega), if_neg (by omega), if_neg (by omega), if_neg (by omega)]
    exact h24
  · intro j hj c hcc
    by_cases e : j = i
    · subst e
      obtain rfl | rfl | rfl | rfl | rfl | rfl : c = 0 ∨ c = 1 ∨ c = 2 ∨ c = 3 ∨ c = 4 ∨ c = 5 := by omega
      · rw [if_neg (by omega), if_neg (by omega), if_neg (by omega), if_neg (by omega), if_neg (by omega), if_pos (by omega)]; rfl
      · rw [if_neg (by omega), if_neg (by omega), if_neg (by omega), if_neg (by omega), if_pos (by omega)]; rfl
      · rw [if_neg (by omega), if_neg (by omega), if_neg (by omega), if_pos (by omega)]; rfl
      · rw [if_neg (by omega), if_neg (by omega), if_pos (by omega)]; rfl
      · rw [if_neg (by omega), if_pos (by omega)]; rfl
      · rw [if_pos (by omega)]; rfl
    · rw [if_neg (by omega), if_neg (by omega), if_neg (by omega), if_neg (by omega), if_neg (by omega), if_neg (by omega)]
      exact hg j (by omega) c hcc

def IPost (w : World) (g off n : Nat) (K : Nat × (Nat → Q)) (e : Ending) (w' : World) : Prop :=
  ∃ r, e = .returned (.pointer (some ⟨r, 0, none⟩)) ∧ NodeAt w' w.heap.size r K.1 K.2 ∧ Chg g off n w w'

set_option maxRecDepth 100000 in
set_option maxHeartbeats 8000000 in
theorem leaf_calls (g off n c : Nat) (f : Nat → It) (hn : 1 ≤ n) (hn2 : n ≤ 4) (w : World) (hR : Row w g off n f) :
    Calls Tryd.prog 24 #[.slice (some ⟨g, off, none⟩) n c] w (IPost w g off n (n, fun i => .item (f i))) := by
  have HR := Lib.hid hR
  have hgw := hR.1
  have t0 : ((n : Int) == 0) = false := by simp; omega
  have t4 : (n : Int) ≤ 4 := by omega
  have hA0 := Leaf.new w 81 n f
  have hb0 : Below w.heap.size w (w.alloc (.cells (nodeA n) 81)) := (Below.refl _ _).alloc (Nat.le_refl _) _
  obtain ⟨wA, hwA⟩ : ∃ wA, wA = w.alloc (.cells (nodeA n) 81) := ⟨_, rfl⟩
  rw [← hwA] at hA0 hb0
  have hfr : wA.heap.size = w.heap.size + 1 := by rw [hwA]; simp
  have HWA : Hid (wA = w.alloc (.cells (nodeA n) 81)) := Lib.hid hwA
  have HA0 := Lib.hid hA0
  have HB0 := Lib.hid hb0
  clear hR hA0 hb0 hwA
  go_enter Tryd.func24, Tryd.ntmps24
  go_wp2_with fail
  change Code.wp _ _ _ _ (w.alloc (.cells (nodeA n) 81))
  rw [← HWA.out]
  go_loopg [27] n (fun q ci wr => ∃ i, i + q = n ∧ ci = .int .i64 (i : Nat) ∧ Leaf wr w.heap.size n i f ∧ Below w.heap.size w wr)
  case atStart => exact ⟨0, by omega, by go_num, HA0.out, HB0.out⟩
  case round =>
    obtain ⟨i, hi', rfl, hB, hbl⟩ := hrel
    have HI := Lib.hid hi'
    have HB := Lib.hid hB
    have HBL := Lib.hid hbl
    have hin : i ≤ n := by omega
    have hin4 : i ≤ 4 := by omega
    have hgwr : w.heap.size ≤ wr.heap.size := hbl.size
    have hrr : w.heap.size < wr.heap.size := by obtain ⟨gg, hC, -⟩ := hB; exact hC.1
    clear hi' hB hbl
    by_cases hlt : i < n
    · obtain ⟨c0, c1, c2, c3, c4⟩ := HR.out.at (i := i) hlt
      have d0 := (HBL.out.cell (p := ⟨g, off + i * 5, none⟩) hgw).trans c0
      have d1 := (HBL.out.cell (p := ⟨g, off + i * 5 + 1, none⟩) hgw).trans c1
      have d2 := (HBL.out.cell (p := ⟨g, off + i * 5 + 2, none⟩) hgw).trans c2
      have d3 := (HBL.out.cell (p := ⟨g, off + i * 5 + 3, none⟩) hgw).trans c3
      have d4 := (HBL.out.cell (p := ⟨g, off + i * 5 + 4, none⟩) hgw).trans c4
      obtain ⟨q, hfi⟩ : ∃ q, f i = q := ⟨_, rfl⟩
      rw [hfi] at d0 d1 d2 d3 d4
      have HFI := Lib.hid hfi
      have hj4 : i < 4 := by omega
      have hj5 : (i : Int) < 4 := by omega
      have hltI : (i : Int) < (n : Int) := by omega
      have hne : g ≠ w.heap.size := by omega
      clear c0 c1 c2 c3 c4 hfi
      go_wp2_with fail
      have hN : Blk (wr.alloc (.cells #[.float .f64 q.b.x0, .float .f64 q.b.y0, .float .f64 q.b.x1, .float .f64 q.b.y1, .int .i64 q.id] 55)) wr.heap.size 55 (itA q) := Blk.new _ _ _
      have hbB : Below wr.heap.size wr (wr.alloc (.cells #[.float .f64 q.b.x0, .float .f64 q.b.y0, .float .f64 q.b.x1, .float .f64 q.b.y1, .int .i64 q.id] 55)) := (Below.refl _ _).alloc (Nat.le_refl _) _
      obtain ⟨wB, hwB⟩ : ∃ wB, wB = wr.alloc (.cells #[.float .f64 q.b.x0, .float .f64 q.b.y0, .float .f64 q.b.x1, .float .f64 q.b.y1, .int .i64 q.id] 55) := ⟨_, rfl⟩
      rw [← hwB] at hN hbB ⊢
      have HB2 := Lib.hid (HB.out.below hbB hrr)
      have HBL2 := Lib.hid (HBL.out.trans (hbB.mono HBL.out.size))
      obtain ⟨gg, hC, -, -⟩ := HB2.out
      have e0 := hC.get (o := i * 6) (by omega)
      have e1 := hC.get (o := i * 6 + 1) (by omega)
      have e2 := hC.get (o := i * 6 + 2) (by omega)
      have e3 := hC.get (o := i * 6 + 3) (by omega)
      have e4 := hC.get (o := i * 6 + 4) (by omega)
      have e5 := hC.get (o := i * 6 + 5) (by omega)
      have k0 := hC.fr (o := i * 6) (by omega)
      have k1 := hC.fr (o := i * 6 + 1) (by omega)
      have k2 := hC.fr (o := i * 6 + 2) (by omega)
      have k3 := hC.fr (o := i * 6 + 3) (by omega)
      have k4 := hC.fr (o := i * 6 + 4) (by omega)
      have k5 := hC.fr (o := i * 6 + 5) (by omega)
      have n0 := hN.cell 0
      have n1 := hN.cell 1
      have n2 := hN.cell 2
      have n3 := hN.cell 3
      have n4 := hN.cell 4
      have hrB := hC.1
      have m0 : wB.cell? ⟨wr.heap.size, 0, none⟩ = some (.float .f64 q.b.x0) := n0
      have m1 : wB.cell? ⟨wr.heap.size, 1, none⟩ = some (.float .f64 q.b.y0) := n1
      have m2 : wB.cell? ⟨wr.heap.size, 2, none⟩ = some (.float .f64 q.b.x1) := n2
      have m3 : wB.cell? ⟨wr.heap.size, 3, none⟩ = some (.float .f64 q.b.y1) := n3
      have m4 : wB.cell? ⟨wr.heap.size, 4, none⟩ = some (.int .i64 q.id) := n4
      clear d0 d1 d2 d3 d4 hN hbB hwB hC n0 n1 n2 n3 n4
      go_still_tail 10, (by kernel_rfl)
      change wpList _ _ _ _ _ wB.drew
      go_wp2_with fail
      go_roundg (n - (i + 1))
      case measure => have := HI.out; omega
      case rel =>
        refine ⟨i + 1, by omega, by go_num, ?_, ?_⟩
        · have := HB2.out.put hj4
          rw [HFI.out] at this
          exact this.drew
        · exact ((((((HBL2.out.setCell (Nat.le_refl _) _).setCell (Nat.le_refl _) _).setCell (Nat.le_refl _) _).setCell (Nat.le_refl _) _).setCell (Nat.le_refl _) _).setCell (Nat.le_refl _) _).drew
    · have hin2 : i = n := by omega
      have HIN := Lib.hid hin2
      have hltI : (n : Int) ≤ (i : Int) := by omega
      clear hin2
      go_wp2_with fail
      refine bodyPost_ret (v := .pointer (some ⟨w.heap.size, 0, none⟩)) (by simp [results, Tryd.results24, go_sem]) rfl ⟨w.heap.size, rfl, ?_, Chg.of_below hgw HBL.out⟩
      have := HB.out
      rw [HIN.out] at this
      exact this.node (Nat.le_refl _) hn hn2
end Go.Proofs.YtflaklceejokhaaDoor.tree
