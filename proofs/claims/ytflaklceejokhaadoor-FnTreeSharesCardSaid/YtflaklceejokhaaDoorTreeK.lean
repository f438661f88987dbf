/-
  The tree as a plain thing, and how it lies in memory. No condition.
-/
import Derived.Test.YtflaklceejokhaaDoorTreeG
namespace Go.Proofs.YtflaklceejokhaaDoor.tree
open Go.ChangeShapes Go.WideShapes Go.ChangeAt Go.RowKit
open Go.Proofs.YtflaklceejokhaaDoor.mem Go.Proofs.YtflaklceejokhaaDoor.flt Ieee
set_option linter.unusedVariables false
set_option linter.unusedSimpArgs false

/-- An entry of a node: an item, or a node of k entries. -/
inductive Q where
  | item (p : It)
  | sub (k : Nat) (e : Nat → Q)

/-- The least box around the boxes 0 .. i. -/
def hq (b : Nat → Bx) : Nat → Bx
  | 0 => b 0
  | i + 1 => comb (hq b i) (b (i + 1))

def Q.bx : Q → Bx
  | .item p => p.b
  | .sub k e => hq (fun i => (e i).bx) (k - 1)

theorem Q.bx_sub (k : Nat) (e : Nat → Q) : (Q.sub k e).bx = hq (fun i => (e i).bx) (k - 1) := by rw [Q.bx]

/-- Four cells are a box. -/
def B4 (w : World) (g o : Nat) (b : Bx) : Prop :=
  w.cell? ⟨g, o, none⟩ = some (.float .f64 b.x0) ∧ w.cell? ⟨g, o + 1, none⟩ = some (.float .f64 b.y0) ∧ w.cell? ⟨g, o + 2, none⟩ = some (.float .f64 b.x1) ∧ w.cell? ⟨g, o + 3, none⟩ = some (.float .f64 b.y1)

/-- An entry as it lies at g, o; the blocks of nodes are not below L. -/
def Q.At (w : World) (L : Nat) : Q → Nat → Nat → Prop
  | .item p, g, o => B4 w g o p.b ∧ w.cell? ⟨g, o + 4, none⟩ = some (.pointer none) ∧ w.cell? ⟨g, o + 5, none⟩ = some (.int .i64 p.id)
  | .sub k e, g, o => B4 w g o (hq (fun i => (e i).bx) (k - 1)) ∧ ∃ c, L ≤ c ∧ c < w.heap.size ∧ w.cell? ⟨g, o + 4, none⟩ = some (.pointer (some ⟨c, 0, none⟩)) ∧ w.cell? ⟨g, o + 5, none⟩ = some (.int .i64 0) ∧
      w.cell? ⟨c, 24, none⟩ = some (.int .i64 k) ∧ 1 ≤ k ∧ k ≤ 4 ∧ ∀ i, i < k → (e i).At w L c (i * 6)

/-- A node. -/
def NodeAt (w : World) (L c k : Nat) (e : Nat → Q) : Prop :=
  L ≤ c ∧ c < w.heap.size ∧ w.cell? ⟨c, 24, none⟩ = some (.int .i64 k) ∧ 1 ≤ k ∧ k ≤ 4 ∧ ∀ i, i < k → (e i).At w L c (i * 6)

/-- The blocks from L on are as they were. -/
def Keep (L : Nat) (w w' : World) : Prop := w.heap.size ≤ w'.heap.size ∧ ∀ c, L ≤ c → c < w.heap.size → w'.heap[c]? = w.heap[c]?

theorem Keep.cell {L : Nat} {w w' : World} (h : Keep L w w') {c o : Nat} (h1 : L ≤ c) (h2 : c < w.heap.size) : w'.cell? ⟨c, o, none⟩ = w.cell? ⟨c, o, none⟩ := by
  have := h.2 c h1 h2
  unfold World.cell?
  simp only [this]

theorem B4.keep {L : Nat} {w w' : World} (h : Keep L w w') {g o : Nat} {b : Bx} (h1 : L ≤ g) (h2 : g < w.heap.size) (k : B4 w g o b) : B4 w' g o b :=
  ⟨(h.cell h1 h2).trans k.1, (h.cell h1 h2).trans k.2.1, (h.cell h1 h2).trans k.2.2.1, (h.cell h1 h2).trans k.2.2.2⟩

theorem Q.At.keep {L : Nat} {w w' : World} (h : Keep L w w') : ∀ (q : Q) (g o : Nat), L ≤ g → g < w.heap.size → q.At w L g o → q.At w' L g o
  | .item p, g, o, h1, h2, k => ⟨k.1.keep h h1 h2, (h.cell h1 h2).trans k.2.1, (h.cell h1 h2).trans k.2.2⟩
  | .sub n e, g, o, h1, h2, k => by
    obtain ⟨k0, c, c1, c2, k1, k2, k3, k4, k5, k6⟩ := k
    exact ⟨k0.keep h h1 h2, c, c1, Nat.lt_of_lt_of_le c2 h.1, (h.cell h1 h2).trans k1, (h.cell h1 h2).trans k2, (h.cell c1 c2).trans k3, k4, k5, fun i hi => Q.At.keep h (e i) c (i * 6) c1 c2 (k6 i hi)⟩

theorem Q.At.more {L M : Nat} {w : World} (hm : M ≤ L) : ∀ (q : Q) (g o : Nat), q.At w L g o → q.At w M g o
  | .item p, g, o, k => k
  | .sub n e, g, o, k => by
    obtain ⟨k0, c, c1, c2, k1, k2, k3, k4, k5, k6⟩ := k
    exact ⟨k0, c, by omega, c2, k1, k2, k3, k4, k5, fun i hi => Q.At.more hm (e i) c (i * 6) (k6 i hi)⟩

/-- An entry, moved to other cells that read alike. -/
theorem Q.At.same {L : Nat} {w w' : World} (h : Keep L w w') {q : Q} {g o : Nat} (k : q.At w L g o) {g' o' : Nat} (hc : ∀ c, c < 6 → w'.cell? ⟨g', o' + c, none⟩ = w.cell? ⟨g, o + c, none⟩) : q.At w' L g' o' := by
  have h0 := hc 0 (by omega)
  have h1 := hc 1 (by omega)
  have h2 := hc 2 (by omega)
  have h3 := hc 3 (by omega)
  have h4 := hc 4 (by omega)
  have h5 := hc 5 (by omega)
  cases q with
  | item p => exact ⟨⟨h0.trans k.1.1, h1.trans k.1.2.1, h2.trans k.1.2.2.1, h3.trans k.1.2.2.2⟩, h4.trans k.2.1, h5.trans k.2.2⟩
  | sub n e =>
    obtain ⟨k0, c, c1, c2, k1, k2, k3, k4, k5, k6⟩ := k
    exact ⟨⟨h0.trans k0.1, h1.trans k0.2.1, h2.trans k0.2.2.1, h3.trans k0.2.2.2⟩, c, c1, Nat.lt_of_lt_of_le c2 h.1, h4.trans k1, h5.trans k2, (h.cell c1 c2).trans k3, k4, k5, fun i hi => Q.At.keep h (e i) c (i * 6) c1 c2 (k6 i hi)⟩

theorem NodeAt.keep {L c k : Nat} {e : Nat → Q} {w w' : World} (h : Keep L w w') (n : NodeAt w L c k e) : NodeAt w' L c k e := by
  obtain ⟨c1, c2, c3, c4, c5, c6⟩ := n
  exact ⟨c1, Nat.lt_of_lt_of_le c2 h.1, (h.cell c1 c2).trans c3, c4, c5, fun i hi => Q.At.keep h (e i) c (i * 6) c1 c2 (c6 i hi)⟩
theorem NodeAt.more {L M c k : Nat} {e : Nat → Q} {w : World} (hm : M ≤ L) (n : NodeAt w L c k e) : NodeAt w M c k e := by
  obtain ⟨c1, c2, c3, c4, c5, c6⟩ := n
  exact ⟨by omega, c2, c3, c4, c5, fun i hi => Q.At.more hm (e i) c (i * 6) (c6 i hi)⟩

theorem Keep.of_below {L : Nat} {w w' : World} (h : Below w.heap.size w w') : Keep L w w' := ⟨h.size, fun c _ h2 => h.block c h2⟩
theorem Keep.of_grown {L g : Nat} {w w' : World} (h : w.grownBy w' (some g)) (hg : g < L) : Keep L w w' := ⟨h.size, fun c h1 h2 => h.block c h2 (fun e => by have := Option.some.inj e; omega)⟩
theorem Keep.refl (L : Nat) (w : World) : Keep L w w := ⟨Nat.le_refl _, fun _ _ _ => rfl⟩
theorem Keep.trans {L : Nat} {a b c : World} (h : Keep L a b) (k : Keep L b c) : Keep L a c :=
  ⟨Nat.le_trans h.1 k.1, fun i h1 h2 => (k.2 i h1 (Nat.lt_of_lt_of_le h2 h.1)).trans (h.2 i h1 h2)⟩

theorem NodeAt.b4 {w : World} {L c k : Nat} {e : Nat → Q} (h : NodeAt w L c k e) {i : Nat} (hi : i < k) : B4 w c (i * 6) (e i).bx := by
  have := h.2.2.2.2.2 i hi
  cases hq : e i with
  | item p => rw [hq] at this; exact this.1
  | sub n f => rw [hq] at this; unfold Q.bx; exact this.1

set_option maxRecDepth 100000 in
set_option maxHeartbeats 8000000 in
theorem bound_calls (L c k : Nat) (e : Nat → Q) (w : World) (hN : NodeAt w L c k e) :
    Calls Tryd.prog 32 #[.pointer (some ⟨c, 0, none⟩)] w fun r w' => r = .returned (.agg (bxA (Q.sub k e).bx)) ∧ Below w.heap.size w w' := by
  have HN := Lib.hid hN
  have hcl := hN.2.1
  have h24 := hN.2.2.1
  have hk1 := hN.2.2.2.1
  have hk4 := hN.2.2.2.2.1
  obtain ⟨c0, c1, c2, c3⟩ := hN.b4 (i := 0) (by omega)
  simp only [Nat.zero_mul, Nat.zero_add] at c0 c1 c2 c3
  obtain ⟨b, hbx⟩ : ∃ b, b = (e 0).bx := ⟨_, rfl⟩
  rw [← hbx] at c0 c1 c2 c3
  have HBX := Lib.hid hbx
  obtain ⟨R, hR⟩ : ∃ R, R = (Q.sub k e).bx := ⟨_, rfl⟩
  rw [← hR]
  have HR := Lib.hid hR
  clear hN hbx hR
  go_enter Tryd.func32, Tryd.ntmps32
  go_wp2_with fail
  have hB0 : Blk ((w.alloc (.cells #[.float .f64 0, .float .f64 0, .float .f64 0, .float .f64 0] 52)).alloc (.cells #[.float .f64 b.x0, .float .f64 b.y0, .float .f64 b.x1, .float .f64 b.y1] 52)) (w.heap.size + 1) 52 (bxA b) := by
    have := Blk.new (w.alloc (.cells #[.float .f64 0, .float .f64 0, .float .f64 0, .float .f64 0] 52)) 52 (bxA b)
    rw [show (w.alloc (.cells #[.float .f64 0, .float .f64 0, .float .f64 0, .float .f64 0] 52)).heap.size = w.heap.size + 1 by simp] at this
    exact this
  have hA0 : Blk ((w.alloc (.cells #[.float .f64 0, .float .f64 0, .float .f64 0, .float .f64 0] 52)).alloc (.cells #[.float .f64 b.x0, .float .f64 b.y0, .float .f64 b.x1, .float .f64 b.y1] 52)) w.heap.size 52 #[.float .f64 0, .float .f64 0, .float .f64 0, .float .f64 0] := (Blk.new w _ _).alloc _
  have hb0 : Below w.heap.size w ((w.alloc (.cells #[.float .f64 0, .float .f64 0, .float .f64 0, .float .f64 0] 52)).alloc (.cells #[.float .f64 b.x0, .float .f64 b.y0, .float .f64 b.x1, .float .f64 b.y1] 52)) := ((Below.refl _ _).alloc (Nat.le_refl _) _).alloc (by simp) _
  obtain ⟨wA, hwA⟩ : ∃ wA, wA = (w.alloc (.cells #[.float .f64 0, .float .f64 0, .float .f64 0, .float .f64 0] 52)).alloc (.cells #[.float .f64 b.x0, .float .f64 b.y0, .float .f64 b.x1, .float .f64 b.y1] 52) := ⟨_, rfl⟩
  rw [← hwA] at hB0 hA0 hb0 ⊢
  have HB0 := Lib.hid hB0
  have HA0 := Lib.hid hA0
  have HBL0 := Lib.hid hb0
  clear hB0 hA0 hb0 hwA c0 c1 c2 c3
  go_loopg [4] (k - 1) (fun q ci wr => ∃ i, i + q = k - 1 ∧ ci = .int .i64 (i + 1 : Nat) ∧ Blk wr (w.heap.size + 1) 52 (bxA (hq (fun i => (e i).bx) i)) ∧ Blk wr w.heap.size 52 #[.float .f64 0, .float .f64 0, .float .f64 0, .float .f64 0] ∧ Below w.heap.size w wr)
  case atStart => exact ⟨0, by omega, by go_num, by rw [show hq (fun i => (e i).bx) 0 = b from HBX.out.symm]; exact HB0.out, HA0.out, HBL0.out⟩
  case round =>
    obtain ⟨i, hi', rfl, hB, hA, hbl⟩ := hrel
    have HI := Lib.hid hi'
    have HB := Lib.hid hB
    have HA := Lib.hid hA
    have HBL := Lib.hid hbl
    have hin : i ≤ k - 1 := by omega
    have d24 := (HBL.out.cell (p := ⟨c, 24, none⟩) hcl).trans h24
    obtain ⟨B, hBe⟩ : ∃ B, B = hq (fun i => (e i).bx) i := ⟨_, rfl⟩
    rw [← hBe] at hB
    obtain ⟨e0, e1, e2, e3, k0, k1, k2, k3, el⟩ := cells4 hB
    have HBE := Lib.hid hBe
    have hcn : c ≠ w.heap.size := by omega
    have hcn1 : c ≠ w.heap.size + 1 := by omega
    have hj : ((i + 1 : Nat) : Int) ≤ 4 := by omega
    obtain ⟨j, hjj⟩ : ∃ j, j = i + 1 := ⟨_, rfl⟩
    rw [← hjj] at hj ⊢
    have HJJ := Lib.hid hjj
    clear hi' hB hA hbl hBe hjj
    by_cases hlt : j < k
    · obtain ⟨c0, c1, c2, c3⟩ := HN.out.b4 (i := j) hlt
      have d0 := (HBL.out.cell (p := ⟨c, j * 6, none⟩) hcl).trans c0
      have d1 := (HBL.out.cell (p := ⟨c, j * 6 + 1, none⟩) hcl).trans c1
      have d2 := (HBL.out.cell (p := ⟨c, j * 6 + 2, none⟩) hcl).trans c2
      have d3 := (HBL.out.cell (p := ⟨c, j * 6 + 3, none⟩) hcl).trans c3
      obtain ⟨q, hfi⟩ : ∃ q, (e j).bx = q := ⟨_, rfl⟩
      rw [hfi] at d0 d1 d2 d3
      have HFI := Lib.hid hfi
      have hj4 : j < 4 := by omega
      have hj5 : (j : Int) < 4 := by omega
      have hltI : (j : Int) < (k : Int) := by omega
      have hcb := combine_calls B q
      have HCB := Lib.hid hcb
      clear c0 c1 c2 c3 hfi hcb
      go_wp2_with fail
      go_still_tail 8, (by kernel_rfl)
      change wpList _ _ _ _ _ wr.drew
      go_wp2_with fail
      refine (HCB.out _).mono ?_
      rintro r w2 ⟨rfl, hb2⟩
      have hb02 : Below wr.heap.size wr w2 := (Below.refl wr.heap.size wr).drew.trans hb2
      have hB2 := HB.out.below hb02 HB.out.lt
      have HB2 := Lib.hid hB2
      have HA2 := Lib.hid (HA.out.below hb02 HA.out.lt)
      have HBL2 := Lib.hid (HBL.out.trans (hb02.mono HBL.out.size))
      obtain ⟨z0, z1, z2, z3, y0', y1', y2', y3', zl⟩ := cells4 hB2
      clear d0 d1 d2 d3 e0 e1 e2 e3 k0 k1 k2 k3 hb2 hb02 hB2
      simp only [bxA]
      go_wp2_with fail
      go_roundg (k - 1 - j)
      case measure => have := HI.out; have := HJJ.out; omega
      case rel =>
        refine ⟨j, by omega, by go_num, ?_, ?_, set4 HBL2.out (by omega) _ _ _ _⟩
        · have := (((HB2.out.set_ 0 (.float .f64 (comb B q).x0)).set_ 1 (.float .f64 (comb B q).y0)).set_ 2 (.float .f64 (comb B q).x1)).set_ 3 (.float .f64 (comb B q).y1)
          have e : hq (fun i => (e i).bx) j = comb B q := by rw [HJJ.out]; show comb (hq (fun i => (e i).bx) i) (e (i + 1)).bx = _; rw [← HBE.out, ← HJJ.out, HFI.out]
          rw [e]
          simpa [bxA] using this
        · exact (((HA2.out.far (by show w.heap.size ≠ w.heap.size + 1; omega) _).far (by show w.heap.size ≠ w.heap.size + 1; omega) _).far (by show w.heap.size ≠ w.heap.size + 1; omega) _).far (by show w.heap.size ≠ w.heap.size + 1; omega) _
    · have hj2 : i = k - 1 := by have := HJJ.out; omega
      have hBR : B = R := by rw [HBE.out, HR.out, hj2, Q.bx_sub]
      have HBR := Lib.hid hBR
      have hltI : (k : Int) ≤ (j : Int) := by omega
      obtain ⟨a0, a1, a2, a3, b0, b1, b2, b3, al⟩ := cells4 HA.out
      clear hj2 hBR
      go_wp2_with fail
      have hW : Blk ((((wr.setCell ⟨w.heap.size, 0, none⟩ (.float .f64 B.x0)).setCell ⟨w.heap.size, 1, none⟩ (.float .f64 B.y0)).setCell ⟨w.heap.size, 2, none⟩ (.float .f64 B.x1)).setCell ⟨w.heap.size, 3, none⟩ (.float .f64 B.y1)) w.heap.size 52 (bxA B) := by
        have := (((HA.out.set_ 0 (.float .f64 B.x0)).set_ 1 (.float .f64 B.y0)).set_ 2 (.float .f64 B.x1)).set_ 3 (.float .f64 B.y1)
        simpa [bxA] using this
      have hbW := set4 HBL.out (Nat.le_refl _) (.float .f64 B.x0) (.float .f64 B.y0) (.float .f64 B.x1) (.float .f64 B.y1)
      obtain ⟨W, hWe⟩ : ∃ W, W = (((wr.setCell ⟨w.heap.size, 0, none⟩ (.float .f64 B.x0)).setCell ⟨w.heap.size, 1, none⟩ (.float .f64 B.y0)).setCell ⟨w.heap.size, 2, none⟩ (.float .f64 B.x1)).setCell ⟨w.heap.size, 3, none⟩ (.float .f64 B.y1) := ⟨_, rfl⟩
      rw [← hWe] at hW hbW ⊢
      obtain ⟨f0, f1, f2, f3, -, -, -, -, -⟩ := cells4 hW
      exact bodyPost_ret (v := .agg (bxA B)) (by simp [results, Tryd.results32, go_sem, bxA, f0, f1, f2, f3]) rfl ⟨by rw [HBR.out], hbW⟩
end Go.Proofs.YtflaklceejokhaaDoor.tree
