/-
  An item stored in a row of items: what the row reads as then.
-/
import Derived.Test.YtflaklceejokhaaDoorTreeD
namespace Go.Proofs.YtflaklceejokhaaDoor.tree
open Go.ChangeShapes Go.WideShapes Go.ChangeAt Go.RowKit
open Go.Proofs.YtflaklceejokhaaDoor.mem Go.Proofs.YtflaklceejokhaaDoor.flt Ieee
set_option linter.unusedVariables false
set_option linter.unusedSimpArgs false

/-! ### memory: an item stored -/
theorem set_get {w : World} {g a : Nat} {u : Value} (h : w.cell? ⟨g, a, none⟩ = some u) (v : Value) (b : Nat) : (w.setCell ⟨g, a, none⟩ v).cell? ⟨g, b, none⟩ = if b = a then some v else w.cell? ⟨g, b, none⟩ := by
  by_cases e : b = a
  · rw [if_pos e, e]
    exact World.cell?_setCell_same w _ _ h
  · rw [if_neg e]
    exact World.cell?_setCell_other w _ _ _ (fun h => e (by have := congrArg Addr.off h; exact this.symm))

def setIt (w : World) (g o : Nat) (p : It) : World :=
  ((((w.setCell ⟨g, o, none⟩ (.float .f64 p.b.x0)).setCell ⟨g, o + 1, none⟩ (.float .f64 p.b.y0)).setCell ⟨g, o + 2, none⟩ (.float .f64 p.b.x1)).setCell ⟨g, o + 3, none⟩ (.float .f64 p.b.y1)).setCell ⟨g, o + 4, none⟩ (.int .i64 p.id)

theorem setIt_get {w : World} {g o : Nat} (p : It) (h : ∀ c, c < 5 → ∃ u, w.cell? ⟨g, o + c, none⟩ = some u) (b : Nat) :
    (setIt w g o p).cell? ⟨g, b, none⟩ = if o ≤ b ∧ b < o + 5 then some (itC p (b - o)) else w.cell? ⟨g, b, none⟩ := by
  obtain ⟨u0, h0⟩ := h 0 (by omega)
  obtain ⟨u1, h1⟩ := h 1 (by omega)
  obtain ⟨u2, h2⟩ := h 2 (by omega)
  obtain ⟨u3, h3⟩ := h 3 (by omega)
  obtain ⟨u4, h4⟩ := h 4 (by omega)
  rw [Nat.add_zero] at h0
  have s1 : (w.setCell ⟨g, o, none⟩ (.float .f64 p.b.x0)).cell? ⟨g, o + 1, none⟩ = some u1 := by rw [set_get h0, if_neg (by omega)]; exact h1
  have s2 : ((w.setCell ⟨g, o, none⟩ (.float .f64 p.b.x0)).setCell ⟨g, o + 1, none⟩ (.float .f64 p.b.y0)).cell? ⟨g, o + 2, none⟩ = some u2 := by
    rw [set_get s1, if_neg (by omega), set_get h0, if_neg (by omega)]; exact h2
  have s3 : (((w.setCell ⟨g, o, none⟩ (.float .f64 p.b.x0)).setCell ⟨g, o + 1, none⟩ (.float .f64 p.b.y0)).setCell ⟨g, o + 2, none⟩ (.float .f64 p.b.x1)).cell? ⟨g, o + 3, none⟩ = some u3 := by
    rw [set_get s2, if_neg (by omega), set_get s1, if_neg (by omega), set_get h0, if_neg (by omega)]; exact h3
  have s4 : ((((w.setCell ⟨g, o, none⟩ (.float .f64 p.b.x0)).setCell ⟨g, o + 1, none⟩ (.float .f64 p.b.y0)).setCell ⟨g, o + 2, none⟩ (.float .f64 p.b.x1)).setCell ⟨g, o + 3, none⟩ (.float .f64 p.b.y1)).cell? ⟨g, o + 4, none⟩ = some u4 := by
    rw [set_get s3, if_neg (by omega), set_get s2, if_neg (by omega), set_get s1, if_neg (by omega), set_get h0, if_neg (by omega)]; exact h4
  unfold setIt
  rw [set_get s4, set_get s3, set_get s2, set_get s1, set_get h0]
  by_cases e4 : b = o + 4
  · rw [if_pos e4, if_pos (by omega), show b - o = 4 by omega]; rfl
  · rw [if_neg e4]
    by_cases e3 : b = o + 3
    · rw [if_pos e3, if_pos (by omega), show b - o = 3 by omega]; rfl
    · rw [if_neg e3]
      by_cases e2 : b = o + 2
      · rw [if_pos e2, if_pos (by omega), show b - o = 2 by omega]; rfl
      · rw [if_neg e2]
        by_cases e1 : b = o + 1
        · rw [if_pos e1, if_pos (by omega), show b - o = 1 by omega]; rfl
        · rw [if_neg e1]
          by_cases e0 : b = o
          · rw [if_pos e0, if_pos (by omega), show b - o = 0 by omega]; rfl
          · rw [if_neg e0, if_neg (by omega)]

theorem setIt_frozen (w : World) (g o : Nat) (p : It) (q : Addr) : (setIt w g o p).frozen? q = w.frozen? q := by simp [setIt]
theorem setIt_size (w : World) (g o : Nat) (p : It) : (setIt w g o p).heap.size = w.heap.size := by simp [setIt]
theorem setIt_grown (w : World) (g o : Nat) (p : It) : w.grownBy (setIt w g o p) (some g) :=
  (((grown_trans (grown_set w ⟨g, o, none⟩ _) (grown_set _ ⟨g, o + 1, none⟩ _)).trans (grown_set _ ⟨g, o + 2, none⟩ _)).trans (grown_set _ ⟨g, o + 3, none⟩ _)).trans (grown_set _ ⟨g, o + 4, none⟩ _)

/-- Block g has turned, and of it the cells from off to off + n * 5 alone; there may be new blocks. -/
def Chg (g off n : Nat) (w w' : World) : Prop :=
  w.grownBy w' (some g) ∧ ∀ o, (o < off ∨ off + n * 5 ≤ o) → w'.cell? ⟨g, o, none⟩ = w.cell? ⟨g, o, none⟩ ∧ w'.frozen? ⟨g, o, none⟩ = w.frozen? ⟨g, o, none⟩
theorem Chg.refl (g off n : Nat) (w : World) : Chg g off n w w := ⟨World.grownBy.refl _ _, fun _ _ => ⟨rfl, rfl⟩⟩
theorem Chg.trans {g off n : Nat} {a b c : World} (h : Chg g off n a b) (k : Chg g off n b c) : Chg g off n a c :=
  ⟨grown_trans h.1 k.1, fun o ho => ⟨(k.2 o ho).1.trans (h.2 o ho).1, (k.2 o ho).2.trans (h.2 o ho).2⟩⟩
theorem Chg.of_below {g off n : Nat} {w w' : World} (hg : g < w.heap.size) (h : Below w.heap.size w w') : Chg g off n w w' :=
  ⟨grown_below h, fun o _ => ⟨h.cell (p := ⟨g, o, none⟩) hg, h.frozen (p := ⟨g, o, none⟩) hg⟩⟩
theorem Chg.wide {g off n off' n' : Nat} {w w' : World} (h : Chg g off n w w') (h1 : off' ≤ off) (h2 : off + n * 5 ≤ off' + n' * 5) : Chg g off' n' w w' :=
  ⟨h.1, fun o ho => h.2 o (by omega)⟩

def upd (f : Nat → It) (i : Nat) (p : It) : Nat → It := fun k => if k = i then p else f k

theorem Row.set {w : World} {g off n : Nat} {f : Nat → It} (h : Row w g off n f) {i : Nat} (hi : i < n) (p : It) : Row (setIt w g (off + i * 5) p) g off n (upd f i p) := by
  refine ⟨by rw [setIt_size]; exact h.1, fun k hk c hc => ⟨?_, by rw [setIt_frozen]; exact (h.2 k hk c hc).2⟩⟩
  rw [setIt_get p (fun c hc => ⟨_, (h.2 i hi c hc).1⟩)]
  unfold upd
  by_cases e : k = i
  · subst e
    rw [if_pos (by omega), if_pos rfl, show off + k * 5 + c - (off + k * 5) = c by omega]
  · rw [if_neg (by omega), if_neg e]
    exact (h.2 k hk c hc).1
theorem Chg.set {w : World} {g off n : Nat} {f : Nat → It} (h : Row w g off n f) {i : Nat} (hi : i < n) (p : It) : Chg g off n w (setIt w g (off + i * 5) p) :=
  ⟨setIt_grown _ _ _ _, fun o ho => ⟨by rw [setIt_get p (fun c hc => ⟨_, (h.2 i hi c hc).1⟩), if_neg (by omega)], setIt_frozen _ _ _ _ _⟩⟩

/-- Two places of a row changed. -/
def swapF (f : Nat → It) (i j : Nat) : Nat → It := fun k => if k = j then f i else if k = i then f j else f k
theorem swapF_eq (f : Nat → It) (i j : Nat) : upd (upd f i (f j)) j (f i) = swapF f i j := by
  funext k
  unfold upd swapF
  by_cases e : k = j <;> simp [e]

end Go.Proofs.YtflaklceejokhaaDoor.tree
