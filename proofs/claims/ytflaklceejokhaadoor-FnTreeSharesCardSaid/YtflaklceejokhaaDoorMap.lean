/-
  Words for a map from whole numbers to bools that the call has made: what it holds, a store, a look-up. No condition.
-/
import Derived.Test.YtflaklceejokhaaDoorMem
import Derived.Maps.OwnOps
import Derived.Maps.OwnSet
import Derived.Maps.Views
namespace Go.Proofs.YtflaklceejokhaaDoor.mem
open Go.ChangeShapes Go.WideShapes Go.ChangeAt Go.RowKit Go.Maps
set_option linter.unusedVariables false
set_option linter.unusedSimpArgs false

theorem keyInt : Keyed Tryd.prog 3 := int_keyed Tryd.underlying3
theorem zeroBool (w : World) : (zeroValue 4).run Tryd.prog w = .ok (.bool false) w := by kernel_rfl

/-- An element that reads as a bool's datum IS that bool. -/
theorem plainElem_bool_inv {H : Type} {P : Program} {e : TypeId} (he : P.underlying e = some .bool) {v : Value} {z : DataW H × List MemPlace} (h : plainElem P e v = some z) : ∃ a, v = .bool a ∧ z = (.lit (.bool a), []) := by
  unfold plainElem at h
  rw [he] at h
  cases v <;> simp at h
  subst h
  exact ⟨_, rfl, rfl⟩

/-- Block b is a map of at most n entries that tells f i at each whole number i, false where there is none. -/
def BM (w : World) (b n : Nat) (f : Int → Bool) : Prop := ∃ D : DataW Unit, w.ownsMap Tryd.prog 3 (plainElem Tryd.prog 4) b n D ∧ ∀ i, D.atKey (.int .i64 i) (.lit (.bool false)) = .lit (.bool (f i))

section
variable {w w' : World} {b n : Nat} {f : Int → Bool}
theorem BM.made (w : World) : BM (w.alloc (.map #[] 0)) w.heap.size 0 (fun _ => false) := ⟨_, World.ownsMap_made _ _ _ _, fun i => rfl⟩
theorem BM.lt (h : BM w b n f) : b < w.heap.size := by obtain ⟨D, h, _⟩ := h; exact h.lt
theorem BM.kept {row : Option Nat} (h : BM w b n f) (hg : w.grownBy w' row) (hne : some b ≠ row) : BM w' b n f := by obtain ⟨D, h, hf⟩ := h; exact ⟨D, h.kept hg hne, hf⟩
theorem BM.below (h : BM w b n f) (hb : Below w.heap.size w w') : BM w' b n f := h.kept (grown_below (row := none) hb) (by simp)
theorem BM.more (h : BM w b n f) {m : Nat} (hm : n ≤ m) : BM w b m f := by obtain ⟨D, h, hf⟩ := h; exact ⟨D, h.mono hm, hf⟩

theorem BM.lookup (h : BM w b n f) {t : TypeId} (ht : Tryd.prog.underlying t = some (.map 3 4)) (i : Int) (hi : (Lit.int .i64 i).wf = true) :
    (Instr.lookup t (.map (some b)) (.int .i64 i) false).run Tryd.prog w = .ok (.bool (f i)) w := by
  obtain ⟨D, h, hf⟩ := h
  obtain ⟨v, ps, hrun, hv⟩ := h.lookup keyInt ht (zeroBool w) (plainElem_bool Tryd.underlying4 false) (keyOf_int_mk Tryd.underlying3 hi)
  rw [hf i] at hv
  obtain ⟨a, rfl, ha⟩ := plainElem_bool_inv Tryd.underlying4 hv
  simp only [Prod.mk.injEq, DataW.lit.injEq, Lit.bool.injEq] at ha
  rw [hrun, ha.1]

theorem BM.update (h : BM w b n f) {t : TypeId} (ht : Tryd.prog.underlying t = some (.map 3 4)) (i : Int) (hi : (Lit.int .i64 i).wf = true) (v : Bool) (hn : n < maxLen) :
    ∃ w', (Instr.mapUpdate t (.map (some b)) (.int .i64 i) (.bool v)).run Tryd.prog w = .ok () w' ∧ BM w' b (n + 1) (fun j => if j = i then v else f j) ∧ w.grownBy w' (some b) := by
  obtain ⟨D, h, hf⟩ := h
  obtain ⟨w', hrun, h2, hg⟩ := h.update keyInt ht hn (keyOf_int_mk Tryd.underlying3 hi) (plainElem_bool (H := Unit) Tryd.underlying4 v)
  refine ⟨w', hrun, ⟨_, h2, fun j => ?_⟩, hg⟩
  by_cases e : j = i
  · subst e
    rw [atKey_put_same (k := .int .i64 j) h.isMap (show WideAt.IsKeyLit (.int .i64 j) from trivial)]
    simp
  · rw [atKey_put_other (fun h => e (by simpa using h)), hf j]
    simp [e]
end

theorem wpList_get_bm (w : World) {ops : Array Oper} {rest : List Oper} {o : Oper} {a : Act} {Q : Exit → Act → World → Prop}
    (hg : o.guard = none) (m x : Operand) (t : TypeId) (hop : o.op = Op.lookup t m x false) (ht : Tryd.prog.underlying t = some (.map 3 4)) (b n : Nat) (f : Int → Bool)
    (hm : a.eval m = .map (some b)) (h : BM w b n f) (i : Int) (hx : a.eval x = .int .i64 i) (hi : (Lit.int .i64 i).wf = true)
    (hK : wpList Tryd.prog ops Q rest (a.put o.dst (.bool (f i))) w) : wpList Tryd.prog ops Q (o :: rest) a w := by
  refine wpList_plain hg fun K' hK' => ?_
  have hrun := h.lookup ht i hi
  unfold Oper.wp
  simp [execOp, hop, hm, hx, hrun, Result.andThen]
  exact hK' _ _ hK

theorem wpList_put_bm (w : World) {ops : Array Oper} {rest : List Oper} {o : Oper} {a : Act} {Q : Exit → Act → World → Prop}
    (hg : o.guard = none) (m x v : Operand) (t : TypeId) (hop : o.op = Op.mapUpdate t m x v ∨ o.op = Op.insert t m x v) (ht : Tryd.prog.underlying t = some (.map 3 4)) (b n : Nat) (f : Int → Bool)
    (hm : a.eval m = .map (some b)) (h : BM w b n f) (i : Int) (hx : a.eval x = .int .i64 i) (hi : (Lit.int .i64 i).wf = true) (y : Bool) (hv : a.eval v = .bool y) (hn : n < maxLen)
    (hK : ∀ w', BM w' b (n + 1) (fun j => if j = i then y else f j) → w.grownBy w' (some b) → wpList Tryd.prog ops Q rest (a.put o.dst undef) w') : wpList Tryd.prog ops Q (o :: rest) a w := by
  refine wpList_plain hg fun K' hK' => ?_
  obtain ⟨w', hrun, r1, r2⟩ := h.update ht i hi y hn
  unfold Oper.wp
  rcases hop with hop | hop
  all_goals
    simp [execOp, hop, hm, hx, hv, hrun, Result.andThen]
    exact hK' _ _ (hK w' r1 r2)
end Go.Proofs.YtflaklceejokhaaDoor.mem
