/-
  Words for memory that all walks of this seat share: a block known whole, a slice that reads as a list, a world that has grown but for one block. No condition.
-/
import Derived.Test.YtlnjnecjmnfiaaaLift
import Derived.Recover
import Derived.Defers
import Derived.WalkLawsBesides
import Derived.WalkSpells
import Derived.BigQuiet
import Derived.RegionTactic
import Derived.Deep.QuietTactic
import Derived.Deep.Draws
import Derived.Laws.Rows
import Derived.Laws.OwnMore
import Derived.OwnWalk
import Derived.Lib.Hide
import Derived.LoopTactic
namespace Go.Proofs.Ytlnjnecjmnfiaaa.mem
open Go.ChangeShapes Go.WideShapes Go.ChangeAt Go.RowKit
set_option linter.unusedVariables false
set_option linter.unusedSimpArgs false

/-- Block g is just the cells cs of element type t, none of them frozen. -/
def Blk (w : World) (g : Nat) (t : TypeId) (cs : Array Value) : Prop := ∃ fr : Nat × Nat, w.heap[g]? = some (.cells cs t fr) ∧ ∀ i, i < cs.size → ¬ (fr.1 ≤ i ∧ i < fr.2)

section
variable {w w' : World} {g : Nat} {t : TypeId} {cs : Array Value}
theorem Blk.lt (h : Blk w g t cs) : g < w.heap.size := by obtain ⟨fr, h, _⟩ := h; exact (Array.getElem?_eq_some_iff.1 h).1
theorem Blk.cell (h : Blk w g t cs) (i : Nat) : w.cell? ⟨g, i, none⟩ = cs[i]? := by obtain ⟨fr, h, _⟩ := h; exact cell_of_row w g i cs t fr h
theorem Blk.frozen (h : Blk w g t cs) (i : Nat) (hi : i < cs.size) : w.frozen? ⟨g, i, none⟩ = false := by
  obtain ⟨fr, h, hf⟩ := h
  have := hf i hi
  simp only [World.frozen?, h]
  simpa using this
theorem Blk.of_heap (h : Blk w g t cs) (e : w'.heap[g]? = w.heap[g]?) : Blk w' g t cs := by obtain ⟨fr, h, hf⟩ := h; exact ⟨fr, e.trans h, hf⟩
theorem Blk.new (w : World) (t : TypeId) (cs : Array Value) : Blk (w.alloc (.cells cs t)) w.heap.size t cs := ⟨(0, 0), heap_alloc_new w _, fun i _ h => by omega⟩
theorem Blk.newMark (w : World) (t : TypeId) (cs : Array Value) (a b : Nat) (h : cs.size ≤ a) : Blk (w.alloc (.cells cs t (a, b))) w.heap.size t cs := ⟨(a, b), heap_alloc_new w _, fun i hi h => by simp at h; omega⟩
theorem Blk.alloc (h : Blk w g t cs) (o : Obj) : Blk (w.alloc o) g t cs := h.of_heap (Below.heap_alloc w o g h.lt)
theorem Blk.set_ (h : Blk w g t cs) (i : Nat) (u : Value) : Blk (w.setCell ⟨g, i, none⟩ u) g t (cs.setIfInBounds i u) := by
  obtain ⟨fr, h, hf⟩ := h
  exact ⟨fr, by simp [World.setCell, Array.getElem?_modify, h], fun j hj => hf j (by simpa using hj)⟩
theorem Blk.far (h : Blk w g t cs) {p : Addr} (hp : g ≠ p.block) (u : Value) : Blk (w.setCell p u) g t cs := h.of_heap (Below.heap_setCell w p u g hp)
theorem Blk.below {B : Nat} (h : Blk w g t cs) (hb : Below B w w') (hg : g < B) : Blk w' g t cs := h.of_heap (hb.block g hg)
theorem Blk.grown {row : Option Nat} (h : Blk w g t cs) (hb : w.grownBy w' row) (hg : some g ≠ row) : Blk w' g t cs := h.of_heap (hb.block g h.lt hg)
end

theorem grown_trans {a b c : World} {row : Option Nat} (h : a.grownBy b row) (k : b.grownBy c row) : a.grownBy c row :=
  ⟨k.os.trans h.os, k.tape.trans h.tape, k.output.trans h.output, Nat.le_trans h.size k.size, fun i hi hr => (k.block i (Nat.lt_of_lt_of_le hi h.size) hr).trans (h.block i hi hr)⟩
theorem grown_below {a b : World} {row : Option Nat} (h : Below a.heap.size a b) : a.grownBy b row := ⟨h.os, h.tape, h.output, h.size, fun i hi _ => h.block i hi⟩
theorem grown_set (w : World) (p : Addr) (u : Value) : w.grownBy (w.setCell p u) (some p.block) :=
  ⟨rfl, rfl, rfl, by simp [World.setCell], fun k _ hk => Below.heap_setCell _ _ _ _ (fun e => hk (by rw [e]))⟩

/-- The k-th number of a list, 0 beyond its end. -/
def ix (l : List Int) (k : Nat) : Int := l.getD k 0

/-- The slice value '.slice A n c' reads as the numbers zs. -/
def Ints (q : IntKind) (w : World) (B : Nat) (A : Option Addr) (n : Nat) (zs : List Int) : Prop :=
  zs.length = n ∧ n ≤ maxLen ∧ (∀ z ∈ zs, (Lit.int q z).wf = true) ∧ (0 < n → ∃ b off, A = some ⟨b, off, none⟩ ∧ b < B ∧ ∀ j, j < n → w.cell? ⟨b, off + j, none⟩ = some (.int q (ix zs j)))

theorem Ints.keep {q : IntKind} {w w' : World} {B : Nat} {A : Option Addr} {n : Nat} {zs : List Int} (h : Ints q w B A n zs) (hb : Below B w w') : Ints q w' B A n zs :=
  ⟨h.1, h.2.1, h.2.2.1, fun hn => by
    obtain ⟨b, off, e, hlt, hc⟩ := h.2.2.2 hn
    exact ⟨b, off, e, hlt, fun j hj => (hb.cell (p := ⟨b, off + j, none⟩) hlt).trans (hc j hj)⟩⟩

theorem Ints.up {q : IntKind} {w w' : World} {A : Option Addr} {n : Nat} {zs : List Int} (h : Ints q w w.heap.size A n zs) (hb : Below w.heap.size w w') : Ints q w' w'.heap.size A n zs :=
  ⟨h.1, h.2.1, h.2.2.1, fun hn => by
    obtain ⟨b, off, e, hlt, hc⟩ := h.2.2.2 hn
    exact ⟨b, off, e, Nat.lt_of_lt_of_le hlt hb.size, fun j hj => (hb.cell (p := ⟨b, off + j, none⟩) hlt).trans (hc j hj)⟩⟩

/-- A slice of numbers that came in. -/
theorem open_nums {H : Type} {enc : TypeId × Value → H} {P : Program} {q : IntKind} {t e : TypeId} {W : World} {v : Value} {d : DataW H} {p : List MemPlace} {base : Nat}
    (ht : P.underlying t = some (.slice e)) (he : P.underlying e = some (.int q)) (hc : P.cellsOf e = 1)
    (hv : Value.okWide P W .any base t v) (h : DataW.Trod enc P W 0 (fun _ => true) true t v d p) :
    ∃ A n c zs, v = .slice A n c ∧ Ints q W W.heap.size A n zs := by
  obtain ⟨a0, len0, cap0, rfl⟩ := okWide_slice ht hv
  obtain ⟨fuel, hf⟩ := h
  rcases open_ints ht he hc hf with ⟨hcs, _⟩ | ⟨x, l, c, zs, hcs, _, hl, hm, hz, _, hcell, hwz⟩
  · simp [Value.cells] at hcs
    obtain ⟨rfl, rfl, rfl⟩ := hcs
    exact ⟨_, _, _, [], rfl, rfl, Nat.zero_le _, fun z hz => (by cases hz), fun h => absurd h (by omega)⟩
  · simp [Value.cells] at hcs
    obtain ⟨rfl, rfl, rfl⟩ := hcs
    have hzl : zs.length = cap0 := by simpa using hz
    refine ⟨_, _, _, zs.take len0, rfl, by rw [List.length_take]; omega, by omega, fun z hz' => hwz z (List.mem_of_mem_take hz'), fun hn => ?_⟩
    obtain ⟨b, off, spot⟩ := x
    have hc0 := hcell 0 (by omega)
    have hspot : spot = none := by simpa [Addr.add] using World.cell?_spot hc0
    subst hspot
    refine ⟨b, off, rfl, ?_, fun j hj => ?_⟩
    · have := World.block_lt_of_cell? W _ hc0
      simpa [Addr.add] using this
    · have := hcell j (by omega)
      have e1 : (Addr.mk b off none).add j = ⟨b, off + j, none⟩ := by
        unfold Addr.add
        split
        · subst_vars; rfl
        · rfl
      rw [e1] at this
      rw [this]
      congr 2
      unfold ix
      simp [List.getD_eq_getElem?_getD, List.getElem?_take, hj]

/-- An int's bounds. -/
theorem i64_bounds {n : Int} (h : (Lit.int .i64 n).wf = true) : -9223372036854775808 ≤ n ∧ n ≤ 9223372036854775807 := by
  simpa [Lit.wf, IntKind.min, IntKind.max, IntKind.signed, IntKind.bits] using h

end Go.Proofs.Ytlnjnecjmnfiaaa.mem
