/-
  Contract: the partial sort.
-/
import Derived.Test.YtflaklceejokhaaDoorTreeG
namespace Go.Proofs.YtflaklceejokhaaDoor.tree
open Go.ChangeShapes Go.WideShapes Go.ChangeAt Go.RowKit
open Go.Proofs.YtflaklceejokhaaDoor.mem Go.Proofs.YtflaklceejokhaaDoor.flt Ieee
set_option linter.unusedVariables false
set_option linter.unusedSimpArgs false

theorem Chg.setNew {g off n b : Nat} {w wr : World} (h : Chg g off n w wr) (hg : g < w.heap.size) (hb : w.heap.size ≤ b) (v : Value) : Chg g off n w (wr.setCell ⟨b, 0, none⟩ v) := by
  have hne : g ≠ b := by omega
  refine ⟨⟨h.1.os, h.1.tape, h.1.output, by simpa using h.1.size, fun i hi hr => (Below.heap_setCell wr ⟨b, 0, none⟩ v i (fun e => by have : i = b := e; omega)).trans (h.1.block i hi hr)⟩, fun o ho => ?_⟩
  have h1 : (wr.setCell ⟨b, 0, none⟩ v).cell? ⟨g, o, none⟩ = wr.cell? ⟨g, o, none⟩ := World.cell?_setCell_other wr _ _ _ (fun e => hne (congrArg Addr.block e).symm)
  exact ⟨h1.trans (h.2 o ho).1, (by simp : (wr.setCell ⟨b, 0, none⟩ v).frozen? ⟨g, o, none⟩ = wr.frozen? ⟨g, o, none⟩).trans (h.2 o ho).2⟩

/-- Where the partial sort stands: the row reads as f, the row of random numbers stands at s. -/
structure QW (w wr : World) (g off n c r : Nat) (h : Bool) (f : Nat → It) (s : Nat) : Prop where
  row : Row wr g off n f
  good : ∀ i, i < n → Gd (f i).b
  b1 : Blk wr r 51 #[.slice (some ⟨g, off, none⟩) n c]
  b2 : Blk wr (r + 1) 4 #[.bool h]
  b3 : Blk wr (r + 2) 125 #[.int .u32 s]
  chg : Chg g off n w wr
  new : w.heap.size = r
  glt : g < w.heap.size
  slt : s < 4294967296

section
variable {w wr w' : World} {g off n c r : Nat} {h : Bool} {f : Nat → It} {s : Nat}
theorem QW.below (q : QW w wr g off n c r h f s) (hb : Below wr.heap.size wr w') : QW w w' g off n c r h f s :=
  ⟨q.row.below hb, q.good, q.b1.below hb q.b1.lt, q.b2.below hb q.b2.lt, q.b3.below hb q.b3.lt, q.chg.trans (Chg.of_below q.row.1 hb), q.new, q.glt, q.slt⟩
theorem QW.swap (q : QW w wr g off n c r h f s) {i j : Nat} (hi : i < n) (hj : j < n) (h1 : Row w' g off n (swapF f i j)) (h2 : Chg g off n wr w') : QW w w' g off n c r h (swapF f i j) s := by
  have e := q.glt
  have e2 := q.new
  refine ⟨h1, fun k hk => ?_, q.b1.grown h2.1 (fun e => by have := Option.some.inj e; omega), q.b2.grown h2.1 (fun e => by have := Option.some.inj e; omega), q.b3.grown h2.1 (fun e => by have := Option.some.inj e; omega), q.chg.trans h2, q.new, q.glt, q.slt⟩
  unfold swapF
  split
  · exact q.good i hi
  · split
    · exact q.good j hj
    · exact q.good k hk
theorem QW.rnd (q : QW w wr g off n c r h f s) : QW w (wr.setCell ⟨r + 2, 0, none⟩ (.int .u32 (nxt s : Nat))) g off n c r h f (nxt s) := by
  have e := q.glt
  have e2 := q.new
  refine ⟨⟨by simpa using q.row.1, fun i hi d hd => ⟨?_, by rw [World.frozen?_setCell]; exact (q.row.2 i hi d hd).2⟩⟩, q.good, q.b1.far (fun e => by have : r = r + 2 := e; omega) _, q.b2.far (fun e => by have : r + 1 = r + 2 := e; omega) _, ?_, q.chg.setNew q.glt (by omega) _, q.new, q.glt, nxt_lt s⟩
  · rw [World.cell?_setCell_other wr _ _ _ (fun e => by have : r + 2 = g := congrArg Addr.block e; omega)]
    exact (q.row.2 i hi d hd).1
  · have := q.b3.set_ 0 (.int .u32 (nxt s : Nat))
    simpa using this

theorem less_q (hn : n ≤ 400) (q : QW w wr g off n c r h f s) {i j : Nat} (hi : i < n) (hj : j < n) :
    Calls Tryd.prog 45 #[.int .i64 i, .int .i64 j, .pointer (some ⟨r, 0, none⟩), .pointer (some ⟨r + 1, 0, none⟩)] wr fun e w' => e = .returned (.bool (lessB h (f i) (f j))) ∧ QW w w' g off n c r h f s :=
  (less_calls r (r + 1) g off n c i j h f hn hi hj q.good wr (q.b1.cell 0) (q.b2.cell 0) q.row).mono fun _ _ ⟨he, hb⟩ => ⟨he, q.below hb⟩
theorem swap_q (hn : n ≤ 400) (q : QW w wr g off n c r h f s) {i j : Nat} (hi : i < n) (hj : j < n) :
    Calls Tryd.prog 46 #[.int .i64 i, .int .i64 j, .pointer (some ⟨r, 0, none⟩)] wr fun e w' => e = .returned (.tuple #[]) ∧ QW w w' g off n c r h (swapF f i j) s :=
  (swap_calls r g off n c i j f (by have := q.glt; have := q.new; omega) (by have := q.glt; have := q.new; omega) hn hi hj wr (q.b1.cell 0) q.row).mono fun _ _ ⟨he, h1, h2⟩ => ⟨he, q.swap hi hj h1 h2⟩
theorem rnd_q (q : QW w wr g off n c r h f s) {m : Nat} (hm : m ≤ 400) :
    Calls Tryd.prog 44 #[.int .i64 m, .pointer (some ⟨r + 2, 0, none⟩)] wr fun e w' => e = .returned (.int .i64 (pick s m : Nat)) ∧ QW w w' g off n c r h f (nxt s) :=
  (rnd_calls (r + 2) s m q.slt hm wr q.b3).mono fun _ _ ⟨he, hw⟩ => ⟨he, by rw [hw]; exact q.rnd⟩
theorem less_z (hn : n ≤ 400) (q : QW w wr g off n c r h f s) {i j : Nat} {a b : Int} (ha : a = (i : Int)) (hb : b = (j : Int)) (hi : i < n) (hj : j < n) :
    Calls Tryd.prog 45 #[.int .i64 a, .int .i64 b, .pointer (some ⟨r, 0, none⟩), .pointer (some ⟨r + 1, 0, none⟩)] wr fun e w' => e = .returned (.bool (lessB h (f i) (f j))) ∧ QW w w' g off n c r h f s := by
  subst ha hb; exact less_q hn q hi hj
theorem swap_z (hn : n ≤ 400) (q : QW w wr g off n c r h f s) {i j : Nat} {a b : Int} (ha : a = (i : Int)) (hb : b = (j : Int)) (hi : i < n) (hj : j < n) :
    Calls Tryd.prog 46 #[.int .i64 a, .int .i64 b, .pointer (some ⟨r, 0, none⟩)] wr fun e w' => e = .returned (.tuple #[]) ∧ QW w w' g off n c r h (swapF f i j) s := by
  subst ha hb; exact swap_q hn q hi hj
theorem rnd_z (q : QW w wr g off n c r h f s) {m : Nat} {a : Int} (ha : a = (m : Int)) (hm : m ≤ 400) :
    Calls Tryd.prog 44 #[.int .i64 a, .pointer (some ⟨r + 1 + 1, 0, none⟩)] wr fun e w' => e = .returned (.int .i64 (pick s m : Nat)) ∧ QW w w' g off n c r h f (nxt s) := by
  subst ha; exact rnd_q q hm
end
end Go.Proofs.YtflaklceejokhaaDoor.tree
