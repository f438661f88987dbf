/-
  Bytes so far, in a row of their own.
-/
import Derived.Test.YtpfgdfgifdbijaaDoorFfG
namespace Go.Proofs.YtpfgdfgifdbijaaDoor.ff
open Go.ChangeShapes Go.WideShapes Go.ChangeAt Go.RowKit
open Go.Proofs.YtpfgdfgifdbijaaDoor.mem
set_option linter.unusedVariables false
set_option linter.unusedSimpArgs false

/-- Bytes as cells. -/
def BY (l : List Nat) : List Value := l.map (fun b => .int .u8 (b : Nat))
theorem BY_one (l : List Nat) : ∀ v ∈ BY l, v.oneCell' = true := by
  intro v hv
  obtain ⟨b, _, rfl⟩ := List.mem_map.1 hv
  rfl
/-- While bytes are written: the row, a block B beside it. -/
structure FI (base B : Nat) (w : World) (A : Option Addr) (c : Nat) (l : List Nat) (wx : World) : Prop where
  own : wx.ownsRow base 5 1 (.slice A l.length c) l.length (BY l)
  ne : (Value.slice A l.length c).ownBlock ≠ some B
  blk : wx.heap[B]? = w.heap[B]?
  bel : Below base w wx
  lt : B < w.heap.size
  low : base ≤ w.heap.size
section
variable {base B : Nat} {w wx w8 : World} {A A8 : Option Addr} {c c8 : Nat} {l : List Nat} {ob : Obj}
theorem FI.next {v : Nat} (h : FI base B w A c l wx) (ho8 : w8.ownsRow base 5 1 (.slice A8 (l.length + 1) c8) (l.length + 1) (BY l ++ [.int .u8 (v : Nat)])) (hg8 : (wx.alloc ob).grownBy w8 (Value.slice A l.length c).ownBlock)
    (ha8 : (Value.slice A8 (l.length + 1) c8).ownBlock = (Value.slice A l.length c).ownBlock ∨ (Value.slice A8 (l.length + 1) c8).ownBlock = some (wx.alloc ob).heap.size) : FI base B w A8 c8 (l ++ [v]) w8 := by
  have hll : (l ++ [v]).length = l.length + 1 := by simp
  have h1 : Below wx.heap.size wx (wx.alloc ob) := (Below.refl _ _).alloc (Nat.le_refl _) _
  have hs := h1.size
  have hws := h.bel.size
  have hl := h.lt
  have hlo := h.low
  have hbl : Below base wx w8 := by
    refine ⟨hg8.os.trans h1.os, hg8.tape.trans h1.tape, hg8.output.trans h1.output, Nat.le_trans hs hg8.size, fun j hj => (hg8.block j (by omega) (fun e => ?_)).trans (h1.block j (by omega))⟩
    have := (h.own.lt _ e.symm).1
    omega
  refine ⟨?_, ?_, ?_, h.bel.trans hbl, hl, hlo⟩
  · rw [hll, show BY (l ++ [v]) = BY l ++ [.int .u8 (v : Nat)] by simp [BY]]
    exact ho8
  · rw [hll]
    rcases ha8 with e | e
    · rw [e]; exact h.ne
    · rw [e]
      intro h2
      have := Option.some.inj h2
      omega
  · exact ((hg8.block B (by omega) (fun e => h.ne e.symm)).trans (h1.block B (by omega))).trans h.blk
theorem FI.cell (h : FI base B w A c l wx) (j : Nat) : wx.cell? ⟨B, j, none⟩ = w.cell? ⟨B, j, none⟩ := by
  unfold World.cell?
  rw [h.blk]
end
end Go.Proofs.YtpfgdfgifdbijaaDoor.ff
