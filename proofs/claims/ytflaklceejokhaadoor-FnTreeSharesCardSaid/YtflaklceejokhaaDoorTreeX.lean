/-
  A search through a box, plainly; what a search asks of a callback; errors.Is of none.
-/
import Derived.Test.YtflaklceejokhaaDoorTreeW
namespace Go.Proofs.YtflaklceejokhaaDoor.tree
open Go.ChangeShapes Go.WideShapes Go.ChangeAt Go.RowKit
open Go.Proofs.YtflaklceejokhaaDoor.mem Go.Proofs.YtflaklceejokhaaDoor.flt Ieee
set_option linter.unusedVariables false
set_option linter.unusedSimpArgs false

/-- Whether an error is the one that stops. -/
def Er.isStop : Er → Bool
  | .stop => true
  | .wstop => true
  | _ => false
def Er.isNone : Er → Bool
  | .none => true
  | _ => false

theorem eqNS (S : Addr) (w : World) : (binOp .eql 58 .nilIface (.iface 129 (.pointer (some S)))).run Tryd.prog w = .ok (.bool false) w := by kernel_rfl

set_option maxRecDepth 100000 in
set_option maxHeartbeats 8000000 in
theorem is_none (S : Addr) (w : World) : Calls Tryd.prog 27 #[Er.none.v S, Er.stop.v S] w fun e w' => e = .returned (.bool false) ∧ Below w.heap.size w w' := by
  unfold Er.v
  have h1 := eqNS S
  go_enter Tryd.func27, Tryd.ntmps27
  go_wp2_with fail
  exact bodyPost_ret (v := .bool false) (by simp [results, Tryd.results27, go_sem]) rfl ⟨rfl, Below.refl _ _⟩

/-- What a search asks of its callback, a closure fn over p1 and p2: St w l F says that it has noted l, F the blocks that are its own (none below B). -/
structure Cb (B fn : Nat) (p1 p2 : Value) (S : Addr) (ans : List Int → Er) (St : World → List Int → (Nat → Prop) → Prop) : Prop where
  call : ∀ w l F id, l.length ≤ 100000 → St w l F → Calls Tryd.prog fn #[.int .i64 id, p1, p2] w fun e w' => e = .returned ((ans (l ++ [id])).v S) ∧ ∃ F', St w' (l ++ [id]) F' ∧ Fr F w w' ∧ ∀ b, F' b → F b ∨ w.heap.size ≤ b
  keep : ∀ w w' l F G, St w l F → Fr G w w' → (∀ b, G b → B ≤ b) → (∀ b, F b → ¬ G b) → St w' l F
  enter : ∀ args w, (callFunc fn args).run Tryd.prog w = .ok (.enter fn args) w
  lt : ∀ w l F b, St w l F → F b → B ≤ b ∧ b < w.heap.size
  gv : ∀ w l F, St w l F → GV w S
  is : ∀ l id w, Calls Tryd.prog 27 #[(ans (l ++ [id])).v S, Er.stop.v S] w fun e w' => e = .returned (.bool (ans (l ++ [id])).isStop) ∧ Below w.heap.size w w'

/-! ### a search through a box, plainly -/
/-- The loop through the entries of a node. -/
def loopV (vs : Nat → List Int → List Int × Er × Bool) : Nat → Nat → List Int → List Int × Er
  | 0, _, l => (l, .none)
  | d + 1, i, l => if (vs i l).2.2 = true then ((vs i l).1, (vs i l).2.1) else loopV vs d (i + 1) (vs i l).1
/-- What an entry does to what is noted; the error; whether the node's loop ends. -/
def visit (ans : List Int → Er) (b : Bx) : Q → List Int → List Int × Er × Bool
  | .item p, l => if ov p.b b = true then (if (ans (l ++ [p.id])).isStop = true then (l ++ [p.id], .none, true) else (l ++ [p.id], ans (l ++ [p.id]), !(ans (l ++ [p.id])).isNone)) else (l, .none, false)
  | .sub k e, l => if ov (hq (fun i => (e i).bx) (k - 1)) b = true then ((loopV (fun i => visit ans b (e i)) k 0 l).1, (loopV (fun i => visit ans b (e i)) k 0 l).2, !(loopV (fun i => visit ans b (e i)) k 0 l).2.isNone) else (l, .none, false)

def cntF (c : Nat → Nat) : Nat → Nat
  | 0 => 0
  | k + 1 => cntF c k + c k
/-- How many items there are. -/
def Q.cnt : Q → Nat
  | .item _ => 1
  | .sub k e => cntF (fun i => (e i).cnt) k

theorem loopV_len {vs : Nat → List Int → List Int × Er × Bool} {c : Nat → Nat} (h : ∀ i l, (vs i l).1.length ≤ l.length + c i) : ∀ (d i : Nat) (l : List Int), (loopV vs d i l).1.length + cntF c i ≤ l.length + cntF c (i + d)
  | 0, i, l => by show l.length + _ ≤ _; exact Nat.le_refl _
  | d + 1, i, l => by
    have h1 := h i l
    have h2 := loopV_len h d (i + 1) (vs i l).1
    have h3 : cntF c (i + 1) = cntF c i + c i := rfl
    have h4 : ∀ d, cntF c (i + 1) ≤ cntF c (i + 1 + d) := by
      intro d
      induction d with
      | zero => exact Nat.le_refl _
      | succ d ih => exact Nat.le_trans ih (Nat.le_add_right _ _)
    have h5 := h4 d
    rw [show i + (d + 1) = i + 1 + d by omega]
    unfold loopV
    split
    · show (vs i l).1.length + _ ≤ _; omega
    · omega
theorem visit_len (ans : List Int → Er) (b : Bx) : ∀ (q : Q) (l : List Int), (visit ans b q l).1.length ≤ l.length + q.cnt
  | .item p, l => by
    unfold visit Q.cnt
    split
    · split <;> simp
    · simp
  | .sub k e, l => by
    unfold visit Q.cnt
    split
    · have := loopV_len (vs := fun i => visit ans b (e i)) (c := fun i => (e i).cnt) (fun i l => visit_len ans b (e i) l) k 0 l
      simp only [cntF, Nat.zero_add] at this
      exact this
    · simp

/-- Where a search through a box stands: the variables that its closures share lie in the blocks r, r + 1, r + 2. -/
structure RS (L : Nat) (w0 wr : World) (St : World → List Int → (Nat → Prop) → Prop) (r : Nat) (b : Bx) (cb : Value) (l : List Int) (F : Nat → Prop) : Prop where
  keep : Keep L w0 wr
  st : St wr l F
  b0 : Blk wr r 52 (bxA b)
  b1 : Blk wr (r + 1) 63 #[cb]
  b2 : Blk wr (r + 2) 76 #[.func (.func 25) #[] #[.pointer (some ⟨r, 0, none⟩), .pointer (some ⟨r + 1, 0, none⟩), .pointer (some ⟨r + 2, 0, none⟩)]]
  rge : w0.heap.size ≤ r
  apart : ∀ x, F x → x < r ∨ r + 2 < x

section
variable {B fn L : Nat} {p1 p2 : Value} {S : Addr} {ans : List Int → Er} {St : World → List Int → (Nat → Prop) → Prop} {w0 wr w' : World} {r : Nat} {b : Bx} {cb : Value} {l : List Int} {F : Nat → Prop}
theorem RS.below (C : Cb B fn p1 p2 S ans St) (h : RS L w0 wr St r b cb l F) (hb : Below wr.heap.size wr w') : RS L w0 w' St r b cb l F :=
  ⟨h.keep.trans (Keep.of_below hb), C.keep wr w' l F (fun _ => False) h.st (Fr.of_below hb) (fun _ h => h.elim) (fun _ _ h => h), h.b0.below hb h.b0.lt, h.b1.below hb h.b1.lt, h.b2.below hb h.b2.lt, h.rge, h.apart⟩
theorem RS.called (C : Cb w0.heap.size fn p1 p2 S ans St) (h : RS L w0 wr St r b cb l F) {l' : List Int} {F' : Nat → Prop} (hs : St w' l' F') (hf : Fr F wr w') (hF : ∀ b, F' b → F b ∨ wr.heap.size ≤ b) : RS L w0 w' St r b cb l' F' := by
  have hl := C.lt wr l F
  have l2 := h.b2.lt
  refine ⟨⟨Nat.le_trans h.keep.1 hf.size, fun c h1 h2 => (hf.block c (Nat.lt_of_lt_of_le h2 h.keep.1) (fun hx => by have := (hl c h.st hx).1; omega)).trans (h.keep.2 c h1 h2)⟩, hs, h.b0.of_heap (hf.block _ h.b0.lt (fun hx => by have := h.apart _ hx; omega)), h.b1.of_heap (hf.block _ h.b1.lt (fun hx => by have := h.apart _ hx; omega)), h.b2.of_heap (hf.block _ h.b2.lt (fun hx => by have := h.apart _ hx; omega)), h.rge, fun x hx => ?_⟩
  rcases hF x hx with h1 | h1
  · exact h.apart x h1
  · exact .inr (by omega)
end
end Go.Proofs.YtflaklceejokhaaDoor.tree
