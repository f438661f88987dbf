/-
  Contracts: an edge made of plain data, whether it is taken as a line.
-/
import Derived.Test.YtlnjnecjmnfiaaaSel
namespace Go.Proofs.Ytlnjnecjmnfiaaa.takes
open Go.ChangeShapes Go.WideShapes Go.ChangeAt Go.RowKit
open Go.Proofs.Ytlnjnecjmnfiaaa.sel
set_option linter.unusedVariables false

/-- A half edge as memory has it: the face beside it, its twin and the face beside that one. -/
structure Edge (w : World) (g : Nat) (l0 l1 r0 r1 i0 i1 x : Bool) : Prop where
  ext : w.cell? ⟨g, 13, none⟩ = some (.bool x)
  in0 : w.cell? ⟨g, 11, none⟩ = some (.bool i0)
  in1 : w.cell? ⟨g, 12, none⟩ = some (.bool i1)
  free : w.frozen? ⟨g, 13, none⟩ = false
  rest : ∃ f t k, g < w.heap.size ∧ f < w.heap.size ∧ t < w.heap.size ∧ k < w.heap.size ∧ w.cell? ⟨g, 2, none⟩ = some (.pointer (some ⟨f, 0, none⟩)) ∧ w.cell? ⟨g, 1, none⟩ = some (.pointer (some ⟨t, 0, none⟩)) ∧
    w.cell? ⟨t, 2, none⟩ = some (.pointer (some ⟨k, 0, none⟩)) ∧ w.cell? ⟨f, 1, none⟩ = some (.bool l0) ∧ w.cell? ⟨f, 2, none⟩ = some (.bool l1) ∧ w.cell? ⟨k, 1, none⟩ = some (.bool r0) ∧ w.cell? ⟨k, 2, none⟩ = some (.bool r1)

set_option maxHeartbeats 4000000 in
theorem doorEdge_any (l0 l1 r0 r1 i0 i1 : Bool) (w : World) :
    Calls Try.prog 32 #[.agg #[.bool l0, .bool l1], .agg #[.bool r0, .bool r1], .agg #[.bool i0, .bool i1]] w fun e w' =>
      ∃ g, e = .returned (.pointer (some ⟨g, 0, none⟩)) ∧ w.heap.size ≤ g ∧ Edge w' g l0 l1 r0 r1 i0 i1 false ∧ Below w.heap.size w w' := by
  go_enter Try.func32, Try.ntmps32
  go_wp2_with fail
  go_ret
  refine ⟨w.heap.size + 4, rfl, by omega, ⟨?_, ?_, ?_, ?_, w.heap.size + 3, w.heap.size + 6, w.heap.size + 5, ?_⟩, by repeat (first | exact Below.refl _ _ | refine Below.alloc ?_ (by simp; try omega) _)⟩
  all_goals simp [go_sem]

set_option maxHeartbeats 4000000 in
theorem should_any (op : Nat) (hop : op ≤ 3) (l0 l1 r0 r1 i0 i1 x : Bool) (g : Nat) (w : World) (h : Edge w g l0 l1 r0 r1 i0 i1 x) :
    Calls Try.prog 34 #[.pointer (some ⟨g, 0, none⟩), .func (.func (opFn op)) #[] #[]] w fun e w' =>
      e = .returned (.bool (!x && taken op i0 i1 && !taken op l0 l1 && !taken op r0 r1)) ∧ Below w.heap.size w w' := by
  have hcf := callFunc_op op hop
  obtain ⟨hx, hi0, hi1, _, f, t, k, lg, lf, lt, lk, hf, ht, hk, hl0, hl1, hr0, hr1⟩ := h
  cases x
  · go_enter Try.func34, Try.ntmps34
    go_wp2_with fail
    refine (op_any op hop i0 i1 _).mono ?_; rintro e w1 ⟨rfl, h1⟩
    have hc := fun b o (h : b < w.heap.size) => h1.cell (p := ⟨b, o, none⟩) h
    cases hI : taken op i0 i1
    · go_wp2_with fail
      go_ret
      exact ⟨by simp [hI], h1⟩
    · go_wp2_with fail
      refine (op_any op hop l0 l1 _).mono ?_; rintro e w2 ⟨rfl, h2⟩
      have h12 := h1.trans (h2.mono h1.size)
      have hc2 := fun b o (h : b < w.heap.size) => h12.cell (p := ⟨b, o, none⟩) h
      clear hc
      cases hL : taken op l0 l1
      · go_wp2_with fail
        refine (op_any op hop r0 r1 _).mono ?_; rintro e w3 ⟨rfl, h3⟩
        cases hR : taken op r0 r1
        all_goals
          go_wp2_with fail
          go_ret
          exact ⟨by simp [hI, hL, hR], h12.trans (h3.mono h12.size)⟩
      · go_wp2_with fail
        go_ret
        exact ⟨by simp [hI, hL], h12⟩
  · go_enter Try.func34, Try.ntmps34
    go_wp2_with fail
    go_ret
    exact ⟨rfl, Below.refl _ _⟩

theorem Edge.keep {w w' : World} {g : Nat} {l0 l1 r0 r1 i0 i1 x : Bool} (h : Edge w g l0 l1 r0 r1 i0 i1 x) (hb : Below w.heap.size w w') : Edge w' g l0 l1 r0 r1 i0 i1 x := by
  obtain ⟨hx, hi0, hi1, hz, f, t, k, lg, lf, lt, lk, hf, ht, hk, hl0, hl1, hr0, hr1⟩ := h
  have hc : ∀ b o, b < w.heap.size → w'.cell? ⟨b, o, none⟩ = w.cell? ⟨b, o, none⟩ := fun b o h => hb.cell (p := ⟨b, o, none⟩) h
  have hs := hb.size
  refine ⟨by rw [hc _ _ lg]; exact hx, by rw [hc _ _ lg]; exact hi0, by rw [hc _ _ lg]; exact hi1, by rw [hb.frozen (p := ⟨g, 13, none⟩) lg]; exact hz, f, t, k, by omega, by omega, by omega, by omega, ?_⟩
  rw [hc _ _ lg, hc _ _ lg, hc _ _ lt, hc _ _ lf, hc _ _ lf, hc _ _ lk, hc _ _ lk]
  exact ⟨hf, ht, hk, hl0, hl1, hr0, hr1⟩

theorem Edge.set {w : World} {g : Nat} {l0 l1 r0 r1 i0 i1 x : Bool} (h : Edge w g l0 l1 r0 r1 i0 i1 x) (y : Bool) : Edge (w.setCell ⟨g, 13, none⟩ (.bool y)) g l0 l1 r0 r1 i0 i1 y := by
  obtain ⟨hx, hi0, hi1, hz, f, t, k, lg, lf, lt, lk, hf, ht, hk, hl0, hl1, hr0, hr1⟩ := h
  have hc : ∀ b o, o ≠ 13 → (w.setCell ⟨g, 13, none⟩ (.bool y)).cell? ⟨b, o, none⟩ = w.cell? ⟨b, o, none⟩ := fun b o h => World.cell?_setCell_other _ _ _ _ (by simp; try omega)
  refine ⟨World.cell?_setCell_same _ _ _ hx, ?_, ?_, (World.frozen?_setCell _ _ _ _).trans hz, f, t, k, by simpa [World.setCell] using lg, by simpa [World.setCell] using lf, by simpa [World.setCell] using lt, by simpa [World.setCell] using lk, ?_⟩
  · rw [hc _ _ (by omega)]; exact hi0
  · rw [hc _ _ (by omega)]; exact hi1
  rw [hc _ _ (by omega), hc _ _ (by omega), hc _ _ (by omega), hc _ _ (by omega), hc _ _ (by omega), hc _ _ (by omega), hc _ _ (by omega)]
  exact ⟨hf, ht, hk, hl0, hl1, hr0, hr1⟩

set_option maxHeartbeats 4000000 in
theorem doorTakes_any (op : Nat) (hop : op ≤ 3) (l0 l1 r0 r1 i0 i1 x : Bool) (w : World) :
    Calls Try.prog 25 #[.int .i64 op, .agg #[.bool l0, .bool l1], .agg #[.bool r0, .bool r1], .agg #[.bool i0, .bool i1], .bool x] w fun e w' =>
      e = .returned (.bool (!x && taken op i0 i1 && !taken op l0 l1 && !taken op r0 r1)) ∧ Below w.heap.size w w' := by
  go_enter Try.func25, Try.ntmps25
  go_wp2_with fail
  refine (doorEdge_any l0 l1 r0 r1 i0 i1 _).mono ?_; rintro e w1 ⟨g, rfl, hg, he, h1⟩
  have hB1 : Below w.heap.size w w1 := (((((Below.refl _ _).alloc (Nat.le_refl _) _).alloc (by simp) _).alloc (by simp; omega) _).trans (h1.mono (by simp; omega)))
  have hg' : w.heap.size ≤ g := by simp at hg; omega
  have hx := he.ext
  have hz := he.free
  go_wp2_with fail
  refine (doorOp_any op hop _).mono ?_; rintro e w2 ⟨rfl, h2⟩
  have he2 := (he.set x).keep h2
  have hB2 : Below w.heap.size w w2 := (hB1.setCell (p := ⟨g, 13, none⟩) hg' (.bool x)).trans (h2.mono (by have := hB1.size; simpa [World.setCell] using this))
  clear hx hz
  go_wp2_with fail
  refine (should_any op hop l0 l1 r0 r1 i0 i1 x g _ he2).mono ?_; rintro e w3 ⟨rfl, h3⟩
  go_wp2_with fail
  go_ret
  exact ⟨rfl, hB2.trans (h3.mono hB2.size)⟩

theorem catch_idle (p q : Addr) (w : World) :
    CallsD Try.prog 24 #[.pointer (some p), .pointer (some q)] .returning w fun e u' w' => e = .returned (.tuple #[]) ∧ u' = .returning ∧ w = w' := by
  refine callsD_of_wpS Try.func24 rfl fun c₀ cs hu => ?_
  apply wpS_seq
  apply wpS_region
  simp [wpOpsS, go_sem, recoverD, hu, Try.ntmps24, Exit.thenS]
  refine wpS_cond (t := false) (by simp [Act.eval, Array.replicate]) ?_
  simp only [Bool.false_eq_true, if_false]
  refine wpS_of_wp (wp_skip ?_)
  cases c₀
  simp_all [bodyPostS, results, Try.results24]

set_option maxHeartbeats 4000000 in
theorem implTakes_any (op : Nat) (hop : op ≤ 3) (l0 l1 r0 r1 i0 i1 x : Bool) (w : World) :
    Calls Try.prog 15 #[.int .i64 op, .agg #[.bool l0, .bool l1], .agg #[.bool r0, .bool r1], .agg #[.bool i0, .bool i1], .bool x] w fun e w' =>
      e = .returned (.tuple #[.bool (!x && taken op i0 i1 && !taken op l0 l1 && !taken op r0 r1), .bool true]) ∧ Below w.heap.size w w' := by
  have hmf : ∀ (fn : Fn) (first cap : Array Value) (w : World), (Instr.makeFunc fn first cap).run Try.prog w = .ok (.func fn first cap) w := fun _ _ _ _ => rfl
  go_enter_defers Try.func15, Try.ntmps15
  go_wp2_with fail
  refine (doorTakes_any op hop l0 l1 r0 r1 i0 i1 x _).mono ?_; rintro e w1 ⟨rfl, h1⟩
  have hz : w.heap.size + 4 < w1.heap.size := by have := h1.size; simp at this; omega
  have hc := fun b o (h : b < w.heap.size + 5) => h1.cell (p := ⟨b, o, none⟩) (by simpa using h)
  have hf := fun b o (h : b < w.heap.size + 5) => h1.frozen (p := ⟨b, o, none⟩) (by simpa using h)
  have hB : Below w.heap.size w w1 := (((((((Below.refl _ _).alloc (Nat.le_refl _) _).alloc (by simp) _).alloc (by simp; omega) _).alloc (by simp; omega) _).alloc (by simp; omega) _).trans (h1.mono (by simp; omega)))
  generalize hR : (!x && taken op i0 i1 && !taken op l0 l1 && !taken op r0 r1) = R
  clear h1
  go_wp2_with fail
  refine leaves_cons (f := 24) (args := #[.pointer (some ⟨w.heap.size + 3, 0, none⟩), .pointer (some ⟨w.heap.size + 4, 0, none⟩)]) (by simp) (by simp [go_sem]) ?_
  refine (catch_idle _ _ _).mono ?_
  rintro e u' w'' ⟨rfl, rfl, rfl⟩
  have hb := ((hB.setCell (p := ⟨w.heap.size + 3, 0, none⟩) (by simp) (Value.bool R)).setCell (p := ⟨w.heap.size + 4, 0, none⟩) (by simp) (Value.bool true))
  simp [Leaves, settle, results, Try.results15, go_sem, hc, hR]
  exact hb
end Go.Proofs.Ytlnjnecjmnfiaaa.takes
