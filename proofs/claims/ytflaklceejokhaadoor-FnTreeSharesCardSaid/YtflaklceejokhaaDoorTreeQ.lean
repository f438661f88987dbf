/-
  The queue of a search by distance: how it lies in memory; Len, Less.
-/
import Derived.Test.YtflaklceejokhaaDoorTreeK
import Derived.Test.YtflaklceejokhaaDoorApp
import Derived.BigRegion
namespace Go.Proofs.YtflaklceejokhaaDoor.tree
open Go.ChangeShapes Go.WideShapes Go.ChangeAt Go.RowKit
open Go.Proofs.YtflaklceejokhaaDoor.mem Go.Proofs.YtflaklceejokhaaDoor.flt Ieee
set_option linter.unusedVariables false
set_option linter.unusedSimpArgs false

/-- An entry in the queue: where it lies, and what it is. -/
structure En where
  (g o : Nat) (q : Q)
def En.ptr (e : En) : Value := .pointer (some ⟨e.g, e.o, none⟩)
def ptrs (n : Nat) (f : Nat → En) : List Value := (List.range n).map fun i => (f i).ptr
theorem ptrs_length (n : Nat) (f : Nat → En) : (ptrs n f).length = n := by simp [ptrs]
theorem ptrs_get {n i : Nat} (f : Nat → En) (hi : i < n) : (ptrs n f)[i]? = some (f i).ptr := by simp [ptrs, hi]
def updE (f : Nat → En) (i : Nat) (p : En) : Nat → En := fun k => if k = i then p else f k
def swapE (f : Nat → En) (i j : Nat) : Nat → En := fun k => if k = j then f i else if k = i then f j else f k
theorem swapE_eq (f : Nat → En) (i j : Nat) : updE (updE f i (f j)) j (f i) = swapE f i j := by
  funext k
  unfold updE swapE
  by_cases e : k = j <;> simp [e]
theorem ptrs_succ (n : Nat) (f : Nat → En) (e : En) : ptrs n f ++ [e.ptr] = ptrs (n + 1) (updE f n e) := by
  unfold ptrs
  rw [List.range_succ, List.map_append]
  congr 1
  · refine List.map_congr_left fun i hi => ?_
    have : i ≠ n := by simp at hi; omega
    simp [updE, this]
  · simp [updE]

section
variable {w w' : World} {base n : Nat} {t : TypeId} {v : Value} {f : Nat → En}
theorem row_form (h : w.ownsRow base t 1 v n (ptrs n f)) (hn : 0 < n) : ∃ b cap, v = .slice (some ⟨b, 0, none⟩) n cap ∧ base ≤ b ∧ b < w.heap.size ∧ n ≤ cap ∧ cap ≤ maxLen ∧ ∀ i, i < n → w.cell? ⟨b, i, none⟩ = some (f i).ptr ∧ w.frozen? ⟨b, i, none⟩ = false := by
  rcases h.2 with ⟨-, h0⟩ | ⟨g, cap, cur, hv, hb, hg, hnc, hcm, hcs, htk⟩
  · omega
  · refine ⟨g, cap, hv, hb, (Array.getElem?_eq_some_iff.1 hg).1, hnc, hcm, fun i hi => ⟨?_, ?_⟩⟩
    · rw [cell_of_row w g i cur t (0, 0) hg]
      have e := ptrs_get f hi
      rw [← htk, List.getElem?_take] at e
      simp only [Nat.mul_one] at e
      rw [if_pos hi] at e
      simpa using e
    · simp [World.frozen?, hg]
theorem row_set (h : w.ownsRow base t 1 v n (ptrs n f)) {b cap i : Nat} (hv : v = .slice (some ⟨b, 0, none⟩) n cap) (hi : i < n) (e : En) : (w.setCell ⟨b, i, none⟩ e.ptr).ownsRow base t 1 v n (ptrs n (updE f i e)) := by
  refine ⟨by rw [ptrs_length]; omega, ?_⟩
  rcases h.2 with ⟨-, h0⟩ | ⟨g, cap', cur, hv', hb, hg, hnc, hcm, hcs, htk⟩
  · omega
  · rw [hv] at hv'
    cases hv'
    refine .inr ⟨b, cap, cur.setIfInBounds i e.ptr, hv, hb, by simp [World.setCell, Array.getElem?_modify, hg], hnc, hcm, by simpa using hcs, ?_⟩
    rw [Array.toList_setIfInBounds, Nat.mul_one]
    rw [Nat.mul_one] at htk
    refine List.ext_getElem? fun j => ?_
    by_cases hj : j < n
    · rw [List.getElem?_take, if_pos hj, ptrs_get _ hj, List.getElem?_set]
      have e1 := ptrs_get f hj
      rw [← htk, List.getElem?_take, if_pos hj] at e1
      by_cases e2 : i = j
      · subst e2
        have : i < cur.size := by omega
        simp [updE, this]
      · have e3 : ¬ j = i := fun h => e2 h.symm
        simp only [e2, if_false, updE, e3]
        exact e1
    · rw [List.getElem?_take, if_neg hj, List.getElem?_eq_none (by rw [ptrs_length]; omega)]
theorem row_pop (h : w.ownsRow base t 1 v n (ptrs n f)) (hn : 0 < n) {b cap : Nat} (hv : v = .slice (some ⟨b, 0, none⟩) n cap) : w.ownsRow base t 1 (.slice (some ⟨b, 0, none⟩) (n - 1) cap) (n - 1) (ptrs (n - 1) f) := by
  refine ⟨by rw [ptrs_length]; omega, ?_⟩
  rcases h.2 with ⟨-, h0⟩ | ⟨g, cap', cur, hv', hb, hg, hnc, hcm, hcs, htk⟩
  · omega
  · rw [hv] at hv'
    cases hv'
    refine .inr ⟨b, cap, cur, rfl, hb, hg, by omega, hcm, hcs, ?_⟩
    rw [Nat.mul_one]
    rw [Nat.mul_one] at htk
    refine List.ext_getElem? fun j => ?_
    by_cases hj : j < n - 1
    · rw [List.getElem?_take, if_pos hj, ptrs_get _ hj]
      have e1 := ptrs_get f (show j < n by omega)
      rw [← htk, List.getElem?_take, if_pos (by omega)] at e1
      exact e1
    · rw [List.getElem?_take, if_neg hj, List.getElem?_eq_none (by rw [ptrs_length]; omega)]
end

/-- An entry is in order: whole numbers for ends of boxes. -/
def Q.Ok : Q → Prop
  | .item p => Gd p.b
  | .sub k e => 1 ≤ k ∧ k ≤ 4 ∧ ∀ i, i < k → (e i).Ok
theorem hq_good {b : Nat → Bx} {n : Nat} (h : ∀ i, i < n → Gd (b i)) : ∀ i, i < n → Gd (hq b i)
  | 0, hi => h 0 hi
  | i + 1, hi => (hq_good h i (by omega)).comb (h (i + 1) hi)
theorem Q.Ok.bx : ∀ (q : Q), q.Ok → Gd q.bx
  | .item p, h => by unfold Q.bx; exact h
  | .sub k e, h => by
    unfold Q.bx
    exact hq_good (n := k) (fun i hi => Q.Ok.bx (e i) (h.2.2 i hi)) (k - 1) (by have := h.1; omega)

/-- Of what was there only the blocks F have turned. -/
structure Fr (F : Nat → Prop) (w w' : World) : Prop where
  os : w'.os = w.os
  tape : w'.tape = w.tape
  output : w'.output = w.output
  size : w.heap.size ≤ w'.heap.size
  block : ∀ b, b < w.heap.size → ¬ F b → w'.heap[b]? = w.heap[b]?
theorem Fr.refl (F : Nat → Prop) (w : World) : Fr F w w := ⟨rfl, rfl, rfl, Nat.le_refl _, fun _ _ _ => rfl⟩
theorem Fr.of_below {F : Nat → Prop} {w w' : World} (h : Below w.heap.size w w') : Fr F w w' := ⟨h.os, h.tape, h.output, h.size, fun b hb _ => h.block b hb⟩
theorem Fr.of_grown {w w' : World} {r : Option Nat} (h : w.grownBy w' r) : Fr (fun b => some b = r) w w' := ⟨h.os, h.tape, h.output, h.size, fun b hb hf => h.block b hb hf⟩
theorem Fr.trans {F G : Nat → Prop} {a b c : World} (h : Fr F a b) (k : Fr G b c) (hG : ∀ x, x < a.heap.size → G x → F x) : Fr F a c :=
  ⟨k.os.trans h.os, k.tape.trans h.tape, k.output.trans h.output, Nat.le_trans h.size k.size, fun x hx hf => (k.block x (Nat.lt_of_lt_of_le hx h.size) (fun hg => hf (hG x hx hg))).trans (h.block x hx hf)⟩
theorem Fr.mono {F G : Nat → Prop} {a b : World} (h : Fr F a b) (k : ∀ x, x < a.heap.size → F x → G x) : Fr G a b := ⟨h.os, h.tape, h.output, h.size, fun x hx hg => h.block x hx (fun hf => hg (k x hx hf))⟩
theorem Fr.set {F : Nat → Prop} (w : World) (p : Addr) (v : Value) (hp : F p.block) : Fr F w (w.setCell p v) :=
  ⟨rfl, rfl, rfl, by simp [World.setCell], fun b _ hb => Below.heap_setCell w p v b (fun e => hb (e ▸ hp))⟩

/-- Where the queue stands: block q is the queue, with the row v of n entries f 0 .. f (n - 1), and the box o from which distances are taken; the entries lie in the world w0, in blocks from L on. -/
structure HW (L : Nat) (w0 wr : World) (q : Nat) (o : Bx) (n : Nat) (f : Nat → En) (v : Value) : Prop where
  keep : Keep L w0 wr
  qge : w0.heap.size ≤ q
  blk : Blk wr q 86 #[v, .float .f64 o.x0, .float .f64 o.y0, .float .f64 o.x1, .float .f64 o.y1]
  row : wr.ownsRow w0.heap.size 89 1 v n (ptrs n f)
  apart : v.ownBlock ≠ some q
  ents : ∀ i, i < n → (f i).q.At w0 L (f i).g (f i).o ∧ L ≤ (f i).g ∧ (f i).g < w0.heap.size ∧ (f i).q.Ok
  good : Gd o

theorem HW.later {L : Nat} {w0 wr w' : World} {q : Nat} {o : Bx} {n : Nat} {f : Nat → En} {v : Value} (h : HW L w0 wr q o n f v) {F : Nat → Prop} (hb : Fr F wr w') (hF : ∀ b, F b → w0.heap.size ≤ b ∧ b ≠ q ∧ some b ≠ v.ownBlock) : HW L w0 w' q o n f v := by
  have hq : w'.heap[q]? = wr.heap[q]? := hb.block q h.blk.lt (fun hf => (hF q hf).2.1 rfl)
  refine ⟨⟨Nat.le_trans h.keep.1 hb.size, fun c h1 h2 => (hb.block c (Nat.lt_of_lt_of_le h2 h.keep.1) (fun hf => by have := (hF c hf).1; omega)).trans (h.keep.2 c h1 h2)⟩, h.qge, h.blk.of_heap hq, ⟨h.row.1, ?_⟩, h.apart, h.ents, h.good⟩
  · rcases h.row.2 with h1 | ⟨g, cap, cur, hv, h1, h2, h3⟩
    · exact .inl h1
    · exact .inr ⟨g, cap, cur, hv, h1, (hb.block g (Array.getElem?_eq_some_iff.1 h2).1 (fun hf => (hF g hf).2.2 (by rw [hv]; rfl))).trans h2, h3⟩

theorem Q.At.b4 {w : World} {L : Nat} {q : Q} {g o : Nat} (h : q.At w L g o) : B4 w g o q.bx := by
  cases q with
  | item p => unfold Q.bx; exact h.1
  | sub n f => unfold Q.bx; exact h.1
theorem HW.box {L : Nat} {w0 wr : World} {q : Nat} {o : Bx} {n : Nat} {f : Nat → En} {v : Value} (h : HW L w0 wr q o n f v) {i : Nat} (hi : i < n) : B4 wr (f i).g (f i).o (f i).q.bx := by
  have := h.ents i hi
  exact this.1.b4.keep h.keep this.2.1 this.2.2.1

theorem HW.below {L : Nat} {w0 wr w' : World} {q : Nat} {o : Bx} {n : Nat} {f : Nat → En} {v : Value} (h : HW L w0 wr q o n f v) (hb : Below wr.heap.size wr w') : HW L w0 w' q o n f v :=
  h.later (Fr.of_below (F := fun _ => False) hb) (fun _ hf => hf.elim)

set_option maxHeartbeats 4000000 in
theorem len_calls {L : Nat} {w0 wr : World} {q : Nat} {o : Bx} {n : Nat} {f : Nat → En} {v : Value} (h : HW L w0 wr q o n f v) :
    Calls Tryd.prog 66 #[.pointer (some ⟨q, 0, none⟩)] wr fun e w' => e = .returned (.int .i64 n) ∧ w' = wr := by
  obtain ⟨A, k, hv⟩ := own_slice h.row
  subst hv
  have c1 : wr.cell? ⟨q, 0, none⟩ = some (.slice A n k) := h.blk.cell 0
  clear h
  go_enter Tryd.func66, Tryd.ntmps66
  go_wp2_with fail
  exact bodyPost_ret (v := .int .i64 n) (by simp [results, go_sem]) rfl ⟨rfl, rfl⟩

/-- Which of two entries is nearer. -/
def nearQ (o : Bx) (a b : Q) : Bool := FloatKind.f64.format.order (sqd a.bx o) (sqd b.bx o) == some .lt
def nearB (o : Bx) (a b : En) : Bool := nearQ o a.q b.q

set_option maxRecDepth 100000 in
set_option maxHeartbeats 4000000 in
theorem near_calls {L : Nat} {w0 wr : World} {q : Nat} {o : Bx} {n i j : Nat} {f : Nat → En} {v : Value} (hi : i < n) (hj : j < n) (h : HW L w0 wr q o n f v) :
    Calls Tryd.prog 67 #[.pointer (some ⟨q, 0, none⟩), .int .i64 i, .int .i64 j] wr fun e w' => e = .returned (.bool (nearB o (f i) (f j))) ∧ Below wr.heap.size wr w' := by
  obtain ⟨b, k, hv, -, hbl, -, -, hcl⟩ := row_form h.row (by omega)
  subst hv
  have c0 : wr.cell? ⟨q, 0, none⟩ = some (.slice (some ⟨b, 0, none⟩) n k) := h.blk.cell 0
  have c1 : wr.cell? ⟨q, 1, none⟩ = some (.float .f64 o.x0) := h.blk.cell 1
  have c2 : wr.cell? ⟨q, 2, none⟩ = some (.float .f64 o.y0) := h.blk.cell 2
  have c3 : wr.cell? ⟨q, 3, none⟩ = some (.float .f64 o.x1) := h.blk.cell 3
  have c4 : wr.cell? ⟨q, 4, none⟩ = some (.float .f64 o.y1) := h.blk.cell 4
  have lq := h.blk.lt
  have di := (hcl i hi).1
  have dj := (hcl j hj).1
  obtain ⟨a0, a1, a2, a3⟩ := h.box hi
  obtain ⟨b0, b1, b2, b3⟩ := h.box hj
  obtain ⟨P, hP⟩ := (h.ents i hi).2.2.2.bx
  obtain ⟨R, hR⟩ := (h.ents j hj).2.2.2.bx
  obtain ⟨S, hS⟩ := h.good
  have s1 := sqd_calls (f i).q.bx o P S hP hS
  have s2 := sqd_calls (f j).q.bx o R S hR hS
  unfold nearB nearQ
  unfold En.ptr at di dj
  obtain ⟨B1, hB1⟩ : ∃ B, B = (f i).q.bx := ⟨_, rfl⟩
  obtain ⟨B2, hB2⟩ : ∃ B, B = (f j).q.bx := ⟨_, rfl⟩
  rw [← hB1] at s1 a0 a1 a2 a3 ⊢
  rw [← hB2] at s2 b0 b1 b2 b3 ⊢
  have li := (h.ents i hi).2.2.1
  have lj := (h.ents j hj).2.2.1
  have hlw := h.keep.1
  obtain ⟨⟨g1, o1, q1⟩, hf1⟩ : ∃ z, f i = z := ⟨_, rfl⟩
  obtain ⟨⟨g2, o2, q2⟩, hf2⟩ : ∃ z, f j = z := ⟨_, rfl⟩
  rw [hf1] at di a0 a1 a2 a3 li
  rw [hf2] at dj b0 b1 b2 b3 lj
  simp only at di a0 a1 a2 a3 li dj b0 b1 b2 b3 lj
  obtain ⟨r1, hr1⟩ : ∃ r, r = sqd B1 o := ⟨_, rfl⟩
  obtain ⟨r2, hr2⟩ : ∃ r, r = sqd B2 o := ⟨_, rfl⟩
  rw [← hr1] at s1 ⊢
  rw [← hr2] at s2 ⊢
  unfold bxA at s1 s2
  have S1 := Lib.hid s1
  have S2 := Lib.hid s2
  have C : ∀ w', Below wr.heap.size wr w' → w'.cell? ⟨q, 0, none⟩ = some (.slice (some ⟨b, 0, none⟩) n k) ∧ w'.cell? ⟨q, 1, none⟩ = some (.float .f64 o.x0) ∧ w'.cell? ⟨q, 2, none⟩ = some (.float .f64 o.y0) ∧ w'.cell? ⟨q, 3, none⟩ = some (.float .f64 o.x1) ∧ w'.cell? ⟨q, 4, none⟩ = some (.float .f64 o.y1) ∧
      w'.cell? ⟨b, j, none⟩ = some (.pointer (some ⟨g2, o2, none⟩)) ∧ w'.cell? ⟨g2, o2, none⟩ = some (.float .f64 B2.x0) ∧ w'.cell? ⟨g2, o2 + 1, none⟩ = some (.float .f64 B2.y0) ∧ w'.cell? ⟨g2, o2 + 2, none⟩ = some (.float .f64 B2.x1) ∧ w'.cell? ⟨g2, o2 + 3, none⟩ = some (.float .f64 B2.y1) := fun w' hw =>
    ⟨(hw.cell (p := ⟨q, 0, none⟩) lq).trans c0, (hw.cell (p := ⟨q, 1, none⟩) lq).trans c1, (hw.cell (p := ⟨q, 2, none⟩) lq).trans c2, (hw.cell (p := ⟨q, 3, none⟩) lq).trans c3, (hw.cell (p := ⟨q, 4, none⟩) lq).trans c4,
      (hw.cell (p := ⟨b, j, none⟩) hbl).trans dj, (hw.cell (p := ⟨g2, o2, none⟩) (by show g2 < _; omega)).trans b0, (hw.cell (p := ⟨g2, o2 + 1, none⟩) (by show g2 < _; omega)).trans b1, (hw.cell (p := ⟨g2, o2 + 2, none⟩) (by show g2 < _; omega)).trans b2, (hw.cell (p := ⟨g2, o2 + 3, none⟩) (by show g2 < _; omega)).trans b3⟩
  have HC := Lib.hid C
  have i0 : (0 : Int) ≤ (i : Int) := Int.natCast_nonneg _
  have j0 : (0 : Int) ≤ (j : Int) := Int.natCast_nonneg _
  have i1 : (i : Int) < (n : Int) := by omega
  have j1 : (j : Int) < (n : Int) := by omega
  clear h hcl hP hR hS hB1 hB2 hf1 hf2 hr1 hr2 s1 s2 C
  go_enter Tryd.func67, Tryd.ntmps67
  go_wp2_with fail
  go_still_tail 14, (by kernel_rfl)
  change wpList _ _ _ _ _ wr.drew
  go_wp2_with fail
  refine (S1.out _).mono ?_
  rintro e w1 ⟨rfl, hb1⟩
  have hb1' := (Below.refl wr.heap.size wr).drew.trans hb1
  have HB1 := Lib.hid hb1'
  obtain ⟨d0, d1, d2, d3, d4, d5, d6, d7, d8, d9⟩ := HC.out w1 hb1'
  clear a0 a1 a2 a3 b0 b1 b2 b3 c0 c1 c2 c3 c4 di dj hb1 hb1'
  go_wp2_with fail
  go_still_tail 14, (by kernel_rfl)
  change wpList _ _ _ _ _ w1.drew
  go_wp2_with fail
  refine (S2.out _).mono ?_
  rintro e w2 ⟨rfl, hb2⟩
  have HB2 := Lib.hid (HB1.out.trans (((Below.refl w1.heap.size w1).drew.trans hb2).mono HB1.out.size))
  clear d0 d1 d2 d3 d4 d5 d6 d7 d8 d9 hb2
  go_wp2_with fail
  exact bodyPost_ret (v := .bool (FloatKind.f64.format.order r1 r2 == some .lt)) (by simp [results, go_sem]) rfl ⟨rfl, HB2.out⟩
end Go.Proofs.YtflaklceejokhaaDoor.tree
