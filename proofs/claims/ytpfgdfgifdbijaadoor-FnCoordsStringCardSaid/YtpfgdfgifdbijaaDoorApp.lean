/-
  append onto a row of the call's own, from whatever slice reads as a list, none too. No condition.
-/
import Derived.Test.YtpfgdfgifdbijaaDoorMem
import Derived.Maps.AppendAt
import Derived.Deep.AppendLies
import Derived.Deep.RegionHeld3
namespace Go.Proofs.YtpfgdfgifdbijaaDoor.mem
open Go.ChangeShapes Go.WideShapes Go.ChangeAt Go.RowKit
set_option linter.unusedVariables false
set_option linter.unusedSimpArgs false

section
variable {P : Program} (w : World)

theorem Sl.src {w : World} {B : Nat} {A : Option Addr} {n c : Nat} {xs : List Value} (h : Sl w B A n c xs) {ad : Addr} (e : A = some ad) : ∀ j u, xs[j]? = some u → w.cell? (ad.add j) = some u := by
  intro j u hu
  have hl := h.1
  have hj : j < xs.length := by
    rcases Nat.lt_or_ge j xs.length with h | h
    · exact h
    · rw [List.getElem?_eq_none h] at hu; cases hu
  have hn : 0 < n := by
    rcases Nat.eq_zero_or_pos n with h0 | h0
    · subst h0; rw [Nat.zero_mul] at hl; omega
    · exact h0
  obtain ⟨b, off, e', _, hc⟩ := h.2.2 hn
  rw [e] at e'
  cases e'
  rw [add_plain]
  exact hc j u hu

theorem run_append_sl (base : Nat) (t ty e : TypeId) (i : TypeInfo) (z : Value) (size bytes : Nat) (ht : P.underlying t = some (.slice e)) (hi : P.info? e = some i) (hz : i.zero = some z)
    (hsize : i.size = size) (hby : i.bytes = bytes) (hzs : z.cells.size = size) (hsz : 0 < size)
    (v : Value) (n : Nat) (xs : List Value) (hown : w.ownsRow base e size v n xs)
    (B : Nat) (A : Option Addr) (m c : Nat) (news : List Value) (hr : Sl w B A m size news) (h1 : ∀ u ∈ news, u.oneCell' = true)
    (h63 : n + m ≤ maxLen) (hbytes : (n + m) * bytes ≤ 140737488355328) (hbase : base ≤ w.heap.size) :
    ∃ A' c' w', (Builtin.append_ #[t, t] ty #[v, .slice A m c]).run P w = .ok (.slice A' (n + m) c') w' ∧ w'.ownsRow base e size (.slice A' (n + m) c') (n + m) (xs ++ news) ∧ w.grownBy w' v.ownBlock ∧
      ((Value.slice A' (n + m) c').ownBlock = v.ownBlock ∨ (Value.slice A' (n + m) c').ownBlock = some w.heap.size) := by
  cases A with
  | none =>
    have hm : m = 0 := by
      rcases Nat.eq_zero_or_pos m with h0 | h0
      · exact h0
      · obtain ⟨b, off, h, _⟩ := hr.2.2 h0
        cases h
    subst hm
    have hn : news = [] := List.eq_nil_of_length_eq_zero (by have := hr.1; omega)
    subst hn
    obtain ⟨A', c', rfl⟩ := own_slice hown
    refine ⟨A', c', w, ?_, by simpa using hown, World.grownBy.refl w _, .inl rfl⟩
    rcases hown.2 with ⟨hv, hn0⟩ | ⟨g, cap, cur, hv, _, _, hnc, _⟩
    · cases hv
      simp [Builtin.append_, run_underlying ht, sizeOf, typeInfo, hi, Builtin.lenOf, Builtin.firstCells]
    · cases hv
      simp [Builtin.append_, run_underlying ht, sizeOf, typeInfo, hi, Builtin.lenOf, Builtin.firstCells, hnc, storeCells]
  | some ad =>
    obtain ⟨v', w', hrun, h2, h3, _, h5⟩ := run_append_own_at (P := P) w base t ty e i z size bytes ht hi hz hsize hby hzs hsz v n xs hown ad m c news hr.1 (hr.src rfl) h1 h63 hbytes hbase
    obtain ⟨A', c', rfl⟩ := own_slice h2
    exact ⟨A', c', w', hrun, h2, h3, h5⟩

theorem wp_append_sl {o : Oper} {a : Act} {K : Act → World → Prop} {Q : Exit → Act → World → Prop} (s x : Operand) (t : TypeId)
    (ho : o.op = .call { callee := .builtin .append, args := #[s, x], argTypes := #[t, t] })
    (base : Nat) (e : TypeId) (i : TypeInfo) (z : Value) (size bytes : Nat) (ht : P.underlying t = some (.slice e)) (hi : P.info? e = some i) (hz : i.zero = some z)
    (hsize : i.size = size) (hby : i.bytes = bytes) (hzs : z.cells.size = size) (hsz : 0 < size)
    (v : Value) (n : Nat) (xs : List Value) (hs : a.eval s = v) (hown : w.ownsRow base e size v n xs)
    (B : Nat) (A : Option Addr) (m c : Nat) (news : List Value) (hx : a.eval x = .slice A m c) (hr : Sl w B A m size news) (h1 : ∀ u ∈ news, u.oneCell' = true)
    (h63 : n + m ≤ maxLen) (hbytes : (n + m) * bytes ≤ 140737488355328) (hbase : base ≤ w.heap.size)
    (h : ∀ A' c' w', w'.ownsRow base e size (.slice A' (n + m) c') (n + m) (xs ++ news) → w.grownBy w' v.ownBlock → ((Value.slice A' (n + m) c').ownBlock = v.ownBlock ∨ (Value.slice A' (n + m) c').ownBlock = some w.heap.size) → K (a.put o.dst (.slice A' (n + m) c')) w') : o.wp P a w K Q := by
  obtain ⟨A', c', w', hrun, h2, h3, h4⟩ := run_append_sl (P := P) w base t o.type e i z size bytes ht hi hz hsize hby hzs hsz v n xs hown B A m c news hr h1 h63 hbytes hbase
  unfold Oper.wp execOp
  simp only [ho, resolve, invoke, builtin, Sem.run_bind, Sem.run_pure, Result.andThen_ok, List.map_toArray, List.map_cons, List.map_nil, hs, hx, hrun]
  exact h A' c' w' h2 h3 h4

theorem wpList_append_sl {ops : Array Oper} {rest : List Oper} {o : Oper} {a : Act} {Q : Exit → Act → World → Prop} (hgd : o.guard = none) (s x : Operand) (t : TypeId)
    (ho : o.op = .call { callee := .builtin .append, args := #[s, x], argTypes := #[t, t] })
    (base : Nat) (e : TypeId) (i : TypeInfo) (z : Value) (size bytes : Nat) (ht : P.underlying t = some (.slice e)) (hi : P.info? e = some i) (hz : i.zero = some z)
    (hsize : i.size = size) (hby : i.bytes = bytes) (hzs : z.cells.size = size) (hsz : 0 < size)
    (v : Value) (n : Nat) (xs : List Value) (hs : a.eval s = v) (hown : w.ownsRow base e size v n xs)
    (B : Nat) (A : Option Addr) (m c : Nat) (news : List Value) (hx : a.eval x = .slice A m c) (hr : Sl w B A m size news) (h1 : ∀ u ∈ news, u.oneCell' = true)
    (h63 : n + m ≤ maxLen) (hbytes : (n + m) * bytes ≤ 140737488355328) (hbase : base ≤ w.heap.size)
    (h : ∀ A' c' w', w'.ownsRow base e size (.slice A' (n + m) c') (n + m) (xs ++ news) → w.grownBy w' v.ownBlock → ((Value.slice A' (n + m) c').ownBlock = v.ownBlock ∨ (Value.slice A' (n + m) c').ownBlock = some w.heap.size) → wpList P ops Q rest (a.put o.dst (.slice A' (n + m) c')) w') : wpList P ops Q (o :: rest) a w :=
  wpList_plain hgd fun _ hK => wp_append_sl w s x t ho base e i z size bytes ht hi hz hsize hby hzs hsz v n xs hs hown B A m c news hx hr h1 h63 hbytes hbase fun A' c' w' h2 h3 h4 => hK _ _ (h A' c' w' h2 h3 h4)

theorem step_append_sl {ops : Array Oper} {o : Oper} {a : Act} {K : Act → World → Prop} {Q : Exit → Act → World → Prop} {E : Prop} (hgd : o.guard = none) (s x : Operand) (t : TypeId)
    (ho : o.op = .call { callee := .builtin .append, args := #[s, x], argTypes := #[t, t] })
    (base : Nat) (e : TypeId) (i : TypeInfo) (z : Value) (size bytes : Nat) (ht : P.underlying t = some (.slice e)) (hi : P.info? e = some i) (hz : i.zero = some z)
    (hsize : i.size = size) (hby : i.bytes = bytes) (hzs : z.cells.size = size) (hsz : 0 < size)
    (v : Value) (n : Nat) (xs : List Value) (hs : a.eval s = v) (hown : w.ownsRow base e size v n xs)
    (B : Nat) (A : Option Addr) (m c : Nat) (news : List Value) (hx : a.eval x = .slice A m c) (hr : Sl w B A m size news) (h1 : ∀ u ∈ news, u.oneCell' = true)
    (h63 : n + m ≤ maxLen) (hbytes : (n + m) * bytes ≤ 140737488355328) (hbase : base ≤ w.heap.size)
    (h : ∀ A' c' w', w'.ownsRow base e size (.slice A' (n + m) c') (n + m) (xs ++ news) → w.grownBy w' v.ownBlock → ((Value.slice A' (n + m) c').ownBlock = v.ownBlock ∨ (Value.slice A' (n + m) c').ownBlock = some w.heap.size) → K (a.put o.dst (.slice A' (n + m) c')) w') :
    if Region.wanted o (yielded ops a.tmps) = true then Oper.wp P o a w K Q else E := by
  have hw : Region.wanted o (yielded ops a.tmps) = true := by simp [Region.wanted, hgd]
  rw [if_pos hw]
  exact wp_append_sl w s x t ho base e i z size bytes ht hi hz hsize hby hzs hsz v n xs hs hown B A m c news hx hr h1 h63 hbytes hbase h
end

theorem emptyOwn {w : World} {base g size : Nat} {e : TypeId} (h : w.heap[g]? = some (.cells #[] e (0, 0))) (hb : base ≤ g) : w.ownsRow base e size (.slice (some ⟨g, 0, none⟩) 0 0) 0 [] :=
  ⟨by simp, .inr ⟨g, 0, #[], rfl, hb, h, Nat.le_refl _, Nat.zero_le _, by simp, by simp⟩⟩

theorem heapOld {w : World} {g : Nat} {o : Obj} (h : w.heap[g]? = some o) (o' : Obj) : (w.alloc o').heap[g]? = some o := (Below.heap_alloc w o' g (Array.getElem?_eq_some_iff.1 h).1).trans h
theorem heapNew1 (w : World) (a b : Obj) : ((w.alloc a).alloc b).heap[w.heap.size + 1]? = some b := by
  have := heap_alloc_new (w.alloc a) b
  simpa using this
theorem heapNew2 (w : World) (a b c : Obj) : (((w.alloc a).alloc b).alloc c).heap[w.heap.size + 2]? = some c := by
  have := heap_alloc_new ((w.alloc a).alloc b) c
  simpa using this
theorem blkIs {w : World} {g : Nat} {cs : Array Value} {t : TypeId} (h : w.heap[g]? = some (.cells cs t (0, 0))) : Blk w g t cs := ⟨(0, 0), h, fun i _ h => by omega⟩
theorem slBlk {w : World} {g n c : Nat} {cs : Array Value} {t : TypeId} (h : w.heap[g]? = some (.cells cs t (0, 0))) (hl : cs.toList.length = n * c) (hm : n ≤ maxLen) : Sl w w.heap.size (some ⟨g, 0, none⟩) n c cs.toList := by
  refine ⟨hl, hm, fun _ => ⟨g, 0, rfl, (Array.getElem?_eq_some_iff.1 h).1, fun j u hu => ?_⟩⟩
  rw [Nat.zero_add, cell_of_row w g j cs t (0, 0) h]
  simpa using hu

/-- xs[1:], whatever the capacity. -/
theorem run_tail {P : Program} {t e : TypeId} {i : TypeInfo} {size : Nat} (ht : P.underlying t = some (.slice e)) (hi : P.info? e = some i) (hs : i.size = size) (A : Option Addr) (n c : Nat) (h1 : 1 ≤ n) (hc : n ≤ c) (w : World) :
    (Instr.slice t (.slice A n c) (some (.int .i64 1)) none none).run P w = .ok (.slice (if c = 1 then A else A.map (·.add size)) (n - 1) (c - 1)) w := by
  have h2 : (1 : Int) ≤ (n : Int) := by omega
  simp [Instr.slice, run_underlying ht, Instr.sliceBounds, Instr.sliceBound, asIntOf, go_sem, sizeOf, typeInfo, hi, hs, h2]

theorem Sl.tail {w : World} {B : Nat} {A : Option Addr} {n c size : Nat} {x xs : List Value} (h : Sl w B A n size (x ++ xs)) (hx : x.length = size) (h1 : 1 ≤ n) (hc : n ≤ c) : Sl w B (if c = 1 then A else A.map (·.add size)) (n - 1) size xs := by
  have hl : xs.length = (n - 1) * size := by
    have := h.1
    rw [List.length_append, hx] at this
    rw [Nat.sub_mul, Nat.one_mul]; omega
  refine ⟨hl, Nat.le_trans (Nat.sub_le _ _) h.2.1, fun hn => ?_⟩
  obtain ⟨b, off, rfl, hb, hcell⟩ := h.2.2 (by omega)
  rw [if_neg (by omega)]
  refine ⟨b, off + size, by simp [add_plain], hb, fun j u hu => ?_⟩
  rw [Nat.add_assoc]
  refine hcell (size + j) u ?_
  rw [List.getElem?_append_right (by omega), hx, Nat.add_sub_cancel_left]
  exact hu
end Go.Proofs.YtpfgdfgifdbijaaDoor.mem
