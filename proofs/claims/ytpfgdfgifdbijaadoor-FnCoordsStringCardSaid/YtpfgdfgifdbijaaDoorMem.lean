/-
  Words for memory that all walks of this seat share: a block known whole, a slice that reads as a list, a world that has grown but for one block. No condition.
-/
import Derived.Test.YtpfgdfgifdbijaaDoorLift
import Derived.Recover
import Derived.Defers
import Derived.WalkLawsBesides
import Derived.WalkSpells
import Derived.BigQuiet
import Derived.RegionTactic
import Derived.Deep.QuietTactic
import Derived.Deep.Draws
import Derived.Laws.Rows
import Derived.Laws.OwnMore
import Derived.OwnWalk
import Derived.Lib.Hide
import Derived.Laws.StructEq
import Derived.Laws.EntriesVeiled
import Derived.LoopTactic
import Derived.Deep.Slices
import Derived.Deep.Fields
import Derived.ChangeSame
import Derived.Deep.LoopGhost
import Derived.StillTailTactics
namespace Go.Proofs.YtpfgdfgifdbijaaDoor.mem
open Go.ChangeShapes Go.WideShapes Go.ChangeAt Go.RowKit
set_option linter.unusedVariables false
set_option linter.unusedSimpArgs false

@[go_sem] theorem run_store_float {P : Program} {w : World} {a : Addr} {m : Mode} (k : FloatKind) (b : Nat) : (store a (.float k b) m).run P w = stored P w a (.float k b) m := run_store P w a _ m rfl

@[go_sem] theorem run_equalIn_float {P : Program} {w : World} (d : Nat) (t : TypeId) (k k' : FloatKind) (a b : Nat) (h : P.underlying t = some (.float k')) : (Op.equalIn (d + 1) t (.float k a) (.float k b)).run P w = .ok (Op.floatEq k a b) w := by
  simp [Op.equalIn, run_underlying h]

/-- Block g is just the cells cs of element type t, none of them frozen. -/
def Blk (w : World) (g : Nat) (t : TypeId) (cs : Array Value) : Prop := ∃ fr : Nat × Nat, w.heap[g]? = some (.cells cs t fr) ∧ ∀ i, i < cs.size → ¬ (fr.1 ≤ i ∧ i < fr.2)

section
variable {w w' : World} {g : Nat} {t : TypeId} {cs : Array Value}
theorem Blk.lt (h : Blk w g t cs) : g < w.heap.size := by obtain ⟨fr, h, _⟩ := h; exact (Array.getElem?_eq_some_iff.1 h).1
theorem Blk.cell (h : Blk w g t cs) (i : Nat) : w.cell? ⟨g, i, none⟩ = cs[i]? := by obtain ⟨fr, h, _⟩ := h; exact cell_of_row w g i cs t fr h
theorem Blk.frozen (h : Blk w g t cs) (i : Nat) (hi : i < cs.size) : w.frozen? ⟨g, i, none⟩ = false := by
  obtain ⟨fr, h, hf⟩ := h
  have := hf i hi
  simp only [World.frozen?, h]
  simpa using this
theorem Blk.of_heap (h : Blk w g t cs) (e : w'.heap[g]? = w.heap[g]?) : Blk w' g t cs := by obtain ⟨fr, h, hf⟩ := h; exact ⟨fr, e.trans h, hf⟩
theorem Blk.new (w : World) (t : TypeId) (cs : Array Value) : Blk (w.alloc (.cells cs t)) w.heap.size t cs := ⟨(0, 0), heap_alloc_new w _, fun i _ h => by omega⟩
theorem Blk.newMark (w : World) (t : TypeId) (cs : Array Value) (a b : Nat) (h : cs.size ≤ a) : Blk (w.alloc (.cells cs t (a, b))) w.heap.size t cs := ⟨(a, b), heap_alloc_new w _, fun i hi h => by simp at h; omega⟩
theorem Blk.alloc (h : Blk w g t cs) (o : Obj) : Blk (w.alloc o) g t cs := h.of_heap (Below.heap_alloc w o g h.lt)
theorem Blk.set_ (h : Blk w g t cs) (i : Nat) (u : Value) : Blk (w.setCell ⟨g, i, none⟩ u) g t (cs.setIfInBounds i u) := by
  obtain ⟨fr, h, hf⟩ := h
  exact ⟨fr, by simp [World.setCell, Array.getElem?_modify, h], fun j hj => hf j (by simpa using hj)⟩
theorem Blk.far (h : Blk w g t cs) {p : Addr} (hp : g ≠ p.block) (u : Value) : Blk (w.setCell p u) g t cs := h.of_heap (Below.heap_setCell w p u g hp)
theorem Blk.below {B : Nat} (h : Blk w g t cs) (hb : Below B w w') (hg : g < B) : Blk w' g t cs := h.of_heap (hb.block g hg)
theorem Blk.grown {row : Option Nat} (h : Blk w g t cs) (hb : w.grownBy w' row) (hg : some g ≠ row) : Blk w' g t cs := h.of_heap (hb.block g h.lt hg)
end

theorem grown_trans {a b c : World} {row : Option Nat} (h : a.grownBy b row) (k : b.grownBy c row) : a.grownBy c row :=
  ⟨k.os.trans h.os, k.tape.trans h.tape, k.output.trans h.output, Nat.le_trans h.size k.size, fun i hi hr => (k.block i (Nat.lt_of_lt_of_le hi h.size) hr).trans (h.block i hi hr)⟩
theorem grown_below {a b : World} {row : Option Nat} (h : Below a.heap.size a b) : a.grownBy b row := ⟨h.os, h.tape, h.output, h.size, fun i hi _ => h.block i hi⟩
theorem grown_set (w : World) (p : Addr) (u : Value) : w.grownBy (w.setCell p u) (some p.block) :=
  ⟨rfl, rfl, rfl, by simp [World.setCell], fun k _ hk => Below.heap_setCell _ _ _ _ (fun e => hk (by rw [e]))⟩

theorem drewN_below (B : Nat) (w : World) (n : Nat) : Below B w (w.drewN n) := ⟨rfl, rfl, rfl, Nat.le_refl _, fun _ _ => rfl⟩

theorem own_row (v : Value) : v.ownBlock = none ∨ v.ownBlock ≠ none := by cases v.ownBlock <;> simp

theorem cells_new (w : World) (cs : List Value) (t : TypeId) : ∀ j u, cs[j]? = some u → (w.alloc (.cells cs.toArray t)).cell? ((⟨w.heap.size, 0, none⟩ : Addr).add j) = some u := by
  intro j u hu
  have e : (⟨w.heap.size, 0, none⟩ : Addr).add j = ⟨w.heap.size, j, none⟩ := by
    unfold Addr.add
    split
    · subst_vars; rfl
    · simp
  rw [e, cell_of_row _ w.heap.size j cs.toArray t (0, 0) (heap_alloc_new w _)]
  simpa using hu

theorem own_slice {w : World} {base : Nat} {e : TypeId} {size : Nat} {v : Value} {n : Nat} {xs : List Value} (h : w.ownsRow base e size v n xs) : ∃ A k, v = .slice A n k := by
  rcases h.2 with ⟨rfl, rfl⟩ | ⟨g, cap, cur, rfl, _⟩
  · exact ⟨_, _, rfl⟩
  · exact ⟨_, _, rfl⟩

/-- The k-th number of a list, 0 beyond its end. -/
def ix (l : List Int) (k : Nat) : Int := l.getD k 0

/-- The slice value '.slice A n c' reads as the numbers zs. -/
def Ints (q : IntKind) (w : World) (B : Nat) (A : Option Addr) (n : Nat) (zs : List Int) : Prop :=
  zs.length = n ∧ n ≤ maxLen ∧ (∀ z ∈ zs, (Lit.int q z).wf = true) ∧ (0 < n → ∃ b off, A = some ⟨b, off, none⟩ ∧ b < B ∧ ∀ j, j < n → w.cell? ⟨b, off + j, none⟩ = some (.int q (ix zs j)))

theorem Ints.keep {q : IntKind} {w w' : World} {B : Nat} {A : Option Addr} {n : Nat} {zs : List Int} (h : Ints q w B A n zs) (hb : Below B w w') : Ints q w' B A n zs :=
  ⟨h.1, h.2.1, h.2.2.1, fun hn => by
    obtain ⟨b, off, e, hlt, hc⟩ := h.2.2.2 hn
    exact ⟨b, off, e, hlt, fun j hj => (hb.cell (p := ⟨b, off + j, none⟩) hlt).trans (hc j hj)⟩⟩

theorem Ints.up {q : IntKind} {w w' : World} {A : Option Addr} {n : Nat} {zs : List Int} (h : Ints q w w.heap.size A n zs) (hb : Below w.heap.size w w') : Ints q w' w'.heap.size A n zs :=
  ⟨h.1, h.2.1, h.2.2.1, fun hn => by
    obtain ⟨b, off, e, hlt, hc⟩ := h.2.2.2 hn
    exact ⟨b, off, e, Nat.lt_of_lt_of_le hlt hb.size, fun j hj => (hb.cell (p := ⟨b, off + j, none⟩) hlt).trans (hc j hj)⟩⟩

/-- A slice of numbers that came in. -/
theorem open_nums {H : Type} {enc : TypeId × Value → H} {P : Program} {q : IntKind} {t e : TypeId} {W : World} {v : Value} {d : DataW H} {p : List MemPlace} {base : Nat}
    (ht : P.underlying t = some (.slice e)) (he : P.underlying e = some (.int q)) (hc : P.cellsOf e = 1)
    (hv : Value.okWide P W .any base t v) (h : DataW.Trod enc P W 0 (fun _ => true) true t v d p) :
    ∃ A n c zs, v = .slice A n c ∧ Ints q W W.heap.size A n zs := by
  obtain ⟨a0, len0, cap0, rfl⟩ := okWide_slice ht hv
  obtain ⟨fuel, hf⟩ := h
  rcases open_ints ht he hc hf with ⟨hcs, _⟩ | ⟨x, l, c, zs, hcs, _, hl, hm, hz, _, hcell, hwz⟩
  · simp [Value.cells] at hcs
    obtain ⟨rfl, rfl, rfl⟩ := hcs
    exact ⟨_, _, _, [], rfl, rfl, Nat.zero_le _, fun z hz => (by cases hz), fun h => absurd h (by omega)⟩
  · simp [Value.cells] at hcs
    obtain ⟨rfl, rfl, rfl⟩ := hcs
    have hzl : zs.length = cap0 := by simpa using hz
    refine ⟨_, _, _, zs.take len0, rfl, by rw [List.length_take]; omega, by omega, fun z hz' => hwz z (List.mem_of_mem_take hz'), fun hn => ?_⟩
    obtain ⟨b, off, spot⟩ := x
    have hc0 := hcell 0 (by omega)
    have hspot : spot = none := by simpa [Addr.add] using World.cell?_spot hc0
    subst hspot
    refine ⟨b, off, rfl, ?_, fun j hj => ?_⟩
    · have := World.block_lt_of_cell? W _ hc0
      simpa [Addr.add] using this
    · have := hcell j (by omega)
      have e1 : (Addr.mk b off none).add j = ⟨b, off + j, none⟩ := by
        unfold Addr.add
        split
        · subst_vars; rfl
        · rfl
      rw [e1] at this
      rw [this]
      congr 2
      unfold ix
      simp [List.getD_eq_getElem?_getD, List.getElem?_take, hj]

/-- The slice value '.slice A n k' reads as the cells xs, c cells an element, below block B. -/
def Sl (w : World) (B : Nat) (A : Option Addr) (n c : Nat) (xs : List Value) : Prop :=
  xs.length = n * c ∧ n ≤ maxLen ∧ (0 < n → ∃ b off, A = some ⟨b, off, none⟩ ∧ b < B ∧ ∀ j u, xs[j]? = some u → w.cell? ⟨b, off + j, none⟩ = some u)

section
variable {w w' : World} {B B' n c : Nat} {A : Option Addr} {xs : List Value}
theorem Sl.keep (h : Sl w B A n c xs) (hb : Below B w w') : Sl w' B A n c xs :=
  ⟨h.1, h.2.1, fun hn => by
    obtain ⟨b, off, e, hlt, hc⟩ := h.2.2 hn
    exact ⟨b, off, e, hlt, fun j u hu => (hb.cell (p := ⟨b, off + j, none⟩) hlt).trans (hc j u hu)⟩⟩
theorem Sl.more (h : Sl w B A n c xs) (hB : B ≤ B') : Sl w B' A n c xs :=
  ⟨h.1, h.2.1, fun hn => by
    obtain ⟨b, off, e, hlt, hc⟩ := h.2.2 hn
    exact ⟨b, off, e, by omega, hc⟩⟩
theorem Sl.up (h : Sl w w.heap.size A n c xs) (hb : Below w.heap.size w w') : Sl w' w'.heap.size A n c xs := (h.keep hb).more hb.size
theorem Sl.of_own {base : Nat} {e : TypeId} {k : Nat} (h : w.ownsRow base e c (.slice A n k) n xs) : Sl w w.heap.size A n c xs := by
  refine ⟨h.1, ?_⟩
  rcases h.2 with ⟨_, rfl⟩ | ⟨g, cap, cur, hv, _, hg, h1, h2, h3, h4⟩
  · exact ⟨Nat.zero_le _, fun hn => absurd hn (by omega)⟩
  · refine ⟨by omega, fun hn => ?_⟩
    have hA : A = some ⟨g, 0, none⟩ := by injection hv
    subst hA
    refine ⟨g, 0, rfl, (Array.getElem?_eq_some_iff.1 hg).1, fun j u hu => ?_⟩
    rw [Nat.zero_add, cell_of_row w g j cur e (0, 0) hg]
    rw [← h4] at hu
    have hj : j < n * c := by
      rcases Nat.lt_or_ge j (n * c) with hj | hj
      · exact hj
      · rw [List.getElem?_eq_none (by rw [List.length_take]; omega)] at hu; cases hu
    rw [List.getElem?_take_of_lt hj] at hu
    simpa using hu
theorem Sl.nil (w : World) (B c : Nat) : Sl w B none 0 c [] := ⟨by simp, Nat.zero_le _, fun h => absurd h (by omega)⟩
end

theorem flatMap_get {α β : Type} (f : α → List β) (c : Nat) (hf : ∀ a, (f a).length = c) : ∀ (l : List α) (i j : Nat), j < c → (l.flatMap f)[i * c + j]? = (l[i]?).bind fun a => (f a)[j]? := by
  intro l
  induction l with
  | nil => intro i j _; simp
  | cons a l ih =>
    intro i j hj
    rw [List.flatMap_cons]
    cases i with
    | zero => rw [List.getElem?_append_left (by rw [hf]; omega)]; simp
    | succ i =>
      rw [List.getElem?_append_right (by rw [hf, Nat.succ_mul]; omega), hf, show (i + 1) * c + j - c = i * c + j from by rw [Nat.succ_mul]; omega, ih i j hj]
      simp
theorem flatMap_len {α β : Type} (f : α → List β) (c : Nat) (hf : ∀ a, (f a).length = c) (l : List α) : (l.flatMap f).length = l.length * c := by
  induction l with
  | nil => simp
  | cons a l ih => rw [List.flatMap_cons, List.length_append, ih, hf, List.length_cons, Nat.succ_mul]; omega

theorem add_plain (b off n : Nat) : (Addr.mk b off none).add n = ⟨b, off + n, none⟩ := by
  unfold Addr.add
  split
  · subst_vars; rfl
  · rfl

theorem choose_list {α : Type} {p : Nat → α → Prop} : ∀ (n : Nat), (∀ i, i < n → ∃ a, p i a) → ∃ l : List α, l.length = n ∧ ∀ i a, l[i]? = some a → p i a := by
  intro n
  induction n with
  | zero => exact fun _ => ⟨[], rfl, fun i a h => by simp at h⟩
  | succ n ih =>
    intro h
    obtain ⟨l, hl, hp⟩ := ih fun i hi => h i (by omega)
    obtain ⟨a, ha⟩ := h n (by omega)
    refine ⟨l ++ [a], by simp [hl], fun i x hx => ?_⟩
    rcases Nat.lt_or_ge i n with hi | hi
    · rw [List.getElem?_append_left (by omega)] at hx
      exact hp i x hx
    · rw [List.getElem?_append_right (by omega)] at hx
      have hi' : i - l.length = 0 := by
        rcases Nat.lt_or_ge (i - l.length) 1 with h1 | h1
        · omega
        · rw [List.getElem?_eq_none (by simpa using h1)] at hx; cases hx
      rw [hi'] at hx
      simp at hx
      subst hx
      have : i = n := by omega
      subst this
      exact ha

/-- A SLICE THAT CAME IN, opened: its elements' cells are 'enc a', a out of a list. -/
theorem open_list {H : Type} {ec : TypeId × Value → H} {P : Program} {w : World} {t e : TypeId} {fuel c : Nat} {cs : List Value} {x : DataW H × List MemPlace} {α : Type} (enc : α → List Value) (Wf : α → Prop)
    (ht : P.underlying t = some (.slice e)) (hc : P.cellsOf e = c) (hpos : 0 < c) (hlen : ∀ a, (enc a).length = c)
    (hel : ∀ (m : Nat) (cs' : List Value) (y : DataW H × List MemPlace), DataW.trod ec P w 0 (fun _ => true) true m e cs' = some y → ∃ a, cs' = enc a ∧ Wf a)
    (h : DataW.trod ec P w 0 (fun _ => true) true fuel t cs = some x) :
    ∃ (A : Option Addr) (n k : Nat) (l : List α), cs = [.slice A n k] ∧ l.length = n ∧ Sl w w.heap.size A n c (l.flatMap enc) ∧ ∀ a ∈ l, Wf a := by
  rcases Deep.open_slice ht h with ⟨hcs, _⟩ | ⟨ad, len, cap, m, n, D, Pl, hcs, _, hl, hm, hmm, hx, hi⟩
  · exact ⟨none, 0, 0, [], hcs, rfl, by simpa using Sl.nil w w.heap.size c, fun a ha => by cases ha⟩
  · have hlm : len ≤ m := by rw [hmm]; simp; omega
    rw [hc] at hi
    obtain ⟨l, hll, hlp⟩ := choose_list (α := α) (p := fun i a => Wf a ∧ ∀ j, j < c → w.cell? ((ad.add (i * c)).add j) = (enc a)[j]?) len (fun i hi' => by
      obtain ⟨cs', h1, h2⟩ := hi i (by omega)
      obtain ⟨a, rfl, ha⟩ := hel _ _ _ h2
      obtain ⟨_, _, h3⟩ := World.cells?_some h1
      exact ⟨a, ha, h3⟩)
    refine ⟨some ad, len, cap, l, hcs, hll, ⟨by rw [flatMap_len enc c hlen, hll], by omega, fun hn => ?_⟩, fun a ha => ?_⟩
    · obtain ⟨b, off, spot⟩ := ad
      have h0 : l[0]? = some l[0] := List.getElem?_eq_getElem (by omega)
      have hc0 := (hlp 0 _ h0).2 0 hpos
      have hp0 : 0 < (enc l[0]).length := by rw [hlen]; exact hpos
      rw [List.getElem?_eq_getElem hp0] at hc0
      have hspot : spot = none := by simpa [Addr.add] using World.cell?_spot hc0
      subst hspot
      refine ⟨b, off, rfl, ?_, fun j u hu => ?_⟩
      · have := World.block_lt_of_cell? w _ hc0
        rw [add_plain, add_plain] at this
        exact this
      · have hjl : j < len * c := by
          rcases Nat.lt_or_ge j (len * c) with hj | hj
          · exact hj
          · rw [List.getElem?_eq_none (by rw [flatMap_len enc c hlen, hll]; exact hj)] at hu; cases hu
        have hjd : j = j / c * c + j % c := by rw [Nat.mul_comm]; exact (Nat.div_add_mod j c).symm
        have hr : j % c < c := Nat.mod_lt _ hpos
        have hq : j / c < len := (Nat.div_lt_iff_lt_mul hpos).2 hjl
        rw [hjd, flatMap_get enc c hlen _ _ _ hr] at hu
        have hli : l[j / c]? = some l[j / c] := List.getElem?_eq_getElem (by omega)
        rw [hli] at hu
        have := (hlp _ _ hli).2 _ hr
        rw [add_plain, add_plain] at this
        rw [hjd, ← Nat.add_assoc, this]
        simpa using hu
    · obtain ⟨i, hi', rfl⟩ := List.getElem_of_mem ha
      exact (hlp i _ (List.getElem?_eq_getElem hi')).1

/-- An int's bounds. -/
theorem i64_bounds {n : Int} (h : (Lit.int .i64 n).wf = true) : -9223372036854775808 ≤ n ∧ n ≤ 9223372036854775807 := by
  simpa [Lit.wf, IntKind.min, IntKind.max, IntKind.signed, IntKind.bits] using h

end Go.Proofs.YtpfgdfgifdbijaaDoor.mem
