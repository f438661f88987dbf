/-
  Geometries in memory: plain data (IG) and the package's own (MG); rows of cells that are written in place.
-/
import Derived.Test.YtbacakdpfiiblaaGreatGeoP
import Derived.Test.YtbacakdpfiiblaaGreatApp
namespace Go.Proofs.YtbacakdpfiiblaaGreat.geo
open Go.ChangeShapes Go.WideShapes Go.ChangeAt Go.RowKit
open Go.Proofs.YtbacakdpfiiblaaGreat.mem
set_option linter.unusedVariables false
set_option linter.unusedSimpArgs false

/-- Doubles as cells. -/
def FL (fs : List Nat) : List Value := fs.map (fun b => .float .f64 b)
theorem FL_len (fs : List Nat) : (FL fs).length = fs.length := by simp [FL]
theorem FL_one (fs : List Nat) : ∀ v ∈ FL fs, v.oneCell' = true := by
  intro v hv
  simp only [FL, List.mem_map] at hv
  obtain ⟨b, _, rfl⟩ := hv
  rfl
theorem FL_app (a b : List Nat) : FL (a ++ b) = FL a ++ FL b := by simp [FL]
theorem FL_get {fs : List Nat} {k : Nat} (h : k < fs.length) : (FL fs)[k]? = some (.float .f64 (fs.getD k 0)) := by
  unfold FL
  rw [List.getElem?_map, List.getD_eq_getElem?_getD, List.getElem?_eq_getElem h]; rfl

theorem cells2 {w : World} {g : Nat} {t : TypeId} {a b : Value} (h : Blk w g t #[a, b]) :
    w.cell? ⟨g, 0, none⟩ = some a ∧ w.cell? ⟨g, 1, none⟩ = some b ∧ w.frozen? ⟨g, 0, none⟩ = false ∧ w.frozen? ⟨g, 1, none⟩ = false ∧ g < w.heap.size :=
  ⟨h.cell 0, h.cell 1, h.frozen 0 (show 0 < 2 by omega), h.frozen 1 (show 1 < 2 by omega), h.lt⟩
theorem cells4 {w : World} {g : Nat} {t : TypeId} {a b c d : Value} (h : Blk w g t #[a, b, c, d]) :
    w.cell? ⟨g, 0, none⟩ = some a ∧ w.cell? ⟨g, 1, none⟩ = some b ∧ w.cell? ⟨g, 2, none⟩ = some c ∧ w.cell? ⟨g, 3, none⟩ = some d ∧
    w.frozen? ⟨g, 0, none⟩ = false ∧ w.frozen? ⟨g, 1, none⟩ = false ∧ w.frozen? ⟨g, 2, none⟩ = false ∧ w.frozen? ⟨g, 3, none⟩ = false ∧ g < w.heap.size :=
  ⟨h.cell 0, h.cell 1, h.cell 2, h.cell 3, h.frozen 0 (show 0 < 4 by omega), h.frozen 1 (show 1 < 4 by omega), h.frozen 2 (show 2 < 4 by omega), h.frozen 3 (show 3 < 4 by omega), h.lt⟩
theorem cells5 {w : World} {g : Nat} {t : TypeId} {a b c d e : Value} (h : Blk w g t #[a, b, c, d, e]) :
    w.cell? ⟨g, 0, none⟩ = some a ∧ w.cell? ⟨g, 1, none⟩ = some b ∧ w.cell? ⟨g, 2, none⟩ = some c ∧ w.cell? ⟨g, 3, none⟩ = some d ∧ w.cell? ⟨g, 4, none⟩ = some e ∧
    w.frozen? ⟨g, 0, none⟩ = false ∧ w.frozen? ⟨g, 1, none⟩ = false ∧ w.frozen? ⟨g, 2, none⟩ = false ∧ w.frozen? ⟨g, 3, none⟩ = false ∧ w.frozen? ⟨g, 4, none⟩ = false ∧ g < w.heap.size :=
  ⟨h.cell 0, h.cell 1, h.cell 2, h.cell 3, h.cell 4, h.frozen 0 (show 0 < 5 by omega), h.frozen 1 (show 1 < 5 by omega), h.frozen 2 (show 2 < 5 by omega), h.frozen 3 (show 3 < 5 by omega), h.frozen 4 (show 4 < 5 by omega), h.lt⟩
theorem cells6 {w : World} {g : Nat} {t : TypeId} {a b c d e f : Value} (h : Blk w g t #[a, b, c, d, e, f]) :
    w.cell? ⟨g, 0, none⟩ = some a ∧ w.cell? ⟨g, 1, none⟩ = some b ∧ w.cell? ⟨g, 2, none⟩ = some c ∧ w.cell? ⟨g, 3, none⟩ = some d ∧ w.cell? ⟨g, 4, none⟩ = some e ∧ w.cell? ⟨g, 5, none⟩ = some f ∧
    w.frozen? ⟨g, 0, none⟩ = false ∧ w.frozen? ⟨g, 1, none⟩ = false ∧ w.frozen? ⟨g, 2, none⟩ = false ∧ w.frozen? ⟨g, 3, none⟩ = false ∧ w.frozen? ⟨g, 4, none⟩ = false ∧ w.frozen? ⟨g, 5, none⟩ = false ∧ g < w.heap.size :=
  ⟨h.cell 0, h.cell 1, h.cell 2, h.cell 3, h.cell 4, h.cell 5, h.frozen 0 (show 0 < 6 by omega), h.frozen 1 (show 1 < 6 by omega), h.frozen 2 (show 2 < 6 by omega), h.frozen 3 (show 3 < 6 by omega), h.frozen 4 (show 4 < 6 by omega), h.frozen 5 (show 5 < 6 by omega), h.lt⟩

/-! ### rows that are written in place -/
/-- Block g begins with xs. -/
def Row (w : World) (g : Nat) (t : TypeId) (xs : List Value) : Prop := ∃ cur : Array Value, Blk w g t cur ∧ xs.length ≤ cur.size ∧ ∀ j, j < xs.length → cur[j]? = xs[j]?
section
variable {w w' : World} {g : Nat} {t : TypeId} {xs : List Value}
theorem Row.lt (h : Row w g t xs) : g < w.heap.size := by obtain ⟨_, h, _⟩ := h; exact h.lt
theorem Row.of_blk (h : Blk w g t xs.toArray) : Row w g t xs := ⟨_, h, by simp, fun j hj => by simp⟩
theorem Row.cell (h : Row w g t xs) {j : Nat} {v : Value} (hj : xs[j]? = some v) : w.cell? ⟨g, j, none⟩ = some v := by
  obtain ⟨cur, h, hl, hc⟩ := h
  rw [h.cell j, hc j (List.getElem?_eq_some_iff.1 hj).1, hj]
theorem Row.frozen (h : Row w g t xs) {j : Nat} (hj : j < xs.length) : w.frozen? ⟨g, j, none⟩ = false := by
  obtain ⟨cur, h, hl, hc⟩ := h
  exact h.frozen j (by omega)
theorem Row.set_ (h : Row w g t xs) (i : Nat) (u : Value) : Row (w.setCell ⟨g, i, none⟩ u) g t (xs.set i u) := by
  obtain ⟨cur, h, hl, hc⟩ := h
  refine ⟨_, h.set_ i u, by simpa using hl, fun j hj => ?_⟩
  rw [List.length_set] at hj
  rw [Array.getElem?_setIfInBounds, List.getElem?_set]
  have h1 := hc j hj
  split
  · rename_i e
    subst e
    rw [if_pos (by omega), if_pos hj]
  · exact h1
theorem Row.far (h : Row w g t xs) {p : Addr} (hp : g ≠ p.block) (u : Value) : Row (w.setCell p u) g t xs := by
  obtain ⟨cur, h, hl, hc⟩ := h
  exact ⟨_, h.far hp u, hl, hc⟩
theorem Row.below (h : Row w g t xs) (hb : Below w.heap.size w w') : Row w' g t xs := by
  obtain ⟨cur, h, hl, hc⟩ := h
  exact ⟨_, h.below hb h.lt, hl, hc⟩
theorem Row.alloc (h : Row w g t xs) (o : Obj) : Row (w.alloc o) g t xs := by
  obtain ⟨cur, h, hl, hc⟩ := h
  exact ⟨_, h.alloc o, hl, hc⟩
theorem Row.sl (h : Row w g t xs) {n c : Nat} (hl : xs.length = n * c) (hm : n ≤ maxLen) : Sl w w.heap.size (some ⟨g, 0, none⟩) n c xs :=
  ⟨hl, hm, fun _ => ⟨g, 0, rfl, h.lt, fun j u hu => by rw [Nat.zero_add]; exact h.cell hu⟩⟩
end
section
variable {w : World} {g : Nat} {t : TypeId} {D R : List Value} {j : Nat}
theorem Row.frozen_at {r : List Value} (h : Row w g t (D ++ (r ++ R))) (hj : D.length = j) (k : Nat) (hk : k < r.length) : w.frozen? ⟨g, j + k, none⟩ = false := h.frozen (by simp; omega)
theorem Row.some_at {r : List Value} (h : Row w g t (D ++ (r ++ R))) (hj : D.length = j) (k : Nat) (hk : k < r.length) : w.cell? ⟨g, j + k, none⟩ = some r[k] := h.cell (by
  rw [List.getElem?_append_right (by omega), show j + k - D.length = k by omega, List.getElem?_append_left hk, List.getElem?_eq_getElem hk])
theorem Row.put2 {r0 r1 : Value} (h : Row w g t (D ++ ([r0, r1] ++ R))) (hj : D.length = j) (a b : Value) : Row ((w.setCell ⟨g, j, none⟩ a).setCell ⟨g, j + 1, none⟩ b) g t ((D ++ [a, b]) ++ R) := by
  have := (h.set_ j a).set_ (j + 1) b
  subst hj
  simpa [List.set_append] using this
theorem Row.put3 {r0 r1 r2 : Value} (h : Row w g t (D ++ ([r0, r1, r2] ++ R))) (hj : D.length = j) (a b c : Value) : Row (((w.setCell ⟨g, j, none⟩ a).setCell ⟨g, j + 1, none⟩ b).setCell ⟨g, j + 2, none⟩ c) g t ((D ++ [a, b, c]) ++ R) := by
  have := ((h.set_ j a).set_ (j + 1) b).set_ (j + 2) c
  subst hj
  simpa [List.set_append] using this
theorem Row.put4 {r0 r1 r2 r3 : Value} (h : Row w g t (D ++ ([r0, r1, r2, r3] ++ R))) (hj : D.length = j) (a b c d : Value) : Row ((((w.setCell ⟨g, j, none⟩ a).setCell ⟨g, j + 1, none⟩ b).setCell ⟨g, j + 2, none⟩ c).setCell ⟨g, j + 3, none⟩ d) g t ((D ++ [a, b, c, d]) ++ R) := by
  have := (((h.set_ j a).set_ (j + 1) b).set_ (j + 2) c).set_ (j + 3) d
  subst hj
  simpa [List.set_append] using this
theorem Row.put6 {r0 r1 r2 r3 r4 r5 : Value} (h : Row w g t (D ++ ([r0, r1, r2, r3, r4, r5] ++ R))) (hj : D.length = j) (a b c d e f : Value) : Row ((((((w.setCell ⟨g, j, none⟩ a).setCell ⟨g, j + 1, none⟩ b).setCell ⟨g, j + 2, none⟩ c).setCell ⟨g, j + 3, none⟩ d).setCell ⟨g, j + 4, none⟩ e).setCell ⟨g, j + 5, none⟩ f) g t ((D ++ [a, b, c, d, e, f]) ++ R) := by
  have := (((((h.set_ j a).set_ (j + 1) b).set_ (j + 2) c).set_ (j + 3) d).set_ (j + 4) e).set_ (j + 5) f
  subst hj
  simpa [List.set_append] using this
end
theorem cut2 {R : List Value} {n : Nat} (h : R.length = n + 2) : ∃ a b R', R = [a, b] ++ R' ∧ R'.length = n := by
  match R, h with
  | a :: b :: R', h => exact ⟨a, b, R', rfl, by simpa using h⟩
theorem cut3 {R : List Value} {n : Nat} (h : R.length = n + 3) : ∃ a b c R', R = [a, b, c] ++ R' ∧ R'.length = n := by
  match R, h with
  | a :: b :: c :: R', h => exact ⟨a, b, c, R', rfl, by simpa using h⟩
theorem cut4 {R : List Value} {n : Nat} (h : R.length = n + 4) : ∃ a b c d R', R = [a, b, c, d] ++ R' ∧ R'.length = n := by
  match R, h with
  | a :: b :: c :: d :: R', h => exact ⟨a, b, c, d, R', rfl, by simpa using h⟩
theorem cut6 {R : List Value} {n : Nat} (h : R.length = n + 6) : ∃ a b c d e f R', R = [a, b, c, d, e, f] ++ R' ∧ R'.length = n := by
  match R, h with
  | a :: b :: c :: d :: e :: f :: R', h => exact ⟨a, b, c, d, e, f, R', rfl, by simpa using h⟩
/-- A row that was made. -/
theorem make_row {w : World} {base n c : Nat} {e : TypeId} {b : Nat} {xs : List Value} (h : w.ownsRow base e c (.slice (some ⟨b, 0, none⟩) n n) n xs) : Row w b e xs ∧ xs.length = n * c := by
  rcases h.2 with ⟨hbad, _⟩ | ⟨g, cap, cur, hv, hb, hg, h1, h2, h3, h4⟩
  · cases hbad
  · simp only [Value.slice.injEq, Option.some.injEq, Addr.mk.injEq, and_true, true_and] at hv
    obtain ⟨rfl, rfl⟩ := hv
    exact ⟨⟨cur, ⟨_, hg, fun i _ h => by omega⟩, by rw [h.1, h3]; exact Nat.le_refl _, fun j hj => by rw [← h4, List.getElem?_take, if_pos (by rw [h.1] at hj; exact hj), Array.getElem?_toList]⟩, h.1⟩
/-- A row of one's own: none at all, or a block. -/
theorem own_row2 {w : World} {base n c : Nat} {e : TypeId} {A : Option Addr} {k : Nat} {xs : List Value} (h : w.ownsRow base e c (.slice A k n) k xs) (hk : 0 < k) (hl : xs.length = k * c) :
    ∃ g, A = some ⟨g, 0, none⟩ ∧ base ≤ g ∧ Row w g e xs := by
  rcases h.2 with ⟨hbad, rfl⟩ | ⟨g, cap, cur, hv, hb, hg, h1, h2, h3, h4⟩
  · omega
  · simp only [Value.slice.injEq] at hv
    obtain ⟨rfl, -, rfl⟩ := hv
    have hlen : xs.length ≤ cur.size := by
      rw [hl, h3]
      exact Nat.mul_le_mul_right c h1
    exact ⟨g, rfl, hb, cur, ⟨_, hg, fun i _ h => by omega⟩, hlen, fun j hj => by rw [← h4, List.getElem?_take, if_pos (by omega), Array.getElem?_toList]⟩

/-! ### what is kept of blocks of a set -/
def Keeps (S : Nat → Prop) (w w' : World) : Prop := w.heap.size ≤ w'.heap.size ∧ ∀ b, b < w.heap.size → S b → w'.heap[b]? = w.heap[b]?
section
variable {S T : Nat → Prop} {w w' w'' : World}
theorem Keeps.of_below (hb : Below w.heap.size w w') : Keeps S w w' := ⟨hb.size, fun b h _ => hb.block b h⟩
theorem Keeps.set {p : Addr} (h : ¬ S p.block) (u : Value) : Keeps S w (w.setCell p u) := ⟨by simp, fun b _ hb => Below.heap_setCell w p u b (fun e => h (e ▸ hb))⟩
theorem Keeps.grown {row : Option Nat} (h : w.grownBy w' row) (hn : ∀ r, row = some r → ¬ S r) : Keeps S w w' := ⟨h.size, fun b hb hs => h.block b hb (fun e => hn b e.symm hs)⟩
theorem Keeps.trans (h : Keeps S w w') (k : Keeps S w' w'') : Keeps S w w'' := ⟨Nat.le_trans h.1 k.1, fun b hb hs => (k.2 b (Nat.lt_of_lt_of_le hb h.1) hs).trans (h.2 b hb hs)⟩
theorem Keeps.less (h : Keeps S w w') (hs : ∀ b, T b → S b) : Keeps T w w' := ⟨h.1, fun b hb ht => h.2 b hb (hs b ht)⟩
end
/-- Of the set, or new. -/
def Fresh (S : Nat → Prop) (w : World) : Nat → Prop := fun a => S a ∨ w.heap.size ≤ a
theorem Fresh.next {S : Nat → Prop} {w w1 : World} (h : w.heap.size ≤ w1.heap.size) : ∀ a, Fresh (Fresh S w) w1 a → Fresh S w a := fun a ha => by
  rcases ha with ha | ha
  · exact ha
  · exact .inr (Nat.le_trans h ha)
/-- A slice that reads as cells, its block of a set. -/
def SlS (S : Nat → Prop) (w : World) (A : Option Addr) (n c : Nat) (xs : List Value) : Prop := Sl w w.heap.size A n c xs ∧ (0 < n → ∀ a, A = some a → S a.block)
theorem SlS.keep {S : Nat → Prop} {w w' : World} {A : Option Addr} {n c : Nat} {xs : List Value} (h : SlS S w A n c xs) (hk : Keeps S w w') : SlS S w' A n c xs := by
  refine ⟨⟨h.1.1, h.1.2.1, fun hn => ?_⟩, h.2⟩
  obtain ⟨b, off', rfl, hlt, hc⟩ := h.1.2.2 hn
  refine ⟨_, _, rfl, Nat.lt_of_lt_of_le hlt hk.1, fun j v hj => ?_⟩
  have hh := hk.2 b hlt (h.2 hn _ rfl)
  have := hc j v hj
  unfold World.cell? at this ⊢
  simp only at this ⊢
  rw [hh]; exact this
theorem SlS.less {S T : Nat → Prop} {w : World} {A : Option Addr} {n c : Nat} {xs : List Value} (h : SlS S w A n c xs) (hs : ∀ b, S b → T b) : SlS T w A n c xs := ⟨h.1, fun hn a ha => hs _ (h.2 hn a ha)⟩
/-- Of the set, and there. -/
def Old (S : Nat → Prop) (w : World) : Nat → Prop := fun a => S a ∧ a < w.heap.size
theorem SlS.old {S : Nat → Prop} {w : World} {A : Option Addr} {n c : Nat} {xs : List Value} (h : SlS S w A n c xs) : SlS (Old S w) w A n c xs := ⟨h.1, fun hn a ha => by
  obtain ⟨b, off, e, hb, -⟩ := h.1.2.2 hn
  refine ⟨h.2 hn a ha, ?_⟩
  rw [ha] at e
  injection e with e
  subst e
  exact hb⟩
theorem Fresh.old {S : Nat → Prop} {w w1 : World} (h : w.heap.size ≤ w1.heap.size) : ∀ a, Fresh (Old S w) w1 a → Fresh S w a := fun a ha => by
  rcases ha with ha | ha
  · exact .inl ha.1
  · exact .inr (Nat.le_trans h ha)
theorem Fresh.not {S : Nat → Prop} {w w1 : World} {a : Nat} (h : w.heap.size ≤ a) (h1 : a < w1.heap.size) : ¬ Fresh (Old S w) w1 a := fun ha => by
  rcases ha with ha | ha
  · exact absurd ha.2 (by omega)
  · omega
theorem Blk.keep {S : Nat → Prop} {w w' : World} {g : Nat} {t : TypeId} {cs : Array Value} (h : Blk w g t cs) (hk : Keeps S w w') (hs : S g) : Blk w' g t cs := h.of_heap (hk.2 g h.lt hs)

/-! ### plain data in memory -/
inductive IG
  | mk (k d : Int) (A : Option Addr) (ca : Nat) (ns : List Nat) (B : Option Addr) (cb : Nat) (kids : List IG)
def IG.enc : IG → List Value
  | .mk k d A ca ns B cb kids => [.int .i64 k, .int .i64 d, .slice A ns.length ca, .slice B kids.length cb]
theorem IG.enc_len (g : IG) : g.enc.length = 4 := by cases g; rfl
theorem IG.enc_one (g : IG) : ∀ v ∈ g.enc, v.oneCell' = true := by
  cases g
  intro v hv
  simp [IG.enc] at hv
  rcases hv with rfl | rfl | rfl | rfl <;> rfl
def big : Nat := 17592186044416
def kbig : Nat := 1099511627776
mutual
def IG.In (S : Nat → Prop) (w : World) : IG → Prop
  | .mk k d A ca ns B cb kids => ((Lit.int .i64 k).wf = true ∧ (Lit.int .i64 d).wf = true) ∧ (ns.length ≤ big ∧ kids.length ≤ big) ∧ (ns.length ≤ ca ∧ kids.length ≤ cb) ∧
      SlS S w A ns.length 1 (FL ns) ∧ SlS S w B kids.length 4 (kids.flatMap IG.enc) ∧ IG.InL S w kids
def IG.InL (S : Nat → Prop) (w : World) : List IG → Prop
  | [] => True
  | g :: l => g.In S w ∧ IG.InL S w l
end
theorem IG.inL_iff {S : Nat → Prop} {w : World} : ∀ {l : List IG}, IG.InL S w l ↔ ∀ g ∈ l, g.In S w
  | [] => by simp [IG.InL]
  | g :: l => by rw [IG.InL, IG.inL_iff (l := l)]; simp
mutual
def IG.plain : IG → PG
  | .mk k d A ca ns B cb kids => .mk k d ns (IG.plainL kids)
def IG.plainL : List IG → List PG
  | [] => []
  | g :: l => g.plain :: IG.plainL l
end
theorem IG.plainL_map : ∀ l : List IG, IG.plainL l = l.map IG.plain
  | [] => rfl
  | g :: l => by rw [IG.plainL, IG.plainL_map l, List.map_cons]
theorem IG.plain_eq (k d : Int) (A : Option Addr) (ca : Nat) (ns : List Nat) (B : Option Addr) (cb : Nat) (kids : List IG) : (IG.mk k d A ca ns B cb kids).plain = .mk k d ns (kids.map IG.plain) := by rw [IG.plain, IG.plainL_map]
theorem IG.ind {P : IG → Prop} (h : ∀ k d A ca ns B cb kids, (∀ g ∈ kids, P g) → P (.mk k d A ca ns B cb kids)) : ∀ g, P g
  | .mk k d A ca ns B cb kids => h k d A ca ns B cb kids fun g hg => IG.ind h g
termination_by g => SizeOf.sizeOf g
decreasing_by
  have := List.sizeOf_lt_of_mem hg
  simp
  omega
theorem IG.keep {S : Nat → Prop} {w w' : World} (hk : Keeps S w w') : ∀ {g : IG}, g.In S w → g.In S w' := by
  intro g
  induction g using IG.ind with
  | h k d A ca ns B cb kids ih =>
    intro h
    rw [IG.In] at h ⊢
    obtain ⟨h1, h2, h3, h4, h5, h6⟩ := h
    exact ⟨h1, h2, h3, h4.keep hk, h5.keep hk, IG.inL_iff.2 fun g hg => ih g hg (IG.inL_iff.1 h6 g hg)⟩
theorem IG.less {S T : Nat → Prop} {w : World} (hs : ∀ b, S b → T b) : ∀ {g : IG}, g.In S w → g.In T w := by
  intro g
  induction g using IG.ind with
  | h k d A ca ns B cb kids ih =>
    intro h
    rw [IG.In] at h ⊢
    obtain ⟨h1, h2, h3, h4, h5, h6⟩ := h
    exact ⟨h1, h2, h3, h4.less hs, h5.less hs, IG.inL_iff.2 fun g hg => ih g hg (IG.inL_iff.1 h6 g hg)⟩
theorem IG.old {S : Nat → Prop} {w : World} : ∀ {g : IG}, g.In S w → g.In (Old S w) w := by
  intro g
  induction g using IG.ind with
  | h k d A ca ns B cb kids ih =>
    intro h
    rw [IG.In] at h ⊢
    obtain ⟨h1, h2, h3, h4, h5, h6⟩ := h
    exact ⟨h1, h2, h3, h4.old, h5.old, IG.inL_iff.2 fun g hg => ih g hg (IG.inL_iff.1 h6 g hg)⟩
theorem IG.up {S : Nat → Prop} {w w' : World} (hb : Below w.heap.size w w') {g : IG} (h : g.In S w) : g.In S w' := IG.keep (.of_below hb) h

/-! ### the package's geometries in memory -/
inductive MG
  | pt (d : Nat) (full : Bool) (p : Pl)
  | ln (d : Nat) (A : Option Addr) (c : Nat) (ns : List Nat)
  | mu (k d : Nat) (A : Option Addr) (c : Nat) (kids : List MG)
  | bx (a : Nat) (g : MG)
def MG.kind : MG → Nat
  | .pt .. => 1
  | .ln .. => 2
  | .mu k .. => k
  | .bx .. => 7
def MG.dim : MG → Nat
  | .pt d _ _ => d
  | .ln d _ _ _ => d
  | .mu _ d _ _ _ => d
  | .bx _ _ => 0
/-- The types of the structs, and of the pointers to them. -/
def sT : Nat → TypeId
  | 0 => 102
  | 1 => 77
  | 2 => 83
  | 3 => 87
  | 4 => 91
  | 5 => 94
  | _ => 98
def pT : Nat → TypeId
  | 0 => 180
  | 1 => 162
  | 2 => 164
  | 3 => 167
  | 4 => 170
  | 5 => 173
  | _ => 176
def MG.enc : MG → List Value
  | .pt d full p => [.float .f64 p.x, .float .f64 p.y, .float .f64 p.z, .float .f64 p.m, .int .u8 d, .bool full]
  | .ln d A c ns => [.int .u8 d, .slice A ns.length c]
  | .mu k d A c kids => [.slice A kids.length c, .int .u8 d]
  | .bx a g => [.int .i64 g.kind, .iface (pT g.kind) (.pointer (some ⟨a, 0, none⟩))]
/-- The kind of a kind's parts, and how many cells one takes. -/
def pk : Nat → Nat
  | 0 => 7
  | 3 => 2
  | 4 => 1
  | 5 => 2
  | 6 => 3
  | _ => 8
def esz (k : Nat) : Nat := if k = 4 then 6 else 2
mutual
def MG.In (S : Nat → Prop) (w : World) : MG → Prop
  | .pt d full p => d < 4 ∧ clip d p = p
  | .ln d A c ns => d < 4 ∧ ns.length % wd d = 0 ∧ ns.length / wd d * 4 ≤ big ∧ SlS S w A ns.length 1 (FL ns)
  | .mu k d A c kids => d < 4 ∧ pk k < 8 ∧ kids.length ≤ kbig ∧ SlS S w A kids.length (esz k) (kids.flatMap MG.enc) ∧ MG.InL S w (pk k) kids
  | .bx a g => g.kind < 7 ∧ S a ∧ Blk w a (sT g.kind) g.enc.toArray ∧ g.In S w
def MG.InL (S : Nat → Prop) (w : World) (k : Nat) : List MG → Prop
  | [] => True
  | g :: l => (g.kind = k ∧ g.In S w) ∧ MG.InL S w k l
end
theorem MG.inL_iff {S : Nat → Prop} {w : World} {k : Nat} : ∀ {l : List MG}, MG.InL S w k l ↔ ∀ g ∈ l, g.kind = k ∧ g.In S w
  | [] => by simp [MG.InL]
  | g :: l => by rw [MG.InL, MG.inL_iff (l := l)]; simp
mutual
def MG.plain : MG → PG
  | .pt d full p => .mk 1 d (if full then emit d p else []) []
  | .ln d A c ns => .mk 2 d ns []
  | .mu k d A c kids => .mk k d [] (MG.plainL kids)
  | .bx a g => g.plain
def MG.plainL : List MG → List PG
  | [] => []
  | g :: l => g.plain :: MG.plainL l
end
theorem MG.plainL_map : ∀ l : List MG, MG.plainL l = l.map MG.plain
  | [] => rfl
  | g :: l => by rw [MG.plainL, MG.plainL_map l, List.map_cons]
theorem MG.plain_mu (k d : Nat) (A : Option Addr) (c : Nat) (kids : List MG) : (MG.mu k d A c kids).plain = .mk k d [] (kids.map MG.plain) := by rw [MG.plain, MG.plainL_map]
theorem MG.ind {P : MG → Prop} (h1 : ∀ d full p, P (.pt d full p)) (h2 : ∀ d A c ns, P (.ln d A c ns)) (h3 : ∀ k d A c kids, (∀ g ∈ kids, P g) → P (.mu k d A c kids)) (h4 : ∀ a g, P g → P (.bx a g)) : ∀ g, P g
  | .pt d full p => h1 d full p
  | .ln d A c ns => h2 d A c ns
  | .mu k d A c kids => h3 k d A c kids fun g hg => MG.ind h1 h2 h3 h4 g
  | .bx a g => h4 a g (MG.ind h1 h2 h3 h4 g)
termination_by g => SizeOf.sizeOf g
decreasing_by
  · have := List.sizeOf_lt_of_mem hg
    simp
    omega
  · simp
    omega
theorem MG.ln_len {S : Nat → Prop} {w : World} {d : Nat} {A : Option Addr} {c : Nat} {ns : List Nat} (h : (MG.ln d A c ns).In S w) : ns.length = ns.length / wd d * wd d ∧ ns.length ≤ big := by
  rw [MG.In] at h
  have h1 := whole h.2.1
  have h2 := wd_two d
  refine ⟨h1, ?_⟩
  have h3 : ns.length / wd d * wd d ≤ ns.length / wd d * 4 := Nat.mul_le_mul_left _ h2.2
  have := h.2.2.1
  omega
theorem MG.keep {S : Nat → Prop} {w w' : World} (hk : Keeps S w w') : ∀ {g : MG}, g.In S w → g.In S w' := by
  intro g
  induction g using MG.ind with
  | h1 d full p => intro h; rw [MG.In] at h ⊢; exact h
  | h2 d A c ns => intro h; rw [MG.In] at h ⊢; exact ⟨h.1, h.2.1, h.2.2.1, h.2.2.2.keep hk⟩
  | h3 k d A c kids ih =>
    intro h
    rw [MG.In] at h ⊢
    obtain ⟨a1, a2, a3, a4, a5⟩ := h
    exact ⟨a1, a2, a3, a4.keep hk, MG.inL_iff.2 fun g hg => ⟨(MG.inL_iff.1 a5 g hg).1, ih g hg (MG.inL_iff.1 a5 g hg).2⟩⟩
  | h4 a g ih =>
    intro h
    rw [MG.In] at h ⊢
    exact ⟨h.1, h.2.1, Blk.keep h.2.2.1 hk h.2.1, ih h.2.2.2⟩
theorem MG.less {S T : Nat → Prop} {w : World} (hs : ∀ b, S b → T b) : ∀ {g : MG}, g.In S w → g.In T w := by
  intro g
  induction g using MG.ind with
  | h1 d full p => intro h; rw [MG.In] at h ⊢; exact h
  | h2 d A c ns => intro h; rw [MG.In] at h ⊢; exact ⟨h.1, h.2.1, h.2.2.1, h.2.2.2.less hs⟩
  | h3 k d A c kids ih =>
    intro h
    rw [MG.In] at h ⊢
    obtain ⟨a1, a2, a3, a4, a5⟩ := h
    exact ⟨a1, a2, a3, a4.less hs, MG.inL_iff.2 fun g hg => ⟨(MG.inL_iff.1 a5 g hg).1, ih g hg (MG.inL_iff.1 a5 g hg).2⟩⟩
  | h4 a g ih =>
    intro h
    rw [MG.In] at h ⊢
    exact ⟨h.1, hs _ h.2.1, h.2.2.1, ih h.2.2.2⟩
theorem MG.old {S : Nat → Prop} {w : World} : ∀ {g : MG}, g.In S w → g.In (Old S w) w := by
  intro g
  induction g using MG.ind with
  | h1 d full p => intro h; rw [MG.In] at h ⊢; exact h
  | h2 d A c ns => intro h; rw [MG.In] at h ⊢; exact ⟨h.1, h.2.1, h.2.2.1, h.2.2.2.old⟩
  | h3 k d A c kids ih =>
    intro h
    rw [MG.In] at h ⊢
    obtain ⟨a1, a2, a3, a4, a5⟩ := h
    exact ⟨a1, a2, a3, a4.old, MG.inL_iff.2 fun g hg => ⟨(MG.inL_iff.1 a5 g hg).1, ih g hg (MG.inL_iff.1 a5 g hg).2⟩⟩
  | h4 a g ih =>
    intro h
    rw [MG.In] at h ⊢
    exact ⟨h.1, ⟨h.2.1, h.2.2.1.lt⟩, h.2.2.1, ih h.2.2.2⟩
theorem MG.up {S : Nat → Prop} {w w' : World} (hb : Below w.heap.size w w') {g : MG} (h : g.In S w) : g.In S w' := MG.keep (.of_below hb) h
theorem MG.is_pt {S : Nat → Prop} {w : World} {g : MG} (hk : g.kind = 1) (h : g.In S w) : ∃ d full p, g = .pt d full p := by
  cases g with
  | pt d full p => exact ⟨_, _, _, rfl⟩
  | ln d A c ns => cases hk
  | mu k d A c kids =>
    rw [MG.In] at h
    obtain rfl : k = 1 := hk
    exact absurd h.2.1 (by decide)
  | bx a g => cases hk
theorem MG.is_ln {S : Nat → Prop} {w : World} {g : MG} (hk : g.kind = 2) (h : g.In S w) : ∃ d A c ns, g = .ln d A c ns := by
  cases g with
  | pt d full p => cases hk
  | ln d A c ns => exact ⟨_, _, _, _, rfl⟩
  | mu k d A c kids =>
    rw [MG.In] at h
    obtain rfl : k = 2 := hk
    exact absurd h.2.1 (by decide)
  | bx a g => cases hk
theorem MG.is_mu {S : Nat → Prop} {w : World} {g : MG} {k : Nat} (hk : g.kind = k) (h0 : k ≠ 1) (h1 : k ≠ 2) (h2 : k ≠ 7) : ∃ d A c kids, g = .mu k d A c kids := by
  cases g with
  | pt d full p => exact absurd hk.symm h0
  | ln d A c ns => exact absurd hk.symm h1
  | mu k' d A c kids =>
    obtain rfl : k' = k := hk
    exact ⟨_, _, _, _, rfl⟩
  | bx a g => exact absurd hk.symm h2
theorem MG.is_bx {S : Nat → Prop} {w : World} {g : MG} (hk : g.kind = 7) (h : g.In S w) : ∃ a m, g = .bx a m := by
  cases g with
  | pt d full p => cases hk
  | ln d A c ns => cases hk
  | mu k d A c kids =>
    rw [MG.In] at h
    obtain rfl : k = 7 := hk
    exact absurd h.2.1 (by decide)
  | bx a g => exact ⟨_, _, rfl⟩
theorem MG.enc_two {S : Nat → Prop} {w : World} {g : MG} (h : g.In S w) (h1 : g.kind ≠ 1) : ∃ u v, g.enc = [u, v] := by
  cases g with
  | pt d full p => exact absurd rfl h1
  | ln d A c ns => exact ⟨_, _, rfl⟩
  | mu k d A c kids => exact ⟨_, _, rfl⟩
  | bx a g => exact ⟨_, _, rfl⟩
theorem MG.enc_one (g : MG) : ∀ v ∈ g.enc, v.oneCell' = true := by
  intro v hv
  cases g <;> simp [MG.enc] at hv
  · rcases hv with rfl | rfl | rfl | rfl | rfl | rfl <;> rfl
  · rcases hv with rfl | rfl <;> rfl
  · rcases hv with rfl | rfl <;> rfl
  · rcases hv with rfl | rfl <;> rfl
/-- The parts of a row, each of s cells. -/
theorem flat_at {α : Type} {E : α → List Value} {s : Nat} : ∀ {l : List α}, (∀ g ∈ l, (E g).length = s) → ∀ {i : Nat} {g : α}, l[i]? = some g → ∀ c, c < s → (l.flatMap E)[i * s + c]? = (E g)[c]?
  | [], _, i, g, hi, c, hc => by simp at hi
  | a :: l, hE, 0, g, hi, c, hc => by
    simp at hi
    subst hi
    rw [List.flatMap_cons, Nat.zero_mul, Nat.zero_add, List.getElem?_append_left (by rw [hE a (by simp)]; exact hc)]
  | a :: l, hE, i + 1, g, hi, c, hc => by
    have hi' : l[i]? = some g := by simpa using hi
    rw [List.flatMap_cons, List.getElem?_append_right (by rw [hE a (by simp), Nat.succ_mul]; omega), hE a (by simp), show (i + 1) * s + c - s = i * s + c by rw [Nat.succ_mul]; omega]
    exact flat_at (fun g hg => hE g (by simp [hg])) hi' c hc
theorem flatE_len {α : Type} {E : α → List Value} {s : Nat} {l : List α} (hE : ∀ g ∈ l, (E g).length = s) : (l.flatMap E).length = l.length * s := by
  induction l with
  | nil => simp
  | cons a l ih => rw [List.flatMap_cons, List.length_append, hE a (by simp), ih (fun g hg => hE g (by simp [hg])), List.length_cons, Nat.succ_mul]; omega
theorem sl_part {w : World} {B : Nat} {A : Option Addr} {α : Type} {E : α → List Value} {s : Nat} {l : List α} (h : Sl w B A l.length s (l.flatMap E)) (hE : ∀ g ∈ l, (E g).length = s) (h0 : 0 < l.length) :
    ∃ b off, A = some ⟨b, off, none⟩ ∧ b < B ∧ ∀ i g, l[i]? = some g → ∀ c v, (E g)[c]? = some v → w.cell? ⟨b, off + (i * s + c), none⟩ = some v := by
  obtain ⟨b, off, rfl, hb, hc⟩ := h.2.2 h0
  refine ⟨b, off, rfl, hb, fun i g hi c v hv => hc _ _ ?_⟩
  rw [flat_at hE hi c (by rw [← hE g (List.mem_of_getElem? hi)]; exact (List.getElem?_eq_some_iff.1 hv).1), hv]
theorem MG.enc_esz {S : Nat → Prop} {w : World} {k : Nat} {kids : List MG} (h : MG.InL S w (pk k) kids) (hk : pk k < 8) : ∀ g ∈ kids, g.enc.length = esz k := by
  intro g hg
  obtain ⟨e, h1⟩ := MG.inL_iff.1 h g hg
  unfold esz
  by_cases h4 : k = 4
  · subst h4
    obtain ⟨d, full, p, rfl⟩ := MG.is_pt e h1
    rfl
  · have hne : g.kind ≠ 1 := by
      rw [e]
      unfold pk at hk ⊢
      split <;> simp_all
    obtain ⟨u, v, e2⟩ := MG.enc_two h1 hne
    rw [e2, if_neg h4]; rfl
end Go.Proofs.YtbacakdpfiiblaaGreat.geo
