/-
  A question to a tree: the walk of impl.told, for the searches.
-/
import Derived.Test.YtflaklceejokhaaDoorTreeS4
import Derived.Test.YtflaklceejokhaaDoorTreeS5
namespace Go.Proofs.YtflaklceejokhaaDoor.tree
open Go.ChangeShapes Go.WideShapes Go.ChangeAt Go.RowKit
open Go.Proofs.YtflaklceejokhaaDoor.mem Go.Proofs.YtflaklceejokhaaDoor.flt Ieee
set_option linter.unusedVariables false
set_option linter.unusedSimpArgs false

theorem TS.keep {B ob ab : Nat} {S : Addr} {a : Ask} {w w' : World} {l : List Int} {F G : Nat → Prop} (h : TS B S ob ab a w l F) (hf : Fr G w w') (hG : ∀ b, G b → B ≤ b) (hd : ∀ b, F b → ¬ G b) : TS B S ob ab a w' l F := by
  obtain ⟨v, h1, h2, h3, h4, h5⟩ := h.ex
  have hbo := hf.block ob h1.lt (hd ob ((h5 ob).2 (.inl rfl)))
  have hba := hf.block ab h.ask.lt (hd ab ((h5 ab).2 (.inr (.inl rfl))))
  have gv := h.gv
  unfold GV at gv
  have g0 := h.g0
  have h0 := hf.block 0 (World.block_lt_of_cell? w _ gv) (fun hg => by have := hG _ hg; omega)
  refine ⟨⟨v, h1.of_heap hbo, ⟨h2.1, ?_⟩, h3, h4, h5⟩, h.ask.of_heap hba, ?_, h.ne, h.g0, h.ob0, h.ab0⟩
  · rcases h2.2 with k | ⟨g, cap, cur, hv, k1, k2, k3⟩
    · exact .inl k
    · exact .inr ⟨g, cap, cur, hv, k1, (hf.block g (Array.getElem?_eq_some_iff.1 k2).1 (hd g ((h5 g).2 (.inr (.inr (by rw [hv]; rfl)))))).trans k2, k3⟩
  · unfold GV
    unfold World.cell? at gv ⊢
    simp only [h0]
    exact gv
theorem TS.lt {B ob ab : Nat} {S : Addr} {a : Ask} {w : World} {l : List Int} {F : Nat → Prop} (h : TS B S ob ab a w l F) {b : Nat} (hb : F b) : B ≤ b ∧ b < w.heap.size := by
  obtain ⟨v, h1, h2, h3, h4, h5⟩ := h.ex
  rcases (h5 b).1 hb with rfl | rfl | e
  · exact ⟨h.ob0, h1.lt⟩
  · exact ⟨h.ab0, h.ask.lt⟩
  · exact h2.lt b e.symm

/-- What is asked of errors.Is. -/
def IsC (S : Addr) (ans : List Int → Er) : Prop := ∀ l id w, Calls Tryd.prog 27 #[(ans (l ++ [id])).v S, Er.stop.v S] w fun e w' => e = .returned (.bool (ans (l ++ [id])).isStop) ∧ Below w.heap.size w w'

theorem toldCb {B ob ab : Nat} {S : Addr} {a : Ask} (hI : IsC S (ansT a.stop a.how)) : Cb B 18 (.pointer (some ⟨ob, 0, none⟩)) (.pointer (some ⟨ab, 0, none⟩)) S (ansT a.stop a.how) (TS B S ob ab a) :=
  ⟨fun w l F id hl h => told1_calls id hl h, fun w w' l F G h hf hG hd => h.keep hf hG hd, fun args w => by kernel_rfl, fun w l F b h hb => h.lt hb, fun w l F h => h.gv, hI⟩

/-- An answer. -/
structure An where
  (ids : List Int) (err own found : Bool) (id : Int) (b : Bx) (cnt : Int)
def anA (v : Value) (a : An) : Array Value := #[v, .bool a.err, .bool a.own, .bool a.found, .int .i64 a.id, .float .f64 a.b.x0, .float .f64 a.b.y0, .float .f64 a.b.x1, .float .f64 a.b.y1, .int .i64 a.cnt]
def Er.isOwn : Er → Bool
  | .own => true
  | .wown => true
  | _ => false
/-- What a search answers. -/
def anR (R : List Int × Er) : An := ⟨R.1, !R.2.isNone, R.2.isOwn, false, 0, ⟨0, 0, 0, 0⟩, 0⟩
def ToldPost (w : World) (a : An) (e : Ending) (w' : World) : Prop :=
  ∃ v, e = .returned (.agg (anA v a)) ∧ w'.ownsRow w.heap.size 3 1 v a.ids.length (idVs a.ids) ∧ Below w.heap.size w w'

/-- What an error wraps. -/
def Er.inner (S : Addr) : Er → Value
  | .wstop => Er.stop.v S
  | .wown => Er.own.v S
  | _ => .nilIface
def Er.isW : Er → Bool
  | .wstop => true
  | .wown => true
  | _ => false
theorem taW (S : Addr) (er : Er) (w : World) : (Instr.typeAssert (er.v S) 58 60 true).run Tryd.prog w = .ok (.tuple #[.agg #[er.inner S], .bool er.isW]) w := by
  cases er <;> kernel_rfl
/-- The error, or what it wraps. -/
def Er.un (S : Addr) (er : Er) : Value := if er.isW = true then er.inner S else er.v S
theorem taO (S : Addr) (er : Er) (w : World) : (Instr.typeAssert (er.un S) 58 62 true).run Tryd.prog w = .ok (.tuple #[.agg #[], .bool er.isOwn]) w := by
  cases er <;> kernel_rfl

theorem storeI (S : Addr) (er : Er) (w : World) (a : Addr) (m : Mode) : (store a (er.inner S) m).run Tryd.prog w = stored Tryd.prog w a (er.inner S) m := by
  cases er <;> exact run_store _ _ _ _ _ rfl

theorem Fr.toBelow {F : Nat → Prop} {a b : World} {n : Nat} (h : Fr F a b) (hF : ∀ x, F x → n ≤ x) (hn : n ≤ a.heap.size) : Below n a b :=
  ⟨h.os, h.tape, h.output, h.size, fun k hk => h.block k (Nat.lt_of_lt_of_le hk hn) (fun hf => by have := hF k hf; omega)⟩
theorem own_rebase {w : World} {B B' : Nat} {e : TypeId} {s n : Nat} {v : Value} {xs : List Value} (h : w.ownsRow B e s v n xs) (hk : ∀ k, v.ownBlock = some k → B' ≤ k) : w.ownsRow B' e s v n xs := by
  refine ⟨h.1, ?_⟩
  rcases h.2 with h1 | ⟨g, cap, cur, hv, h1, h2⟩
  · exact .inl h1
  · exact .inr ⟨g, cap, cur, hv, hk g (by rw [hv]; rfl), h2⟩

/-- The world in which told calls a search, and what of it is known. -/
theorem told_start {w : World} {S : Addr} {w0 : World} {a : Ask} (hgv : GV w S) (h0 : 0 < w0.heap.size) (hsz : w0.heap.size ≤ w.heap.size) (wA : World)
    (hwA : wA = ((w.alloc (.cells (askA a) 34)).alloc (.cells (toldA (.slice none 0 0)) 38)).alloc (.cells (toldA (.slice none 0 0)) 38)) :
    Below w.heap.size w wA ∧ Blk wA (w.heap.size + 1) 38 (toldA (.slice none 0 0)) ∧ TS w0.heap.size S (w.heap.size + 1 + 1) w.heap.size a wA [] (fun b => b = w.heap.size + 1 + 1 ∨ b = w.heap.size) := by
  have hb : Below w.heap.size w wA := by rw [hwA]; exact (((Below.refl _ _).alloc (Nat.le_refl _) _).alloc (by simp) _).alloc (by simp; omega) _
  have b1 : Blk wA w.heap.size 34 (askA a) := by rw [hwA]; exact ((Blk.new _ _ _).alloc _).alloc _
  have b2 : Blk wA (w.heap.size + 1) 38 (toldA (.slice none 0 0)) := by
    rw [hwA]
    refine Blk.alloc ?_ _
    have := Blk.new (w.alloc (.cells (askA a) 34)) 38 (toldA (.slice none 0 0))
    rw [show (w.alloc (.cells (askA a) 34)).heap.size = w.heap.size + 1 by simp] at this
    exact this
  have b3 : Blk wA (w.heap.size + 1 + 1) 38 (toldA (.slice none 0 0)) := by
    rw [hwA]
    have := Blk.new ((w.alloc (.cells (askA a) 34)).alloc (.cells (toldA (.slice none 0 0)) 38)) 38 (toldA (.slice none 0 0))
    rw [show ((w.alloc (.cells (askA a) 34)).alloc (.cells (toldA (.slice none 0 0)) 38)).heap.size = w.heap.size + 1 + 1 by simp] at this
    exact this
  refine ⟨hb, b2, ⟨⟨.slice none 0 0, b3, World.ownsRow_nil _ _ _ _, by simp [Value.ownBlock], by simp [Value.ownBlock], fun b => ?_⟩, b1, ?_, by omega, h0, by omega, hsz⟩⟩
  · simp [Value.ownBlock]
  · unfold GV at hgv ⊢
    exact (hb.cell (p := ⟨0, 0, none⟩) (World.block_lt_of_cell? w _ hgv)).trans hgv

/-- What told does behind a search. -/
def outA (v : Value) (e o : Bool) : Array Value := #[v, .bool e, .bool o, .bool false, .int .i64 0, .float .f64 0, .float .f64 0, .float .f64 0, .float .f64 0, .int .i64 0]
theorem cells10 {w : World} {g : Nat} {t : TypeId} {a0 a1 a2 a3 a4 a5 a6 a7 a8 a9 : Value} (h : Blk w g t #[a0, a1, a2, a3, a4, a5, a6, a7, a8, a9]) :
    w.cell? ⟨g, 0, none⟩ = some a0 ∧ w.cell? ⟨g, 1, none⟩ = some a1 ∧ w.cell? ⟨g, 2, none⟩ = some a2 ∧ w.cell? ⟨g, 3, none⟩ = some a3 ∧ w.cell? ⟨g, 4, none⟩ = some a4 ∧ w.cell? ⟨g, 5, none⟩ = some a5 ∧ w.cell? ⟨g, 6, none⟩ = some a6 ∧ w.cell? ⟨g, 7, none⟩ = some a7 ∧ w.cell? ⟨g, 8, none⟩ = some a8 ∧ w.cell? ⟨g, 9, none⟩ = some a9 ∧ g < w.heap.size :=
  ⟨h.cell 0, h.cell 1, h.cell 2, h.cell 3, h.cell 4, h.cell 5, h.cell 6, h.cell 7, h.cell 8, h.cell 9, h.lt⟩
theorem froz10 {w : World} {g : Nat} {t : TypeId} {a0 a1 a2 a3 a4 a5 a6 a7 a8 a9 : Value} (h : Blk w g t #[a0, a1, a2, a3, a4, a5, a6, a7, a8, a9]) :
    w.frozen? ⟨g, 0, none⟩ = false ∧ w.frozen? ⟨g, 1, none⟩ = false ∧ w.frozen? ⟨g, 2, none⟩ = false ∧ w.frozen? ⟨g, 3, none⟩ = false ∧ w.frozen? ⟨g, 4, none⟩ = false ∧ w.frozen? ⟨g, 5, none⟩ = false ∧ w.frozen? ⟨g, 6, none⟩ = false ∧ w.frozen? ⟨g, 7, none⟩ = false ∧ w.frozen? ⟨g, 8, none⟩ = false ∧ w.frozen? ⟨g, 9, none⟩ = false :=
  ⟨h.frozen 0 (show 0 < 10 by omega), h.frozen 1 (show 1 < 10 by omega), h.frozen 2 (show 2 < 10 by omega), h.frozen 3 (show 3 < 10 by omega), h.frozen 4 (show 4 < 10 by omega), h.frozen 5 (show 5 < 10 by omega), h.frozen 6 (show 6 < 10 by omega), h.frozen 7 (show 7 < 10 by omega), h.frozen 8 (show 8 < 10 by omega), h.frozen 9 (show 9 < 10 by omega)⟩

/-- The world in which told returns. -/
def endW (w2 : World) (ob rb : Nat) (v : Value) (z x : Bool) (u : Value) : World :=
  ((((((((((((w2.setCell ⟨ob, 1, none⟩ (.bool z)).setCell ⟨ob, 2, none⟩ (.bool x)).setCell ⟨rb, 0, none⟩ v).setCell ⟨rb, 1, none⟩ (.bool z)).setCell ⟨rb, 2, none⟩ (.bool x)).setCell ⟨rb, 3, none⟩ (.bool false)).setCell ⟨rb, 4, none⟩ (.int .i64 0)).setCell ⟨rb, 5, none⟩ (.float .f64 0)).setCell ⟨rb, 6, none⟩ (.float .f64 0)).setCell
    ⟨rb, 7, none⟩ (.float .f64 0)).setCell ⟨rb, 8, none⟩ (.float .f64 0)).setCell ⟨rb, 9, none⟩ (.int .i64 0)).alloc (.cells #[u] 60)
theorem told_end {w w2 : World} {ob rb B m : Nat} {v : Value} (z x : Bool) (u : Value) {xs : List Value} (hb : Below w.heap.size w w2) (hr : Blk w2 rb 38 (toldA (.slice none 0 0))) (ho : w2.ownsRow B 3 1 v m xs) (hv : ∀ k, v.ownBlock = some k → w.heap.size ≤ k ∧ k ≠ ob ∧ k ≠ rb) (h1 : w.heap.size ≤ ob) (h2 : w.heap.size ≤ rb) (hne : rb ≠ ob) :
    Blk (endW w2 ob rb v z x u) rb 38 (outA v z x) ∧ (endW w2 ob rb v z x u).ownsRow w.heap.size 3 1 v m xs ∧ Below w.heap.size w (endW w2 ob rb v z x u) := by
  unfold endW
  refine ⟨?_, ?_, ?_⟩
  · refine Blk.alloc ?_ _
    have f1 : (⟨ob, 1, none⟩ : Addr).block = ob := rfl
    have := (((((((((((hr.far (p := ⟨ob, 1, none⟩) hne (.bool z)).far (p := ⟨ob, 2, none⟩) hne (.bool x)).set_ 0 v).set_ 1 (.bool z)).set_ 2 (.bool x)).set_ 3 (.bool false)).set_ 4 (.int .i64 0)).set_ 5 (.float .f64 0)).set_ 6 (.float .f64 0)).set_ 7 (.float .f64 0)).set_ 8 (.float .f64 0)).set_ 9 (.int .i64 0)
    simpa [toldA, outA] using this
  · refine World.ownsRow.alloc ?_ _
    have ho' := own_rebase ho (fun k hk => (hv k hk).1)
    have n1 : v.ownBlock = none ∨ v.ownBlock ≠ some ob := by
      cases e : v.ownBlock with
      | none => exact .inl rfl
      | some k => exact .inr (fun h => (hv k e).2.1 (Option.some.inj h))
    have n2 : v.ownBlock = none ∨ v.ownBlock ≠ some rb := by
      cases e : v.ownBlock with
      | none => exact .inl rfl
      | some k => exact .inr (fun h => (hv k e).2.2 (Option.some.inj h))
    exact (((((((((((ho'.kept (grown_set _ _ _) n1).kept (grown_set _ _ _) n1).kept (grown_set _ _ _) n2).kept (grown_set _ _ _) n2).kept (grown_set _ _ _) n2).kept (grown_set _ _ _) n2).kept (grown_set _ _ _) n2).kept (grown_set _ _ _) n2).kept (grown_set _ _ _) n2).kept (grown_set _ _ _) n2).kept (grown_set _ _ _) n2).kept (grown_set _ _ _) n2
  · have hs := hb.size
    exact ((((((((((((hb.setCell h1 _).setCell h1 _).setCell h2 _).setCell h2 _).setCell h2 _).setCell h2 _).setCell h2 _).setCell h2 _).setCell h2 _).setCell h2 _).setCell h2 _).setCell h2 _).alloc (by simp; omega) _
end Go.Proofs.YtflaklceejokhaaDoor.tree
