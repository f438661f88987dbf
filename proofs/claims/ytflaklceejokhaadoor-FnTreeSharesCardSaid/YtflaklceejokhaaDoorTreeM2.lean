/-
  The arguments of the laws, opened: items, questions, a box. What 'laid' gives the laws: the variable rtree.Stop; a law's row follows from its walk.
-/
import Derived.Test.YtflaklceejokhaaDoorTreeKH
import Derived.Test.YtflaklceejokhaaDoorLift
import Derived.Stop.LaidErr
import Derived.LaidLaws
import Derived.ChangeVars
import Derived.JoinedOf
import Derived.RowKitTokens
namespace Go.Proofs.YtflaklceejokhaaDoor.tree
open Go.ChangeShapes Go.WideShapes Go.ChangeAt Go.RowKit
open Go.Proofs.YtflaklceejokhaaDoor.mem Go.Proofs.YtflaklceejokhaaDoor.flt Ieee
set_option linter.unusedVariables false
set_option linter.unusedSimpArgs false
set_option maxRecDepth 100000

theorem trod_float {H : Type} {enc : TypeId × Value → H} {W : World} {base fuel : Nat} {spare : Nat → Bool} {held : Bool} {c : Value} {y : DataW H × List MemPlace}
    (h : DataW.trod enc Tryd.prog W base spare held fuel 30 [c] = some y) : ∃ b, c = .float .f64 b := by
  cases fuel with
  | zero => simp [DataW.trod] at h
  | succ n =>
    simp only [DataW.trod, Tryd.underlying30] at h
    cases c <;> simp at h
    obtain ⟨⟨rfl, _⟩, _⟩ := h
    exact ⟨_, rfl⟩

theorem trod_box {H : Type} {enc : TypeId × Value → H} {W : World} {base fuel : Nat} {spare : Nat → Bool} {held : Bool} {c0 c1 c2 c3 : Value} {y : DataW H × List MemPlace}
    (h : DataW.trod enc Tryd.prog W base spare held fuel 32 [c0, c1, c2, c3] = some y) : ∃ b : Bx, c0 = .float .f64 b.x0 ∧ c1 = .float .f64 b.y0 ∧ c2 = .float .f64 b.x1 ∧ c3 = .float .f64 b.y1 := by
  obtain ⟨xs, m, _, _, _, hl, hi⟩ := DataW.trod_struct Tryd.underlying32 h
  have h0 := hi 0 _ rfl
  have h1 := hi 1 _ rfl
  have h2 := hi 2 _ rfl
  have h3 := hi 3 _ rfl
  match xs, hl with
  | [y0, y1, y2, y3], _ =>
    obtain ⟨x, rfl⟩ := trod_float (show DataW.trod enc Tryd.prog W base spare held m 30 [c0] = some y0 from h0)
    obtain ⟨y, rfl⟩ := trod_float (show DataW.trod enc Tryd.prog W base spare held m 30 [c1] = some y1 from h1)
    obtain ⟨z, rfl⟩ := trod_float (show DataW.trod enc Tryd.prog W base spare held m 30 [c2] = some y2 from h2)
    obtain ⟨u, rfl⟩ := trod_float (show DataW.trod enc Tryd.prog W base spare held m 30 [c3] = some y3 from h3)
    exact ⟨⟨x, y, z, u⟩, rfl, rfl, rfl, rfl⟩

theorem cells5I : Tryd.prog.cellsOf 43 = 5 := by kernel_rfl
theorem cells7A : Tryd.prog.cellsOf 34 = 7 := by kernel_rfl
theorem cells4B : Tryd.prog.cellsOf 32 = 4 := by kernel_rfl

def encI (q : It) : List Value := [.float .f64 q.b.x0, .float .f64 q.b.y0, .float .f64 q.b.x1, .float .f64 q.b.y1, .int .i64 q.id]
theorem encI_get (q : It) (c : Nat) (h : c < 5) : (encI q)[c]? = some (itC q c) := by
  obtain rfl | rfl | rfl | rfl | rfl : c = 0 ∨ c = 1 ∨ c = 2 ∨ c = 3 ∨ c = 4 := by omega
  all_goals rfl
theorem open_items {H : Type} {enc : TypeId × Value → H} {W : World} {base : Nat} {v : Value} {d : DataW H} {p : List MemPlace}
    (hv : Value.okWide Tryd.prog W .any base 22 v) (h : DataW.Trod enc Tryd.prog W 0 (fun _ => true) true 22 v d p) :
    ∃ (A : Option Addr) (n k : Nat) (f : Nat → It), v = .slice A n k ∧ Rd W A n f ∧ ∀ i, i < n → (Lit.int .i64 (f i).id).wf = true := by
  obtain ⟨a0, len0, cap0, rfl⟩ := okWide_slice Tryd.underlying22 hv
  obtain ⟨fuel, hf⟩ := h
  obtain ⟨A, n, k, l, hcs, hl, hs, hW⟩ := open_list (α := It) encI (fun q => (Lit.int .i64 q.id).wf = true) Tryd.underlying22 cells5I (by omega) (fun _ => rfl) (fun m cs' y hy => by
    obtain ⟨xs, m', _, _, hlen, hxl, hf⟩ := DataW.trod_struct Tryd.underlying43 hy
    have h0 := hf 0 _ rfl
    have h1 := hf 1 _ rfl
    have hc2 : cs'.length = 5 := hlen.trans cells5I
    match cs', hc2 with
    | [c0, c1, c2, c3, c4], _ =>
      match xs, hxl with
      | [y0, y1], _ =>
        have e0 : DataW.trod enc Tryd.prog W 0 (fun _ => true) true m' 32 [c0, c1, c2, c3] = some y0 := h0
        have e1 : DataW.trod enc Tryd.prog W 0 (fun _ => true) true m' 3 [c4] = some y1 := h1
        obtain ⟨b, rfl, rfl, rfl, rfl⟩ := trod_box e0
        obtain ⟨z, hz, _, hw⟩ := DataW.trod_int Tryd.underlying3 e1
        simp at hz
        subst hz
        exact ⟨⟨b, z⟩, rfl, hw⟩) hf
  simp [Value.cells] at hcs
  obtain ⟨rfl, rfl, rfl⟩ := hcs
  refine ⟨_, _, _, fun i => l.getD i zIt, rfl, fun hn => ?_, fun i hi => ?_⟩
  · obtain ⟨g, off, e, hg, hc⟩ := hs.2.2 hn
    refine ⟨g, off, e, hg, fun i hi c hcc => ?_⟩
    rw [Nat.add_assoc]
    refine hc (i * 5 + c) _ ?_
    rw [flatMap_get encI 5 (fun _ => rfl) l i c hcc, List.getElem?_eq_getElem (show i < l.length by omega)]
    simp only [Option.bind_some, List.getD_eq_getElem?_getD, List.getElem?_eq_getElem (show i < l.length by omega), Option.getD_some]
    exact encI_get _ c hcc
  · simp only [List.getD_eq_getElem?_getD, List.getElem?_eq_getElem (show i < l.length by omega), Option.getD_some]
    exact hW _ (List.getElem_mem _)

theorem open_cap {H : Type} {enc : TypeId × Value → H} {W : World} {t e : TypeId} {A : Option Addr} {n k : Nat} {d : DataW H} {p : List MemPlace} (ht : Tryd.prog.underlying t = some (.slice e))
    (h : DataW.Trod enc Tryd.prog W 0 (fun _ => true) true t (.slice A n k) d p) : n ≤ k := by
  obtain ⟨fuel, hf⟩ := h
  rcases Deep.open_slice ht hf with ⟨hcs, _⟩ | ⟨ad, len, cap, m, n', D, Pl, hcs, _, hl, _⟩
  · simp [Value.cells] at hcs; omega
  · simp [Value.cells] at hcs; omega

def zAsk : Ask := ⟨0, ⟨0, 0, 0, 0⟩, 0, 0⟩
theorem open_asks {H : Type} {enc : TypeId × Value → H} {W : World} {base : Nat} {v : Value} {d : DataW H} {p : List MemPlace}
    (hv : Value.okWide Tryd.prog W .any base 23 v) (h : DataW.Trod enc Tryd.prog W 0 (fun _ => true) true 23 v d p) :
    ∃ (A : Option Addr) (n k : Nat) (qs : Nat → Ask), v = .slice A n k ∧ AskR W A n qs := by
  obtain ⟨a0, len0, cap0, rfl⟩ := okWide_slice Tryd.underlying23 hv
  obtain ⟨fuel, hf⟩ := h
  obtain ⟨A, n, k, l, hcs, hl, hs, _⟩ := open_list (α := Ask) (fun q => (askA q).toList) (fun _ => True) Tryd.underlying23 cells7A (by omega) (fun _ => rfl) (fun m cs' y hy => by
    obtain ⟨xs, m', _, _, hlen, hxl, hf⟩ := DataW.trod_struct Tryd.underlying34 hy
    have h0 := hf 0 _ rfl
    have h1 := hf 1 _ rfl
    have h2 := hf 2 _ rfl
    have h3 := hf 3 _ rfl
    have hc2 : cs'.length = 7 := hlen.trans cells7A
    match cs', hc2 with
    | [c0, c1, c2, c3, c4, c5, c6], _ =>
      match xs, hxl with
      | [y0, y1, y2, y3], _ =>
        have e0 : DataW.trod enc Tryd.prog W 0 (fun _ => true) true m' 3 [c0] = some y0 := h0
        have e1 : DataW.trod enc Tryd.prog W 0 (fun _ => true) true m' 32 [c1, c2, c3, c4] = some y1 := h1
        have e2 : DataW.trod enc Tryd.prog W 0 (fun _ => true) true m' 3 [c5] = some y2 := h2
        have e3 : DataW.trod enc Tryd.prog W 0 (fun _ => true) true m' 3 [c6] = some y3 := h3
        obtain ⟨b, rfl, rfl, rfl, rfl⟩ := trod_box e1
        obtain ⟨a, ha, _, _⟩ := DataW.trod_int Tryd.underlying3 e0
        obtain ⟨z, hz, _, _⟩ := DataW.trod_int Tryd.underlying3 e2
        obtain ⟨u, hu, _, _⟩ := DataW.trod_int Tryd.underlying3 e3
        simp at ha hz hu
        subst ha hz hu
        exact ⟨⟨a, b, z, u⟩, rfl, trivial⟩) hf
  simp [Value.cells] at hcs
  obtain ⟨rfl, rfl, rfl⟩ := hcs
  refine ⟨_, _, _, fun i => l.getD i zAsk, rfl, fun hn => ?_⟩
  obtain ⟨g, off, e, hg, hc⟩ := hs.2.2 hn
  refine ⟨g, off, e, hg, fun i hi c u hu => ?_⟩
  have hc7 : c < 7 := by
    rcases Nat.lt_or_ge c 7 with h | h
    · exact h
    · rw [Array.getElem?_eq_none (by simp [askA]; exact h)] at hu; cases hu
  rw [Nat.add_assoc]
  refine hc (i * 7 + c) _ ?_
  rw [flatMap_get (fun q => (askA q).toList) 7 (fun _ => rfl) l i c hc7, List.getElem?_eq_getElem (show i < l.length by omega)]
  simp only [List.getD_eq_getElem?_getD, List.getElem?_eq_getElem (show i < l.length by omega), Option.getD_some] at hu
  simpa using hu

theorem open_box {H : Type} {enc : TypeId × Value → H} {W : World} {base b0 : Nat} {r : Reach} {spare : Nat → Bool} {held : Bool} {v : Value} {d : DataW H} {p : List MemPlace}
    (hv : Value.okWide Tryd.prog W r b0 32 v) (h : DataW.Trod enc Tryd.prog W base spare held 32 v d p) : ∃ b : Bx, v = .agg (bxA b) := by
  simp only [Value.okWide, Tryd.underlying32] at hv
  obtain ⟨cs, rfl, hsz, _⟩ := hv
  rw [cells4B] at hsz
  obtain ⟨l⟩ := cs
  match l, hsz with
  | [c0, c1, c2, c3], _ =>
    obtain ⟨fuel, hf⟩ := h
    obtain ⟨b, rfl, rfl, rfl, rfl⟩ := trod_box (c0 := c0) (c1 := c1) (c2 := c2) (c3 := c3) hf
    exact ⟨b, rfl⟩
end Go.Proofs.YtflaklceejokhaaDoor.tree

namespace Go.Proofs.YtflaklceejokhaaDoor.tree
open Go.ChangeShapes Go.WideShapes Go.ChangeAt Go.RowKit
open Go.Proofs.YtflaklceejokhaaDoor.mem Go.Proofs.YtflaklceejokhaaDoor.flt Ieee
set_option linter.unusedVariables false
set_option linter.unusedSimpArgs false
set_option maxRecDepth 100000

abbrev laidL : List (String × DataW Unit) := [("pub-eidograph/pub/simplefeatures/rtree.Stop", Rows.laid_pub_eidograph_pub_simplefeatures_rtree_Stop)]
theorem gS : Tryd.prog.globalNamed "pub-eidograph/pub/simplefeatures/rtree.Stop" = some 0 := by kernel_rfl
theorem gSType : (Tryd.prog.globals[0]?).map (·.type) = some 58 := by kernel_rfl
theorem cellsES : Tryd.prog.cellsOf 154 = 1 := by kernel_rfl
theorem cellsS : Tryd.prog.cellsOf 9 = 1 := by kernel_rfl
theorem starES : "*" ++ "errors.errorString" = "*errors.errorString" := by decide
theorem rowES (u : TypeId) (h : Tryd.prog.typeName? 3 u = some "*errors.errorString") : u = 129 :=
  typeName_ptr_named (nm := "errors.errorString") (by rw [starES]; kernel_rfl) (by kernel_rfl) (by decide) u (by rw [starES]; exact h)

theorem gv_of_laid {W : World} (h : laidMet Tryd.prog laidL W) : ∃ S, GV W S ∧ 0 < W.heap.size := by
  obtain ⟨a0, s0, hv0, hc0, hs0, hz0⟩ := laid_sentinel h gS gSType Tryd.underlying58 rowES Tryd.underlying129 Tryd.underlying154 rfl rfl Tryd.underlying9 cellsES cellsS
  have hg0 : W.cell? ⟨0, 0, none⟩ = some (.iface 129 (.pointer (some a0))) := by simpa using World.var?_cell gS hv0 0
  exact ⟨a0, hg0, World.block_lt_of_cell? _ _ hg0⟩

abbrev stopS : ByteArray := { data := #[115, 116, 111, 112] }
noncomputable def low : Nat := (World.holding Tryd.prog default ⟨#[], #[], []⟩).heap.size
noncomputable def laidWorld (os : Os) : World :=
  let w0 := World.holding Tryd.prog os ⟨#[.cells #[.string stopS] 154], #[], []⟩
  { w0 with heap := w0.heap.modify 0 fun
      | .cells _ t frozen => .cells #[.iface 129 (.pointer (some ⟨low, 0, none⟩))] t frozen
      | o => o }
theorem laidWorld_met (os : Os) (args : Array Value) : laidMet Tryd.prog laidL ((laidWorld os).forCall (fun _ _ => 0) ⟨#[], args, []⟩).memory :=
  laidMet_of_run (ps := [.cell 0 0, .cell low 0]) 8 (by kernel_rfl) (by kernel_rfl) (by kernel_rfl)

theorem own : ownKnob Tryd.prog.godebug = none := by kernel_rfl
theorem laidOut : laidOutB Tryd.prog = true := by kernel_rfl

theorem handed_laid {H : Type} {enc : TypeId × Value → H} {os : Os} {f : FuncId} {fn : Func} {s : ChangeSpec}
    (started : os.Started) (noInit : Tryd.prog.inits.idxOf? f = none) (hfn : Tryd.prog.funcs[f]? = some fn)
    (hres : fn.resultTypes = #[4]) (hvars : s.vars = [])
    (hread : ∀ t ∈ fn.params.toList, Tryd.prog.readableRec t = true ∧ t < Tryd.prog.types.size)
    (hspec : ∀ (ds : List (DataW H)), ds.length = fn.params.size → s.fn H ds = { results := [.lit (.bool true)], args := ds })
    (witness : ∃ (w : World) (tape : Tape) (i : Input), w.os = os ∧ (w.forCall tape i).Shaped Tryd.prog ∧ i.vars = [] ∧ Input.okWide Tryd.prog (w.forCall tape i) .any w.heap.size f i ∧
      ((s.pre enc Tryd.prog fn [] false (w.forCall tape i).memory i.args ∧ laidMet Tryd.prog laidL (w.forCall tape i).memory) ∧ sizedMet enc Tryd.prog fn (OpenSpec.ofChange s) false (w.forCall tape i).memory i.args) ∧ Assume.holds {} Tryd.prog (lone (Frame.enter Tryd.prog f i.args .normal) [] (w.forCall tape i)))
    (walk : ∀ (W : World) (args : Array Value) (ds : List (DataW H)) (S : Addr), lift.Given enc Tryd.prog fn W args ds → GV W S → 0 < W.heap.size →
      Calls Tryd.prog f args W fun e W' => e = .returned (.bool true) ∧ Below W.heap.size W W') :
    ReturnsInHanded {} Tryd.checked os f .any (fun w args => (s.pre enc Tryd.prog fn [] false w args ∧ laidMet Tryd.prog laidL w) ∧ sizedMet enc Tryd.prog fn (OpenSpec.ofChange s) false w args)
      (s.post enc Tryd.prog fn false true false false) := by
  refine returnsInHanded_of_change_and (C := Tryd.checked) (X := fun w _ => laidMet Tryd.prog laidL w) (fun _ _ _ hh h => h.of_heap hh) own started noInit hfn witness ?_
  intro W base args ds gs before hval hW _ _ hL _
  have hW' := hW
  obtain ⟨p, q, hA, hV, rfl, hfz, hnd⟩ := hW
  obtain ⟨S, hgv, h0⟩ := gv_of_laid hL
  refine (walk W args ds S ⟨⟨base, hval⟩, ⟨p, hA⟩⟩ hgv h0).mono fun e W' ⟨he, bel⟩ => ?_
  subst he
  exact ⟨_, rfl, lift.law_post (C := Tryd.checked) (s := s) laidOut hres Tryd.underlying4 hvars hread hspec hW' bel⟩
end Go.Proofs.YtflaklceejokhaaDoor.tree
