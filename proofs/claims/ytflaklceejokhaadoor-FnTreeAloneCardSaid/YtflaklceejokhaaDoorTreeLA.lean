/-
  What 'laid' gives the laws: the variable rtree.Stop; a law's row follows from its walk.
-/
import Derived.Test.YtflaklceejokhaaDoorTreeOA
import Derived.Stop.LaidErr
import Derived.LaidLaws
import Derived.ChangeVars
import Derived.JoinedOf
import Derived.RowKitTokens
namespace Go.Proofs.YtflaklceejokhaaDoor.tree
open Go.ChangeShapes Go.WideShapes Go.ChangeAt Go.RowKit
open Go.Proofs.YtflaklceejokhaaDoor.mem Go.Proofs.YtflaklceejokhaaDoor.flt Ieee
set_option linter.unusedVariables false
set_option linter.unusedSimpArgs false
set_option maxRecDepth 100000

abbrev laidL : List (String × DataW Unit) := [("pub-eidograph/pub/simplefeatures/rtree.Stop", Rows.laid_pub_eidograph_pub_simplefeatures_rtree_Stop)]
theorem gS : Tryd.prog.globalNamed "pub-eidograph/pub/simplefeatures/rtree.Stop" = some 0 := by kernel_rfl
theorem gSType : (Tryd.prog.globals[0]?).map (·.type) = some 58 := by kernel_rfl
theorem cellsES : Tryd.prog.cellsOf 154 = 1 := by kernel_rfl
theorem cellsS : Tryd.prog.cellsOf 9 = 1 := by kernel_rfl
theorem starES : "*" ++ "errors.errorString" = "*errors.errorString" := by decide
theorem rowES (u : TypeId) (h : Tryd.prog.typeName? 3 u = some "*errors.errorString") : u = 129 :=
  typeName_ptr_named (nm := "errors.errorString") (by rw [starES]; kernel_rfl) (by kernel_rfl) (by decide) u (by rw [starES]; exact h)

theorem gv_of_laid {W : World} (h : laidMet Tryd.prog laidL W) : ∃ S, GV W S ∧ 0 < W.heap.size := by
  obtain ⟨a0, s0, hv0, hc0, hs0, hz0⟩ := laid_sentinel h gS gSType Tryd.underlying58 rowES Tryd.underlying129 Tryd.underlying154 rfl rfl Tryd.underlying9 cellsES cellsS
  have hg0 : W.cell? ⟨0, 0, none⟩ = some (.iface 129 (.pointer (some a0))) := by simpa using World.var?_cell gS hv0 0
  exact ⟨a0, hg0, World.block_lt_of_cell? _ _ hg0⟩

abbrev stopS : ByteArray := { data := #[115, 116, 111, 112] }
noncomputable def low : Nat := (World.holding Tryd.prog default ⟨#[], #[], []⟩).heap.size
noncomputable def laidWorld (os : Os) : World :=
  let w0 := World.holding Tryd.prog os ⟨#[.cells #[.string stopS] 154], #[], []⟩
  { w0 with heap := w0.heap.modify 0 fun
      | .cells _ t frozen => .cells #[.iface 129 (.pointer (some ⟨low, 0, none⟩))] t frozen
      | o => o }
theorem laidWorld_met (os : Os) (args : Array Value) : laidMet Tryd.prog laidL ((laidWorld os).forCall (fun _ _ => 0) ⟨#[], args, []⟩).memory :=
  laidMet_of_run (ps := [.cell 0 0, .cell low 0]) 8 (by kernel_rfl) (by kernel_rfl) (by kernel_rfl)

theorem own : ownKnob Tryd.prog.godebug = none := by kernel_rfl
theorem laidOut : laidOutB Tryd.prog = true := by kernel_rfl

theorem handed_laid {H : Type} {enc : TypeId × Value → H} {os : Os} {f : FuncId} {fn : Func} {s : ChangeSpec}
    (started : os.Started) (noInit : Tryd.prog.inits.idxOf? f = none) (hfn : Tryd.prog.funcs[f]? = some fn)
    (hres : fn.resultTypes = #[4]) (hvars : s.vars = [])
    (hread : ∀ t ∈ fn.params.toList, Tryd.prog.readableRec t = true ∧ t < Tryd.prog.types.size)
    (hspec : ∀ (ds : List (DataW H)), ds.length = fn.params.size → s.fn H ds = { results := [.lit (.bool true)], args := ds })
    (witness : ∃ (w : World) (tape : Tape) (i : Input), w.os = os ∧ (w.forCall tape i).Shaped Tryd.prog ∧ i.vars = [] ∧ Input.okWide Tryd.prog (w.forCall tape i) .any w.heap.size f i ∧
      ((s.pre enc Tryd.prog fn [] false (w.forCall tape i).memory i.args ∧ laidMet Tryd.prog laidL (w.forCall tape i).memory) ∧ sizedMet enc Tryd.prog fn (OpenSpec.ofChange s) false (w.forCall tape i).memory i.args) ∧ Assume.holds {} Tryd.prog (lone (Frame.enter Tryd.prog f i.args .normal) [] (w.forCall tape i)))
    (walk : ∀ (W : World) (args : Array Value) (ds : List (DataW H)) (S : Addr), lift.Given enc Tryd.prog fn W args ds → GV W S → 0 < W.heap.size →
      Calls Tryd.prog f args W fun e W' => e = .returned (.bool true) ∧ Below W.heap.size W W') :
    ReturnsInHanded {} Tryd.checked os f .any (fun w args => (s.pre enc Tryd.prog fn [] false w args ∧ laidMet Tryd.prog laidL w) ∧ sizedMet enc Tryd.prog fn (OpenSpec.ofChange s) false w args)
      (s.post enc Tryd.prog fn false true false false) := by
  refine returnsInHanded_of_change_and (C := Tryd.checked) (X := fun w _ => laidMet Tryd.prog laidL w) (fun _ _ _ hh h => h.of_heap hh) own started noInit hfn witness ?_
  intro W base args ds gs before hval hW _ _ hL _
  have hW' := hW
  obtain ⟨p, q, hA, hV, rfl, hfz, hnd⟩ := hW
  obtain ⟨S, hgv, h0⟩ := gv_of_laid hL
  refine (walk W args ds S ⟨⟨base, hval⟩, ⟨p, hA⟩⟩ hgv h0).mono fun e W' ⟨he, bel⟩ => ?_
  subst he
  exact ⟨_, rfl, lift.law_post (C := Tryd.checked) (s := s) laidOut hres Tryd.underlying4 hvars hread hspec hW' bel⟩
end Go.Proofs.YtflaklceejokhaaDoor.tree
