/-
  Proved: the law FnAsKind: for every plain data that can be read, and every int, the call returns true, and the arguments read as they did. No condition but the row's own.
-/
import Derived.Test.YtplphaaeibeheaaGreatGeoAT
import Derived.Test.YtplphaaeibeheaaGreatGeoZ
import Derived.Test.YtplphaaeibeheaaGreatLift
namespace Go.Proofs.YtplphaaeibeheaaGreat.geo
open Go.ChangeShapes Go.WideShapes Go.ChangeAt Go.RowKit
open Go.Proofs.YtplphaaeibeheaaGreat.mem
set_option linter.unusedVariables false
set_option linter.unusedSimpArgs false
set_option maxRecDepth 100000

/-- As lift.handed; the walk is told the weights too. -/
theorem handed_sized {H : Type} {enc : TypeId × Value → H} {C : Checked} {os : Os} {f : FuncId} {fn : Func} {s : ChangeSpec} {tb : TypeId}
    (own : ownKnob C.prog.godebug = none) (started : os.Started) (noInit : C.prog.inits.idxOf? f = none) (hfn : C.prog.funcs[f]? = some fn) (hl : laidOutB C.prog = true)
    (hres : fn.resultTypes = #[tb]) (hb : C.prog.underlying tb = some .bool) (hvars : s.vars = [])
    (hread : ∀ t ∈ fn.params.toList, C.prog.readableRec t = true ∧ t < C.prog.types.size)
    (hspec : ∀ (ds : List (DataW H)), ds.length = fn.params.size → s.fn H ds = { results := [.lit (.bool true)], args := ds })
    (witness : ∃ (w : World) (tape : Tape) (i : Input), w.os = os ∧ (w.forCall tape i).Shaped C.prog ∧ i.vars = [] ∧ Input.okWide C.prog (w.forCall tape i) .any w.heap.size f i ∧
      s.pre6 enc C.prog fn [] false (w.forCall tape i).memory i.args ∧ Assume.holds {} C.prog (lone (Frame.enter C.prog f i.args .normal) [] (w.forCall tape i)))
    (walk : ∀ (W : World) (args : Array Value) (ds : List (DataW H)), lift.Given enc C.prog fn W args ds → (∀ (j : Nat) t d, fn.params.toList[j]? = some t → ds[j]? = some d → ∀ n ∈ d.weights C.prog t, n ≤ reachBytes) →
      Calls C.prog f args W fun e W' => e = .returned (.bool true) ∧ Below W.heap.size W W') :
    ReturnsInHanded {} C os f .any (s.pre6 enc C.prog fn [] false) (s.post enc C.prog fn false true false false) := by
  refine returnsInHanded_of_change_sized (C := C) own started noInit hfn witness ?_
  intro W base args ds gs before hval hW _ hwt _
  have hW' := hW
  obtain ⟨p, q, hA, hV, rfl, hfz, hnd⟩ := hW
  refine (walk W args ds ⟨⟨base, hval⟩, ⟨p, hA⟩⟩ (fun j t d ht hd n hn => ?_)).mono fun e W' ⟨he, bel⟩ => ?_
  · have h1 : (fn.params.toList ++ s.plain.varTypes C.prog)[j]? = some t := by rw [List.getElem?_append_left (List.getElem?_eq_some_iff.1 ht).1]; exact ht
    have h2 : (ds ++ gs)[j]? = some d := by rw [List.getElem?_append_left (List.getElem?_eq_some_iff.1 hd).1]; exact hd
    have := List.all_eq_true.1 hwt _ (DataW.weights_mem_each h1 h2 n hn)
    simpa using this
  · subst he
    exact ⟨_, rfl, lift.law_post hl hres hb hvars hread hspec hW' bel⟩

theorem own : ownKnob Tryz.prog.godebug = none := by kernel_rfl
theorem laidOut : laidOutB Tryz.prog = true := by kernel_rfl

theorem kind_proved : Rows.FnAsKindSaid :=
  OpenClaim.holds_of_wide 5 Tryz.f5 rfl rfl rfl rfl rfl rfl rfl ⟨rfl, rfl, rfl, rfl, rfl⟩ rfl rfl rfl rfl rfl (by kernel_rfl) Tryz.func5 (by kernel_rfl)
    (of_decide_eq_true (by kernel_rfl)) (by unfold Func.isWrapper; first | (rw [if_pos (by decide +kernel)]; kernel_rfl) | (rw [if_neg (by decide +kernel)]; exact ⟨rfl, rfl⟩))
    (fun os started H enc _ => handed_sized (C := Tryz.checked) (s := Rows.fnAsKindSpec) own started (by kernel_rfl) Tryz.func5 laidOut (tb := 4) rfl Tryz.underlying4 rfl
      (fun t ht => of_decide_eq_true (List.all_eq_true.1 (show (Tryz.f5.params.toList.all fun t => decide (Tryz.prog.readableRec t = true ∧ t < Tryz.prog.types.size)) = true by kernel_rfl) t ht))
      (fun ds h => by match ds, h with | [_, _], _ => rfl)
      (ChangeSpec.witness6 (enc := enc) (C := Tryz.checked) false ⟨#[], #[.agg #[.int .i64 0, .int .i64 0, .slice none 0 0, .slice none 0 0], .int .i64 0], []⟩ 8 (by kernel_rfl) (by kernel_rfl) (by kernel_rfl) (by kernel_rfl))
      (fun W args ds ⟨⟨base, hval0⟩, ⟨p, hA0⟩⟩ hwt0 => by
        have hval : ∀ (j : Nat) t v, Tryz.f5.params[j]? = some t → args[j]? = some v → Value.okWide Tryz.prog W .any base t v := hval0
        have hA : DataW.TrodAll enc Tryz.prog W 0 (fun _ => true) true Tryz.f5.params.toList args.toList ds p := hA0
        have hwt : ∀ (j : Nat) t d, Tryz.f5.params.toList[j]? = some t → ds[j]? = some d → ∀ n ∈ d.weights Tryz.prog t, n ≤ reachBytes := hwt0
        rw [Tryz.params5] at hA hval hwt
        obtain ⟨v0, v1, d0, d1, p0, p1, rfl, rfl, rfl, h0, h1⟩ := trodAll_two hA
        have hw := hwt 0 _ d0 rfl rfl
        obtain ⟨cs, rfl, hsz⟩ := okWide_struct Tryz.underlying25 (hval 0 _ v0 rfl rfl)
        obtain ⟨fuel, hf⟩ := h0
        obtain ⟨g, hg, hin⟩ := open_geom fuel _ (d0, p0) hw hf
        obtain ⟨a1, rfl, rfl, rfl, w1⟩ := open_int Tryz.underlying3 (hval 1 _ v1 rfl rfl) h1
        have hcs : cs = g.enc.toArray := by
          have h1 : cs.toList = g.enc := hg
          rw [← h1]
        subst hcs
        exact law_kind g a1 _ W hin))
#print axioms kind_proved
end Go.Proofs.YtplphaaeibeheaaGreat.geo
