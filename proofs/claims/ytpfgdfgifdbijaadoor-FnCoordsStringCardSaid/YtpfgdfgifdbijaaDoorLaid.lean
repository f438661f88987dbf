/-
  What 'laid' gives a law: a variable of the list reads as its datum; a law's row follows from its walk. No condition.
-/
import Derived.Test.YtpfgdfgifdbijaaDoorLift
import Derived.Lay
import Derived.Lib.LaidTab
import Derived.SizedLaws
namespace Go.Proofs.YtpfgdfgifdbijaaDoor.lift
open Go.ChangeShapes Go.WideShapes Go.ChangeAt Go.RowKit
set_option linter.unusedVariables false
set_option linter.unusedSimpArgs false

theorem laidVars_mem {P : Program} {w : World} {n : String} {d : DataW Unit} : ∀ {l : List (String × DataW Unit)} {ps : List MemPlace}, DataW.LaidVars P w l ps → (n, d) ∈ l →
    ∃ g t cs fuel p, P.globalNamed n = some g ∧ (P.globals[g]?).map (·.type) = some t ∧ w.var? P n = some cs ∧ DataW.trod (fun _ => ()) P w 0 (fun _ => true) false fuel t cs.toList = some (d, p)
  | [], _, _, h => by cases h
  | (n', d') :: r, ps, h, hm => by
    obtain ⟨g, t, cs, fuel, p, q, h1, h2, h3, h4, h5, _⟩ := h
    rcases List.mem_cons.1 hm with e | hm
    · cases e
      exact ⟨g, t, cs, fuel, p, h1, h2, h3, h4⟩
    · exact laidVars_mem h5 hm
/-- A table of integers. -/
theorem tab_of_laid {P : Program} {W : World} {l : List (String × DataW Unit)} {name : String} {k : IntKind} {zs : List Int} {g : Nat} {t e : TypeId} {n : Nat}
    (hg : P.globalNamed name = some g) (hty : (P.globals[g]?).map (·.type) = some t) (ht : P.underlying t = some (.array n e)) (he : P.underlying e = some (.int k)) (hce : P.cellsOf e = 1) (hct : P.cellsOf t = n)
    (h : laidMet P l W) (hm : (name, Lib.tabData k zs) ∈ l) : Lib.TabIs P W name k zs := by
  obtain ⟨ps, hl, _⟩ := h
  obtain ⟨g', t', cs, fuel, p, hg', ht', hvar, hd⟩ := laidVars_mem hl hm
  obtain rfl := Option.some.inj (hg.symm.trans hg')
  obtain rfl := Option.some.inj (hty.symm.trans ht')
  unfold Lib.TabIs
  rw [hvar, ← Lib.cells_of_tab ht he hce hct hd]
/-- The cells of an array of integers that can be read. -/
theorem ints_of_trod {H : Type} {enc : TypeId × Value → H} {P : Program} {w : World} {base : Nat} {sp : Nat → Bool} {held : Bool} {fuel : Nat} {t e : TypeId} {n : Nat} {k : IntKind} {cs : List Value} {d : DataW H} {p : List MemPlace}
    (ht : P.underlying t = some (.array n e)) (he : P.underlying e = some (.int k)) (hce : P.cellsOf e = 1) (hct : P.cellsOf t = n)
    (h : DataW.trod enc P w base sp held fuel t cs = some (d, p)) : ∀ i, i < n → ∃ z, cs[i]? = some (.int k z) := by
  cases fuel with
  | zero => simp [DataW.trod] at h
  | succ fuel =>
    simp only [DataW.trod, ht, hce, hct, Nat.mul_one] at h
    split at h
    · rename_i hl
      obtain ⟨xs, hm, hx⟩ := Option.map_eq_some_iff.1 h
      intro i hi
      obtain ⟨b, hb, hf⟩ := Lib.mapM_at hm i i (by simp [hi])
      obtain ⟨z, hc, rfl, _⟩ := DataW.trod_int he hf
      refine ⟨z, ?_⟩
      have := congrArg (·[0]?) hc
      simpa [List.getElem?_take, List.getElem?_drop] using this
    · cases h
/-- The cells of an array of structs of two integers that can be read. -/
theorem pairs_of_trod {H : Type} {enc : TypeId × Value → H} {P : Program} {w : World} {base : Nat} {sp : Nat → Bool} {held : Bool} {fuel : Nat} {t u e : TypeId} {n : Nat} {k : IntKind} {cs : List Value} {fs : Array Field} {f0 f1 : Field} {d : DataW H} {p : List MemPlace}
    (ht : P.underlying t = some (.array n u)) (hu : P.underlying u = some (.struct fs)) (hf0 : fs[0]? = some f0) (hf1 : fs[1]? = some f1) (ho0 : f0.offset = 0) (ho1 : f1.offset = 1) (he0 : f0.type = e) (he1 : f1.type = e) (he : P.underlying e = some (.int k)) (hce : P.cellsOf e = 1) (hcu : P.cellsOf u = 2) (hct : P.cellsOf t = n * 2)
    (h : DataW.trod enc P w base sp held fuel t cs = some (d, p)) : ∀ i j, i < n → j < 2 → ∃ z, cs[i * 2 + j]? = some (.int k z) := by
  cases fuel with
  | zero => simp [DataW.trod] at h
  | succ fuel =>
    simp only [DataW.trod, ht, hcu, hct] at h
    split at h
    · rename_i hl
      obtain ⟨xs, hm, hx⟩ := Option.map_eq_some_iff.1 h
      intro i j hi hj
      obtain ⟨b, hb, hf⟩ := Lib.mapM_at hm i i (by simp [hi])
      obtain ⟨ys, m, -, -, hcl, hyl, hy⟩ := DataW.trod_struct hu hf
      have hsz : 2 ≤ ys.length := by
        rw [hyl]
        have := (Array.getElem?_eq_some_iff.1 hf1).1
        omega
      have key : ∀ (f : Field) (o : Nat), fs[o]? = some f → f.type = e → f.offset = o → o < 2 → ∃ z, cs[i * 2 + o]? = some (.int k z) := by
        intro f o h1 h2 h3 h4
        have h5 := hy o f h1
        rw [h2, h3, hce, List.getElem?_eq_getElem (by omega)] at h5
        obtain ⟨z, hc, _, _⟩ := DataW.trod_int he h5
        refine ⟨z, ?_⟩
        have := congrArg (·[0]?) hc
        simpa [List.getElem?_take, List.getElem?_drop, h4] using this
      obtain rfl | rfl : j = 0 ∨ j = 1 := by omega
      · exact key f0 0 hf0 he0 ho0 (by omega)
      · exact key f1 1 hf1 he1 ho1 (by omega)
    · cases h

theorem handed_laid {H : Type} {enc : TypeId × Value → H} {C : Checked} {os : Os} {f : FuncId} {fn : Func} {s : ChangeSpec} {tb : TypeId} {laidL : List (String × DataW Unit)}
    (own : ownKnob C.prog.godebug = none) (started : os.Started) (noInit : C.prog.inits.idxOf? f = none) (hfn : C.prog.funcs[f]? = some fn) (hl : laidOutB C.prog = true)
    (hres : fn.resultTypes = #[tb]) (hb : C.prog.underlying tb = some .bool) (hvars : s.vars = [])
    (hread : ∀ t ∈ fn.params.toList, C.prog.readableRec t = true ∧ t < C.prog.types.size)
    (hspec : ∀ (ds : List (DataW H)), ds.length = fn.params.size → s.fn H ds = { results := [.lit (.bool true)], args := ds })
    (witness : ∃ (w : World) (tape : Tape) (i : Input), w.os = os ∧ (w.forCall tape i).Shaped C.prog ∧ i.vars = [] ∧ Input.okWide C.prog (w.forCall tape i) .any w.heap.size f i ∧
      ((s.pre enc C.prog fn [] false (w.forCall tape i).memory i.args ∧ laidMet C.prog laidL (w.forCall tape i).memory) ∧ sizedMet enc C.prog fn (OpenSpec.ofChange s) false (w.forCall tape i).memory i.args) ∧ Assume.holds {} C.prog (lone (Frame.enter C.prog f i.args .normal) [] (w.forCall tape i)))
    (walk : ∀ (W : World) (args : Array Value) (ds : List (DataW H)), Given enc C.prog fn W args ds → laidMet C.prog laidL W → (∀ (j : Nat) t d, fn.params.toList[j]? = some t → ds[j]? = some d → ∀ n ∈ d.weights C.prog t, n ≤ reachBytes) →
      Calls C.prog f args W fun e W' => e = .returned (.bool true) ∧ Below W.heap.size W W') :
    ReturnsInHanded {} C os f .any (fun w args => (s.pre enc C.prog fn [] false w args ∧ laidMet C.prog laidL w) ∧ sizedMet enc C.prog fn (OpenSpec.ofChange s) false w args)
      (s.post enc C.prog fn false true false false) := by
  refine returnsInHanded_of_change_and (C := C) (X := fun w _ => laidMet C.prog laidL w) (fun _ _ _ hh h => h.of_heap hh) own started noInit hfn witness ?_
  intro W base args ds gs before hval hW _ hwt hL _
  have hW' := hW
  obtain ⟨p, q, hA, hV, rfl, hfz, hnd⟩ := hW
  refine (walk W args ds ⟨⟨base, hval⟩, ⟨p, hA⟩⟩ hL (fun j t d ht hd n hn => ?_)).mono fun e W' ⟨he, bel⟩ => ?_
  · have h1 : (fn.params.toList ++ s.plain.varTypes C.prog)[j]? = some t := by rw [List.getElem?_append_left (List.getElem?_eq_some_iff.1 ht).1]; exact ht
    have h2 : (ds ++ gs)[j]? = some d := by rw [List.getElem?_append_left (List.getElem?_eq_some_iff.1 hd).1]; exact hd
    have := List.all_eq_true.1 hwt _ (DataW.weights_mem_each h1 h2 n hn)
    simpa using this
  · subst he
    exact ⟨_, rfl, law_post (C := C) (s := s) hl hres hb hvars hread hspec hW' bel⟩
end Go.Proofs.YtpfgdfgifdbijaaDoor.lift
