/-
  What all laws of this seat share: a law's statement follows from its walk alone. No condition.
-/
import Derived.Test.YtpfgdfgifdbijaaDoorRows
import Derived.WalkKit
import Derived.ProofKit
import Derived.OpenShut
import Derived.ShutString
import Derived.ChangeOld
import Derived.Below
import Derived.JoinedCond
import Derived.Carry
namespace Go.Proofs.YtpfgdfgifdbijaaDoor.lift
open Go.ChangeShapes Go.WideShapes Go.ChangeAt Go.RowKit
set_option linter.unusedVariables false

section
variable {H : Type} {enc : TypeId × Value → H} {P : Program}

theorem trodAll_len {w : World} {base : Nat} {spare : Nat → Bool} {held : Bool} : ∀ (ts : List TypeId) (vs : List Value) (ds : List (DataW H)) (ps : List MemPlace),
    DataW.TrodAll enc P w base spare held ts vs ds ps → vs.length = ts.length ∧ ds.length = ts.length := by
  intro ts
  induction ts with
  | nil =>
    intro vs ds ps h
    obtain ⟨rfl, rfl, rfl⟩ := trodAll_nil h
    exact ⟨rfl, rfl⟩
  | cons t ts ih =>
    intro vs ds ps h
    obtain ⟨v, vs', d, ds', p, q, rfl, rfl, rfl, h1, h2⟩ := trodAll_cons h
    have := ih _ _ _ h2
    simp only [List.length_cons]
    omega

theorem trodAll_lt {w : World} {base : Nat} {spare : Nat → Bool} {held : Bool} : ∀ (ts : List TypeId) (vs : List Value) (ds : List (DataW H)) (ps : List MemPlace),
    DataW.TrodAll enc P w base spare held ts vs ds ps → ∀ p ∈ ps, p.block < w.heap.size := by
  intro ts
  induction ts with
  | nil =>
    intro vs ds ps h
    obtain ⟨rfl, rfl, rfl⟩ := trodAll_nil h
    intro p hp; cases hp
  | cons t ts ih =>
    intro vs ds ps h
    obtain ⟨v, vs', d, ds', p, q, rfl, rfl, rfl, h1, h2⟩ := trodAll_cons h
    intro x hx
    rcases List.mem_append.1 hx with hx | hx
    · obtain ⟨m, hm⟩ := h1
      exact DataW.trod_lt m _ _ _ hm x hx
    · exact ih _ _ _ h2 x hx

theorem trodAll_below (hl : laidOutB P = true) {W W' : World} (hb : Below W.heap.size W W') : ∀ (ts : List TypeId) (vs : List Value) (ds : List (DataW H)) (ps : List MemPlace),
    (∀ t ∈ ts, P.readableRec t = true ∧ t < P.types.size) →
    DataW.TrodAll enc P W 0 (fun _ => true) true ts vs ds ps → DataW.TrodAll enc P W' 0 (fun b => decide (b < W.heap.size)) true ts vs ds ps := by
  intro ts
  induction ts with
  | nil =>
    intro vs ds ps _ h
    obtain ⟨rfl, rfl, rfl⟩ := trodAll_nil h
    exact trodAll_mk0
  | cons t ts ih =>
    intro vs ds ps ht h
    obtain ⟨v, vs', d, ds', p, q, rfl, rfl, rfl, h1, h2⟩ := trodAll_cons h
    have lt1 : ∀ x ∈ p, x.block < W.heap.size := by obtain ⟨m, hm⟩ := h1; exact DataW.trod_lt m _ _ _ hm
    have h3 := ih _ _ _ (fun t' h' => ht t' (List.mem_cons_of_mem _ h')) h2
    exact trodAll_cons_mk (Below.trod hl (ht t (List.mem_cons_self ..)).1 (ht t (List.mem_cons_self ..)).2 h1 hb lt1) h3
end

/-- What a law's walk is told of its arguments. -/
structure Given {H : Type} (enc : TypeId × Value → H) (P : Program) (fn : Func) (W : World) (args : Array Value) (ds : List (DataW H)) : Prop where
  ok : ∃ base, ∀ (j : Nat) t v, fn.params[j]? = some t → args[j]? = some v → Value.okWide P W .any base t v
  read : ∃ p, DataW.TrodAll enc P W 0 (fun _ => true) true fn.params.toList args.toList ds p

/-- The law's post. -/
theorem law_post {H : Type} {enc : TypeId × Value → H} {C : Checked} {fn : Func} {s : ChangeSpec} {tb : TypeId} (hl : laidOutB C.prog = true)
    (hres : fn.resultTypes = #[tb]) (hb : C.prog.underlying tb = some .bool) (hvars : s.vars = [])
    (hread : ∀ t ∈ fn.params.toList, C.prog.readableRec t = true ∧ t < C.prog.types.size)
    (hspec : ∀ (ds : List (DataW H)), ds.length = fn.params.size → s.fn H ds = { results := [.lit (.bool true)], args := ds })
    {W W' : World} {args : Array Value} {ds gs : List (DataW H)} {before : List MemPlace}
    (hW : DataW.Whole enc C.prog fn.params.toList s.vars false W args.toList ds gs before) (bel : Below W.heap.size W W') :
    s.post enc C.prog fn false true false false W args (.bool true) W' := by
  have hW' := hW
  obtain ⟨p, q, hA, hV, rfl, hfz, hnd⟩ := hW
  rw [hvars] at hV
  obtain ⟨rfl, rfl⟩ := trodVars_none hV
  have hlen := trodAll_len _ _ _ _ hA
  have hd : ds.length = fn.params.size := by simpa using hlen.2
  have e1 : s.fn H (ds ++ []) = { results := [.lit (.bool true)], args := ds } := by rw [List.append_nil]; exact hspec ds hd
  refine ⟨ds, [], p ++ [], [], p, [], hW', ?_, ?_, ?_, bel.frame _, fun h => by cases h⟩
  · rw [e1, hres]
    exact trodAll_mk1 (shut_bool hb _)
  · rw [e1]
    simpa using trodAll_below hl bel _ _ _ _ hread hA
  · rw [e1, hvars]; rfl

theorem handed {H : Type} {enc : TypeId × Value → H} {C : Checked} {os : Os} {f : FuncId} {fn : Func} {s : ChangeSpec} {tb : TypeId}
    (own : ownKnob C.prog.godebug = none) (started : os.Started) (noInit : C.prog.inits.idxOf? f = none) (hfn : C.prog.funcs[f]? = some fn) (hl : laidOutB C.prog = true)
    (hres : fn.resultTypes = #[tb]) (hb : C.prog.underlying tb = some .bool) (hvars : s.vars = [])
    (hread : ∀ t ∈ fn.params.toList, C.prog.readableRec t = true ∧ t < C.prog.types.size)
    (hspec : ∀ (ds : List (DataW H)), ds.length = fn.params.size → s.fn H ds = { results := [.lit (.bool true)], args := ds })
    (witness : ∃ (w : World) (tape : Tape) (i : Input), w.os = os ∧ (w.forCall tape i).Shaped C.prog ∧ i.vars = [] ∧ Input.okWide C.prog (w.forCall tape i) .any w.heap.size f i ∧
      s.pre6 enc C.prog fn [] false (w.forCall tape i).memory i.args ∧ Assume.holds {} C.prog (lone (Frame.enter C.prog f i.args .normal) [] (w.forCall tape i)))
    (walk : ∀ (W : World) (args : Array Value) (ds : List (DataW H)), Given enc C.prog fn W args ds →
      Calls C.prog f args W fun e W' => e = .returned (.bool true) ∧ Below W.heap.size W W') :
    ReturnsInHanded {} C os f .any (s.pre6 enc C.prog fn [] false) (s.post enc C.prog fn false true false false) := by
  refine returnsInHanded_of_change (C := C) own started noInit hfn witness ?_
  intro W base args ds gs before hval hW _ _
  have hW' := hW
  obtain ⟨p, q, hA, hV, rfl, hfz, hnd⟩ := hW
  refine (walk W args ds ⟨⟨base, hval⟩, ⟨p, hA⟩⟩).mono fun e W' ⟨he, bel⟩ => ?_
  subst he
  exact ⟨_, rfl, law_post hl hres hb hvars hread hspec hW' bel⟩

theorem handed_upto {H : Type} {enc : TypeId × Value → H} {C : Checked} {os : Os} {f : FuncId} {fn : Func} {s : ChangeSpec} {tb : TypeId} (F : Stop.Interp)
    (own : ownKnob C.prog.godebug = none) (started : os.Started) (noInit : C.prog.inits.idxOf? f = none) (hfn : C.prog.funcs[f]? = some fn) (hl : laidOutB C.prog = true)
    (hres : fn.resultTypes = #[tb]) (hb : C.prog.underlying tb = some .bool) (hvars : s.vars = [])
    (hread : ∀ t ∈ fn.params.toList, C.prog.readableRec t = true ∧ t < C.prog.types.size)
    (hspec : ∀ (ds : List (DataW H)), ds.length = fn.params.size → s.fn H ds = { results := [.lit (.bool true)], args := ds })
    (witness : ∃ (w : World) (tape : Tape) (i : Input), w.os = os ∧ (w.forCall tape i).Shaped C.prog ∧ i.vars = [] ∧ Input.okWide C.prog (w.forCall tape i) .any w.heap.size f i ∧
      (Rows.OpenSpec.upto s).pre6 enc C.prog fn [] false (w.forCall tape i).memory i.args ∧ Assume.holds {} C.prog (lone (Frame.enter C.prog f i.args .normal) [] (w.forCall tape i)))
    (walk : ∀ (W : World) (args : Array Value) (ds : List (DataW H)), Given enc C.prog fn W args ds → Rows.uptoBulkAll ds ≤ 1048576 →
      Calls C.prog f args W fun e W' => e = .returned (.bool true) ∧ Below W.heap.size W W') :
    ReturnsInHanded {} C os f .any ((Rows.OpenSpec.upto s).pre6 enc C.prog fn [] false) (((Rows.OpenSpec.upto s).at F).post enc C.prog fn false true false false) := by
  refine returnsInHanded_of_cond (C := C) (s := Rows.OpenSpec.upto s) (k := Rows.uptoSmall) rfl own started noInit hfn witness ?_
  intro W base args ds gs before hval hW _ hk _
  have hW' := hW
  obtain ⟨p, q, hA, hV, rfl, hfz, hnd⟩ := hW
  have hg : gs = [] := by
    have hV' : DataW.TrodVars enc C.prog W (fun _ => true) s.vars gs q := hV
    rw [hvars] at hV'
    exact (trodVars_none hV').1
  subst hg
  have hk' : Rows.uptoBulkAll ds ≤ 1048576 := by
    have : Rows.uptoSmall H ds = true := by simpa using hk
    exact of_decide_eq_true this
  refine (walk W args ds ⟨⟨base, hval⟩, ⟨p, hA⟩⟩ hk').mono fun e W' ⟨he, bel⟩ => ?_
  subst he
  exact ⟨_, rfl, law_post (s := s) hl hres hb hvars hread hspec hW' bel⟩

end Go.Proofs.YtpfgdfgifdbijaaDoor.lift
