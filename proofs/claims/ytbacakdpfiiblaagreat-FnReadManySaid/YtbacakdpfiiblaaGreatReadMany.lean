/-
  Proved: the law FnReadMany: for every slice of bytes the call returns true, and the argument reads as it did. No condition but the row's own.
-/
import Derived.Test.YtbacakdpfiiblaaGreatRdYZ
import Derived.Test.YtbacakdpfiiblaaGreatGeoZ
import Derived.Test.YtbacakdpfiiblaaGreatLift
namespace Go.Proofs.YtbacakdpfiiblaaGreat.geo
open Go.ChangeShapes Go.WideShapes Go.ChangeAt Go.RowKit
open Go.Proofs.YtbacakdpfiiblaaGreat.mem
set_option linter.unusedVariables false
set_option linter.unusedSimpArgs false
set_option maxRecDepth 100000

/-- As lift.handed; the walk is told the weights too. -/
theorem handed_sized {H : Type} {enc : TypeId × Value → H} {C : Checked} {os : Os} {f : FuncId} {fn : Func} {s : ChangeSpec} {tb : TypeId}
    (own : ownKnob C.prog.godebug = none) (started : os.Started) (noInit : C.prog.inits.idxOf? f = none) (hfn : C.prog.funcs[f]? = some fn) (hl : laidOutB C.prog = true)
    (hres : fn.resultTypes = #[tb]) (hb : C.prog.underlying tb = some .bool) (hvars : s.vars = [])
    (hread : ∀ t ∈ fn.params.toList, C.prog.readableRec t = true ∧ t < C.prog.types.size)
    (hspec : ∀ (ds : List (DataW H)), ds.length = fn.params.size → s.fn H ds = { results := [.lit (.bool true)], args := ds })
    (witness : ∃ (w : World) (tape : Tape) (i : Input), w.os = os ∧ (w.forCall tape i).Shaped C.prog ∧ i.vars = [] ∧ Input.okWide C.prog (w.forCall tape i) .any w.heap.size f i ∧
      s.pre6 enc C.prog fn [] false (w.forCall tape i).memory i.args ∧ Assume.holds {} C.prog (lone (Frame.enter C.prog f i.args .normal) [] (w.forCall tape i)))
    (walk : ∀ (W : World) (args : Array Value) (ds : List (DataW H)), lift.Given enc C.prog fn W args ds → (∀ (j : Nat) t d, fn.params.toList[j]? = some t → ds[j]? = some d → ∀ n ∈ d.weights C.prog t, n ≤ reachBytes) →
      Calls C.prog f args W fun e W' => e = .returned (.bool true) ∧ Below W.heap.size W W') :
    ReturnsInHanded {} C os f .any (s.pre6 enc C.prog fn [] false) (s.post enc C.prog fn false true false false) := by
  refine returnsInHanded_of_change_sized (C := C) own started noInit hfn witness ?_
  intro W base args ds gs before hval hW _ hwt _
  have hW' := hW
  obtain ⟨p, q, hA, hV, rfl, hfz, hnd⟩ := hW
  refine (walk W args ds ⟨⟨base, hval⟩, ⟨p, hA⟩⟩ (fun j t d ht hd n hn => ?_)).mono fun e W' ⟨he, bel⟩ => ?_
  · have h1 : (fn.params.toList ++ s.plain.varTypes C.prog)[j]? = some t := by rw [List.getElem?_append_left (List.getElem?_eq_some_iff.1 ht).1]; exact ht
    have h2 : (ds ++ gs)[j]? = some d := by rw [List.getElem?_append_left (List.getElem?_eq_some_iff.1 hd).1]; exact hd
    have := List.all_eq_true.1 hwt _ (DataW.weights_mem_each h1 h2 n hn)
    simpa using this
  · subst he
    exact ⟨_, rfl, lift.law_post hl hres hb hvars hread hspec hW' bel⟩

theorem own : ownKnob Tryz.prog.godebug = none := by kernel_rfl
theorem laidOut : laidOutB Tryz.prog = true := by kernel_rfl
theorem cellsU : Tryz.prog.cellsOf 5 = 1 := by kernel_rfl
theorem bytesU : Tryz.prog.bytesOf 5 = 1 := by kernel_rfl
theorem bl_flat (l : List Nat) : l.flatMap (fun b => [Value.int .u8 (b : Nat)]) = BL l := by
  induction l with
  | nil => rfl
  | cons b l ih => rw [List.flatMap_cons, ih]; rfl
/-- An argument that is a slice of bytes. -/
theorem open_bytes {H : Type} {enc : TypeId × Value → H} {W : World} {v : Value} {d : DataW H} {p : List MemPlace} {base : Nat} (hw : ∀ n ∈ d.weights Tryz.prog 34, n ≤ reachBytes)
    (hv : Value.okWide Tryz.prog W .any base 34 v) (h : DataW.Trod enc Tryz.prog W 0 (fun _ => true) true 34 v d p) :
    ∃ A n c l, v = .slice A n c ∧ l.length = n ∧ n ≤ c ∧ Byt l ∧ SlS (fun a => a < W.heap.size) W A n 1 (BL l) := by
  obtain ⟨a0, len0, cap0, rfl⟩ := okWide_slice Tryz.underlying34 hv
  obtain ⟨fuel, hf⟩ := h
  obtain ⟨A, n, k, l, hcs, hl, hk, -, hs, hq⟩ := slice_open (x := (d, p)) (α := Nat) (fun b => [Value.int .u8 (b : Nat)]) (fun b => b < 256) Tryz.underlying34 cellsU bytesU (by omega) (fun _ => rfl) hw (fun m cs' y _ _ hy => by
    obtain ⟨z, hz, _, wf⟩ := DataW.trod_int Tryz.underlying5 hy
    have h1 : 0 ≤ z ∧ z < 256 := by
      have h2 : (decide (IntKind.u8.min ≤ z) && decide (z ≤ IntKind.u8.max)) = true := wf
      rw [Bool.and_eq_true, decide_eq_true_eq, decide_eq_true_eq] at h2
      have h3 : (0 : Int) ≤ z := h2.1
      have h4 : z ≤ 255 := h2.2
      omega
    refine ⟨z.toNat, ?_, by omega⟩
    rw [hz, show ((z.toNat : Nat) : Int) = z by omega]) hf
  simp [Value.cells] at hcs
  obtain ⟨rfl, rfl, rfl⟩ := hcs
  refine ⟨_, _, _, l, rfl, hl, hk, hq, ?_⟩
  rw [bl_flat] at hs
  refine ⟨hs, fun h0 a ha => ?_⟩
  obtain ⟨b, off, e, hlt, -⟩ := hs.2.2 h0
  rw [e] at ha
  have := Option.some.inj ha
  subst this
  exact hlt

theorem read_proved : Rows.FnReadManySaid :=
  OpenClaim.holds_of_wide 6 Tryz.f6 rfl rfl rfl rfl rfl rfl rfl ⟨rfl, rfl, rfl, rfl, rfl⟩ rfl rfl rfl rfl rfl (by kernel_rfl) Tryz.func6 (by kernel_rfl)
    (of_decide_eq_true (by kernel_rfl)) (by unfold Func.isWrapper; first | (rw [if_pos (by decide +kernel)]; kernel_rfl) | (rw [if_neg (by decide +kernel)]; exact ⟨rfl, rfl⟩))
    (fun os started H enc _ => handed_sized (C := Tryz.checked) (s := Rows.fnReadManySpec) own started (by kernel_rfl) Tryz.func6 laidOut (tb := 4) rfl Tryz.underlying4 rfl
      (fun t ht => of_decide_eq_true (List.all_eq_true.1 (show (Tryz.f6.params.toList.all fun t => decide (Tryz.prog.readableRec t = true ∧ t < Tryz.prog.types.size)) = true by kernel_rfl) t ht))
      (fun ds h => by match ds, h with | [_], _ => rfl)
      (ChangeSpec.witness6 (enc := enc) (C := Tryz.checked) false ⟨#[], #[.slice none 0 0], []⟩ 8 (by kernel_rfl) (by kernel_rfl) (by kernel_rfl) (by kernel_rfl))
      (fun W args ds ⟨⟨base, hval0⟩, ⟨p, hA0⟩⟩ hwt0 => by
        have hval : ∀ (j : Nat) t v, Tryz.f6.params[j]? = some t → args[j]? = some v → Value.okWide Tryz.prog W .any base t v := hval0
        have hA : DataW.TrodAll enc Tryz.prog W 0 (fun _ => true) true Tryz.f6.params.toList args.toList ds p := hA0
        have hwt : ∀ (j : Nat) t d, Tryz.f6.params.toList[j]? = some t → ds[j]? = some d → ∀ n ∈ d.weights Tryz.prog t, n ≤ reachBytes := hwt0
        rw [Tryz.params6] at hA hval hwt
        obtain ⟨v0, d0, rfl, rfl, h0⟩ := trodAll_one hA
        obtain ⟨A, n, c, l, rfl, hn, hc, hb, hs⟩ := open_bytes (hwt 0 _ d0 rfl rfl) (hval 0 _ v0 rfl rfl) h0
        exact law_read hn hc hb hs))
#print axioms read_proved
end Go.Proofs.YtbacakdpfiiblaaGreat.geo
