/-
  No cell of these rows narrows 'for every input' (looked for: loops, veiled, ifaces, maps, wideKeys, modest, calm, conditions, laid).
  DERIVED. THE GIVEN ROWS OF THIS SEAT. 5 by the template 'for every input the law returns true; each argument reads behind the call as it read before'; 0 by the template 'total and deterministic' (their statements: YtlnjnecjmnfiaaaTotals.lean).
  GIVEN WITH THE SEED: the statements are not yours to turn. If you find one false, say at which input.
  Laid BY PROGRAM, IN A SANDBOX (cutbox-rows.mjs): the forced cells as the released guide's own fill.sh prints them over the translation 88e84cfe60f5d549… (all of the seat's roots in one cut). By AI agents, Wed Nov 11 2026. No macro, syntax, notation, axiom, sorry.
-/
import Derived.Test.YtlnjnecjmnfiaaaChecked
import GoSem.Claim
import GoSem.ClaimJoined
import GoSem.ClaimMapViews
import Derived.JoinedTies
import Derived.KernelRfl
namespace Go.Proofs.Ytlnjnecjmnfiaaa
/- THE CELL 'sum', in the pinned program and in every row, IS THE sha256 OF THE DUMP (.gsa) THAT YtlnjnecjmnfiaaaProg.lean LOADS. Nothing in Lean hashes anything: it is a label: what it is worth is what the hold of that sum in a sandbox is worth. -/
noncomputable def Try.pinned : Pinned := { name := "ytlnjnecjmnfiaaa", sum := "88e84cfe60f5d5497fe426d141fb106fa2833a031dab0f6c83acf729e5b4a479", checked := Try.checked }
namespace Rows
def none {H : Type} : Left H := { results := [], args := [] }

/-- 'laws.FnSelects': WHATEVER THE INPUT: true; the input reads as it did. -/
def fnSelectsSpec : ChangeSpec := { name := "fnSelects", fn := fun _ => fun
  | [d1, d2, d3] => { results := [.lit (.bool true)], args := [d1, d2, d3] }
  | _ => none }
def fnSelectsRow : OpenClaim := { program := "ytlnjnecjmnfiaaa", sum := "88e84cfe60f5d5497fe426d141fb106fa2833a031dab0f6c83acf729e5b4a479", func := "pub-eidograph/laws.FnSelects", spec := "fnSelects", unfollowed := true, recurses := true, apart := false }
def FnSelectsSaid : Prop := fnSelectsRow.holds Try.pinned (OpenSpec.ofChange fnSelectsSpec)

/-- ITS FALSE NEIGHBOUR: 'it returns false'. Refute it at one input. -/
def fnSelectsWrong : ChangeSpec := { name := "fnSelects", fn := fun _ => fun
  | [d1, d2, d3] => { results := [.lit (.bool false)], args := [d1, d2, d3] }
  | _ => none }
def FnSelectsWrongFalsely : Prop := fnSelectsRow.holds Try.pinned (OpenSpec.ofChange fnSelectsWrong)

/-- 'laws.FnTwoPlaces': WHATEVER THE INPUT: true; the input reads as it did. -/
def fnTwoPlacesSpec : ChangeSpec := { name := "fnTwoPlaces", fn := fun _ => fun
  | [d1, d2] => { results := [.lit (.bool true)], args := [d1, d2] }
  | _ => none }
def fnTwoPlacesRow : OpenClaim := { program := "ytlnjnecjmnfiaaa", sum := "88e84cfe60f5d5497fe426d141fb106fa2833a031dab0f6c83acf729e5b4a479", func := "pub-eidograph/laws.FnTwoPlaces", spec := "fnTwoPlaces", recurses := true, apart := false }
def FnTwoPlacesSaid : Prop := fnTwoPlacesRow.holds Try.pinned (OpenSpec.ofChange fnTwoPlacesSpec)

/-- ITS FALSE NEIGHBOUR: 'it returns false'. Refute it at one input. -/
def fnTwoPlacesWrong : ChangeSpec := { name := "fnTwoPlaces", fn := fun _ => fun
  | [d1, d2] => { results := [.lit (.bool false)], args := [d1, d2] }
  | _ => none }
def FnTwoPlacesWrongFalsely : Prop := fnTwoPlacesRow.holds Try.pinned (OpenSpec.ofChange fnTwoPlacesWrong)

/-- 'laws.FnEdgeIs': WHATEVER THE INPUT: true; the input reads as it did. -/
def fnEdgeIsSpec : ChangeSpec := { name := "fnEdgeIs", fn := fun _ => fun
  | [d1, d2, d3] => { results := [.lit (.bool true)], args := [d1, d2, d3] }
  | _ => none }
def fnEdgeIsRow : OpenClaim := { program := "ytlnjnecjmnfiaaa", sum := "88e84cfe60f5d5497fe426d141fb106fa2833a031dab0f6c83acf729e5b4a479", func := "pub-eidograph/laws.FnEdgeIs", spec := "fnEdgeIs", apart := false }
def FnEdgeIsSaid : Prop := fnEdgeIsRow.holds Try.pinned (OpenSpec.ofChange fnEdgeIsSpec)

/-- ITS FALSE NEIGHBOUR: 'it returns false'. Refute it at one input. -/
def fnEdgeIsWrong : ChangeSpec := { name := "fnEdgeIs", fn := fun _ => fun
  | [d1, d2, d3] => { results := [.lit (.bool false)], args := [d1, d2, d3] }
  | _ => none }
def FnEdgeIsWrongFalsely : Prop := fnEdgeIsRow.holds Try.pinned (OpenSpec.ofChange fnEdgeIsWrong)

/-- 'laws.FnTakesLine': WHATEVER THE INPUT: true; the input reads as it did. -/
def fnTakesLineSpec : ChangeSpec := { name := "fnTakesLine", fn := fun _ => fun
  | [d1, d2, d3, d4, d5] => { results := [.lit (.bool true)], args := [d1, d2, d3, d4, d5] }
  | _ => none }
def fnTakesLineRow : OpenClaim := { program := "ytlnjnecjmnfiaaa", sum := "88e84cfe60f5d5497fe426d141fb106fa2833a031dab0f6c83acf729e5b4a479", func := "pub-eidograph/laws.FnTakesLine", spec := "fnTakesLine", unfollowed := true, recurses := true, apart := false }
def FnTakesLineSaid : Prop := fnTakesLineRow.holds Try.pinned (OpenSpec.ofChange fnTakesLineSpec)

/-- ITS FALSE NEIGHBOUR: 'it returns false'. Refute it at one input. -/
def fnTakesLineWrong : ChangeSpec := { name := "fnTakesLine", fn := fun _ => fun
  | [d1, d2, d3, d4, d5] => { results := [.lit (.bool false)], args := [d1, d2, d3, d4, d5] }
  | _ => none }
def FnTakesLineWrongFalsely : Prop := fnTakesLineRow.holds Try.pinned (OpenSpec.ofChange fnTakesLineWrong)

/-- 'laws.FnMatrixSet': WHATEVER THE INPUT: true; the input reads as it did. -/
def fnMatrixSetSpec : ChangeSpec := { name := "fnMatrixSet", fn := fun _ => fun
  | [d1, d2, d3, d4] => { results := [.lit (.bool true)], args := [d1, d2, d3, d4] }
  | _ => none }
def fnMatrixSetRow : OpenClaim := { program := "ytlnjnecjmnfiaaa", sum := "88e84cfe60f5d5497fe426d141fb106fa2833a031dab0f6c83acf729e5b4a479", func := "pub-eidograph/laws.FnMatrixSet", spec := "fnMatrixSet", unfollowed := true, recurses := true, apart := false }
def FnMatrixSetSaid : Prop := fnMatrixSetRow.holds Try.pinned (OpenSpec.ofChange fnMatrixSetSpec)

/-- ITS FALSE NEIGHBOUR: 'it returns false'. Refute it at one input. -/
def fnMatrixSetWrong : ChangeSpec := { name := "fnMatrixSet", fn := fun _ => fun
  | [d1, d2, d3, d4] => { results := [.lit (.bool false)], args := [d1, d2, d3, d4] }
  | _ => none }
def FnMatrixSetWrongFalsely : Prop := fnMatrixSetRow.holds Try.pinned (OpenSpec.ofChange fnMatrixSetWrong)

/- THE SECOND FORM. 'bulk': how many values and letters a reading holds, each counted each time it is reached (what is shared counts as often as it is met; a slice's spare places count too). A statement '..UptoSaid' is the law's where the arguments, and the package variables that the reading takes, are together of bulk at most 1048576: NARROWER than '..Said'. Prove '..Said' where nothing that the law and all that it calls make is longer than what came in: it says more and counts as full. Else prove '..UptoSaid'. A law counts once. -/
mutual
def uptoBulk {H : Type} : DataW H → Nat
  | .lit (.string bytes) => bytes.length + 1
  | .lit _ => 1
  | .nil => 1
  | .ptr d => uptoBulk d + 1
  | .slice elems spare => uptoBulkAll elems + uptoBulkAll spare + 1
  | .agg parts => uptoBulkAll parts + 1
  | .iface _ d => uptoBulk d + 1
  | .map entries => uptoBulkEntries entries + 1
  | .held _ => 1
def uptoBulkAll {H : Type} : List (DataW H) → Nat
  | [] => 0
  | d :: r => uptoBulk d + uptoBulkAll r
def uptoBulkEntries {H : Type} : List (Lit × DataW H) → Nat
  | [] => 0
  | x :: r => uptoBulkEntry x + uptoBulkEntries r
def uptoBulkEntry {H : Type} : Lit × DataW H → Nat
  | (.string bytes, d) => bytes.length + uptoBulk d + 1
  | (_, d) => uptoBulk d + 1
 end
def uptoSmall : (H : Type) → List (DataW H) → Bool := fun _ ds => decide (uptoBulkAll ds ≤ 1048576)
def OpenSpec.upto (s : _root_.Go.ChangeSpec) : _root_.Go.OpenSpec := { _root_.Go.OpenSpec.ofChange s with cond := some uptoSmall }

/-- 'laws.FnSelects', WHERE WHAT IT READS IS OF BULK AT MOST 1048576: true; the input reads as it did. -/
def fnSelectsUptoRow : OpenClaim := { program := "ytlnjnecjmnfiaaa", sum := "88e84cfe60f5d5497fe426d141fb106fa2833a031dab0f6c83acf729e5b4a479", func := "pub-eidograph/laws.FnSelects", spec := "fnSelects", unfollowed := true, recurses := true, apart := false, narrowed := true }
def FnSelectsUptoSaid : Prop := fnSelectsUptoRow.holds Try.pinned (OpenSpec.upto fnSelectsSpec)

/-- 'laws.FnTwoPlaces', WHERE WHAT IT READS IS OF BULK AT MOST 1048576: true; the input reads as it did. -/
def fnTwoPlacesUptoRow : OpenClaim := { program := "ytlnjnecjmnfiaaa", sum := "88e84cfe60f5d5497fe426d141fb106fa2833a031dab0f6c83acf729e5b4a479", func := "pub-eidograph/laws.FnTwoPlaces", spec := "fnTwoPlaces", recurses := true, apart := false, narrowed := true }
def FnTwoPlacesUptoSaid : Prop := fnTwoPlacesUptoRow.holds Try.pinned (OpenSpec.upto fnTwoPlacesSpec)

/-- 'laws.FnEdgeIs', WHERE WHAT IT READS IS OF BULK AT MOST 1048576: true; the input reads as it did. -/
def fnEdgeIsUptoRow : OpenClaim := { program := "ytlnjnecjmnfiaaa", sum := "88e84cfe60f5d5497fe426d141fb106fa2833a031dab0f6c83acf729e5b4a479", func := "pub-eidograph/laws.FnEdgeIs", spec := "fnEdgeIs", apart := false, narrowed := true }
def FnEdgeIsUptoSaid : Prop := fnEdgeIsUptoRow.holds Try.pinned (OpenSpec.upto fnEdgeIsSpec)

/-- 'laws.FnTakesLine', WHERE WHAT IT READS IS OF BULK AT MOST 1048576: true; the input reads as it did. -/
def fnTakesLineUptoRow : OpenClaim := { program := "ytlnjnecjmnfiaaa", sum := "88e84cfe60f5d5497fe426d141fb106fa2833a031dab0f6c83acf729e5b4a479", func := "pub-eidograph/laws.FnTakesLine", spec := "fnTakesLine", unfollowed := true, recurses := true, apart := false, narrowed := true }
def FnTakesLineUptoSaid : Prop := fnTakesLineUptoRow.holds Try.pinned (OpenSpec.upto fnTakesLineSpec)

/-- 'laws.FnMatrixSet', WHERE WHAT IT READS IS OF BULK AT MOST 1048576: true; the input reads as it did. -/
def fnMatrixSetUptoRow : OpenClaim := { program := "ytlnjnecjmnfiaaa", sum := "88e84cfe60f5d5497fe426d141fb106fa2833a031dab0f6c83acf729e5b4a479", func := "pub-eidograph/laws.FnMatrixSet", spec := "fnMatrixSet", unfollowed := true, recurses := true, apart := false, narrowed := true }
def FnMatrixSetUptoSaid : Prop := fnMatrixSetUptoRow.holds Try.pinned (OpenSpec.upto fnMatrixSetSpec)

end Rows
end Go.Proofs.Ytlnjnecjmnfiaaa
