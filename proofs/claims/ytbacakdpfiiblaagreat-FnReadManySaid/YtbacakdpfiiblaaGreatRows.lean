/-
  NARROWER THAN 'FOR EVERY INPUT', by the rows' own cells (each row's printed sentence says how): FnControlPoints: loops · FnPartOf: loops · FnAsKind: loops.
  DERIVED. THE GIVEN ROWS OF THIS SEAT. 4 by the template 'for every input the law returns true; each argument reads behind the call as it read before'; 0 by the template 'total and deterministic' (their statements: YtbacakdpfiiblaaGreatTotals.lean).
  GIVEN WITH THE SEED: the statements are not yours to turn. If you find one false, say at which input.
  Laid BY PROGRAM, IN A SANDBOX (cutbox-rows.mjs): the forced cells as the released guide's own fill.sh prints them over the translation 34bf415d6b3b6600… (all of the seat's roots in one cut). By AI agents, Wed Nov 11 2026. No macro, syntax, notation, axiom, sorry.
-/
import Derived.Test.YtbacakdpfiiblaaGreatChecked
import GoSem.Claim
import GoSem.ClaimJoined
import GoSem.ClaimMapViews
import Derived.JoinedTies
import Derived.KernelRfl
namespace Go.Proofs.YtbacakdpfiiblaaGreat
/- THE CELL 'sum', in the pinned program and in every row, IS THE sha256 OF THE DUMP (.gsa) THAT YtbacakdpfiiblaaGreatProg.lean LOADS. Nothing in Lean hashes anything: it is a label: what it is worth is what the hold of that sum in a sandbox is worth. -/
noncomputable def Tryz.pinned : Pinned := { name := "ytbacakdpfiiblaagreat", sum := "34bf415d6b3b6600bd698728fe0053ad2f4aefcb4980ee79a6f6bc9806cbe7fc", checked := Tryz.checked }
namespace Rows
def none {H : Type} : Left H := { results := [], args := [] }

/-- 'laws.FnControlPoints': WHATEVER THE INPUT: true; the input reads as it did. -/
def fnControlPointsSpec : ChangeSpec := { name := "fnControlPoints", fn := fun _ => fun
  | [d] => { results := [.lit (.bool true)], args := [d] }
  | _ => none }
def fnControlPointsRow : OpenClaim := { program := "ytbacakdpfiiblaagreat", sum := "34bf415d6b3b6600bd698728fe0053ad2f4aefcb4980ee79a6f6bc9806cbe7fc", func := "pub-eidograph/laws.FnControlPoints", spec := "fnControlPoints", recurses := true, loops := true, apart := false }
def FnControlPointsSaid : Prop := fnControlPointsRow.holds Tryz.pinned (OpenSpec.ofChange fnControlPointsSpec)

/-- ITS FALSE NEIGHBOUR: 'it returns false'. Refute it at one input. -/
def fnControlPointsWrong : ChangeSpec := { name := "fnControlPoints", fn := fun _ => fun
  | [d] => { results := [.lit (.bool false)], args := [d] }
  | _ => none }
def FnControlPointsWrongFalsely : Prop := fnControlPointsRow.holds Tryz.pinned (OpenSpec.ofChange fnControlPointsWrong)

/-- 'laws.FnPartOf': WHATEVER THE INPUT: true; the input reads as it did. -/
def fnPartOfSpec : ChangeSpec := { name := "fnPartOf", fn := fun _ => fun
  | [d1, d2] => { results := [.lit (.bool true)], args := [d1, d2] }
  | _ => none }
def fnPartOfRow : OpenClaim := { program := "ytbacakdpfiiblaagreat", sum := "34bf415d6b3b6600bd698728fe0053ad2f4aefcb4980ee79a6f6bc9806cbe7fc", func := "pub-eidograph/laws.FnPartOf", spec := "fnPartOf", unfollowed := true, recurses := true, loops := true, apart := false }
def FnPartOfSaid : Prop := fnPartOfRow.holds Tryz.pinned (OpenSpec.ofChange fnPartOfSpec)

/-- ITS FALSE NEIGHBOUR: 'it returns false'. Refute it at one input. -/
def fnPartOfWrong : ChangeSpec := { name := "fnPartOf", fn := fun _ => fun
  | [d1, d2] => { results := [.lit (.bool false)], args := [d1, d2] }
  | _ => none }
def FnPartOfWrongFalsely : Prop := fnPartOfRow.holds Tryz.pinned (OpenSpec.ofChange fnPartOfWrong)

/-- 'laws.FnAsKind': WHATEVER THE INPUT: true; the input reads as it did. -/
def fnAsKindSpec : ChangeSpec := { name := "fnAsKind", fn := fun _ => fun
  | [d1, d2] => { results := [.lit (.bool true)], args := [d1, d2] }
  | _ => none }
def fnAsKindRow : OpenClaim := { program := "ytbacakdpfiiblaagreat", sum := "34bf415d6b3b6600bd698728fe0053ad2f4aefcb4980ee79a6f6bc9806cbe7fc", func := "pub-eidograph/laws.FnAsKind", spec := "fnAsKind", unfollowed := true, recurses := true, loops := true, apart := false }
def FnAsKindSaid : Prop := fnAsKindRow.holds Tryz.pinned (OpenSpec.ofChange fnAsKindSpec)

/-- ITS FALSE NEIGHBOUR: 'it returns false'. Refute it at one input. -/
def fnAsKindWrong : ChangeSpec := { name := "fnAsKind", fn := fun _ => fun
  | [d1, d2] => { results := [.lit (.bool false)], args := [d1, d2] }
  | _ => none }
def FnAsKindWrongFalsely : Prop := fnAsKindRow.holds Tryz.pinned (OpenSpec.ofChange fnAsKindWrong)

/-- 'laws.FnReadMany': WHATEVER THE INPUT: true; the input reads as it did. -/
def fnReadManySpec : ChangeSpec := { name := "fnReadMany", fn := fun _ => fun
  | [d] => { results := [.lit (.bool true)], args := [d] }
  | _ => none }
def fnReadManyRow : OpenClaim := { program := "ytbacakdpfiiblaagreat", sum := "34bf415d6b3b6600bd698728fe0053ad2f4aefcb4980ee79a6f6bc9806cbe7fc", func := "pub-eidograph/laws.FnReadMany", spec := "fnReadMany", inPlace := ["math.Float64frombits", "math.Float64bits"], recurses := true, named := ["encoding/binary.BigEndian", "encoding/binary.LittleEndian"], apart := false }
def FnReadManySaid : Prop := fnReadManyRow.holds Tryz.pinned (OpenSpec.ofChange fnReadManySpec)

/-- ITS FALSE NEIGHBOUR: 'it returns false'. Refute it at one input. -/
def fnReadManyWrong : ChangeSpec := { name := "fnReadMany", fn := fun _ => fun
  | [d] => { results := [.lit (.bool false)], args := [d] }
  | _ => none }
def FnReadManyWrongFalsely : Prop := fnReadManyRow.holds Tryz.pinned (OpenSpec.ofChange fnReadManyWrong)

/- THE SECOND FORM. 'bulk': how many values and letters a reading holds, each counted each time it is reached (what is shared counts as often as it is met; a slice's spare places count too). A statement '..UptoSaid' is the law's where the arguments, and the package variables that the reading takes, are together of bulk at most 1048576: NARROWER than '..Said'. Prove '..Said' where nothing that the law and all that it calls make is longer than what came in: it says more and counts as full. Else prove '..UptoSaid'. A law counts once. -/
mutual
def uptoBulk {H : Type} : DataW H → Nat
  | .lit (.string bytes) => bytes.length + 1
  | .lit _ => 1
  | .nil => 1
  | .ptr d => uptoBulk d + 1
  | .slice elems spare => uptoBulkAll elems + uptoBulkAll spare + 1
  | .agg parts => uptoBulkAll parts + 1
  | .iface _ d => uptoBulk d + 1
  | .map entries => uptoBulkEntries entries + 1
  | .held _ => 1
def uptoBulkAll {H : Type} : List (DataW H) → Nat
  | [] => 0
  | d :: r => uptoBulk d + uptoBulkAll r
def uptoBulkEntries {H : Type} : List (Lit × DataW H) → Nat
  | [] => 0
  | x :: r => uptoBulkEntry x + uptoBulkEntries r
def uptoBulkEntry {H : Type} : Lit × DataW H → Nat
  | (.string bytes, d) => bytes.length + uptoBulk d + 1
  | (_, d) => uptoBulk d + 1
 end
def uptoSmall : (H : Type) → List (DataW H) → Bool := fun _ ds => decide (uptoBulkAll ds ≤ 1048576)
def OpenSpec.upto (s : _root_.Go.ChangeSpec) : _root_.Go.OpenSpec := { _root_.Go.OpenSpec.ofChange s with cond := some uptoSmall }

/-- 'laws.FnControlPoints', WHERE WHAT IT READS IS OF BULK AT MOST 1048576: true; the input reads as it did. -/
def fnControlPointsUptoRow : OpenClaim := { program := "ytbacakdpfiiblaagreat", sum := "34bf415d6b3b6600bd698728fe0053ad2f4aefcb4980ee79a6f6bc9806cbe7fc", func := "pub-eidograph/laws.FnControlPoints", spec := "fnControlPoints", recurses := true, loops := true, apart := false, narrowed := true }
def FnControlPointsUptoSaid : Prop := fnControlPointsUptoRow.holds Tryz.pinned (OpenSpec.upto fnControlPointsSpec)

/-- 'laws.FnPartOf', WHERE WHAT IT READS IS OF BULK AT MOST 1048576: true; the input reads as it did. -/
def fnPartOfUptoRow : OpenClaim := { program := "ytbacakdpfiiblaagreat", sum := "34bf415d6b3b6600bd698728fe0053ad2f4aefcb4980ee79a6f6bc9806cbe7fc", func := "pub-eidograph/laws.FnPartOf", spec := "fnPartOf", unfollowed := true, recurses := true, loops := true, apart := false, narrowed := true }
def FnPartOfUptoSaid : Prop := fnPartOfUptoRow.holds Tryz.pinned (OpenSpec.upto fnPartOfSpec)

/-- 'laws.FnAsKind', WHERE WHAT IT READS IS OF BULK AT MOST 1048576: true; the input reads as it did. -/
def fnAsKindUptoRow : OpenClaim := { program := "ytbacakdpfiiblaagreat", sum := "34bf415d6b3b6600bd698728fe0053ad2f4aefcb4980ee79a6f6bc9806cbe7fc", func := "pub-eidograph/laws.FnAsKind", spec := "fnAsKind", unfollowed := true, recurses := true, loops := true, apart := false, narrowed := true }
def FnAsKindUptoSaid : Prop := fnAsKindUptoRow.holds Tryz.pinned (OpenSpec.upto fnAsKindSpec)

/-- 'laws.FnReadMany', WHERE WHAT IT READS IS OF BULK AT MOST 1048576: true; the input reads as it did. -/
def fnReadManyUptoRow : OpenClaim := { program := "ytbacakdpfiiblaagreat", sum := "34bf415d6b3b6600bd698728fe0053ad2f4aefcb4980ee79a6f6bc9806cbe7fc", func := "pub-eidograph/laws.FnReadMany", spec := "fnReadMany", inPlace := ["math.Float64frombits", "math.Float64bits"], recurses := true, named := ["encoding/binary.BigEndian", "encoding/binary.LittleEndian"], apart := false, narrowed := true }
def FnReadManyUptoSaid : Prop := fnReadManyUptoRow.holds Tryz.pinned (OpenSpec.upto fnReadManySpec)

end Rows
end Go.Proofs.YtbacakdpfiiblaaGreat
