/-
  Contract: a place as a text.
-/
import Derived.Test.YtpfgdfgifdbijaaDoorFfR
import Derived.Lib.UnsafeStr
namespace Go.Proofs.YtpfgdfgifdbijaaDoor.ff
open Go.ChangeShapes Go.WideShapes Go.ChangeAt Go.RowKit
open Go.Proofs.YtpfgdfgifdbijaaDoor.mem
set_option linter.unusedVariables false
set_option linter.unusedSimpArgs false

theorem IsB.keep {B b : Nat} {bs : List Value} {w w' : World} (h : IsB B b bs w) (hb : Below w.heap.size w w') : IsB B b bs w' := by
  rcases h with ⟨h1, v, h2, h3, h4⟩ | ⟨h1, v, h2, h3, h4⟩
  · have hlt : b < w.heap.size := Lib.BuilderAt.lt ⟨h1, v, h2, h3, h4⟩
    refine .inl ⟨h1, v, (hb.block b hlt).trans h2, h3.kept (row := none) (grown_below hb) ?_, h4⟩
    rcases ho : v.ownBlock with _ | q
    · exact .inl rfl
    · exact .inr (fun e => by cases e)
  · have hlt : b < w.heap.size := Lib.BuilderAt.lt ⟨h1, v, h2, h3, h4⟩
    refine .inr ⟨h1, v, (hb.block b hlt).trans h2, h3.kept (row := none) (grown_below hb) ?_, h4⟩
    rcases ho : v.ownBlock with _ | q
    · exact .inl rfl
    · exact .inr (fun e => by cases e)
theorem cells_app (l : List UInt8) (s : ByteArray) : Lib.byteCells l ++ Lib.strCells s = Lib.byteCells (l ++ s.data.toList) := by simp [Lib.byteCells, Lib.strCells]
theorem cells_one (l : List UInt8) : Lib.byteCells l ++ [.int .u8 32] = Lib.byteCells (l ++ [32]) := by simp [Lib.byteCells]
theorem byteCells_len (l : List UInt8) : (Lib.byteCells l).length = l.length := by simp [Lib.byteCells]
theorem lenS (s : ByteArray) : s.data.toList.length = s.size := Array.length_toList
theorem strN_size (l : List Nat) : (strN l).size = l.length := by unfold strN; rw [strOfNums_size, List.length_map]
theorem cells5 {w : World} {g : Nat} {t : TypeId} {a b c d e : Value} (h : Blk w g t #[a, b, c, d, e]) :
    w.cell? ⟨g, 0, none⟩ = some a ∧ w.cell? ⟨g, 1, none⟩ = some b ∧ w.cell? ⟨g, 2, none⟩ = some c ∧ w.cell? ⟨g, 3, none⟩ = some d ∧ w.cell? ⟨g, 4, none⟩ = some e :=
  ⟨h.cell 0, h.cell 1, h.cell 2, h.cell 3, h.cell 4⟩
/-- The name of a type. -/
def tyS (d : Nat) : ByteArray := if d = 0 then ⟨#[88, 89]⟩ else if d = 1 then ⟨#[88, 89, 90]⟩ else if d = 2 then ⟨#[88, 89, 77]⟩ else ⟨#[88, 89, 90, 77]⟩
theorem tyS_size (d : Nat) : (tyS d).size ≤ 4 := by unfold tyS; split <;> (try split) <;> (try split) <;> decide
/-- What a place says of itself. -/
def cS (FT : Nat → List Nat) (d : Nat) (x y z m : Nat) : List UInt8 :=
  [] ++ (⟨#[67, 111, 111, 114, 100, 105, 110, 97, 116, 101, 115, 91]⟩ : ByteArray).data.toList ++ (tyS d).data.toList ++ (⟨#[93, 32]⟩ : ByteArray).data.toList ++ (strN (FT x)).data.toList ++ [32] ++ (strN (FT y)).data.toList ++ (if d = 1 ∨ d = 3 then [32] ++ (strN (FT z)).data.toList else []) ++ (if d = 2 ∨ d = 3 then [32] ++ (strN (FT m)).data.toList else [])
set_option maxRecDepth 100000 in
theorem tyS0_calls (w : World) : Calls Tryd.prog 20 #[.int .u8 0] w (Same w (.string (tyS 0))) := by
  rw [show tyS 0 = (⟨#[88, 89]⟩ : ByteArray) from rfl]
  have i0 : ∀ w, (Instr.index 70 (.agg #[.string ⟨#[88, 89]⟩, .string ⟨#[88, 89, 90]⟩, .string ⟨#[88, 89, 77]⟩, .string ⟨#[88, 89, 90, 77]⟩]) (.int .u8 0)).run Tryd.prog w = .ok (.string (⟨#[88, 89]⟩ : ByteArray)) w := fun _ => by kernel_rfl
  go_enter Tryd.func20, Tryd.ntmps20
  go_wp2_with fail
  exact bodyPost_ret (v := .string (⟨#[88, 89]⟩ : ByteArray)) (by simp [results, go_sem]) rfl ⟨rfl, rfl⟩
theorem is3D0_calls (w : World) : Calls Tryd.prog 22 #[.int .u8 0] w (Same w (.bool false)) := by
  have e1 : bits .and .u8 0 1 = 0 := by decide
  go_enter Tryd.func22, Tryd.ntmps22
  go_wp2_with fail
  exact bodyPost_ret (v := .bool false) (by simp [results, go_sem]) rfl ⟨rfl, rfl⟩
theorem isM0_calls (w : World) : Calls Tryd.prog 23 #[.int .u8 0] w (Same w (.bool false)) := by
  have e1 : bits .and .u8 0 2 = 0 := by decide
  go_enter Tryd.func23, Tryd.ntmps23
  go_wp2_with fail
  exact bodyPost_ret (v := .bool false) (by simp [results, go_sem]) rfl ⟨rfl, rfl⟩
set_option maxRecDepth 100000 in
theorem tyS1_calls (w : World) : Calls Tryd.prog 20 #[.int .u8 1] w (Same w (.string (tyS 1))) := by
  rw [show tyS 1 = (⟨#[88, 89, 90]⟩ : ByteArray) from rfl]
  have i0 : ∀ w, (Instr.index 70 (.agg #[.string ⟨#[88, 89]⟩, .string ⟨#[88, 89, 90]⟩, .string ⟨#[88, 89, 77]⟩, .string ⟨#[88, 89, 90, 77]⟩]) (.int .u8 1)).run Tryd.prog w = .ok (.string (⟨#[88, 89, 90]⟩ : ByteArray)) w := fun _ => by kernel_rfl
  go_enter Tryd.func20, Tryd.ntmps20
  go_wp2_with fail
  exact bodyPost_ret (v := .string (⟨#[88, 89, 90]⟩ : ByteArray)) (by simp [results, go_sem]) rfl ⟨rfl, rfl⟩
theorem is3D1_calls (w : World) : Calls Tryd.prog 22 #[.int .u8 1] w (Same w (.bool true)) := by
  have e1 : bits .and .u8 1 1 = 1 := by decide
  go_enter Tryd.func22, Tryd.ntmps22
  go_wp2_with fail
  exact bodyPost_ret (v := .bool true) (by simp [results, go_sem]) rfl ⟨rfl, rfl⟩
theorem isM1_calls (w : World) : Calls Tryd.prog 23 #[.int .u8 1] w (Same w (.bool false)) := by
  have e1 : bits .and .u8 1 2 = 0 := by decide
  go_enter Tryd.func23, Tryd.ntmps23
  go_wp2_with fail
  exact bodyPost_ret (v := .bool false) (by simp [results, go_sem]) rfl ⟨rfl, rfl⟩
set_option maxRecDepth 100000 in
theorem tyS2_calls (w : World) : Calls Tryd.prog 20 #[.int .u8 2] w (Same w (.string (tyS 2))) := by
  rw [show tyS 2 = (⟨#[88, 89, 77]⟩ : ByteArray) from rfl]
  have i0 : ∀ w, (Instr.index 70 (.agg #[.string ⟨#[88, 89]⟩, .string ⟨#[88, 89, 90]⟩, .string ⟨#[88, 89, 77]⟩, .string ⟨#[88, 89, 90, 77]⟩]) (.int .u8 2)).run Tryd.prog w = .ok (.string (⟨#[88, 89, 77]⟩ : ByteArray)) w := fun _ => by kernel_rfl
  go_enter Tryd.func20, Tryd.ntmps20
  go_wp2_with fail
  exact bodyPost_ret (v := .string (⟨#[88, 89, 77]⟩ : ByteArray)) (by simp [results, go_sem]) rfl ⟨rfl, rfl⟩
theorem is3D2_calls (w : World) : Calls Tryd.prog 22 #[.int .u8 2] w (Same w (.bool false)) := by
  have e1 : bits .and .u8 2 1 = 0 := by decide
  go_enter Tryd.func22, Tryd.ntmps22
  go_wp2_with fail
  exact bodyPost_ret (v := .bool false) (by simp [results, go_sem]) rfl ⟨rfl, rfl⟩
theorem isM2_calls (w : World) : Calls Tryd.prog 23 #[.int .u8 2] w (Same w (.bool true)) := by
  have e1 : bits .and .u8 2 2 = 2 := by decide
  go_enter Tryd.func23, Tryd.ntmps23
  go_wp2_with fail
  exact bodyPost_ret (v := .bool true) (by simp [results, go_sem]) rfl ⟨rfl, rfl⟩
set_option maxRecDepth 100000 in
theorem tyS3_calls (w : World) : Calls Tryd.prog 20 #[.int .u8 3] w (Same w (.string (tyS 3))) := by
  rw [show tyS 3 = (⟨#[88, 89, 90, 77]⟩ : ByteArray) from rfl]
  have i0 : ∀ w, (Instr.index 70 (.agg #[.string ⟨#[88, 89]⟩, .string ⟨#[88, 89, 90]⟩, .string ⟨#[88, 89, 77]⟩, .string ⟨#[88, 89, 90, 77]⟩]) (.int .u8 3)).run Tryd.prog w = .ok (.string (⟨#[88, 89, 90, 77]⟩ : ByteArray)) w := fun _ => by kernel_rfl
  go_enter Tryd.func20, Tryd.ntmps20
  go_wp2_with fail
  exact bodyPost_ret (v := .string (⟨#[88, 89, 90, 77]⟩ : ByteArray)) (by simp [results, go_sem]) rfl ⟨rfl, rfl⟩
theorem is3D3_calls (w : World) : Calls Tryd.prog 22 #[.int .u8 3] w (Same w (.bool true)) := by
  have e1 : bits .and .u8 3 1 = 1 := by decide
  go_enter Tryd.func22, Tryd.ntmps22
  go_wp2_with fail
  exact bodyPost_ret (v := .bool true) (by simp [results, go_sem]) rfl ⟨rfl, rfl⟩
theorem isM3_calls (w : World) : Calls Tryd.prog 23 #[.int .u8 3] w (Same w (.bool true)) := by
  have e1 : bits .and .u8 3 2 = 2 := by decide
  go_enter Tryd.func23, Tryd.ntmps23
  go_wp2_with fail
  exact bodyPost_ret (v := .bool true) (by simp [results, go_sem]) rfl ⟨rfl, rfl⟩
end Go.Proofs.YtpfgdfgifdbijaaDoor.ff
