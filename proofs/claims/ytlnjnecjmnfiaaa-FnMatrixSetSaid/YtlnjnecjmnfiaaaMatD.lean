/-
  Contract: impl.MatrixSet.
-/
import Derived.Test.YtlnjnecjmnfiaaaMatC
namespace Go.Proofs.Ytlnjnecjmnfiaaa.mat
open Go.ChangeShapes Go.WideShapes Go.ChangeAt Go.RowKit
open Go.Proofs.Ytlnjnecjmnfiaaa.mem
set_option linter.unusedVariables false
set_option linter.unusedSimpArgs false

theorem catch_idle (p q : Addr) (w : World) :
    CallsD Try.prog 26 #[.pointer (some p), .pointer (some q)] .returning w fun e u' w' => e = .returned (.tuple #[]) ∧ u' = .returning ∧ w = w' := by
  refine callsD_of_wpS Try.func26 rfl fun c₀ cs hu => ?_
  apply wpS_seq
  apply wpS_region
  simp [wpOpsS, go_sem, recoverD, hu, Try.ntmps26, Exit.thenS]
  refine wpS_cond (t := false) (by simp [Act.eval, Array.replicate]) ?_
  simp only [Bool.false_eq_true, if_false]
  refine wpS_of_wp (wp_skip ?_)
  cases c₀
  simp_all [bodyPostS, results, Try.results26]

/-- A string's bytes as numbers. -/
def nums (s : ByteArray) : List Int := s.data.toList.map fun b => (b.toNat : Int)
theorem nums_ix (s : ByteArray) (k : Nat) (h : k < s.size) : ix (nums s) k = bx s k := by
  have h' : k < s.data.toList.length := by simpa using h
  unfold ix nums bx
  simp [List.getD_eq_getElem?_getD, List.getElem?_eq_getElem h']

theorem bytes_ints (w : World) (s : ByteArray) (cap a b : Nat) (hs : s.size ≤ maxLen) (B : Nat) (hB : w.heap.size < B) :
    Ints .u8 (w.alloc (.cells (bytesRow s cap) 5 (a, b))) B (some ⟨w.heap.size, 0, none⟩) s.size (nums s) := by
  refine ⟨by unfold nums; rw [List.length_map, Array.length_toList]; rfl, hs, ?_, fun hn => ⟨w.heap.size, 0, rfl, hB, fun j hj => ?_⟩⟩
  · intro z hz
    obtain ⟨c, _, rfl⟩ := List.mem_map.1 hz
    have : c.toNat < 256 := c.toNat_lt
    exact WalkArith.wf_u8 ⟨by omega, by omega⟩
  · rw [Nat.zero_add, cell_of_row _ w.heap.size j _ _ _ (heap_alloc_new w _)]
    have hj' : j < s.data.size := hj
    rw [bytesRow_at s cap j hj']
    congr 2
    rw [nums_ix s j hj]
    unfold bx
    rw [List.getD_eq_getElem?_getD, List.getElem?_eq_getElem (by simpa using hj')]
    simp

set_option maxHeartbeats 4000000 in
theorem matrixSet_any (A C : Option Addr) (n cn m cm : Nat) (rs cs : List Int) (s : ByteArray) (turned : Bool) (w : World) (hA : Ints .i64 w w.heap.size A n rs) (hC : Ints .i64 w w.heap.size C m cs) (hs : s.size ≤ maxLen)
    (hm : n ≤ m) (hd : n ≤ s.size) (h50 : n ≤ 50) (hin : ∀ k, k < n → 0 ≤ ix rs k ∧ ix rs k ≤ 2 ∧ 0 ≤ ix cs k ∧ ix cs k ≤ 2) :
    Calls Try.prog 17 #[.slice A n cn, .slice C m cm, .string s, .bool turned] w fun e w' =>
      e = .returned (.tuple #[.string (strOfNums (res rs cs (nums s) n turned)), .bool true]) ∧ Below w.heap.size w w' := by
  have hmf : ∀ (fn : Fn) (first cap : Array Value) (w : World), (Instr.makeFunc fn first cap).run Try.prog w = .ok (.func fn first cap) w := fun _ _ _ _ => rfl
  have kb := fun (W : World) => run_bytes_of_string (P := Try.prog) W 9 39 5 s Try.underlying9 Try.underlying39 Try.underlying5
  have HA := Lib.hid hA
  have HC := Lib.hid hC
  have HI := Lib.hid hin
  have HSZ := Lib.hid hs
  clear hA hC hin hs
  go_enter_defers Try.func17, Try.ntmps17
  go_wp2_with fail
  obtain ⟨W, hW⟩ : ∃ W : World, W = (w.alloc (Obj.cells #[Value.string { data := #[] }] 9)).alloc (Obj.cells #[Value.bool false] 4) := ⟨_, rfl⟩
  have hBW : Below w.heap.size w W := by rw [hW]; exact ((Below.refl _ _).alloc (Nat.le_refl _) _).alloc (by simp) _
  have hszW : W.heap.size = w.heap.size + 1 + 1 := by rw [hW]; simp
  have k0 : W.cell? ⟨w.heap.size, 0, none⟩ = some (.string ⟨#[]⟩) := by rw [hW]; simp [go_sem]
  have k1 : W.cell? ⟨w.heap.size + 1, 0, none⟩ = some (.bool false) := by rw [hW]; simp [go_sem]
  have f0 : W.frozen? ⟨w.heap.size, 0, none⟩ = false := by rw [hW]; simp [go_sem]
  have f1 : W.frozen? ⟨w.heap.size + 1, 0, none⟩ = false := by rw [hW]; simp [go_sem]
  rw [← hW, ← hszW]
  clear kb hW
  generalize grownCap W s.size 0 5 = cap
  obtain ⟨W1, hW1⟩ : ∃ W1 : World, W1 = (W.alloc (Obj.cells (bytesRow s cap) 5 ((bytesRow s cap).size, (bytesRow s cap).size + 1))).drew := ⟨_, rfl⟩
  have hi : Ints .u8 W1 W1.heap.size (some ⟨W.heap.size, 0, none⟩) s.size (nums s) := by
    rw [hW1]; exact bytes_ints W s cap _ _ HSZ.out _ (by simp)
  have hB1 : Below W.heap.size W W1 := by rw [hW1]; exact ((Below.refl _ _).alloc (Nat.le_refl _) _).drew
  rw [← hW1]
  clear hW1
  have hB2 := hBW.trans (hB1.mono hBW.size)
  refine (doorMatrix_any A C _ n cn m cm s.size cap rs cs (nums s) turned W1 (HA.out.up hB2) (HC.out.up hB2) hi hm hd h50 HI.out).mono ?_; rintro e w3 ⟨rfl, h3⟩
  have h4 := hB1.trans (h3.mono hB1.size)
  have c0 := (h4.cell (p := ⟨w.heap.size, 0, none⟩) (by simp [hszW]; omega)).trans k0
  have c1 := (h4.cell (p := ⟨w.heap.size + 1, 0, none⟩) (by simp [hszW])).trans k1
  have g0 := (h4.frozen (p := ⟨w.heap.size, 0, none⟩) (by simp [hszW]; omega)).trans f0
  have g1 := (h4.frozen (p := ⟨w.heap.size + 1, 0, none⟩) (by simp [hszW])).trans f1
  have H5 := Lib.hid (hBW.trans (h4.mono hBW.size))
  generalize hR : strOfNums (res rs cs (nums s) n turned) = R
  have HR := Lib.hid hR
  clear hR
  clear hi hB1 hB2 h3 h4 k0 k1 f0 f1 hBW hszW
  go_wp2_with fail
  refine leaves_cons (f := 26) (args := #[.pointer (some ⟨w.heap.size, 0, none⟩), .pointer (some ⟨w.heap.size + 1, 0, none⟩)]) (by simp) (by simp [go_sem]) ?_
  refine (catch_idle _ _ _).mono ?_
  rintro e u' w'' ⟨rfl, rfl, rfl⟩
  have hb := ((H5.out.setCell (p := ⟨w.heap.size, 0, none⟩) (by simp) (Value.string R)).setCell (p := ⟨w.heap.size + 1, 0, none⟩) (by simp) (Value.bool true))
  simp [Leaves, settle, results, Try.results17, go_sem, c0, c1]
  exact ⟨HR.out.symm, hb⟩
end Go.Proofs.Ytlnjnecjmnfiaaa.mat
