/-
  Contracts: a string, or a blank, is written behind a text.
-/
import Derived.Test.YtpfgdfgifdbijaaDoorFfQ
namespace Go.Proofs.YtpfgdfgifdbijaaDoor.ff
open Go.ChangeShapes Go.WideShapes Go.ChangeAt Go.RowKit
open Go.Proofs.YtpfgdfgifdbijaaDoor.mem
set_option linter.unusedVariables false
set_option linter.unusedSimpArgs false

/-- What was written behind a builder's bytes. -/
def WSPost (w : World) (B b : Nat) (bs : List Value) (v : Value) (e : Ending) (w' : World) : Prop := e = .returned v ∧ IsB B b bs w' ∧ Below B w w' ∧ B ≤ w'.heap.size
theorem below_two {n : Nat} {w w1 w2 : World} (hb : Below n w w1) {row : Option Nat} (hg : w1.grownBy w2 row) (hr : ∀ q, row = some q → n ≤ q) (hn : n ≤ w1.heap.size) : Below n w w2 :=
  ⟨hg.os.trans hb.os, hg.tape.trans hb.tape, hg.output.trans hb.output, Nat.le_trans hb.size hg.size, fun j hj => (hg.block j (Nat.lt_of_lt_of_le hj hn) (fun e => by have := hr j e.symm; omega)).trans (hb.block j hj)⟩
theorem builder_put {B b n : Nat} {p v v' : Value} {bs bs' : List Value} {w w1 w8 : World} (hBb : Below B w w1) (hBw : B ≤ w1.heap.size) (h : B ≤ b) (hb : w1.heap[b]? = some (.cells #[p, v] 54 (0, 0))) (hown : w1.ownsRow B 5 1 v bs.length bs) (hne : v.ownBlock ≠ some b)
    (hp : p = .pointer (some ⟨b, 0, none⟩)) (ho8 : w8.ownsRow B 5 1 v' n bs') (hn : n = bs'.length) (hg8 : w1.grownBy w8 v.ownBlock) :
    w8.cell? ⟨b, 1, none⟩ = some v ∧ w8.frozen? ⟨b, 1, none⟩ = false ∧ b < w8.heap.size ∧ IsB B b bs' (w8.setCell ⟨b, 1, none⟩ v') ∧ Below B w (w8.setCell ⟨b, 1, none⟩ v') ∧ B ≤ (w8.setCell ⟨b, 1, none⟩ v').heap.size := by
  have hlt : b < w1.heap.size := by
    rcases Nat.lt_or_ge b w1.heap.size with h' | h'
    · exact h'
    · simp [Array.getElem?_eq_none h'] at hb
  have hb8 : w8.heap[b]? = some (.cells #[p, v] 54 (0, 0)) := (hg8.block b hlt (fun e => hne e.symm)).trans hb
  have hs := hg8.size
  subst hn
  have hbe : Below B w w8 := below_two hBb hg8 (fun q hq => (hown.lt q hq).1) hBw
  refine ⟨by rw [Lib.cell_of_heap hb8]; rfl, Lib.frozen_of_heap hb8 1, by omega, ?_, ?_, by simp; omega⟩
  · right
    have := Lib.BuilderAt.put h hb8 ho8 (by decide)
    rw [hp] at this
    exact this
  · exact hbe.trans ⟨rfl, rfl, rfl, by simp, fun k hk => Below.heap_setCell _ ⟨b, 1, none⟩ _ k (show k ≠ b by omega)⟩
set_option maxHeartbeats 2000000 in
set_option maxRecDepth 100000 in
theorem ws_calls {B b : Nat} {bs : List Value} {s : ByteArray} {w : World} (h : IsB B b bs w) (hlen : bs.length + s.size ≤ 100000) (hBw : B ≤ w.heap.size) :
    Calls Tryd.prog 19 #[.pointer (some ⟨b, 0, none⟩), .string s] w (WSPost w B b (bs ++ Lib.strCells s) (.tuple #[.int .i64 s.size, .nilIface])) := by
  obtain ⟨i1, hi1, hz11, hz12, hz13⟩ := infoU
  have HC := Lib.hid (copy_calls h)
  clear h
  go_enter Tryd.func19, Tryd.ntmps19
  go_wp2_with fail
  refine HC.out.mono ?_
  rintro e w1 ⟨rfl, hBA, hb1⟩
  obtain ⟨hB, v, hb, hown, hne⟩ := hBA
  obtain ⟨A, c, rfl⟩ := own_slice hown
  have hb1B : Below B w w1 := hb1.mono hB
  have c1 : w1.cell? ⟨b, 1, none⟩ = some (.slice A bs.length c) := by rw [Lib.cell_of_heap hb]; rfl
  have f1 := Lib.frozen_of_heap hb 1
  have hBw1 : B ≤ w1.heap.size := Nat.le_trans hBw hb1.size
  have HOWN := Lib.hid hown
  have HPUT := Lib.hid (fun v' w8 ho8 hg8 => builder_put (n := bs.length + s.size) (bs' := bs ++ Lib.strCells s) (v' := v') (w8 := w8) hb1B hBw1 hB hb hown hne rfl ho8 (by rw [List.length_append, Lib.strCells_length]) hg8)
  clear hb hown hne hb1 hb1B
  go_wp2_with (at_builtin; refine Lib.wpList_append_own_string _ rfl (.tmp 12) (.tmp 13) 52 9 rfl B 5 i1 Tryd.underlying52 Tryd.underlying9 hi1 hz11 hz12 hz13 (.slice A bs.length c) bs.length bs rfl HOWN.out s rfl (by unfold maxLen; omega) (by omega) hBw1 ?_; intro v' w8 ho8 hg8 hv8
               obtain ⟨A8, k8, rfl⟩ := own_slice ho8
               obtain ⟨c8, f8, l8, hI, hBe, hBs⟩ := HPUT.out _ w8 ho8 hg8
               have HI := Lib.hid hI
               have HBE := Lib.hid hBe
               have HBS := Lib.hid hBs
               clear ho8 hg8 hv8 hI hBe hBs c1 f1)
  exact bodyPost_ret (v := .tuple #[.int .i64 s.size, .nilIface]) (by simp [results, go_sem]) rfl ⟨rfl, HI.out, HBE.out, HBS.out⟩
set_option maxHeartbeats 2000000 in
set_option maxRecDepth 100000 in
theorem ar_calls {B c : Nat} {A : Option Addr} {bs : List Value} {w : World} (h : w.ownsRow B 5 1 (.slice A bs.length c) bs.length bs) (hlen : bs.length ≤ 100000) (hBw : B ≤ w.heap.size) :
    Calls Tryd.prog 32 #[.slice A bs.length c, .int .i32 32] w (fun e w' => ∃ A8 c8, e = .returned (.slice A8 (bs.length + 1) c8) ∧ w'.ownsRow B 5 1 (.slice A8 (bs.length + 1) c8) (bs.length + 1) (bs ++ [.int .u8 32]) ∧ w.grownBy w' (Value.slice A bs.length c).ownBlock) := by
  obtain ⟨i1, hi1, hz11, hz12, hz13⟩ := infoU
  have H := Lib.hid h
  clear h
  go_enter Tryd.func32, Tryd.ntmps32
  go_wp2_with (at_builtin; refine wpList_append_sl _ rfl (.tmp 8) (.tmp 11) 52 rfl B 5 i1 _ 1 1 Tryd.underlying52 hi1 hz11 hz12 hz13 rfl (by decide) (.slice A bs.length c) bs.length bs rfl (H.out.alloc (.cells #[.int .u8 32] 5)) (w.alloc (.cells #[.int .u8 32] 5)).heap.size (some ⟨w.heap.size, 0, none⟩) 1 1 [.int .u8 32] rfl (slBlk (n := 1) (c := 1) (heap_alloc_new w _) rfl (by unfold maxLen; omega)) (one_cell _) (by unfold maxLen; omega) (by omega) (by simp; omega) ?_; intro A8 c8 w8 ho8 hg8 ha8
               have HO8 := Lib.hid ho8
               have HG8 := Lib.hid hg8
               clear ho8 hg8 ha8)
  refine bodyPost_ret (v := .slice A8 (bs.length + 1) c8) (by simp [results, go_sem]) rfl ⟨A8, c8, rfl, HO8.out, ?_⟩
  have h1 : Below w.heap.size w (w.alloc (.cells #[.int .u8 32] 5)) := (Below.refl _ _).alloc (Nat.le_refl _) _
  exact grown_trans (grown_below h1) HG8.out
set_option maxHeartbeats 2000000 in
set_option maxRecDepth 100000 in
theorem wr_calls {B b : Nat} {bs : List Value} {w : World} (h : IsB B b bs w) (hlen : bs.length ≤ 100000) (hBw : B ≤ w.heap.size) :
    Calls Tryd.prog 21 #[.pointer (some ⟨b, 0, none⟩), .int .i32 32] w (fun e w' => ∃ v, WSPost w B b (bs ++ [.int .u8 32]) v e w') := by
  have HC := Lib.hid (copy_calls h)
  clear h
  go_enter Tryd.func21, Tryd.ntmps21
  go_wp2_with fail
  refine HC.out.mono ?_
  rintro e w1 ⟨rfl, hBA, hb1⟩
  obtain ⟨hB, v, hb, hown, hne⟩ := hBA
  obtain ⟨A, c, rfl⟩ := own_slice hown
  have hb1B : Below B w w1 := hb1.mono hB
  have c1 : w1.cell? ⟨b, 1, none⟩ = some (.slice A bs.length c) := by rw [Lib.cell_of_heap hb]; rfl
  have f1 := Lib.frozen_of_heap hb 1
  have hBw1 : B ≤ w1.heap.size := Nat.le_trans hBw hb1.size
  have HAR := Lib.hid (ar_calls hown hlen hBw1)
  have HPUT := Lib.hid (fun v' w8 ho8 hg8 => builder_put (n := bs.length + 1) (bs' := bs ++ [.int .u8 32]) (v' := v') (w8 := w8) hb1B hBw1 hB hb hown hne rfl ho8 (by rw [List.length_append]; rfl) hg8)
  clear hb hown hne hb1 hb1B
  go_wp2_with fail
  refine HAR.out.mono ?_
  rintro e w8 ⟨A8, c8, rfl, ho8, hg8⟩
  obtain ⟨d8, f8, l8, hI, hBe, hBs⟩ := HPUT.out _ w8 ho8 hg8
  have hlt9 : (w8.setCell ⟨b, 1, none⟩ (.slice A8 (bs.length + 1) c8)).cell? ⟨b, 1, none⟩ = some (.slice A8 (bs.length + 1) c8) := by
    obtain ⟨_, v9, hb9, ho9, _⟩ | ⟨_, v9, hb9, ho9, _⟩ := hI
    all_goals
      obtain ⟨A9, k9, rfl⟩ := own_slice ho9
      exact World.cell?_setCell_same _ _ _ (by rw [d8])
  have HI := Lib.hid hI
  have HBE := Lib.hid hBe
  have HBS := Lib.hid hBs
  clear ho8 hg8 hI hBe hBs c1 f1
  go_wp2_with fail
  exact bodyPost_ret (v := .tuple #[.int .i64 _, .nilIface]) (by simp [results, go_sem]; rfl) rfl ⟨_, rfl, HI.out, HBE.out, HBS.out⟩
end Go.Proofs.YtpfgdfgifdbijaaDoor.ff
