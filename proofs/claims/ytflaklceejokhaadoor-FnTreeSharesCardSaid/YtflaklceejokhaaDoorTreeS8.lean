/-
  A question to a tree: the walk of impl.told, for the count.
-/
import Derived.Test.YtflaklceejokhaaDoorTreeS6
namespace Go.Proofs.YtflaklceejokhaaDoor.tree
open Go.ChangeShapes Go.WideShapes Go.ChangeAt Go.RowKit
open Go.Proofs.YtflaklceejokhaaDoor.mem Go.Proofs.YtflaklceejokhaaDoor.flt Ieee
set_option linter.unusedVariables false
set_option linter.unusedSimpArgs false

set_option maxHeartbeats 4000000 in
theorem count_calls {L t n : Nat} {K : Nat × (Nat → Q)} {w0 w : World} (hT : RT L w0 t n K) (hk : Keep L w0 w) :
    Calls Tryd.prog 23 #[.pointer (some ⟨t, 0, none⟩)] w fun e w' => e = .returned (.int .i64 n) ∧ w' = w := by
  have c1 := (hk.cell (o := 1) hT.ge hT.lt).trans hT.cnt
  clear hT hk
  go_enter Tryd.func23, Tryd.ntmps23
  go_wp2_with fail
  exact bodyPost_ret (v := .int .i64 n) (by simp [results, Tryd.results23, go_sem]) rfl ⟨rfl, rfl⟩

/-- What told answers where it is no search. -/
def anO (found : Bool) (id : Int) (b : Bx) (cnt : Int) : An := ⟨[], false, false, found, id, b, cnt⟩

set_option maxRecDepth 100000 in
set_option maxHeartbeats 16000000 in
theorem told4_calls {L t n : Nat} {K : Nat × (Nat → Q)} {w0 w : World} (b : Bx) (stop how : Int) (hT : RT L w0 t n K) (hk : Keep L w0 w) :
    Calls Tryd.prog 14 #[.pointer (some ⟨t, 0, none⟩), .agg (askA ⟨4, b, stop, how⟩)] w (ToldPost w (anO false 0 ⟨0, 0, 0, 0⟩ n)) := by
  have HT := Lib.hid hT
  have HK := Lib.hid hk
  have htw : ∀ w, (Instr.typeAssert .nilIface 58 60 true).run Tryd.prog w = .ok (.tuple #[.agg #[.nilIface], .bool false]) w := taW ⟨0, 0, none⟩ .none
  have hto : ∀ w, (Instr.typeAssert .nilIface 58 62 true).run Tryd.prog w = .ok (.tuple #[.agg #[], .bool false]) w := taO ⟨0, 0, none⟩ .none
  unfold askA
  simp only
  clear hT hk
  go_enter Tryd.func14, Tryd.ntmps14
  go_wp2_with fail
  have hcc := count_calls HT.out (HK.out.trans (Keep.of_below ((((Below.refl w.heap.size w).alloc (Nat.le_refl _) (.cells #[.int .i64 4, .float .f64 b.x0, .float .f64 b.y0, .float .f64 b.x1, .float .f64 b.y1, .int .i64 stop, .int .i64 how] 34)).alloc (by simp) (.cells (toldA (.slice none 0 0)) 38)).alloc (by simp; omega) (.cells (toldA (.slice none 0 0)) 38))))
  unfold toldA at hcc
  refine hcc.mono ?_
  rintro e w1 ⟨rfl, rfl⟩
  clear hcc
  go_wp2_with fail
  refine bodyPost_ret (v := .agg (anA (.slice none 0 0) (anO false 0 ⟨0, 0, 0, 0⟩ n))) (by simp [results, Tryd.results14, go_sem, anA, anO]) rfl ⟨_, rfl, World.ownsRow_nil _ _ _ _, ?_⟩
  exact ((((Below.refl _ _).alloc (Nat.le_refl _) _).alloc (by simp) _).alloc (by simp; omega) _).alloc (by simp; omega) _
end Go.Proofs.YtflaklceejokhaaDoor.tree
