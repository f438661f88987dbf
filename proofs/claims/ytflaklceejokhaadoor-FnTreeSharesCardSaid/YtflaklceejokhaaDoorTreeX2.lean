/-
  errors.Is of the errors that a callback may answer.
-/
import Derived.Test.YtflaklceejokhaaDoorTreeS6
import Derived.LaidEql
import Derived.Stop.Asserts
import Derived.RowKitTokens
namespace Go.Proofs.YtflaklceejokhaaDoor.tree
open Go.ChangeShapes Go.WideShapes Go.ChangeAt Go.RowKit Go.Extern.Stop Go.Stop Go.Extern
open Go.Proofs.YtflaklceejokhaaDoor.mem Go.Proofs.YtflaklceejokhaaDoor.flt
set_option linter.unusedVariables false
set_option linter.unusedSimpArgs false

theorem isTypeOf (v : Value) (w : World) : (Extern.ReflectliteType.typeOf #[.iface 129 v]).run Tryd.prog w = .ok (.iface 113 (.agg #[.pointer (some ⟨1, 129, none⟩)])) w := by kernel_rfl
theorem callTypeOf (v : Value) (w : World) : (callFunc 35 #[.iface 129 v]).run Tryd.prog w = .ok (.value (.iface 113 (.agg #[.pointer (some ⟨1, 129, none⟩)]))) w := by
  refine (@run_callFunc_extern Tryd.prog 35 _ Extern.ReflectliteType.typeOf Tryd.func35 (by kernel_rfl) (by kernel_rfl) (by kernel_rfl) (by kernel_rfl) _ w).trans ?_
  rw [isTypeOf]
  rfl
theorem isComparable (w : World) : ((Extern.ReflectliteType.method fun t => do Rtype.noPackHeld "Comparable" t; pure (.bool (← typeInfo t).comparable)) #[.agg #[.pointer (some ⟨1, 129, none⟩)]]).run Tryd.prog w = .ok (.bool true) w := by kernel_rfl
theorem callComparable (w : World) : (callFunc 75 #[.agg #[.pointer (some ⟨1, 129, none⟩)]]).run Tryd.prog w = .ok (.value (.bool true)) w := by
  refine (@run_callFunc_extern Tryd.prog 75 _ (Extern.ReflectliteType.method fun t => do Rtype.noPackHeld "Comparable" t; pure (.bool (← typeInfo t).comparable)) Tryd.func75 (by kernel_rfl) (by kernel_rfl) (by kernel_rfl) (by kernel_rfl) _ w).trans ?_
  rw [isComparable]
  rfl
theorem isMethodComparable (v : Value) (w : World) : (Go.method 266 113 v "Comparable").run Tryd.prog w = .ok (75, v) w := by kernel_rfl
theorem isComp : (Tryd.prog.info? 129).map (·.comparable) = some true := by kernel_rfl
theorem noIsE (v : Value) (xT : TypeId) (w : World) : (Instr.typeAssert (.iface 129 v) xT 115 true).run Tryd.prog w = .ok (.tuple #[.nilIface, .bool false]) w := run_typeAssert_lacksB Tryd.underlying115 (by kernel_rfl) (by kernel_rfl) v xT w
theorem noUnwrapE (v : Value) (xT : TypeId) (w : World) : (Instr.typeAssert (.iface 129 v) xT 118 true).run Tryd.prog w = .ok (.tuple #[.nilIface, .bool false]) w := run_typeAssert_lacksB Tryd.underlying118 (by kernel_rfl) (by kernel_rfl) v xT w
theorem noUnwrapsE (v : Value) (xT : TypeId) (w : World) : (Instr.typeAssert (.iface 129 v) xT 120 true).run Tryd.prog w = .ok (.tuple #[.nilIface, .bool false]) w := run_typeAssert_lacksB Tryd.underlying120 (by kernel_rfl) (by kernel_rfl) v xT w
theorem noIsO (v : Value) (xT : TypeId) (w : World) : (Instr.typeAssert (.iface 62 v) xT 115 true).run Tryd.prog w = .ok (.tuple #[.nilIface, .bool false]) w := run_typeAssert_lacksB Tryd.underlying115 (by kernel_rfl) (by kernel_rfl) v xT w
theorem noUnwrapO (v : Value) (xT : TypeId) (w : World) : (Instr.typeAssert (.iface 62 v) xT 118 true).run Tryd.prog w = .ok (.tuple #[.nilIface, .bool false]) w := run_typeAssert_lacksB Tryd.underlying118 (by kernel_rfl) (by kernel_rfl) v xT w
theorem noUnwrapsO (v : Value) (xT : TypeId) (w : World) : (Instr.typeAssert (.iface 62 v) xT 120 true).run Tryd.prog w = .ok (.tuple #[.nilIface, .bool false]) w := run_typeAssert_lacksB Tryd.underlying120 (by kernel_rfl) (by kernel_rfl) v xT w
theorem noIsW (v : Value) (xT : TypeId) (w : World) : (Instr.typeAssert (.iface 60 v) xT 115 true).run Tryd.prog w = .ok (.tuple #[.nilIface, .bool false]) w := run_typeAssert_lacksB Tryd.underlying115 (by kernel_rfl) (by kernel_rfl) v xT w
theorem hasUnwrapW (v : Value) (xT : TypeId) (w : World) : (Instr.typeAssert (.iface 60 v) xT 118 true).run Tryd.prog w = .ok (.tuple #[.iface 60 v, .bool true]) w := run_typeAssert_hasB Tryd.underlying118 (by kernel_rfl) v xT w
theorem methodUnwrap (v : Value) (w : World) : (Go.method 266 60 (.agg #[v]) "Unwrap").run Tryd.prog w = .ok (64, .agg #[v]) w := by kernel_rfl

set_option maxRecDepth 100000 in
set_option maxHeartbeats 8000000 in
theorem is_stop (a : Addr) (w : World) : Calls Tryd.prog 27 #[Er.stop.v a, Er.stop.v a] w fun e w' => e = .returned (.bool true) ∧ Below w.heap.size w w' := by
  unfold Er.v
  obtain ⟨i, hi, hcmp⟩ := Option.map_eq_some_iff.1 isComp
  have hjs : (Tryd.prog.info? 154).map (·.size) = some 1 := by kernel_rfl
  obtain ⟨j, hj, hjs⟩ := Option.map_eq_some_iff.1 hjs
  have tT := callTypeOf
  have cT := callComparable
  have mR := isMethodComparable
  have nE := noIsE
  have uE := noUnwrapE
  have vE := noUnwrapsE
  have nW := noIsW
  have uW := hasUnwrapW
  have mU := methodUnwrap
  have nO := noIsO
  have uO := noUnwrapO
  have vO := noUnwrapsO
  have heq := run_eql_iface_ptr_same (P := Tryd.prog) w a Tryd.underlying58 Tryd.underlying129 hi hcmp hj
  go_enter Tryd.func27, Tryd.ntmps27
  go_wp2
  refine wp_loop_rounds 1 ?_
  rw [rounds_succ]
  go_wp2
  go_ret
  exact ⟨rfl, by first | exact Below.refl _ _ | exact (Below.refl _ _).alloc (Nat.le_refl _) _⟩

set_option maxRecDepth 100000 in
set_option maxHeartbeats 8000000 in
theorem is_own (a : Addr) (w : World) : Calls Tryd.prog 27 #[Er.own.v a, Er.stop.v a] w fun e w' => e = .returned (.bool false) ∧ Below w.heap.size w w' := by
  unfold Er.v
  obtain ⟨i, hi, hcmp⟩ := Option.map_eq_some_iff.1 isComp
  have hjs : (Tryd.prog.info? 154).map (·.size) = some 1 := by kernel_rfl
  obtain ⟨j, hj, hjs⟩ := Option.map_eq_some_iff.1 hjs
  have tT := callTypeOf
  have cT := callComparable
  have mR := isMethodComparable
  have nE := noIsE
  have uE := noUnwrapE
  have vE := noUnwrapsE
  have nW := noIsW
  have uW := hasUnwrapW
  have mU := methodUnwrap
  have nO := noIsO
  have uO := noUnwrapO
  have vO := noUnwrapsO
  have heq := run_eql_iface_ptr_same (P := Tryd.prog) w a Tryd.underlying58 Tryd.underlying129 hi hcmp hj
  have hty := run_eql_iface_types (P := Tryd.prog) 62 129 (.agg #[]) (.pointer (some a)) Tryd.underlying58 (by decide) w
  go_enter Tryd.func27, Tryd.ntmps27
  go_wp2
  refine wp_loop_rounds 1 ?_
  rw [rounds_succ]
  go_wp2
  go_ret
  exact ⟨rfl, by first | exact Below.refl _ _ | exact (Below.refl _ _).alloc (Nat.le_refl _) _⟩

set_option maxRecDepth 100000 in
set_option maxHeartbeats 8000000 in
theorem is_wstop (a : Addr) (w : World) : Calls Tryd.prog 27 #[Er.wstop.v a, Er.stop.v a] w fun e w' => e = .returned (.bool true) ∧ Below w.heap.size w w' := by
  unfold Er.v
  obtain ⟨i, hi, hcmp⟩ := Option.map_eq_some_iff.1 isComp
  have hjs : (Tryd.prog.info? 154).map (·.size) = some 1 := by kernel_rfl
  obtain ⟨j, hj, hjs⟩ := Option.map_eq_some_iff.1 hjs
  have tT := callTypeOf
  have cT := callComparable
  have mR := isMethodComparable
  have nE := noIsE
  have uE := noUnwrapE
  have vE := noUnwrapsE
  have nW := noIsW
  have uW := hasUnwrapW
  have mU := methodUnwrap
  have nO := noIsO
  have uO := noUnwrapO
  have vO := noUnwrapsO
  have heq := run_eql_iface_ptr_same (P := Tryd.prog) w a Tryd.underlying58 Tryd.underlying129 hi hcmp hj
  have heq2 := run_eql_iface_ptr_same (P := Tryd.prog) (w.alloc (.cells #[.iface 129 (.pointer (some a))] 60)) a Tryd.underlying58 Tryd.underlying129 hi hcmp hj
  have hty := run_eql_iface_types (P := Tryd.prog) 60 129 (.agg #[.iface 129 (.pointer (some a))]) (.pointer (some a)) Tryd.underlying58 (by decide) w
  go_enter Tryd.func27, Tryd.ntmps27
  go_wp2
  refine wp_loop_rounds 2 ?_
  rw [rounds_succ]
  go_wp2
  rw [rounds_succ]
  go_wp2
  go_ret
  exact ⟨rfl, by first | exact Below.refl _ _ | exact (Below.refl _ _).alloc (Nat.le_refl _) _⟩

set_option maxRecDepth 100000 in
set_option maxHeartbeats 8000000 in
theorem is_wown (a : Addr) (w : World) : Calls Tryd.prog 27 #[Er.wown.v a, Er.stop.v a] w fun e w' => e = .returned (.bool false) ∧ Below w.heap.size w w' := by
  unfold Er.v
  obtain ⟨i, hi, hcmp⟩ := Option.map_eq_some_iff.1 isComp
  have hjs : (Tryd.prog.info? 154).map (·.size) = some 1 := by kernel_rfl
  obtain ⟨j, hj, hjs⟩ := Option.map_eq_some_iff.1 hjs
  have tT := callTypeOf
  have cT := callComparable
  have mR := isMethodComparable
  have nE := noIsE
  have uE := noUnwrapE
  have vE := noUnwrapsE
  have nW := noIsW
  have uW := hasUnwrapW
  have mU := methodUnwrap
  have nO := noIsO
  have uO := noUnwrapO
  have vO := noUnwrapsO
  have heq := run_eql_iface_ptr_same (P := Tryd.prog) w a Tryd.underlying58 Tryd.underlying129 hi hcmp hj
  have hty := run_eql_iface_types (P := Tryd.prog) 60 129 (.agg #[.iface 62 (.agg #[])]) (.pointer (some a)) Tryd.underlying58 (by decide) w
  have hty2 := run_eql_iface_types (P := Tryd.prog) 62 129 (.agg #[]) (.pointer (some a)) Tryd.underlying58 (by decide) (w.alloc (.cells #[.iface 62 (.agg #[])] 60))
  go_enter Tryd.func27, Tryd.ntmps27
  go_wp2
  refine wp_loop_rounds 2 ?_
  rw [rounds_succ]
  go_wp2
  rw [rounds_succ]
  go_wp2
  go_ret
  exact ⟨rfl, by first | exact Below.refl _ _ | exact (Below.refl _ _).alloc (Nat.le_refl _) _⟩

/-- errors.Is of each of them. -/
theorem is_all (er : Er) (a : Addr) (w : World) : Calls Tryd.prog 27 #[er.v a, Er.stop.v a] w fun e w' => e = .returned (.bool er.isStop) ∧ Below w.heap.size w w' := by
  cases er
  · exact is_none a w
  · exact is_stop a w
  · exact is_wstop a w
  · exact is_own a w
  · exact is_wown a w
theorem isC_all (S : Addr) (ans : List Int → Er) : IsC S ans := fun l id w => is_all (ans (l ++ [id])) S w
end Go.Proofs.YtflaklceejokhaaDoor.tree
