/-
  errors.Is at the five errors that a callback here answers with: nil, the sentinel (a pointer to an errors.errorString), impl.own, and impl.wrapped of either. No condition.
-/
import Derived.Test.YtdfamnlmhikolaaDoorBase
import Derived.LaidEql
import Derived.Stop.Asserts
import Derived.RowKitTokens
set_option linter.unusedVariables false
namespace Go.Proofs.YtdfamnlmhikolaaDoor
open Go.ChangeShapes Go.WideShapes Go.ChangeAt Go.RowKit Go.Extern.Stop Go.Stop Go.Extern
theorem isTypeOf (v : Value) (w : World) : (Extern.ReflectliteType.typeOf #[.iface 128 v]).run Tryd.prog w = .ok (.iface 112 (.agg #[.pointer (some ⟨1, 128, none⟩)])) w := by kernel_rfl
theorem isComparable (w : World) : ((Extern.ReflectliteType.method fun t => do Rtype.noPackHeld "Comparable" t; (fun a => Value.bool a.comparable) <$> typeInfo t) #[.agg #[.pointer (some ⟨1, 128, none⟩)]]).run Tryd.prog w = .ok (.bool true) w := by kernel_rfl
theorem isMethodComparable (v : Value) (w : World) : (Go.method 265 112 v "Comparable").run Tryd.prog w = .ok (76, v) w := by kernel_rfl
theorem methodUnwrap (v : Value) (w : World) : (Go.method 265 59 v "Unwrap").run Tryd.prog w = .ok (65, v) w := by kernel_rfl
theorem isComp : (Tryd.prog.info? 128).map (·.comparable) = some true := by kernel_rfl
theorem isSize : (Tryd.prog.info? 153).map (·.size) = some 1 := by kernel_rfl
theorem noIsE (v : Value) (xT : TypeId) (w : World) : (Instr.typeAssert (.iface 128 v) xT 114 true).run Tryd.prog w = .ok (.tuple #[.nilIface, .bool false]) w := run_typeAssert_lacksB Tryd.underlying114 (by kernel_rfl) (by kernel_rfl) v xT w
theorem noUnwrapE (v : Value) (xT : TypeId) (w : World) : (Instr.typeAssert (.iface 128 v) xT 117 true).run Tryd.prog w = .ok (.tuple #[.nilIface, .bool false]) w := run_typeAssert_lacksB Tryd.underlying117 (by kernel_rfl) (by kernel_rfl) v xT w
theorem noIsW (v : Value) (xT : TypeId) (w : World) : (Instr.typeAssert (.iface 59 v) xT 114 true).run Tryd.prog w = .ok (.tuple #[.nilIface, .bool false]) w := run_typeAssert_lacksB Tryd.underlying114 (by kernel_rfl) (by kernel_rfl) v xT w
theorem hasUnwrapW (v : Value) (xT : TypeId) (w : World) : (Instr.typeAssert (.iface 59 v) xT 117 true).run Tryd.prog w = .ok (.tuple #[.iface 59 v, .bool true]) w := run_typeAssert_hasB Tryd.underlying117 (by kernel_rfl) v xT w
theorem noIsO (v : Value) (xT : TypeId) (w : World) : (Instr.typeAssert (.iface 61 v) xT 114 true).run Tryd.prog w = .ok (.tuple #[.nilIface, .bool false]) w := run_typeAssert_lacksB Tryd.underlying114 (by kernel_rfl) (by kernel_rfl) v xT w
theorem noUnwrapO (v : Value) (xT : TypeId) (w : World) : (Instr.typeAssert (.iface 61 v) xT 117 true).run Tryd.prog w = .ok (.tuple #[.nilIface, .bool false]) w := run_typeAssert_lacksB Tryd.underlying117 (by kernel_rfl) (by kernel_rfl) v xT w
theorem noUnwrapsO (v : Value) (xT : TypeId) (w : World) : (Instr.typeAssert (.iface 61 v) xT 119 true).run Tryd.prog w = .ok (.tuple #[.nilIface, .bool false]) w := run_typeAssert_lacksB Tryd.underlying119 (by kernel_rfl) (by kernel_rfl) v xT w
theorem unwrap_any (v : Value) (hv : v.oneCell' = true) (w : World) : Calls Tryd.prog 65 #[.agg #[v]] w fun e w' => e = .returned v ∧ Bel w w' := by
  go_enter Tryd.func65, Tryd.ntmps65
  go_wp2
  go_ret
  exact ⟨rfl, by (repeat (first | with_reducible assumption | with_reducible exact Bel.refl _ | with_reducible apply Bel.alloc | with_reducible apply Bel.drew | with_reducible apply Bel.drewN | ((with_reducible apply Bel.setCellR); (simp <;> omega)) | with_reducible refine Bel.behind (by with_reducible assumption) ?_))⟩

set_option maxRecDepth 100000 in
set_option maxHeartbeats 1000000 in
/-- errors.Is(x, x), x a pointer to an errors.errorString. -/
theorem is_same (a : Addr) (w : World) :
    Calls Tryd.prog 28 #[.iface 128 (.pointer (some a)), .iface 128 (.pointer (some a))] w fun e w' => e = .returned (.bool true) ∧ Bel w w' := by
  obtain ⟨i, hi, hcmp⟩ := Option.map_eq_some_iff.1 isComp
  obtain ⟨j, hj, hjs⟩ := Option.map_eq_some_iff.1 isSize
  have h8 := @run_callFunc_extern Tryd.prog 36 _ Extern.ReflectliteType.typeOf Tryd.func36 (by kernel_rfl) (by kernel_rfl) (by kernel_rfl) (by kernel_rfl)
  have h32 := @run_callFunc_extern Tryd.prog 76 _ (Extern.ReflectliteType.method fun t => do Rtype.noPackHeld "Comparable" t; pure (.bool (← typeInfo t).comparable)) Tryd.func76 (by kernel_rfl) (by kernel_rfl) (by kernel_rfl) (by kernel_rfl)
  have tT := isTypeOf
  have cT := isComparable
  have mR := isMethodComparable
  have nE := noIsE
  have uE := noUnwrapE
  have nW := noIsW
  have uW := hasUnwrapW
  have mU := methodUnwrap
  have nO := noIsO
  have uO := noUnwrapO
  have vO := noUnwrapsO
  have heq := fun w => run_eql_iface_ptr_same (P := Tryd.prog) w a Tryd.underlying57 Tryd.underlying128 hi hcmp hj
  go_enter Tryd.func28, Tryd.ntmps28
  go_wp2
  refine wp_loop_rounds 1 ?_
  rw [rounds_succ]
  go_wp2_with (go_at_call 65; (with_reducible refine (unwrap_any _ rfl _).mono ?_); rintro e w1 ⟨rfl, hb1⟩)
  go_ret
  exact ⟨rfl, by (repeat (first | with_reducible assumption | with_reducible exact Bel.refl _ | with_reducible apply Bel.alloc | with_reducible apply Bel.drew | with_reducible apply Bel.drewN | ((with_reducible apply Bel.setCellR); (simp <;> omega)) | with_reducible refine Bel.behind (by with_reducible assumption) ?_))⟩
set_option maxRecDepth 100000 in
set_option maxHeartbeats 1000000 in
/-- errors.Is(own{}, x). -/
theorem is_own (a : Addr) (w : World) :
    Calls Tryd.prog 28 #[.iface 61 (.agg #[]), .iface 128 (.pointer (some a))] w fun e w' => e = .returned (.bool false) ∧ Bel w w' := by
  obtain ⟨i, hi, hcmp⟩ := Option.map_eq_some_iff.1 isComp
  obtain ⟨j, hj, hjs⟩ := Option.map_eq_some_iff.1 isSize
  have h8 := @run_callFunc_extern Tryd.prog 36 _ Extern.ReflectliteType.typeOf Tryd.func36 (by kernel_rfl) (by kernel_rfl) (by kernel_rfl) (by kernel_rfl)
  have h32 := @run_callFunc_extern Tryd.prog 76 _ (Extern.ReflectliteType.method fun t => do Rtype.noPackHeld "Comparable" t; pure (.bool (← typeInfo t).comparable)) Tryd.func76 (by kernel_rfl) (by kernel_rfl) (by kernel_rfl) (by kernel_rfl)
  have tT := isTypeOf
  have cT := isComparable
  have mR := isMethodComparable
  have nE := noIsE
  have uE := noUnwrapE
  have nW := noIsW
  have uW := hasUnwrapW
  have mU := methodUnwrap
  have nO := noIsO
  have uO := noUnwrapO
  have vO := noUnwrapsO
  have hty1 := fun w => run_eql_iface_types (P := Tryd.prog) 61 128 (.agg #[]) (.pointer (some a)) Tryd.underlying57 (by decide) w
  go_enter Tryd.func28, Tryd.ntmps28
  go_wp2
  refine wp_loop_rounds 1 ?_
  rw [rounds_succ]
  go_wp2_with (go_at_call 65; (with_reducible refine (unwrap_any _ rfl _).mono ?_); rintro e w1 ⟨rfl, hb1⟩)
  go_ret
  exact ⟨rfl, by (repeat (first | with_reducible assumption | with_reducible exact Bel.refl _ | with_reducible apply Bel.alloc | with_reducible apply Bel.drew | with_reducible apply Bel.drewN | ((with_reducible apply Bel.setCellR); (simp <;> omega)) | with_reducible refine Bel.behind (by with_reducible assumption) ?_))⟩
set_option maxRecDepth 100000 in
set_option maxHeartbeats 1000000 in
/-- errors.Is(wrapped{x}, x). -/
theorem is_wrapped (a : Addr) (w : World) :
    Calls Tryd.prog 28 #[.iface 59 (.agg #[.iface 128 (.pointer (some a))]), .iface 128 (.pointer (some a))] w fun e w' => e = .returned (.bool true) ∧ Bel w w' := by
  obtain ⟨i, hi, hcmp⟩ := Option.map_eq_some_iff.1 isComp
  obtain ⟨j, hj, hjs⟩ := Option.map_eq_some_iff.1 isSize
  have h8 := @run_callFunc_extern Tryd.prog 36 _ Extern.ReflectliteType.typeOf Tryd.func36 (by kernel_rfl) (by kernel_rfl) (by kernel_rfl) (by kernel_rfl)
  have h32 := @run_callFunc_extern Tryd.prog 76 _ (Extern.ReflectliteType.method fun t => do Rtype.noPackHeld "Comparable" t; pure (.bool (← typeInfo t).comparable)) Tryd.func76 (by kernel_rfl) (by kernel_rfl) (by kernel_rfl) (by kernel_rfl)
  have tT := isTypeOf
  have cT := isComparable
  have mR := isMethodComparable
  have nE := noIsE
  have uE := noUnwrapE
  have nW := noIsW
  have uW := hasUnwrapW
  have mU := methodUnwrap
  have nO := noIsO
  have uO := noUnwrapO
  have vO := noUnwrapsO
  have heq := fun w => run_eql_iface_ptr_same (P := Tryd.prog) w a Tryd.underlying57 Tryd.underlying128 hi hcmp hj
  have hty1 := fun w => run_eql_iface_types (P := Tryd.prog) 59 128 (.agg #[.iface 128 (.pointer (some a))]) (.pointer (some a)) Tryd.underlying57 (by decide) w
  go_enter Tryd.func28, Tryd.ntmps28
  go_wp2
  refine wp_loop_rounds 2 ?_
  rw [rounds_succ]
  go_wp2_with (go_at_call 65; (with_reducible refine (unwrap_any _ rfl _).mono ?_); rintro e w1 ⟨rfl, hb1⟩)
  rw [rounds_succ]
  go_wp2_with (go_at_call 65; (with_reducible refine (unwrap_any _ rfl _).mono ?_); rintro e w1 ⟨rfl, hb1⟩)
  go_ret
  exact ⟨rfl, by (repeat (first | with_reducible assumption | with_reducible exact Bel.refl _ | with_reducible apply Bel.alloc | with_reducible apply Bel.drew | with_reducible apply Bel.drewN | ((with_reducible apply Bel.setCellR); (simp <;> omega)) | with_reducible refine Bel.behind (by with_reducible assumption) ?_))⟩
set_option maxRecDepth 100000 in
set_option maxHeartbeats 1000000 in
/-- errors.Is(wrapped{own{}}, x). -/
theorem is_wrapped_own (a : Addr) (w : World) :
    Calls Tryd.prog 28 #[.iface 59 (.agg #[.iface 61 (.agg #[])]), .iface 128 (.pointer (some a))] w fun e w' => e = .returned (.bool false) ∧ Bel w w' := by
  obtain ⟨i, hi, hcmp⟩ := Option.map_eq_some_iff.1 isComp
  obtain ⟨j, hj, hjs⟩ := Option.map_eq_some_iff.1 isSize
  have h8 := @run_callFunc_extern Tryd.prog 36 _ Extern.ReflectliteType.typeOf Tryd.func36 (by kernel_rfl) (by kernel_rfl) (by kernel_rfl) (by kernel_rfl)
  have h32 := @run_callFunc_extern Tryd.prog 76 _ (Extern.ReflectliteType.method fun t => do Rtype.noPackHeld "Comparable" t; pure (.bool (← typeInfo t).comparable)) Tryd.func76 (by kernel_rfl) (by kernel_rfl) (by kernel_rfl) (by kernel_rfl)
  have tT := isTypeOf
  have cT := isComparable
  have mR := isMethodComparable
  have nE := noIsE
  have uE := noUnwrapE
  have nW := noIsW
  have uW := hasUnwrapW
  have mU := methodUnwrap
  have nO := noIsO
  have uO := noUnwrapO
  have vO := noUnwrapsO
  have hty1 := fun w => run_eql_iface_types (P := Tryd.prog) 61 128 (.agg #[]) (.pointer (some a)) Tryd.underlying57 (by decide) w
  have hty2 := fun w => run_eql_iface_types (P := Tryd.prog) 59 128 (.agg #[.iface 61 (.agg #[])]) (.pointer (some a)) Tryd.underlying57 (by decide) w
  go_enter Tryd.func28, Tryd.ntmps28
  go_wp2
  refine wp_loop_rounds 2 ?_
  rw [rounds_succ]
  go_wp2_with (go_at_call 65; (with_reducible refine (unwrap_any _ rfl _).mono ?_); rintro e w1 ⟨rfl, hb1⟩)
  rw [rounds_succ]
  go_wp2_with (go_at_call 65; (with_reducible refine (unwrap_any _ rfl _).mono ?_); rintro e w1 ⟨rfl, hb1⟩)
  go_ret
  exact ⟨rfl, by (repeat (first | with_reducible assumption | with_reducible exact Bel.refl _ | with_reducible apply Bel.alloc | with_reducible apply Bel.drew | with_reducible apply Bel.drewN | ((with_reducible apply Bel.setCellR); (simp <;> omega)) | with_reducible refine Bel.behind (by with_reducible assumption) ?_))⟩
/-- errors.Is(nil, x). -/
theorem is_nil (a : Addr) (w : World) :
    Calls Tryd.prog 28 #[.nilIface, .iface 128 (.pointer (some a))] w fun e w' => e = .returned (.bool false) ∧ Bel w w' := by
  have hn := run_eql_iface_nil_left (P := Tryd.prog) w 128 (.pointer (some a)) Tryd.underlying57
  go_enter Tryd.func28, Tryd.ntmps28
  go_wp2
  go_ret
  exact ⟨rfl, by (repeat (first | with_reducible assumption | with_reducible exact Bel.refl _ | with_reducible apply Bel.alloc | with_reducible apply Bel.drew | with_reducible apply Bel.drewN | ((with_reducible apply Bel.setCellR); (simp <;> omega)) | with_reducible refine Bel.behind (by with_reducible assumption) ?_))⟩
end Go.Proofs.YtdfamnlmhikolaaDoor
