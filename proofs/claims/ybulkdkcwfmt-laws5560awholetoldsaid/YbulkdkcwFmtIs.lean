/- errors.Is by its contracts, after the guide's SentryIs.lean, turned to this dump's numbers. -/
import Derived.Test.YbulkdkcwFmtProg
import Derived.KernelRfl
import Derived.WalkKit
import Derived.LaidEql
import Derived.Stop.Asserts
import Derived.RowKitTokens
namespace Go.Proofs.YbulkdkcwFmt
open Go.RowKit Go.Extern.Stop Go.Stop Go.Extern

/-! ### CLOSED FACTS: what 'reflectlite.TypeOf(target).Comparable()' gives at such a target -/
theorem isTypeOf (v : Value) (w : World) : (Extern.ReflectliteType.typeOf #[.iface 40 v]).run Ybaf.prog w = .ok (.iface 63 (.agg #[.pointer (some ⟨5, 40, none⟩)])) w := by kernel_rfl
/-- The model's entry for '(rtype).Comparable'. -/
def cmpEntry : Array Value → Sem Value := Extern.ReflectliteType.method fun t => do Extern.Rtype.noPackHeld "Comparable" t; pure (.bool (← typeInfo t).comparable)
theorem isComparable (w : World) : (cmpEntry #[.agg #[.pointer (some ⟨5, 40, none⟩)]]).run Ybaf.prog w = .ok (.bool true) w := by kernel_rfl
theorem isMethodComparable (v : Value) (w : World) : (Go.method 215 63 v "Comparable").run Ybaf.prog w = .ok (43, v) w := by kernel_rfl
theorem isComp : (Ybaf.prog.info? 40).map (·.comparable) = some true := by kernel_rfl
theorem isSize : (Ybaf.prog.info? 42).map (·.size) = some 1 := by kernel_rfl

/-! ### CLOSED FACTS ON THE METHOD SETS: what errors.is's assertions find -/
theorem noIsE (v : Value) (xT : TypeId) (w : World) : (Instr.typeAssert (.iface 40 v) xT 65 true).run Ybaf.prog w = .ok (.tuple #[.nilIface, .bool false]) w := run_typeAssert_lacksB Ybaf.underlying65 (by kernel_rfl) (by kernel_rfl) v xT w
theorem noUnwrapE (v : Value) (xT : TypeId) (w : World) : (Instr.typeAssert (.iface 40 v) xT 68 true).run Ybaf.prog w = .ok (.tuple #[.nilIface, .bool false]) w := run_typeAssert_lacksB Ybaf.underlying68 (by kernel_rfl) (by kernel_rfl) v xT w
theorem noUnwrapsE (v : Value) (xT : TypeId) (w : World) : (Instr.typeAssert (.iface 40 v) xT 70 true).run Ybaf.prog w = .ok (.tuple #[.nilIface, .bool false]) w := run_typeAssert_lacksB Ybaf.underlying70 (by kernel_rfl) (by kernel_rfl) v xT w
theorem noIsW (v : Value) (xT : TypeId) (w : World) : (Instr.typeAssert (.iface 74 v) xT 65 true).run Ybaf.prog w = .ok (.tuple #[.nilIface, .bool false]) w := run_typeAssert_lacksB Ybaf.underlying65 (by kernel_rfl) (by kernel_rfl) v xT w
theorem hasUnwrapW (v : Value) (xT : TypeId) (w : World) : (Instr.typeAssert (.iface 74 v) xT 68 true).run Ybaf.prog w = .ok (.tuple #[.iface 74 v, .bool true]) w := run_typeAssert_hasB Ybaf.underlying68 (by kernel_rfl) v xT w
theorem methodUnwrap (v : Value) (w : World) : (Go.method 215 74 v "Unwrap").run Ybaf.prog w = .ok (53, v) w := by kernel_rfl

set_option maxRecDepth 100000 in
/-- errors.Is(x, x), x a pointer to an errors.errorString. -/
theorem is_same (a : Addr) (w : World) :
    Calls Ybaf.prog 7 #[.iface 40 (.pointer (some a)), .iface 40 (.pointer (some a))] w fun e w' => e = .returned (.bool true) ∧ w' = w := by
  obtain ⟨i, hi, hcmp⟩ := Option.map_eq_some_iff.1 isComp
  obtain ⟨j, hj, hjs⟩ := Option.map_eq_some_iff.1 isSize
  have h8 := @run_callFunc_extern Ybaf.prog 12 _ Extern.ReflectliteType.typeOf Ybaf.func12 (by kernel_rfl) (by kernel_rfl) (by kernel_rfl) (by kernel_rfl)
  have h32 := @run_callFunc_extern Ybaf.prog 43 _ cmpEntry Ybaf.func43 (by kernel_rfl) (by kernel_rfl) (by kernel_rfl) (by kernel_rfl)
  have tT := isTypeOf
  have cT := isComparable
  have mR := isMethodComparable
  have heq := run_eql_iface_ptr_same (P := Ybaf.prog) w a Ybaf.underlying27 Ybaf.underlying40 hi hcmp hj
  go_enter Ybaf.func7, Ybaf.ntmps7
  go_wp2
  refine wp_loop_rounds 1 ?_
  rw [rounds_succ]
  go_wp2
  go_ret
  exact ⟨rfl, rfl⟩

set_option maxRecDepth 100000 in
/-- errors.Is(nil, x). -/
theorem is_nil (b : Addr) (w : World) :
    Calls Ybaf.prog 7 #[.nilIface, .iface 40 (.pointer (some b))] w fun e w' => e = .returned (.bool false) ∧ w' = w := by
  have hn := run_eql_iface_nil_left (P := Ybaf.prog) w 40 (.pointer (some b)) Ybaf.underlying27
  go_enter Ybaf.func7, Ybaf.ntmps7
  go_wp2
  go_ret
  exact ⟨rfl, rfl⟩

set_option maxRecDepth 100000 in
/-- errors.Is(x, y), two different pointers to errors.errorString: neither has Is nor Unwrap: false. -/
theorem is_other (a b : Addr) (ca cb : Array Value) (ta tb : TypeId) (w : World) (hne : a ≠ b) (ha : w.heap[a.block]? = some (.cells ca ta (0, 0))) (hb : w.heap[b.block]? = some (.cells cb tb (0, 0))) :
    Calls Ybaf.prog 7 #[.iface 40 (.pointer (some a)), .iface 40 (.pointer (some b))] w fun e w' => e = .returned (.bool false) ∧ w' = w := by
  obtain ⟨i, hi, hcmp⟩ := Option.map_eq_some_iff.1 isComp
  obtain ⟨j, hj, hjs⟩ := Option.map_eq_some_iff.1 isSize
  have h8 := @run_callFunc_extern Ybaf.prog 12 _ Extern.ReflectliteType.typeOf Ybaf.func12 (by kernel_rfl) (by kernel_rfl) (by kernel_rfl) (by kernel_rfl)
  have h32 := @run_callFunc_extern Ybaf.prog 43 _ cmpEntry Ybaf.func43 (by kernel_rfl) (by kernel_rfl) (by kernel_rfl) (by kernel_rfl)
  have tT := isTypeOf
  have cT := isComparable
  have mR := isMethodComparable
  have nE := noIsE
  have uE := noUnwrapE
  have vE := noUnwrapsE
  have nW := noIsW
  have uW := hasUnwrapW
  have mU := methodUnwrap
  have heq := run_eql_iface_ptr_other (P := Ybaf.prog) w Ybaf.underlying27 Ybaf.underlying40 hi hcmp hj (by rw [hjs]; decide) hne ha hb
  go_enter Ybaf.func7, Ybaf.ntmps7
  go_wp2
  refine wp_loop_rounds 1 ?_
  rw [rounds_succ]
  go_wp2
  go_ret
  exact ⟨rfl, rfl⟩

set_option maxRecDepth 100000 in
/-- errors.Is(e, x), e a *fmt.wrapError that wraps x itself: one Unwrap, then equal. -/
theorem is_wrap_same (pb po : Nat) (b : Addr) (w : World) (h1 : w.cell? ⟨pb, po + 1, none⟩ = some (.iface 40 (.pointer (some b)))) :
    Calls Ybaf.prog 7 #[.iface 74 (.pointer (some ⟨pb, po, none⟩)), .iface 40 (.pointer (some b))] w fun e w' => e = .returned (.bool true) ∧ w' = w := by
  obtain ⟨i, hi, hcmp⟩ := Option.map_eq_some_iff.1 isComp
  obtain ⟨j, hj, hjs⟩ := Option.map_eq_some_iff.1 isSize
  have h8 := @run_callFunc_extern Ybaf.prog 12 _ Extern.ReflectliteType.typeOf Ybaf.func12 (by kernel_rfl) (by kernel_rfl) (by kernel_rfl) (by kernel_rfl)
  have h32 := @run_callFunc_extern Ybaf.prog 43 _ cmpEntry Ybaf.func43 (by kernel_rfl) (by kernel_rfl) (by kernel_rfl) (by kernel_rfl)
  have tT := isTypeOf
  have cT := isComparable
  have mR := isMethodComparable
  have nE := noIsE
  have uE := noUnwrapE
  have vE := noUnwrapsE
  have nW := noIsW
  have uW := hasUnwrapW
  have mU := methodUnwrap
  have heq := run_eql_iface_ptr_same (P := Ybaf.prog) w b Ybaf.underlying27 Ybaf.underlying40 hi hcmp hj
  have hty := run_eql_iface_types (P := Ybaf.prog) 74 40 (.pointer (some ⟨pb, po, none⟩)) (.pointer (some b)) Ybaf.underlying27 (by decide) w
  go_enter Ybaf.func7, Ybaf.ntmps7
  go_wp2
  refine wp_loop_rounds 2 ?_
  rw [rounds_succ]
  go_wp2
  rw [rounds_succ]
  go_wp2
  go_ret
  exact ⟨rfl, rfl⟩

set_option maxRecDepth 100000 in
/-- errors.Is(e, x), e a *fmt.wrapError that wraps another error of errors.New's make. -/
theorem is_wrap_other (pb po : Nat) (b a : Addr) (ca cb : Array Value) (ta tb : TypeId) (w : World) (h1 : w.cell? ⟨pb, po + 1, none⟩ = some (.iface 40 (.pointer (some a)))) (hne : a ≠ b) (ha : w.heap[a.block]? = some (.cells ca ta (0, 0))) (hb : w.heap[b.block]? = some (.cells cb tb (0, 0))) :
    Calls Ybaf.prog 7 #[.iface 74 (.pointer (some ⟨pb, po, none⟩)), .iface 40 (.pointer (some b))] w fun e w' => e = .returned (.bool false) ∧ w' = w := by
  obtain ⟨i, hi, hcmp⟩ := Option.map_eq_some_iff.1 isComp
  obtain ⟨j, hj, hjs⟩ := Option.map_eq_some_iff.1 isSize
  have h8 := @run_callFunc_extern Ybaf.prog 12 _ Extern.ReflectliteType.typeOf Ybaf.func12 (by kernel_rfl) (by kernel_rfl) (by kernel_rfl) (by kernel_rfl)
  have h32 := @run_callFunc_extern Ybaf.prog 43 _ cmpEntry Ybaf.func43 (by kernel_rfl) (by kernel_rfl) (by kernel_rfl) (by kernel_rfl)
  have tT := isTypeOf
  have cT := isComparable
  have mR := isMethodComparable
  have nE := noIsE
  have uE := noUnwrapE
  have vE := noUnwrapsE
  have nW := noIsW
  have uW := hasUnwrapW
  have mU := methodUnwrap
  have heq := run_eql_iface_ptr_other (P := Ybaf.prog) w Ybaf.underlying27 Ybaf.underlying40 hi hcmp hj (by rw [hjs]; decide) hne ha hb
  have hty := run_eql_iface_types (P := Ybaf.prog) 74 40 (.pointer (some ⟨pb, po, none⟩)) (.pointer (some b)) Ybaf.underlying27 (by decide) w
  go_enter Ybaf.func7, Ybaf.ntmps7
  go_wp2
  refine wp_loop_rounds 2 ?_
  rw [rounds_succ]
  go_wp2
  rw [rounds_succ]
  go_wp2
  go_ret
  exact ⟨rfl, rfl⟩

end Go.Proofs.YbulkdkcwFmt
