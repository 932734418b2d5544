/-
  errors.Is at an error that wraps the sentinel itself: after the guide's worked text Derived/Test/SentryIs.lean, turned to this dump's numbers.
-/
import Derived.Test.YbulkaevsFmtRows
import Derived.WalkKit
import Derived.LaidEql
import Derived.Stop.Asserts
import Derived.RowKitTokens
namespace Go.Proofs.YbulkaevsFmt
open Go.RowKit Go.Extern.Stop Go.Stop Go.Extern
/-! ### CLOSED FACTS: what 'reflectlite.TypeOf(target).Comparable()' gives at such a target -/
theorem Ybaf.isTypeOf (v : Value) (w : World) : (Extern.ReflectliteType.typeOf #[.iface 50 v]).run Ybaf.prog w = .ok (.iface 40 (.agg #[.pointer (some ⟨1, 50, none⟩)])) w := by kernel_rfl
def cmpF : TypeId → Sem Value := fun t => do Rtype.noPackHeld "Comparable" t; pure (.bool (← typeInfo t).comparable)
theorem Ybaf.isComparable (w : World) : ((Extern.ReflectliteType.method cmpF) #[.agg #[.pointer (some ⟨1, 50, none⟩)]]).run Ybaf.prog w = .ok (.bool true) w := by kernel_rfl
theorem Ybaf.isMethodComparable (v : Value) (w : World) : (Go.method 192 40 v "Comparable").run Ybaf.prog w = .ok (34, v) w := by kernel_rfl
theorem Ybaf.isComp : (Ybaf.prog.info? 50).map (·.comparable) = some true := by kernel_rfl
theorem Ybaf.isSize : (Ybaf.prog.info? 52).map (·.size) = some 1 := by kernel_rfl

/-! ### CLOSED FACTS ON THE METHOD SETS: what errors.is's assertions find -/
theorem Ybaf.noIsE (v : Value) (xT : TypeId) (w : World) : (Instr.typeAssert (.iface 50 v) xT 42 true).run Ybaf.prog w = .ok (.tuple #[.nilIface, .bool false]) w := run_typeAssert_lacksB Ybaf.underlying42 (by kernel_rfl) (by kernel_rfl) v xT w
theorem Ybaf.noUnwrapE (v : Value) (xT : TypeId) (w : World) : (Instr.typeAssert (.iface 50 v) xT 45 true).run Ybaf.prog w = .ok (.tuple #[.nilIface, .bool false]) w := run_typeAssert_lacksB Ybaf.underlying45 (by kernel_rfl) (by kernel_rfl) v xT w
theorem Ybaf.noUnwrapsE (v : Value) (xT : TypeId) (w : World) : (Instr.typeAssert (.iface 50 v) xT 47 true).run Ybaf.prog w = .ok (.tuple #[.nilIface, .bool false]) w := run_typeAssert_lacksB Ybaf.underlying47 (by kernel_rfl) (by kernel_rfl) v xT w
theorem Ybaf.noIsW (v : Value) (xT : TypeId) (w : World) : (Instr.typeAssert (.iface 38 v) xT 42 true).run Ybaf.prog w = .ok (.tuple #[.nilIface, .bool false]) w := run_typeAssert_lacksB Ybaf.underlying42 (by kernel_rfl) (by kernel_rfl) v xT w
theorem Ybaf.hasUnwrapW (v : Value) (xT : TypeId) (w : World) : (Instr.typeAssert (.iface 38 v) xT 45 true).run Ybaf.prog w = .ok (.tuple #[.iface 38 v, .bool true]) w := run_typeAssert_hasB Ybaf.underlying45 (by kernel_rfl) v xT w
theorem Ybaf.methodUnwrap (v : Value) (w : World) : (Go.method 192 38 v "Unwrap").run Ybaf.prog w = .ok (30, v) w := by kernel_rfl

/-- errors.Is(e, x), e a *fmt.wrapError that wraps x itself: one Unwrap, then equal. -/
theorem is_wrap_same (pb po : Nat) (b : Addr) (w : World) (h1 : w.cell? ⟨pb, po + 1, none⟩ = some (.iface 50 (.pointer (some b)))) :
    Calls Ybaf.prog 8 #[.iface 38 (.pointer (some ⟨pb, po, none⟩)), .iface 50 (.pointer (some b))] w fun e w' => e = .returned (.bool true) ∧ w' = w := by
  obtain ⟨i, hi, hcmp⟩ := Option.map_eq_some_iff.1 Ybaf.isComp
  obtain ⟨j, hj, hjs⟩ := Option.map_eq_some_iff.1 Ybaf.isSize
  have h8 := @run_callFunc_extern Ybaf.prog 10 _ Extern.ReflectliteType.typeOf Ybaf.func10 (by kernel_rfl) (by kernel_rfl) (by kernel_rfl) (by kernel_rfl)
  have h32 := @run_callFunc_extern Ybaf.prog 34 _ (Extern.ReflectliteType.method cmpF) Ybaf.func34 (by kernel_rfl) (by kernel_rfl) (by kernel_rfl) (by kernel_rfl)
  have tT := Ybaf.isTypeOf
  have cT := Ybaf.isComparable
  have mR := Ybaf.isMethodComparable
  have nE := Ybaf.noIsE
  have uE := Ybaf.noUnwrapE
  have vE := Ybaf.noUnwrapsE
  have nW := Ybaf.noIsW
  have uW := Ybaf.hasUnwrapW
  have mU := Ybaf.methodUnwrap
  have heq := run_eql_iface_ptr_same (P := Ybaf.prog) w b Ybaf.underlying27 Ybaf.underlying50 hi hcmp hj
  have hty := run_eql_iface_types (P := Ybaf.prog) 38 50 (.pointer (some ⟨pb, po, none⟩)) (.pointer (some b)) Ybaf.underlying27 (by decide) w
  go_enter Ybaf.func8, Ybaf.ntmps8
  go_wp2
  refine wp_loop_rounds 2 ?_
  rw [rounds_succ]
  go_wp2
  rw [rounds_succ]
  go_wp2
  go_ret
  exact ⟨rfl, rfl⟩

end Go.Proofs.YbulkaevsFmt
