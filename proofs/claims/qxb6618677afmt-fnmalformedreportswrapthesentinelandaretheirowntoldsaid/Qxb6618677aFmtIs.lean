/-
  errors.Is BY ITS CONTRACTS over this seat's dump, turned from the guide's worked text on errors.Is (HOWTO 10.9): the numbers are this dump's: 24 error, 46 *errors.errorString, 48 errors.errorString, 45 *fmt.wrapError, 75 fmt.wrapError, 34 reflectlite's rtype, 36, 39, 41 the three interfaces of errors.is; functions: 6 errors.Is, 8 reflectlite.TypeOf, 31 (rtype).Comparable, 41 (*fmt.wrapError).Unwrap.
-/
import Derived.Test.Qxb6618677aFmtProg
import Derived.WalkKit
import Derived.LaidEql
import Derived.Stop.Asserts
import Derived.RowKitTokens
namespace Go.Proofs.Qxb6618677aFmt
open Go.RowKit Go.Extern.Stop Go.Stop Go.Extern

/-- What stands for (rtype).Comparable in the model. -/
def Tryf.cmp : Array Value → Sem Value := Extern.ReflectliteType.method fun t => do Extern.Rtype.noPackHeld "Comparable" t; pure (.bool (← typeInfo t).comparable)
theorem Tryf.isTypeOf (v : Value) (w : World) : (Extern.ReflectliteType.typeOf #[.iface 46 v]).run Tryf.prog w = .ok (.iface 34 (.agg #[.pointer (some ⟨1, 46, none⟩)])) w := by kernel_rfl
theorem Tryf.isTypeOfW (v : Value) (w : World) : (Extern.ReflectliteType.typeOf #[.iface 45 v]).run Tryf.prog w = .ok (.iface 34 (.agg #[.pointer (some ⟨1, 45, none⟩)])) w := by kernel_rfl
theorem Tryf.isComparable (w : World) : (Tryf.cmp #[.agg #[.pointer (some ⟨1, 46, none⟩)]]).run Tryf.prog w = .ok (.bool true) w := by kernel_rfl
theorem Tryf.isComparableW (w : World) : (Tryf.cmp #[.agg #[.pointer (some ⟨1, 45, none⟩)]]).run Tryf.prog w = .ok (.bool true) w := by kernel_rfl
theorem Tryf.isMethodComparable (v : Value) (w : World) : (Go.method 188 34 v "Comparable").run Tryf.prog w = .ok (31, v) w := by kernel_rfl
theorem Tryf.isComp : (Tryf.prog.info? 46).map (·.comparable) = some true := by kernel_rfl
theorem Tryf.isCompW : (Tryf.prog.info? 45).map (·.comparable) = some true := by kernel_rfl
theorem Tryf.isSize : (Tryf.prog.info? 48).map (·.size) = some 1 := by kernel_rfl
theorem Tryf.isSizeW : (Tryf.prog.info? 75).map (·.size) = some 2 := by kernel_rfl

theorem Tryf.noIsE (v : Value) (xT : TypeId) (w : World) : (Instr.typeAssert (.iface 46 v) xT 36 true).run Tryf.prog w = .ok (.tuple #[.nilIface, .bool false]) w := run_typeAssert_lacksB Tryf.underlying36 (by kernel_rfl) (by kernel_rfl) v xT w
theorem Tryf.noUnwrapE (v : Value) (xT : TypeId) (w : World) : (Instr.typeAssert (.iface 46 v) xT 39 true).run Tryf.prog w = .ok (.tuple #[.nilIface, .bool false]) w := run_typeAssert_lacksB Tryf.underlying39 (by kernel_rfl) (by kernel_rfl) v xT w
theorem Tryf.noUnwrapsE (v : Value) (xT : TypeId) (w : World) : (Instr.typeAssert (.iface 46 v) xT 41 true).run Tryf.prog w = .ok (.tuple #[.nilIface, .bool false]) w := run_typeAssert_lacksB Tryf.underlying41 (by kernel_rfl) (by kernel_rfl) v xT w
theorem Tryf.noIsW (v : Value) (xT : TypeId) (w : World) : (Instr.typeAssert (.iface 45 v) xT 36 true).run Tryf.prog w = .ok (.tuple #[.nilIface, .bool false]) w := run_typeAssert_lacksB Tryf.underlying36 (by kernel_rfl) (by kernel_rfl) v xT w
theorem Tryf.hasUnwrapW (v : Value) (xT : TypeId) (w : World) : (Instr.typeAssert (.iface 45 v) xT 39 true).run Tryf.prog w = .ok (.tuple #[.iface 45 v, .bool true]) w := run_typeAssert_hasB Tryf.underlying39 (by kernel_rfl) v xT w
theorem Tryf.methodUnwrap (v : Value) (w : World) : (Go.method 188 45 v "Unwrap").run Tryf.prog w = .ok (41, v) w := by kernel_rfl

/-- errors.Is(e, x), e a *fmt.wrapError that wraps x itself: one Unwrap, then equal. -/
theorem is_wrap_same (pb po : Nat) (b : Addr) (w : World) (h1 : w.cell? ⟨pb, po + 1, none⟩ = some (.iface 46 (.pointer (some b)))) :
    Calls Tryf.prog 6 #[.iface 45 (.pointer (some ⟨pb, po, none⟩)), .iface 46 (.pointer (some b))] w fun e w' => e = .returned (.bool true) ∧ w' = w := by
  obtain ⟨i, hi, hcmp⟩ := Option.map_eq_some_iff.1 Tryf.isComp
  obtain ⟨j, hj, hjs⟩ := Option.map_eq_some_iff.1 Tryf.isSize
  have h8 := @run_callFunc_extern Tryf.prog 8 _ Extern.ReflectliteType.typeOf Tryf.func8 (by kernel_rfl) (by kernel_rfl) (by kernel_rfl) (by kernel_rfl)
  have h32 := @run_callFunc_extern Tryf.prog 31 _ Tryf.cmp Tryf.func31 (by kernel_rfl) (by kernel_rfl) (by kernel_rfl) (by kernel_rfl)
  have tT := Tryf.isTypeOf
  have cT := Tryf.isComparable
  have mR := Tryf.isMethodComparable
  have nE := Tryf.noIsE
  have uE := Tryf.noUnwrapE
  have vE := Tryf.noUnwrapsE
  have nW := Tryf.noIsW
  have uW := Tryf.hasUnwrapW
  have mU := Tryf.methodUnwrap
  have heq := run_eql_iface_ptr_same (P := Tryf.prog) w b Tryf.underlying24 Tryf.underlying46 hi hcmp hj
  have hty := run_eql_iface_types (P := Tryf.prog) 45 46 (.pointer (some ⟨pb, po, none⟩)) (.pointer (some b)) Tryf.underlying24 (by decide) w
  go_enter Tryf.func6, Tryf.ntmps6
  go_wp2
  refine wp_loop_rounds 2 ?_
  rw [rounds_succ]
  go_wp2
  rw [rounds_succ]
  go_wp2
  go_ret
  exact ⟨rfl, rfl⟩

/-- errors.Is(e, f), two *fmt.wrapError in two places, e wrapping an error of errors.New's make: false. -/
theorem is_wrap_wrap (pb qb : Nat) (a : Addr) (ca cb : Array Value) (ta tb : TypeId) (w : World) (h1 : w.cell? ⟨pb, 0 + 1, none⟩ = some (.iface 46 (.pointer (some a)))) (hne : pb ≠ qb) (ha : w.heap[pb]? = some (.cells ca ta (0, 0))) (hb : w.heap[qb]? = some (.cells cb tb (0, 0))) :
    Calls Tryf.prog 6 #[.iface 45 (.pointer (some ⟨pb, 0, none⟩)), .iface 45 (.pointer (some ⟨qb, 0, none⟩))] w fun e w' => e = .returned (.bool false) ∧ w' = w := by
  obtain ⟨i, hi, hcmp⟩ := Option.map_eq_some_iff.1 Tryf.isCompW
  obtain ⟨j, hj, hjs⟩ := Option.map_eq_some_iff.1 Tryf.isSizeW
  have h8 := @run_callFunc_extern Tryf.prog 8 _ Extern.ReflectliteType.typeOf Tryf.func8 (by kernel_rfl) (by kernel_rfl) (by kernel_rfl) (by kernel_rfl)
  have h32 := @run_callFunc_extern Tryf.prog 31 _ Tryf.cmp Tryf.func31 (by kernel_rfl) (by kernel_rfl) (by kernel_rfl) (by kernel_rfl)
  have tT := Tryf.isTypeOfW
  have cT := Tryf.isComparableW
  have mR := Tryf.isMethodComparable
  have nE := Tryf.noIsE
  have uE := Tryf.noUnwrapE
  have vE := Tryf.noUnwrapsE
  have nW := Tryf.noIsW
  have uW := Tryf.hasUnwrapW
  have mU := Tryf.methodUnwrap
  have heq := run_eql_iface_ptr_other (P := Tryf.prog) (a := ⟨pb, 0, none⟩) (b := ⟨qb, 0, none⟩) w Tryf.underlying24 Tryf.underlying45 hi hcmp hj (by rw [hjs]; decide) (fun h => hne (congrArg Addr.block h)) ha hb
  have hty := run_eql_iface_types (P := Tryf.prog) 46 45 (.pointer (some a)) (.pointer (some ⟨qb, 0, none⟩)) Tryf.underlying24 (by decide) w
  clear ha hb
  go_enter Tryf.func6, Tryf.ntmps6
  go_wp2
  refine wp_loop_rounds 2 ?_
  rw [rounds_succ]
  go_wp2
  rw [rounds_succ]
  go_wp2
  go_ret
  exact ⟨rfl, rfl⟩

/-- errors.Is(x, e), x of errors.New's make, e a *fmt.wrapError: false. -/
theorem is_plain_wrap (qb : Nat) (a : Addr) (w : World) :
    Calls Tryf.prog 6 #[.iface 46 (.pointer (some a)), .iface 45 (.pointer (some ⟨qb, 0, none⟩))] w fun e w' => e = .returned (.bool false) ∧ w' = w := by
  have h8 := @run_callFunc_extern Tryf.prog 8 _ Extern.ReflectliteType.typeOf Tryf.func8 (by kernel_rfl) (by kernel_rfl) (by kernel_rfl) (by kernel_rfl)
  have h32 := @run_callFunc_extern Tryf.prog 31 _ Tryf.cmp Tryf.func31 (by kernel_rfl) (by kernel_rfl) (by kernel_rfl) (by kernel_rfl)
  have tT := Tryf.isTypeOfW
  have cT := Tryf.isComparableW
  have mR := Tryf.isMethodComparable
  have nE := Tryf.noIsE
  have uE := Tryf.noUnwrapE
  have vE := Tryf.noUnwrapsE
  have hty := run_eql_iface_types (P := Tryf.prog) 46 45 (.pointer (some a)) (.pointer (some ⟨qb, 0, none⟩)) Tryf.underlying24 (by decide) w
  go_enter Tryf.func6, Tryf.ntmps6
  go_wp2
  refine wp_loop_rounds 1 ?_
  rw [rounds_succ]
  go_wp2
  go_ret
  exact ⟨rfl, rfl⟩

end Go.Proofs.Qxb6618677aFmt
