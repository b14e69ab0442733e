/-
  errors.Is by its contracts, at an error that is a *NotReachedError (one, or two round one another) and a target that is a sentinel of errors.New's make.
-/
import Derived.Test.Qxb6614198aDoorProg
import Derived.WalkKit
import Derived.LaidEql
import Derived.Stop.Asserts
import Derived.RowKitTokens
namespace Go.Proofs.Qxb6614198aDoor
open Go.RowKit Go.Extern.Stop Go.Stop Go.Extern

theorem Tryd.callTypeOf (v : Value) (w : World) : (callFunc 11 #[.iface 71 v]).run Tryd.prog w = .ok (.value (.iface 51 (.agg #[.pointer (some ⟨3, 71, none⟩)]))) w := by
  rw [@run_callFunc_extern Tryd.prog 11 _ Extern.ReflectliteType.typeOf Tryd.func11 (by kernel_rfl) (by kernel_rfl) (by kernel_rfl) (by kernel_rfl)]
  kernel_rfl
theorem Tryd.callComparable (w : World) : (callFunc 53 #[.agg #[.pointer (some ⟨3, 71, none⟩)]]).run Tryd.prog w = .ok (.value (.bool true)) w := by
  rw [@run_callFunc_extern Tryd.prog 53 _ (Extern.ReflectliteType.method fun t => do Extern.Rtype.noPackHeld "Comparable" t; pure (.bool (← typeInfo t).comparable)) Tryd.func53 (by kernel_rfl) (by kernel_rfl) (by kernel_rfl) (by kernel_rfl)]
  kernel_rfl
theorem Tryd.isMethodComparable (v : Value) (w : World) : (Go.method 218 51 v "Comparable").run Tryd.prog w = .ok (53, v) w := by kernel_rfl
theorem Tryd.isComp : (Tryd.prog.info? 71).map (·.comparable) = some true := by kernel_rfl
theorem Tryd.isSize : (Tryd.prog.info? 98).map (·.size) = some 1 := by kernel_rfl
theorem Tryd.noIsE (v : Value) (xT : TypeId) (w : World) : (Instr.typeAssert (.iface 71 v) xT 53 true).run Tryd.prog w = .ok (.tuple #[.nilIface, .bool false]) w := run_typeAssert_lacksB Tryd.underlying53 (by kernel_rfl) (by kernel_rfl) v xT w
theorem Tryd.noUnwrapE (v : Value) (xT : TypeId) (w : World) : (Instr.typeAssert (.iface 71 v) xT 56 true).run Tryd.prog w = .ok (.tuple #[.nilIface, .bool false]) w := run_typeAssert_lacksB Tryd.underlying56 (by kernel_rfl) (by kernel_rfl) v xT w
theorem Tryd.noUnwrapsE (v : Value) (xT : TypeId) (w : World) : (Instr.typeAssert (.iface 71 v) xT 58 true).run Tryd.prog w = .ok (.tuple #[.nilIface, .bool false]) w := run_typeAssert_lacksB Tryd.underlying58 (by kernel_rfl) (by kernel_rfl) v xT w
theorem Tryd.noIsW (v : Value) (xT : TypeId) (w : World) : (Instr.typeAssert (.iface 29 v) xT 53 true).run Tryd.prog w = .ok (.tuple #[.nilIface, .bool false]) w := run_typeAssert_lacksB Tryd.underlying53 (by kernel_rfl) (by kernel_rfl) v xT w
theorem Tryd.hasUnwrapW (v : Value) (xT : TypeId) (w : World) : (Instr.typeAssert (.iface 29 v) xT 56 true).run Tryd.prog w = .ok (.tuple #[.iface 29 v, .bool true]) w := run_typeAssert_hasB Tryd.underlying56 (by kernel_rfl) v xT w
theorem Tryd.methodUnwrap (v : Value) (w : World) : (Go.method 218 29 v "Unwrap").run Tryd.prog w = .ok (45, v) w := by kernel_rfl

/-- errors.Is(e, x), e a *NotReachedError whose Err is nil. -/
theorem is_wrap_nil (pb po : Nat) (b : Addr) (w : World) (h1 : w.cell? ⟨pb, po + 2, none⟩ = some .nilIface) :
    Calls Tryd.prog 7 #[.iface 29 (.pointer (some ⟨pb, po, none⟩)), .iface 71 (.pointer (some b))] w fun e w' => e = .returned (.bool false) ∧ w' = w := by
  have tT := Tryd.callTypeOf
  have cT := Tryd.callComparable
  have mR := Tryd.isMethodComparable
  have nW := Tryd.noIsW
  have uW := Tryd.hasUnwrapW
  have mU := Tryd.methodUnwrap
  have hty := run_eql_iface_types (P := Tryd.prog) 29 71 (.pointer (some ⟨pb, po, none⟩)) (.pointer (some b)) Tryd.underlying27 (by decide) w
  go_enter Tryd.func7, Tryd.ntmps7
  go_wp2
  refine wp_loop_rounds 1 ?_
  rw [rounds_succ]
  go_wp2
  go_ret
  exact ⟨rfl, rfl⟩

/-- errors.Is(e, x), e a *NotReachedError whose Err is x itself. -/
theorem is_wrap_same (pb po : Nat) (b : Addr) (w : World) (h1 : w.cell? ⟨pb, po + 2, none⟩ = some (.iface 71 (.pointer (some b)))) :
    Calls Tryd.prog 7 #[.iface 29 (.pointer (some ⟨pb, po, none⟩)), .iface 71 (.pointer (some b))] w fun e w' => e = .returned (.bool true) ∧ w' = w := by
  obtain ⟨i, hi, hcmp⟩ := Option.map_eq_some_iff.1 Tryd.isComp
  obtain ⟨j, hj, hjs⟩ := Option.map_eq_some_iff.1 Tryd.isSize
  have tT := Tryd.callTypeOf
  have cT := Tryd.callComparable
  have mR := Tryd.isMethodComparable
  have nW := Tryd.noIsW
  have uW := Tryd.hasUnwrapW
  have mU := Tryd.methodUnwrap
  have heq := run_eql_iface_ptr_same (P := Tryd.prog) w b Tryd.underlying27 Tryd.underlying71 hi hcmp hj
  have hty := run_eql_iface_types (P := Tryd.prog) 29 71 (.pointer (some ⟨pb, po, none⟩)) (.pointer (some b)) Tryd.underlying27 (by decide) w
  go_enter Tryd.func7, Tryd.ntmps7
  go_wp2
  refine wp_loop_rounds 2 ?_
  rw [rounds_succ]
  go_wp2
  rw [rounds_succ]
  go_wp2
  go_ret
  exact ⟨rfl, rfl⟩

/-- errors.Is(e, x), e a *NotReachedError whose Err is another error of errors.New's make. -/
theorem is_wrap_other (pb po : Nat) (b a : Addr) (ca cb : Array Value) (ta tb : TypeId) (w : World) (h1 : w.cell? ⟨pb, po + 2, none⟩ = some (.iface 71 (.pointer (some a)))) (hne : a ≠ b) (ha : w.heap[a.block]? = some (.cells ca ta (0, 0))) (hb : w.heap[b.block]? = some (.cells cb tb (0, 0))) :
    Calls Tryd.prog 7 #[.iface 29 (.pointer (some ⟨pb, po, none⟩)), .iface 71 (.pointer (some b))] w fun e w' => e = .returned (.bool false) ∧ w' = w := by
  obtain ⟨i, hi, hcmp⟩ := Option.map_eq_some_iff.1 Tryd.isComp
  obtain ⟨j, hj, hjs⟩ := Option.map_eq_some_iff.1 Tryd.isSize
  have tT := Tryd.callTypeOf
  have cT := Tryd.callComparable
  have mR := Tryd.isMethodComparable
  have nE := Tryd.noIsE
  have uE := Tryd.noUnwrapE
  have vE := Tryd.noUnwrapsE
  have nW := Tryd.noIsW
  have uW := Tryd.hasUnwrapW
  have mU := Tryd.methodUnwrap
  have heq := run_eql_iface_ptr_other (P := Tryd.prog) w Tryd.underlying27 Tryd.underlying71 hi hcmp hj (by rw [hjs]; decide) hne ha hb
  have hty := run_eql_iface_types (P := Tryd.prog) 29 71 (.pointer (some ⟨pb, po, none⟩)) (.pointer (some b)) Tryd.underlying27 (by decide) w
  go_enter Tryd.func7, Tryd.ntmps7
  go_wp2
  refine wp_loop_rounds 2 ?_
  rw [rounds_succ]
  go_wp2
  rw [rounds_succ]
  go_wp2
  go_ret
  exact ⟨rfl, rfl⟩

/-- errors.Is(e, x), e a *NotReachedError round a *NotReachedError whose Err is nil. -/
theorem is_deep_nil (pb po qb qo : Nat) (b : Addr) (w : World) (h0 : w.cell? ⟨pb, po + 2, none⟩ = some (.iface 29 (.pointer (some ⟨qb, qo, none⟩)))) (h1 : w.cell? ⟨qb, qo + 2, none⟩ = some .nilIface) :
    Calls Tryd.prog 7 #[.iface 29 (.pointer (some ⟨pb, po, none⟩)), .iface 71 (.pointer (some b))] w fun e w' => e = .returned (.bool false) ∧ w' = w := by
  have tT := Tryd.callTypeOf
  have cT := Tryd.callComparable
  have mR := Tryd.isMethodComparable
  have nW := Tryd.noIsW
  have uW := Tryd.hasUnwrapW
  have mU := Tryd.methodUnwrap
  have hty := fun x => run_eql_iface_types (P := Tryd.prog) 29 71 x (.pointer (some b)) Tryd.underlying27 (by decide) w
  go_enter Tryd.func7, Tryd.ntmps7
  go_wp2
  refine wp_loop_rounds 2 ?_
  rw [rounds_succ]
  go_wp2
  rw [rounds_succ]
  go_wp2
  go_ret
  exact ⟨rfl, rfl⟩

/-- errors.Is(e, x), e a *NotReachedError round a *NotReachedError whose Err is x itself. -/
theorem is_deep_same (pb po qb qo : Nat) (b : Addr) (w : World) (h0 : w.cell? ⟨pb, po + 2, none⟩ = some (.iface 29 (.pointer (some ⟨qb, qo, none⟩)))) (h1 : w.cell? ⟨qb, qo + 2, none⟩ = some (.iface 71 (.pointer (some b)))) :
    Calls Tryd.prog 7 #[.iface 29 (.pointer (some ⟨pb, po, none⟩)), .iface 71 (.pointer (some b))] w fun e w' => e = .returned (.bool true) ∧ w' = w := by
  obtain ⟨i, hi, hcmp⟩ := Option.map_eq_some_iff.1 Tryd.isComp
  obtain ⟨j, hj, hjs⟩ := Option.map_eq_some_iff.1 Tryd.isSize
  have tT := Tryd.callTypeOf
  have cT := Tryd.callComparable
  have mR := Tryd.isMethodComparable
  have nW := Tryd.noIsW
  have uW := Tryd.hasUnwrapW
  have mU := Tryd.methodUnwrap
  have heq := run_eql_iface_ptr_same (P := Tryd.prog) w b Tryd.underlying27 Tryd.underlying71 hi hcmp hj
  have hty := fun x => run_eql_iface_types (P := Tryd.prog) 29 71 x (.pointer (some b)) Tryd.underlying27 (by decide) w
  go_enter Tryd.func7, Tryd.ntmps7
  go_wp2
  refine wp_loop_rounds 3 ?_
  rw [rounds_succ]
  go_wp2
  rw [rounds_succ]
  go_wp2
  rw [rounds_succ]
  go_wp2
  go_ret
  exact ⟨rfl, rfl⟩

/-- errors.Is(e, x), e a *NotReachedError round a *NotReachedError whose Err is another error of errors.New's make. -/
theorem is_deep_other (pb po qb qo : Nat) (b a : Addr) (ca cb : Array Value) (ta tb : TypeId) (w : World) (h0 : w.cell? ⟨pb, po + 2, none⟩ = some (.iface 29 (.pointer (some ⟨qb, qo, none⟩)))) (h1 : w.cell? ⟨qb, qo + 2, none⟩ = some (.iface 71 (.pointer (some a)))) (hne : a ≠ b) (ha : w.heap[a.block]? = some (.cells ca ta (0, 0))) (hb : w.heap[b.block]? = some (.cells cb tb (0, 0))) :
    Calls Tryd.prog 7 #[.iface 29 (.pointer (some ⟨pb, po, none⟩)), .iface 71 (.pointer (some b))] w fun e w' => e = .returned (.bool false) ∧ w' = w := by
  obtain ⟨i, hi, hcmp⟩ := Option.map_eq_some_iff.1 Tryd.isComp
  obtain ⟨j, hj, hjs⟩ := Option.map_eq_some_iff.1 Tryd.isSize
  have tT := Tryd.callTypeOf
  have cT := Tryd.callComparable
  have mR := Tryd.isMethodComparable
  have nE := Tryd.noIsE
  have uE := Tryd.noUnwrapE
  have vE := Tryd.noUnwrapsE
  have nW := Tryd.noIsW
  have uW := Tryd.hasUnwrapW
  have mU := Tryd.methodUnwrap
  have heq := run_eql_iface_ptr_other (P := Tryd.prog) w Tryd.underlying27 Tryd.underlying71 hi hcmp hj (by rw [hjs]; decide) hne ha hb
  have hty := fun x => run_eql_iface_types (P := Tryd.prog) 29 71 x (.pointer (some b)) Tryd.underlying27 (by decide) w
  go_enter Tryd.func7, Tryd.ntmps7
  go_wp2
  refine wp_loop_rounds 3 ?_
  rw [rounds_succ]
  go_wp2
  rw [rounds_succ]
  go_wp2
  rw [rounds_succ]
  go_wp2
  go_ret
  exact ⟨rfl, rfl⟩
end Go.Proofs.Qxb6614198aDoor
