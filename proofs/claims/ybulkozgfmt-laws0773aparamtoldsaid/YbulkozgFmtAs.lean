import Derived.Test.YbulkozgFmtChecked
import Derived.WalkKit
import Derived.LaidEql
import Derived.Stop.Asserts
import Derived.RowKitTokens
/-!
errors.Is and errors.As by the contracts that this seat needs: a *fmt.wrapError that wraps a sentinel: Is of that sentinel is true; As at **pathError is false.
-/
namespace Go.Proofs.YbulkozgFmt
open Go.RowKit Go.Extern.Stop Go.Stop Go.Extern

/-! ### errors.Is -/
theorem Ybaf.isTypeOf (v : Value) (w : World) : (Extern.ReflectliteType.typeOf #[.iface 133 v]).run Ybaf.prog w = .ok (.iface 99 (.agg #[.pointer (some ⟨3, 133, none⟩)])) w := by kernel_rfl
/-- The model's entry for (rtype).Comparable. -/
def cmpEntry : Array Value → Sem Value := Extern.ReflectliteType.method fun t => do Extern.Rtype.noPackHeld "Comparable" t; pure (.bool (← typeInfo t).comparable)
theorem Ybaf.isComparable (w : World) : (cmpEntry #[.agg #[.pointer (some ⟨3, 133, none⟩)]]).run Ybaf.prog w = .ok (.bool true) w := by kernel_rfl
theorem Ybaf.isMethodComparable (v : Value) (w : World) : (Go.method 320 99 v "Comparable").run Ybaf.prog w = .ok (79, v) w := by kernel_rfl
theorem Ybaf.isComp : (Ybaf.prog.info? 133).map (·.comparable) = some true := by kernel_rfl
theorem Ybaf.isSize : (Ybaf.prog.info? 135).map (·.size) = some 1 := by kernel_rfl
theorem Ybaf.noIsE (v : Value) (xT : TypeId) (w : World) : (Instr.typeAssert (.iface 133 v) xT 101 true).run Ybaf.prog w = .ok (.tuple #[.nilIface, .bool false]) w := run_typeAssert_lacksB Ybaf.underlying101 (by kernel_rfl) (by kernel_rfl) v xT w
theorem Ybaf.noUnwrapE (v : Value) (xT : TypeId) (w : World) : (Instr.typeAssert (.iface 133 v) xT 104 true).run Ybaf.prog w = .ok (.tuple #[.nilIface, .bool false]) w := run_typeAssert_lacksB Ybaf.underlying104 (by kernel_rfl) (by kernel_rfl) v xT w
theorem Ybaf.noUnwrapsE (v : Value) (xT : TypeId) (w : World) : (Instr.typeAssert (.iface 133 v) xT 106 true).run Ybaf.prog w = .ok (.tuple #[.nilIface, .bool false]) w := run_typeAssert_lacksB Ybaf.underlying106 (by kernel_rfl) (by kernel_rfl) v xT w
theorem Ybaf.noIsW (v : Value) (xT : TypeId) (w : World) : (Instr.typeAssert (.iface 118 v) xT 101 true).run Ybaf.prog w = .ok (.tuple #[.nilIface, .bool false]) w := run_typeAssert_lacksB Ybaf.underlying101 (by kernel_rfl) (by kernel_rfl) v xT w
theorem Ybaf.hasUnwrapW (v : Value) (xT : TypeId) (w : World) : (Instr.typeAssert (.iface 118 v) xT 104 true).run Ybaf.prog w = .ok (.tuple #[.iface 118 v, .bool true]) w := run_typeAssert_hasB Ybaf.underlying104 (by kernel_rfl) v xT w
theorem Ybaf.methodUnwrap (v : Value) (w : World) : (Go.method 320 118 v "Unwrap").run Ybaf.prog w = .ok (91, v) w := by kernel_rfl
theorem Ybaf.noAsE (v : Value) (xT : TypeId) (w : World) : (Instr.typeAssert (.iface 133 v) xT 138 true).run Ybaf.prog w = .ok (.tuple #[.nilIface, .bool false]) w := run_typeAssert_lacksB Ybaf.underlying138 (by kernel_rfl) (by kernel_rfl) v xT w
theorem Ybaf.noAsW (v : Value) (xT : TypeId) (w : World) : (Instr.typeAssert (.iface 118 v) xT 138 true).run Ybaf.prog w = .ok (.tuple #[.nilIface, .bool false]) w := run_typeAssert_lacksB Ybaf.underlying138 (by kernel_rfl) (by kernel_rfl) v xT w

/-- errors.Is(e, x), e a *fmt.wrapError that wraps x itself: one Unwrap, then equal. -/
theorem is_wrap_same (pb po : Nat) (b : Addr) (w : World) (h1 : w.cell? ⟨pb, po + 1, none⟩ = some (.iface 133 (.pointer (some b)))) :
    Calls Ybaf.prog 7 #[.iface 118 (.pointer (some ⟨pb, po, none⟩)), .iface 133 (.pointer (some b))] w fun e w' => e = .returned (.bool true) ∧ w' = w := by
  obtain ⟨i, hi, hcmp⟩ := Option.map_eq_some_iff.1 Ybaf.isComp
  obtain ⟨j, hj, hjs⟩ := Option.map_eq_some_iff.1 Ybaf.isSize
  have h12 := @run_callFunc_extern Ybaf.prog 12 _ Extern.ReflectliteType.typeOf Ybaf.func12 (by kernel_rfl) (by kernel_rfl) (by kernel_rfl) (by kernel_rfl)
  have h79 := @run_callFunc_extern Ybaf.prog 79 _ cmpEntry Ybaf.func79 (by kernel_rfl) (by kernel_rfl) (by kernel_rfl) (by kernel_rfl)
  have tT := Ybaf.isTypeOf
  have cT := Ybaf.isComparable
  have mR := Ybaf.isMethodComparable
  have nE := Ybaf.noIsE
  have uE := Ybaf.noUnwrapE
  have vE := Ybaf.noUnwrapsE
  have nW := Ybaf.noIsW
  have uW := Ybaf.hasUnwrapW
  have mU := Ybaf.methodUnwrap
  have heq := run_eql_iface_ptr_same (P := Ybaf.prog) w b Ybaf.underlying62 Ybaf.underlying133 hi hcmp hj
  have hty := run_eql_iface_types (P := Ybaf.prog) 118 133 (.pointer (some ⟨pb, po, none⟩)) (.pointer (some b)) Ybaf.underlying62 (by decide) w
  go_enter Ybaf.func7, Ybaf.ntmps7
  go_wp2
  refine wp_loop_rounds 2 ?_
  rw [rounds_succ]
  go_wp2
  rw [rounds_succ]
  go_wp2
  go_ret
  exact ⟨rfl, rfl⟩

/-! ### errors.As -/
theorem Ybaf.valueOf96 (t : Addr) (w : World) : (ReflectliteValue.unpack (.iface 96 (.pointer (some t)))).run Ybaf.prog w
    = .ok (.agg #[.pointer (some ⟨3, 96, none⟩), .pointer (some ⟨w.heap.size, 0, none⟩), .int .u64 150]) (w.alloc (.cells #[.pointer (some t)] 96)) := by kernel_rfl
theorem Ybaf.type96 (a : Addr) (w : World) : (ReflectliteValue.methodAny (ReflectliteValue.valueError "reflectlite.Value.Type" 0) (fun t _ _ _ => ReflectliteType.toType t) #[.agg #[.pointer (some ⟨3, 96, none⟩), .pointer (some a), .int .u64 150]]).run Ybaf.prog w
    = .ok (.iface 99 (.agg #[.pointer (some ⟨3, 96, none⟩)])) w := by kernel_rfl
theorem Ybaf.methodKind (h : Value) (w : World) : (Go.method 320 99 (.agg #[h]) "Kind").run Ybaf.prog w = .ok (56, h) w := by kernel_rfl
/-- The model's entry for (abi.Type).Kind. -/
def kindEntry : Array Value → Sem Value := ReflectliteType.abiMethod fun t => do pure (.int .u8 (← Rtype.kind t))
theorem Ybaf.kind96 (w : World) : (kindEntry #[.pointer (some ⟨3, 96, none⟩)]).run Ybaf.prog w = .ok (.int .u8 22) w := by kernel_rfl
theorem Ybaf.kind69 (w : World) : (kindEntry #[.pointer (some ⟨3, 69, none⟩)]).run Ybaf.prog w = .ok (.int .u8 22) w := by kernel_rfl
theorem rlm (z : Sem Value) (f : TypeId → Addr → Nat → Nat → Sem Value) (v : Value) :
    ReflectliteValue.method z f #[v] = (do match ← ReflectliteValue.parts v with | none => z | some (t, a, fl) => f t a fl (fl % 32)) := rfl
theorem Ybaf.parts96 (a : Addr) (w : World) : (ReflectliteValue.parts (.agg #[.pointer (some ⟨3, 96, none⟩), .pointer (some a), .int .u64 150])).run Ybaf.prog w = .ok (some (96, a, 150)) w := by kernel_rfl
/-- (Value).IsNil at the Value of a **pathError that is not nil. -/
theorem Ybaf.isNil96 (a p : Addr) (W : World) (ha : W.cell? a = some (.pointer (some p))) :
    (ReflectliteValue.method (ReflectliteValue.valueError "reflectlite.Value.IsNil" 0) ReflectliteValue.isNil #[.agg #[.pointer (some ⟨3, 96, none⟩), .pointer (some a), .int .u64 150]]).run Ybaf.prog W = .ok (.bool false) W := by
  rw [rlm]
  simp only [Sem.run_bind, Ybaf.parts96, Result.andThen]
  simp [ReflectliteValue.isNil, loadVar, isAgg, underlying, Ybaf.underlying96, ha, Result.andThen]
theorem Ybaf.methodElem (h : Value) (w : World) : (Go.method 320 99 (.agg #[h]) "Elem").run Ybaf.prog w = .ok (80, .agg #[h]) w := by kernel_rfl
theorem Ybaf.methodImplements (h : Value) (w : World) : (Go.method 320 99 (.agg #[h]) "Implements").run Ybaf.prog w = .ok (81, .agg #[h]) w := by kernel_rfl
theorem Ybaf.methodAssignableTo (h : Value) (w : World) : (Go.method 320 99 (.agg #[h]) "AssignableTo").run Ybaf.prog w = .ok (78, .agg #[h]) w := by kernel_rfl
theorem Ybaf.elem96 (w : World) : (ReflectliteType.method ReflectliteType.elem #[.agg #[.pointer (some ⟨3, 96, none⟩)]]).run Ybaf.prog w = .ok (.iface 99 (.agg #[.pointer (some ⟨3, 69, none⟩)])) w := by kernel_rfl
theorem Ybaf.implements69 (w : World) : (ReflectliteType.relation "Implements" ReflectliteType.implements_ #[.agg #[.pointer (some ⟨3, 69, none⟩)], .iface 99 (.agg #[.pointer (some ⟨3, 62, none⟩)])]).run Ybaf.prog w = .ok (.bool true) w := by kernel_rfl
theorem Ybaf.typeOf118 (v : Value) (w : World) : (ReflectliteType.typeOf #[.iface 118 v]).run Ybaf.prog w = .ok (.iface 99 (.agg #[.pointer (some ⟨3, 118, none⟩)])) w := by kernel_rfl
theorem Ybaf.assignable118 (w : World) : (ReflectliteType.relation "AssignableTo" ReflectliteType.assignableTo #[.agg #[.pointer (some ⟨3, 118, none⟩)], .iface 99 (.agg #[.pointer (some ⟨3, 69, none⟩)])]).run Ybaf.prog w = .ok (.bool false) w := by kernel_rfl
theorem Ybaf.assignable133 (w : World) : (ReflectliteType.relation "AssignableTo" ReflectliteType.assignableTo #[.agg #[.pointer (some ⟨3, 133, none⟩)], .iface 99 (.agg #[.pointer (some ⟨3, 69, none⟩)])]).run Ybaf.prog w = .ok (.bool false) w := by kernel_rfl

set_option maxHeartbeats 4000000 in
/-- errors.As(e, t), e a *fmt.wrapError that wraps an errors.errorString; t a **pathError: false; three new blocks. -/
theorem as_miss (pb po : Nat) (b t : Addr) (w : World) (hg : w.cell? ⟨2, 0, none⟩ = some (.iface 99 (.agg #[.pointer (some ⟨3, 62, none⟩)])))
    (h1 : w.cell? ⟨pb, po + 1, none⟩ = some (.iface 133 (.pointer (some b)))) :
    Calls Ybaf.prog 18 #[.iface 118 (.pointer (some ⟨pb, po, none⟩)), .iface 96 (.pointer (some t))] w fun ev w' => ev = .returned (.bool false) ∧ w' = ((w.alloc (.cells #[.pointer (some t)] 96)).alloc (.cells #[.pointer (some ⟨3, 96, none⟩), .pointer (some ⟨w.heap.size, 0, none⟩), .int .u64 150] 121)).alloc (.cells #[.pointer (some ⟨3, 96, none⟩), .pointer (some ⟨w.heap.size, 0, none⟩), .int .u64 150] 121) := by
  have h31 := @run_callFunc_extern Ybaf.prog 31 _ (fun args => ReflectliteValue.unpack (args.getD 0 (.tuple #[]))) Ybaf.func31 (by kernel_rfl) (by kernel_rfl) (by kernel_rfl) (by kernel_rfl)
  have h32 := @run_callFunc_extern Ybaf.prog 32 _ (ReflectliteValue.methodAny (ReflectliteValue.valueError "reflectlite.Value.Type" 0) (fun t _ _ _ => ReflectliteType.toType t)) Ybaf.func32 (by kernel_rfl) (by kernel_rfl) (by kernel_rfl) (by kernel_rfl)
  have h33 := @run_callFunc_extern Ybaf.prog 33 _ (ReflectliteValue.method (ReflectliteValue.valueError "reflectlite.Value.IsNil" 0) ReflectliteValue.isNil) Ybaf.func33 (by kernel_rfl) (by kernel_rfl) (by kernel_rfl) (by kernel_rfl)
  have h56 := @run_callFunc_extern Ybaf.prog 56 _ kindEntry Ybaf.func56 (by kernel_rfl) (by kernel_rfl) (by kernel_rfl) (by kernel_rfl)
  have h80 := @run_callFunc_extern Ybaf.prog 80 _ (ReflectliteType.method ReflectliteType.elem) Ybaf.func80 (by kernel_rfl) (by kernel_rfl) (by kernel_rfl) (by kernel_rfl)
  have h81 := @run_callFunc_extern Ybaf.prog 81 _ (ReflectliteType.relation "Implements" ReflectliteType.implements_) Ybaf.func81 (by kernel_rfl) (by kernel_rfl) (by kernel_rfl) (by kernel_rfl)
  have h12 := @run_callFunc_extern Ybaf.prog 12 _ ReflectliteType.typeOf Ybaf.func12 (by kernel_rfl) (by kernel_rfl) (by kernel_rfl) (by kernel_rfl)
  have h78 := @run_callFunc_extern Ybaf.prog 78 _ (ReflectliteType.relation "AssignableTo" ReflectliteType.assignableTo) Ybaf.func78 (by kernel_rfl) (by kernel_rfl) (by kernel_rfl) (by kernel_rfl)
  have tO := Ybaf.typeOf118
  have tE := Ybaf.isTypeOf
  have mA := Ybaf.methodAssignableTo
  have a118 := Ybaf.assignable118
  have a133 := Ybaf.assignable133
  have f31 := Ybaf.valueOf96
  have f32 := Ybaf.type96
  have mK := Ybaf.methodKind
  have mE := Ybaf.methodElem
  have mI := Ybaf.methodImplements
  have k96 := Ybaf.kind96
  have k69 := Ybaf.kind69
  have e96 := Ybaf.elem96
  have i69 := Ybaf.implements69
  have nAE := Ybaf.noAsE
  have nAW := Ybaf.noAsW
  have uE := Ybaf.noUnwrapE
  have vE := Ybaf.noUnwrapsE
  have uW := Ybaf.hasUnwrapW
  have mU := Ybaf.methodUnwrap
  have n33 := Ybaf.isNil96 ⟨w.heap.size, 0, none⟩ t ((w.alloc (.cells #[.pointer (some t)] 96)).alloc (.cells #[.pointer (some ⟨3, 96, none⟩), .pointer (some ⟨w.heap.size, 0, none⟩), .int .u64 150] 121)) (by simp)
  have hlt : 2 < w.heap.size := World.block_lt_of_cell? _ _ hg
  have hpl : pb < w.heap.size := World.block_lt_of_cell? _ _ h1
  have hg2 : ((w.alloc (.cells #[.pointer (some t)] 96)).alloc (.cells #[.pointer (some ⟨3, 96, none⟩), .pointer (some ⟨w.heap.size, 0, none⟩), .int .u64 150] 121)).cell? ⟨2, 0, none⟩ = some (.iface 99 (.agg #[.pointer (some ⟨3, 62, none⟩)])) := by
    rw [World.cell?_alloc_lt _ _ ⟨2, 0, none⟩ (by simp; omega), World.cell?_alloc_lt _ _ ⟨2, 0, none⟩ hlt]; exact hg
  have h13 : (((w.alloc (.cells #[.pointer (some t)] 96)).alloc (.cells #[.pointer (some ⟨3, 96, none⟩), .pointer (some ⟨w.heap.size, 0, none⟩), .int .u64 150] 121)).alloc (.cells #[.pointer (some ⟨3, 96, none⟩), .pointer (some ⟨w.heap.size, 0, none⟩), .int .u64 150] 121)).cell? ⟨pb, po + 1, none⟩ = some (.iface 133 (.pointer (some b))) := by
    rw [World.cell?_alloc_lt _ _ ⟨pb, po + 1, none⟩ (by simp; omega), World.cell?_alloc_lt _ _ ⟨pb, po + 1, none⟩ (by simp; omega), World.cell?_alloc_lt _ _ ⟨pb, po + 1, none⟩ hpl]; exact h1
  go_enter Ybaf.func18, Ybaf.ntmps18
  go_wp2
  refine wp_loop_rounds 2 ?_
  rw [rounds_succ]
  go_wp2
  rw [rounds_succ]
  go_wp2
  go_ret
  exact ⟨rfl, rfl⟩
end Go.Proofs.YbulkozgFmt
