/- errors.Is over sentinels of errors.New's make. After the worked text SentryIs. -/
import Derived.Test.YtjbeaofnnodlcaaGreatDoorWords
import Derived.LaidEql
import Derived.Stop.Asserts
import Derived.RowKitTokens
import Derived.LoopN
set_option linter.unusedVariables false
set_option linter.unusedSimpArgs false
set_option maxRecDepth 100000
namespace Go.Proofs.YtjbeaofnnodlcaaGreatDoor.X
open Go.RowKit Go.Extern.Stop Go.Stop Go.Extern
theorem isTypeOf (v : Value) (w : World) : (Extern.ReflectliteType.typeOf #[.iface 183 v]).run Tryz.prog w = .ok (.iface 217 (.agg #[.pointer (some ⟨10, 183, none⟩)])) w := by kernel_rfl
theorem isComparable (w : World) : ((Extern.ReflectliteType.method fun t => do Extern.Rtype.noPackHeld "Comparable" t; (fun a => Value.bool a.comparable) <$> typeInfo t) #[.agg #[.pointer (some ⟨10, 183, none⟩)]]).run Tryz.prog w = .ok (.bool true) w := by kernel_rfl
theorem isMethodComparable (v : Value) (w : World) : (Go.method (Tryz.prog.types.size + Made.depth) 217 v "Comparable").run Tryz.prog w = .ok (264, v) w := by kernel_rfl
theorem isComp : (Tryz.prog.info? 183).map (·.comparable) = some true := by kernel_rfl
theorem isSize : (Tryz.prog.info? 185).map (·.size) = some 1 := by kernel_rfl
theorem noIsE (v : Value) (xT : TypeId) (w : World) : (Instr.typeAssert (.iface 183 v) xT 219 true).run Tryz.prog w = .ok (.tuple #[.nilIface, .bool false]) w := run_typeAssert_lacksB Tryz.underlying219 (by kernel_rfl) (by kernel_rfl) v xT w
theorem noUnwrapE (v : Value) (xT : TypeId) (w : World) : (Instr.typeAssert (.iface 183 v) xT 222 true).run Tryz.prog w = .ok (.tuple #[.nilIface, .bool false]) w := run_typeAssert_lacksB Tryz.underlying222 (by kernel_rfl) (by kernel_rfl) v xT w
theorem noUnwrapsE (v : Value) (xT : TypeId) (w : World) : (Instr.typeAssert (.iface 183 v) xT 223 true).run Tryz.prog w = .ok (.tuple #[.nilIface, .bool false]) w := run_typeAssert_lacksB Tryz.underlying223 (by kernel_rfl) (by kernel_rfl) v xT w
/-- errors.Is(x, x), x a pointer to an errors.errorString. -/
theorem is_same (a : Addr) (w : World) :
    Calls Tryz.prog 64 #[.iface 183 (.pointer (some a)), .iface 183 (.pointer (some a))] w fun e w' => e = .returned (.bool true) ∧ w = w' := by
  obtain ⟨i, hi, hcmp⟩ := Option.map_eq_some_iff.1 isComp
  obtain ⟨j, hj, hjs⟩ := Option.map_eq_some_iff.1 isSize
  have h8 := @run_callFunc_extern Tryz.prog 121 _ Extern.ReflectliteType.typeOf Tryz.func121 (by kernel_rfl) (by kernel_rfl) (by kernel_rfl) (by kernel_rfl)
  have h32 := @run_callFunc_extern Tryz.prog 264 _ (Extern.ReflectliteType.method fun t => do Extern.Rtype.noPackHeld "Comparable" t; pure (.bool (← typeInfo t).comparable)) Tryz.func264 (by kernel_rfl) (by kernel_rfl) (by kernel_rfl) (by kernel_rfl)
  have tT := isTypeOf
  have cT := isComparable
  have mR := isMethodComparable
  have hsz : Tryz.prog.types.size + Made.depth = 408 := by kernel_rfl
  rw [hsz] at mR
  clear hsz
  have heq := run_eql_iface_ptr_same (P := Tryz.prog) w a Tryz.underlying52 Tryz.underlying183 hi hcmp hj
  go_enter Tryz.func64, Tryz.ntmps64
  go_wp2
  refine wp_loop_rounds 1 ?_
  rw [rounds_succ]
  go_wp2
  go_ret
  exact ⟨rfl, rfl⟩
/-- errors.Is(nil, x). -/
theorem is_nil (b : Addr) (w : World) :
    Calls Tryz.prog 64 #[.nilIface, .iface 183 (.pointer (some b))] w fun e w' => e = .returned (.bool false) ∧ w = w' := by
  have hn := run_eql_iface_nil_left (P := Tryz.prog) w 183 (.pointer (some b)) Tryz.underlying52
  go_enter Tryz.func64, Tryz.ntmps64
  go_wp2
  go_ret
  exact ⟨rfl, rfl⟩
/-- errors.Is(x, y), two different pointers to errors.errorString. -/
theorem is_other (a b : Addr) (ca cb : Array Value) (ta tb : TypeId) (w : World) (hne : a ≠ b) (ha : w.heap[a.block]? = some (.cells ca ta (0, 0))) (hb : w.heap[b.block]? = some (.cells cb tb (0, 0))) :
    Calls Tryz.prog 64 #[.iface 183 (.pointer (some a)), .iface 183 (.pointer (some b))] w fun e w' => e = .returned (.bool false) ∧ w = w' := by
  obtain ⟨i, hi, hcmp⟩ := Option.map_eq_some_iff.1 isComp
  obtain ⟨j, hj, hjs⟩ := Option.map_eq_some_iff.1 isSize
  have h8 := @run_callFunc_extern Tryz.prog 121 _ Extern.ReflectliteType.typeOf Tryz.func121 (by kernel_rfl) (by kernel_rfl) (by kernel_rfl) (by kernel_rfl)
  have h32 := @run_callFunc_extern Tryz.prog 264 _ (Extern.ReflectliteType.method fun t => do Extern.Rtype.noPackHeld "Comparable" t; pure (.bool (← typeInfo t).comparable)) Tryz.func264 (by kernel_rfl) (by kernel_rfl) (by kernel_rfl) (by kernel_rfl)
  have tT := isTypeOf
  have cT := isComparable
  have mR := isMethodComparable
  have hsz : Tryz.prog.types.size + Made.depth = 408 := by kernel_rfl
  rw [hsz] at mR
  clear hsz
  have nE := noIsE
  have uE := noUnwrapE
  have vE := noUnwrapsE
  have heq := run_eql_iface_ptr_other (P := Tryz.prog) w Tryz.underlying52 Tryz.underlying183 hi hcmp hj (by rw [hjs]; decide) hne ha hb
  go_enter Tryz.func64, Tryz.ntmps64
  go_wp2
  refine wp_loop_rounds 1 ?_
  rw [rounds_succ]
  go_wp2
  go_ret
  exact ⟨rfl, rfl⟩
end Go.Proofs.YtjbeaofnnodlcaaGreatDoor.X
