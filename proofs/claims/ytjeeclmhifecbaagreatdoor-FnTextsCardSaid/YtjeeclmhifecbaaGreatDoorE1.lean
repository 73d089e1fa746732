/-
  The type assertions that the law comes to, at the five dynamic types of plain data; rfValue.IsValid, Interface and Kind answer as they are written. No condition.
-/
import Derived.Test.YtjeeclmhifecbaaGreatDoorProg
import Derived.Handy
import Derived.WalkLawsBesides
import Derived.WalkSpells
import Derived.Stop.Asserts
namespace Go.Proofs.YtjeeclmhifecbaaGreatDoor
open Go.RowKit
set_option linter.unusedVariables false
set_option linter.unusedSimpArgs false
theorem as4_4 (v : Value) (w : World) : (Instr.typeAssert (.iface 4 v) 20 4 true).run Tryz.prog w = .ok (.tuple #[v, .bool true]) w := by kernel_rfl
theorem as3_4 (v : Value) (w : World) : (Instr.typeAssert (.iface 3 v) 20 4 true).run Tryz.prog w = .ok (.tuple #[.bool false, .bool false]) w := by kernel_rfl
theorem as3_3 (v : Value) (w : World) : (Instr.typeAssert (.iface 3 v) 20 3 true).run Tryz.prog w = .ok (.tuple #[v, .bool true]) w := by kernel_rfl
theorem as9_4 (v : Value) (w : World) : (Instr.typeAssert (.iface 9 v) 20 4 true).run Tryz.prog w = .ok (.tuple #[.bool false, .bool false]) w := by kernel_rfl
theorem as9_3 (v : Value) (w : World) : (Instr.typeAssert (.iface 9 v) 20 3 true).run Tryz.prog w = .ok (.tuple #[.int .i64 0, .bool false]) w := by kernel_rfl
theorem as9_2 (v : Value) (w : World) : (Instr.typeAssert (.iface 9 v) 20 2 true).run Tryz.prog w = .ok (.tuple #[.int .i64 0, .bool false]) w := by kernel_rfl
theorem as9_5 (v : Value) (w : World) : (Instr.typeAssert (.iface 9 v) 20 5 true).run Tryz.prog w = .ok (.tuple #[.int .u8 0, .bool false]) w := by kernel_rfl
theorem as9_55 (v : Value) (w : World) : (Instr.typeAssert (.iface 9 v) 20 55 true).run Tryz.prog w = .ok (.tuple #[.int .u64 0, .bool false]) w := by kernel_rfl
theorem as9_57 (v : Value) (w : World) : (Instr.typeAssert (.iface 9 v) 20 57 true).run Tryz.prog w = .ok (.tuple #[.float .f64 0, .bool false]) w := by kernel_rfl
theorem as9_9 (v : Value) (w : World) : (Instr.typeAssert (.iface 9 v) 20 9 true).run Tryz.prog w = .ok (.tuple #[v, .bool true]) w := by kernel_rfl
theorem as41_4 (v : Value) (w : World) : (Instr.typeAssert (.iface 41 v) 20 4 true).run Tryz.prog w = .ok (.tuple #[.bool false, .bool false]) w := by kernel_rfl
theorem as41_3 (v : Value) (w : World) : (Instr.typeAssert (.iface 41 v) 20 3 true).run Tryz.prog w = .ok (.tuple #[.int .i64 0, .bool false]) w := by kernel_rfl
theorem as41_2 (v : Value) (w : World) : (Instr.typeAssert (.iface 41 v) 20 2 true).run Tryz.prog w = .ok (.tuple #[.int .i64 0, .bool false]) w := by kernel_rfl
theorem as41_5 (v : Value) (w : World) : (Instr.typeAssert (.iface 41 v) 20 5 true).run Tryz.prog w = .ok (.tuple #[.int .u8 0, .bool false]) w := by kernel_rfl
theorem as41_55 (v : Value) (w : World) : (Instr.typeAssert (.iface 41 v) 20 55 true).run Tryz.prog w = .ok (.tuple #[.int .u64 0, .bool false]) w := by kernel_rfl
theorem as41_57 (v : Value) (w : World) : (Instr.typeAssert (.iface 41 v) 20 57 true).run Tryz.prog w = .ok (.tuple #[.float .f64 0, .bool false]) w := by kernel_rfl
theorem as41_9 (v : Value) (w : World) : (Instr.typeAssert (.iface 41 v) 20 9 true).run Tryz.prog w = .ok (.tuple #[.string ByteArray.empty, .bool false]) w := by kernel_rfl
theorem as41_41 (v : Value) (w : World) : (Instr.typeAssert (.iface 41 v) 20 41 true).run Tryz.prog w = .ok (.tuple #[v, .bool true]) w := by kernel_rfl
theorem as41_66 (v : Value) (w : World) : (Instr.typeAssert (.iface 41 v) 20 66 true).run Tryz.prog w = .ok (.tuple #[.slice none 0 0, .bool false]) w := by kernel_rfl
theorem as41_23 (v : Value) (w : World) : (Instr.typeAssert (.iface 41 v) 20 23 true).run Tryz.prog w = .ok (.tuple #[.slice none 0 0, .bool false]) w := by kernel_rfl
theorem as41_67 (v : Value) (w : World) : (Instr.typeAssert (.iface 41 v) 20 67 true).run Tryz.prog w = .ok (.tuple #[.slice none 0 0, .bool false]) w := by kernel_rfl
theorem as42_4 (v : Value) (w : World) : (Instr.typeAssert (.iface 42 v) 20 4 true).run Tryz.prog w = .ok (.tuple #[.bool false, .bool false]) w := by kernel_rfl
theorem as42_3 (v : Value) (w : World) : (Instr.typeAssert (.iface 42 v) 20 3 true).run Tryz.prog w = .ok (.tuple #[.int .i64 0, .bool false]) w := by kernel_rfl
theorem as42_2 (v : Value) (w : World) : (Instr.typeAssert (.iface 42 v) 20 2 true).run Tryz.prog w = .ok (.tuple #[.int .i64 0, .bool false]) w := by kernel_rfl
theorem as42_5 (v : Value) (w : World) : (Instr.typeAssert (.iface 42 v) 20 5 true).run Tryz.prog w = .ok (.tuple #[.int .u8 0, .bool false]) w := by kernel_rfl
theorem as42_55 (v : Value) (w : World) : (Instr.typeAssert (.iface 42 v) 20 55 true).run Tryz.prog w = .ok (.tuple #[.int .u64 0, .bool false]) w := by kernel_rfl
theorem as42_57 (v : Value) (w : World) : (Instr.typeAssert (.iface 42 v) 20 57 true).run Tryz.prog w = .ok (.tuple #[.float .f64 0, .bool false]) w := by kernel_rfl
theorem as42_9 (v : Value) (w : World) : (Instr.typeAssert (.iface 42 v) 20 9 true).run Tryz.prog w = .ok (.tuple #[.string ByteArray.empty, .bool false]) w := by kernel_rfl
theorem as42_41 (v : Value) (w : World) : (Instr.typeAssert (.iface 42 v) 20 41 true).run Tryz.prog w = .ok (.tuple #[.slice none 0 0, .bool false]) w := by kernel_rfl
theorem as42_66 (v : Value) (w : World) : (Instr.typeAssert (.iface 42 v) 20 66 true).run Tryz.prog w = .ok (.tuple #[.slice none 0 0, .bool false]) w := by kernel_rfl
theorem as42_23 (v : Value) (w : World) : (Instr.typeAssert (.iface 42 v) 20 23 true).run Tryz.prog w = .ok (.tuple #[.slice none 0 0, .bool false]) w := by kernel_rfl
theorem as42_67 (v : Value) (w : World) : (Instr.typeAssert (.iface 42 v) 20 67 true).run Tryz.prog w = .ok (.tuple #[.slice none 0 0, .bool false]) w := by kernel_rfl
theorem as42_42 (v : Value) (w : World) : (Instr.typeAssert (.iface 42 v) 20 42 true).run Tryz.prog w = .ok (.tuple #[v, .bool true]) w := by kernel_rfl
theorem as42_68 (v : Value) (w : World) : (Instr.typeAssert (.iface 42 v) 20 68 true).run Tryz.prog w = .ok (.tuple #[.map none, .bool false]) w := by kernel_rfl
theorem as4_4p (v : Value) (w : World) : (Instr.typeAssert (.iface 4 v) 20 4 false).run Tryz.prog w = .ok v w := by kernel_rfl
theorem as4_61 (v : Value) (w : World) : (Instr.typeAssert (.iface 4 v) 20 61 true).run Tryz.prog w = .ok (.tuple #[.nilIface, .bool false]) w := run_typeAssert_lacksB Tryz.underlying61 (by kernel_rfl) (by kernel_rfl) v 20 w
theorem as3_61 (v : Value) (w : World) : (Instr.typeAssert (.iface 3 v) 20 61 true).run Tryz.prog w = .ok (.tuple #[.nilIface, .bool false]) w := run_typeAssert_lacksB Tryz.underlying61 (by kernel_rfl) (by kernel_rfl) v 20 w
theorem as9_61 (v : Value) (w : World) : (Instr.typeAssert (.iface 9 v) 20 61 true).run Tryz.prog w = .ok (.tuple #[.nilIface, .bool false]) w := run_typeAssert_lacksB Tryz.underlying61 (by kernel_rfl) (by kernel_rfl) v 20 w
theorem as41_61 (v : Value) (w : World) : (Instr.typeAssert (.iface 41 v) 20 61 true).run Tryz.prog w = .ok (.tuple #[.nilIface, .bool false]) w := run_typeAssert_lacksB Tryz.underlying61 (by kernel_rfl) (by kernel_rfl) v 20 w
theorem as42_61 (v : Value) (w : World) : (Instr.typeAssert (.iface 42 v) 20 61 true).run Tryz.prog w = .ok (.tuple #[.nilIface, .bool false]) w := run_typeAssert_lacksB Tryz.underlying61 (by kernel_rfl) (by kernel_rfl) v 20 w
attribute [local go_sem] as4_4 as3_4 as3_3 as9_4 as9_3 as9_2 as9_5 as9_55 as9_57 as9_9 as41_4 as41_3 as41_2 as41_5 as41_55 as41_57 as41_9 as41_41 as41_66 as41_23 as41_67 as42_4 as42_3 as42_2 as42_5 as42_55 as42_57 as42_9 as42_41 as42_66 as42_23 as42_67 as42_42 as42_68 as4_4p as4_61 as3_61 as9_61 as41_61 as42_61

theorem isValid_any (x : Value) (ok el : Bool) (w : World) :
    Calls Tryz.prog 39 #[.agg #[x, .bool ok, .bool el]] w fun e w' => e = .returned (.bool ok) ∧ Below w.heap.size w w' := by
  go_enter Tryz.func39, Tryz.ntmps39
  go_wp2
  go_ret
  exact ⟨rfl, by go_grown⟩

theorem iface_any (x : Value) (ok el : Bool) (w : World) :
    Calls Tryz.prog 45 #[.agg #[x, .bool ok, .bool el]] w fun e w' => e = .returned x ∧ Below w.heap.size w w' := by
  go_enter Tryz.func45, Tryz.ntmps45
  go_wp2
  go_ret
  exact ⟨rfl, by go_grown⟩
theorem kind_nil (x : Value) (el : Bool) (w : World) :
    Calls Tryz.prog 24 #[.agg #[x, .bool false, .bool el]] w fun e w' => e = .returned (.int .u64 0) ∧ Below w.heap.size w w' := by
  go_enter Tryz.func24, Tryz.ntmps24
  go_wp2
  go_ret
  exact ⟨rfl, by go_grown⟩
set_option maxRecDepth 100000 in
theorem kind_4 (b : Bool) (el : Bool) (w : World) :
    Calls Tryz.prog 24 #[.agg #[.iface 4 (.bool b), .bool true, .bool el]] w fun e w' => e = .returned (.int .u64 1) ∧ Below w.heap.size w w' := by
  go_enter Tryz.func24, Tryz.ntmps24
  go_wp2
  go_ret
  exact ⟨rfl, by go_grown⟩
set_option maxRecDepth 100000 in
theorem kind_3 (n : Int) (el : Bool) (w : World) :
    Calls Tryz.prog 24 #[.agg #[.iface 3 (.int .i64 n), .bool true, .bool el]] w fun e w' => e = .returned (.int .u64 2) ∧ Below w.heap.size w w' := by
  go_enter Tryz.func24, Tryz.ntmps24
  go_wp2
  go_ret
  exact ⟨rfl, by go_grown⟩
set_option maxRecDepth 100000 in
theorem kind_9 (s : ByteArray) (el : Bool) (w : World) :
    Calls Tryz.prog 24 #[.agg #[.iface 9 (.string s), .bool true, .bool el]] w fun e w' => e = .returned (.int .u64 14) ∧ Below w.heap.size w w' := by
  go_enter Tryz.func24, Tryz.ntmps24
  go_wp2
  go_ret
  exact ⟨rfl, by go_grown⟩
set_option maxRecDepth 100000 in
theorem kind_41 (A : Option Addr) (n c : Nat) (el : Bool) (w : World) :
    Calls Tryz.prog 24 #[.agg #[.iface 41 (.slice A n c), .bool true, .bool el]] w fun e w' => e = .returned (.int .u64 16) ∧ Below w.heap.size w w' := by
  go_enter Tryz.func24, Tryz.ntmps24
  go_wp2
  go_ret
  exact ⟨rfl, by go_grown⟩
set_option maxRecDepth 100000 in
theorem kind_42 (r : Option Nat) (el : Bool) (w : World) :
    Calls Tryz.prog 24 #[.agg #[.iface 42 (.map r), .bool true, .bool el]] w fun e w' => e = .returned (.int .u64 18) ∧ Below w.heap.size w w' := by
  go_enter Tryz.func24, Tryz.ntmps24
  go_wp2
  go_ret
  exact ⟨rfl, by go_grown⟩
end Go.Proofs.YtjeeclmhifecbaaGreatDoor
