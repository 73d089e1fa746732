/-
  rfValue.Int, Bool, String and Len, rfKind.String and logf at plain data. Condition of Len at a map: the block is that map.
-/
import Derived.Test.YtjeeclmhifecbaaGreatDoorE2
namespace Go.Proofs.YtjeeclmhifecbaaGreatDoor
open Go.RowKit Go.Proofs.YtjeeclmhifecbaaGreatDoorW.PrintWords
attribute [local go_sem] as4_4 as3_4 as3_3 as9_4 as9_3 as9_2 as9_5 as9_55 as9_57 as9_9 as41_4 as41_3 as41_2 as41_5 as41_55 as41_57 as41_9 as41_41 as41_66 as41_23 as41_67 as42_4 as42_3 as42_2 as42_5 as42_55 as42_57 as42_9 as42_41 as42_66 as42_23 as42_67 as42_42 as42_68 as4_4p as4_61 as3_61 as9_61 as41_61 as42_61
set_option linter.unusedVariables false
set_option linter.unusedSimpArgs false
set_option maxRecDepth 100000 in
theorem rfInt_ok (n : Int) (ok el : Bool) (w : World) :
    Calls Tryz.prog 25 #[.agg #[.iface 3 (.int .i64 n), .bool ok, .bool el]] w fun e w' => e = .returned (.int .i64 n) ∧ Below w.heap.size w w' := by
  go_enter Tryz.func25, Tryz.ntmps25
  go_wp2
  go_ret
  exact ⟨rfl, by go_grown⟩
set_option maxRecDepth 100000 in
theorem rfBool_ok (b : Bool) (ok el : Bool) (w : World) :
    Calls Tryz.prog 29 #[.agg #[.iface 4 (.bool b), .bool ok, .bool el]] w fun e w' => e = .returned (.bool b) ∧ Below w.heap.size w w' := by
  go_enter Tryz.func29, Tryz.ntmps29
  go_wp2
  go_ret
  exact ⟨rfl, by go_grown⟩
set_option maxRecDepth 100000 in
theorem rfString_ok (s : ByteArray) (ok el : Bool) (w : World) :
    Calls Tryz.prog 35 #[.agg #[.iface 9 (.string s), .bool ok, .bool el]] w fun e w' => e = .returned (.string s) ∧ Below w.heap.size w w' := by
  go_enter Tryz.func35, Tryz.ntmps35
  go_wp2
  go_ret
  exact ⟨rfl, by go_grown⟩
set_option maxRecDepth 100000 in
theorem rfLen_text (s : ByteArray) (ok el : Bool) (w : World) :
    Calls Tryz.prog 28 #[.agg #[.iface 9 (.string s), .bool ok, .bool el]] w fun e w' => e = .returned (.int .i64 s.size) ∧ Below w.heap.size w w' := by
  go_enter Tryz.func28, Tryz.ntmps28
  go_wp2
  go_ret
  exact ⟨rfl, by go_grown⟩
set_option maxRecDepth 100000 in
theorem rfLen_list (A : Option Addr) (n c : Nat) (ok el : Bool) (w : World) :
    Calls Tryz.prog 28 #[.agg #[.iface 41 (.slice A n c), .bool ok, .bool el]] w fun e w' => e = .returned (.int .i64 n) ∧ Below w.heap.size w w' := by
  go_enter Tryz.func28, Tryz.ntmps28
  go_wp2
  go_ret
  exact ⟨rfl, by go_grown⟩
set_option maxRecDepth 100000 in
theorem rfLen_dict (r : Nat) (es : Array MapEntry) (clock : Nat) (ok el : Bool) (w : World) (hr : w.heap[r]? = some (.map es clock)) :
    Calls Tryz.prog 28 #[.agg #[.iface 42 (.map (some r)), .bool ok, .bool el]] w fun e w' => e = .returned (.int .i64 es.size) ∧ Below w.heap.size w w' := by
  have hr1 : ∀ o, (w.alloc o).heap[r]? = some (.map es clock) := fun o => blk_alloc hr o
  have hlen : ∀ o, (Builtin.len_ #[42] 3 #[.map (some r)]).run Tryz.prog (w.alloc o) = .ok (.int .i64 es.size) (w.alloc o) := fun o => run_len_map _ 42 3 r es clock (by kernel_rfl) (hr1 o)
  go_enter Tryz.func28, Tryz.ntmps28
  go_wp2
  go_ret
  exact ⟨rfl, by go_grown⟩
theorem kindName (k : Int) (w : World) :
    Calls Tryz.prog 31 #[.int .u64 k] w fun e w' => e = .returned (.string ⟨#[107, 105, 110, 100]⟩) ∧ Below w.heap.size w w' := by
  go_enter Tryz.func31, Tryz.ntmps31
  go_wp2
  go_ret
  exact ⟨rfl, by go_grown⟩
theorem logf_any (s : Value) (a : Value) (w : World) :
    Calls Tryz.prog 30 #[s, a] w fun e w' => e = .returned (.tuple #[]) ∧ Below w.heap.size w w' := by
  go_enter Tryz.func30, Tryz.ntmps30
  go_wp2
  go_end0
  exact ⟨rfl, by go_grown⟩
end Go.Proofs.YtjeeclmhifecbaaGreatDoor
