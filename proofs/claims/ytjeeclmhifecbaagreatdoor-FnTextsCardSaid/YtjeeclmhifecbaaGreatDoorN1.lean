/-
  plain at nothing, a truth value, a whole number and a text. No condition.
-/
import Derived.Test.YtjeeclmhifecbaaGreatDoorV2
import Derived.Deep.LoopGhost
import Derived.LoopTactic
import Derived.OwnWalk
import Derived.Maps.Own
import Derived.Maps.OwnSet
namespace Go.Proofs.YtjeeclmhifecbaaGreatDoor
open Go.RowKit Go.Proofs.YtjeeclmhifecbaaGreatDoorW.PrintWords PFnTexts
set_option linter.unusedVariables false
set_option linter.unusedSimpArgs false
set_option maxRecDepth 100000 in
theorem plain_0 (c : Bool) (n : Int) (s : ByteArray) (A4 : Option Addr) (n4 c4 : Nat) (A5 : Option Addr) (n5 c5 : Nat) (w : World) :
    Calls Tryz.prog 14 #[.agg #[.int .i64 0, .bool c, .int .i64 n, .string s, .slice A4 n4 c4, .slice A5 n5 c5]] w fun e w' => e = .returned (.nilIface) ∧ Below w.heap.size w w' := by
  go_enter Tryz.func14, Tryz.ntmps14
  go_wp2
  go_ret
  exact ⟨rfl, by go_grown⟩
set_option maxRecDepth 100000 in
theorem plain_1 (c : Bool) (n : Int) (s : ByteArray) (A4 : Option Addr) (n4 c4 : Nat) (A5 : Option Addr) (n5 c5 : Nat) (w : World) :
    Calls Tryz.prog 14 #[.agg #[.int .i64 1, .bool c, .int .i64 n, .string s, .slice A4 n4 c4, .slice A5 n5 c5]] w fun e w' => e = .returned (.iface 4 (.bool c)) ∧ Below w.heap.size w w' := by
  go_enter Tryz.func14, Tryz.ntmps14
  go_wp2
  go_ret
  exact ⟨rfl, by go_grown⟩
set_option maxRecDepth 100000 in
theorem plain_2 (c : Bool) (n : Int) (s : ByteArray) (A4 : Option Addr) (n4 c4 : Nat) (A5 : Option Addr) (n5 c5 : Nat) (w : World) (h0 : -9223372036854775808 ≤ n) (h1 : n ≤ 9223372036854775807) :
    Calls Tryz.prog 14 #[.agg #[.int .i64 2, .bool c, .int .i64 n, .string s, .slice A4 n4 c4, .slice A5 n5 c5]] w fun e w' => e = .returned (.iface 3 (.int .i64 n)) ∧ Below w.heap.size w w' := by
  go_enter Tryz.func14, Tryz.ntmps14
  go_wp2
  go_ret
  exact ⟨rfl, by go_grown⟩
set_option maxRecDepth 100000 in
theorem plain_3 (c : Bool) (n : Int) (s : ByteArray) (A4 : Option Addr) (n4 c4 : Nat) (A5 : Option Addr) (n5 c5 : Nat) (w : World) :
    Calls Tryz.prog 14 #[.agg #[.int .i64 3, .bool c, .int .i64 n, .string s, .slice A4 n4 c4, .slice A5 n5 c5]] w fun e w' => e = .returned (.iface 9 (.string s)) ∧ Below w.heap.size w w' := by
  go_enter Tryz.func14, Tryz.ntmps14
  go_wp2
  go_ret
  exact ⟨rfl, by go_grown⟩
end Go.Proofs.YtjeeclmhifecbaaGreatDoor
