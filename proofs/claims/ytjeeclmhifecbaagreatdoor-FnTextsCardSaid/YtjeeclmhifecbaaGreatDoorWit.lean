/-
  One world and one call that fit the row: the listed tables laid as their initialisers lay them, the argument the empty value. No condition.
-/
import Derived.Test.YtjeeclmhifecbaaGreatDoorRows
import Derived.ProofKit
import Derived.OpenShut
import Derived.LaidMore
import Derived.Lay
import Derived.LaidOnce
import Derived.SevenTiedAt
import Derived.Stop.LaidErr
namespace Go.Proofs.YtjeeclmhifecbaaGreatDoor
open Go.RowKit
set_option linter.unusedVariables false
/-- The empty value. -/
def witArgs : Array Value := #[.agg #[.int .i64 0, .bool false, .int .i64 0, .string ByteArray.empty, .slice none 0 0, .slice none 0 0]]
/-- The world in which the listed tables are laid. -/
noncomputable def witWorld (os : Os) : World := World.laidAll Tryz.prog os Rows.fnTextsRow.laid
set_option maxRecDepth 100000 in
theorem witShaped (os : Os) : ((witWorld os).forCall (fun _ _ => 0) ⟨#[], witArgs, []⟩).Shaped Tryz.checked.prog := World.shaped_of_ZipB (by kernel_rfl) (by kernel_rfl)
set_option maxRecDepth 100000 in
theorem witLaid (os : Os) : laidMetH Tryz.prog Rows.fnTextsRow.laid ((witWorld os).forCall (fun _ _ => 0) ⟨#[], witArgs, []⟩).memory := by
  rw [MakeChecks.laidMetH_plain _ _ _ (by kernel_rfl)]
  exact laidMet_laidAll _ (by kernel_rfl) (by kernel_rfl)
set_option maxRecDepth 100000 in
theorem witOk (os : Os) : Input.okWideB Tryz.checked.prog ((witWorld os).forCall (fun _ _ => 0) ⟨#[], witArgs, []⟩) 3 ⟨#[], witArgs, []⟩ = true := by kernel_rfl
set_option maxRecDepth 100000 in
theorem witPre (os : Os) (H : Type) (enc : TypeId × Value → H) : Rows.fnTextsSpec.preB enc Tryz.checked.prog Tryz.f3 [] false ((witWorld os).forCall (fun _ _ => 0) ⟨#[], witArgs, []⟩).memory witArgs 8 = true := by kernel_rfl
set_option maxRecDepth 100000 in
theorem witSized (os : Os) (H : Type) (enc : TypeId × Value → H) : Rows.fnTextsSpec.sizedB enc Tryz.checked.prog Tryz.f3 false ((witWorld os).forCall (fun _ _ => 0) ⟨#[], witArgs, []⟩).memory witArgs 8 = true := by kernel_rfl
end Go.Proofs.YtjeeclmhifecbaaGreatDoor
