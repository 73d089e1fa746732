/-
  laws.FnTexts returns true for every value and leaves it as it was: the values' texts and truth are those that the documentation tells. Conditions: the listed tables of Go's library read as their initialisers lay them, which the card ties to the program's text.
-/
import Derived.Test.YtjeeclmhifecbaaGreatDoorL1
import Derived.Test.YtjeeclmhifecbaaGreatDoorRows
import Derived.Test.YtjeeclmhifecbaaGreatDoorWit
import Derived.WalkKit
import Derived.ProofKit
import Derived.OpenShut
import Derived.LaidMore
import Derived.Lay
import Derived.LaidOnce
import Derived.SevenTiedAt
import Derived.Stop.LaidErr
import Derived.Lib.LaidTab
namespace Go.Proofs.YtjeeclmhifecbaaGreatDoor
open Go.RowKit Go.ChangeShapes Go.WideShapes Go.ChangeAt PFnTexts
set_option linter.unusedVariables false
theorem own : ownKnob Tryz.prog.godebug = none := by kernel_rfl
theorem laidOut : laidOutB Tryz.prog = true := by kernel_rfl
theorem powData : (Rows.laid_internal_strconv_uint64pow10 : DataW Unit) = Lib.tabData .u64 Lib.pow10Tab := by kernel_rfl
theorem tab_of {W : World} (h : laidMet Tryz.prog Rows.fnTextsRow.laid W) : Tab W := by
  have h3 := h.tail.tail.tail
  unfold Rows.fnTextsRow at h3
  rw [powData] at h3
  exact Lib.tabIs_of_head (g := 0) (t := 94) (e := 55) (n := 20) (by kernel_rfl) (by kernel_rfl) Tryz.underlying94 Tryz.underlying55 (by kernel_rfl) (by kernel_rfl) h3
theorem law (y : S25) (A4 : Option Addr) (c4 : Nat) (A5 : Option Addr) (c5 : Nat) (w : World) (h : In w y A4 c4 A5 c5) (ht : Tab w) :
    Calls Tryz.prog 3 #[.agg #[.int .i64 y.f0, .bool y.f1, .int .i64 y.f2, .string y.f3, .slice A4 y.f4.length c4, .slice A5 y.f5.length c5]] w fun e w' => e = .returned (.bool true) ∧ Below w.heap.size w w' := by
  cases hv : val 5 y with
  | false => exact law_no y A4 c4 A5 c5 w h hv
  | true => exact law_yes y A4 c4 A5 c5 w h hv ht

set_option maxRecDepth 100000 in
theorem lifted (os : Os) (started : os.Started) (H : Type) (enc : TypeId × Value → H) :
    ReturnsInHanded {} Tryz.checked os 3 .any (fun w args => (Rows.fnTextsSpec.pre enc Tryz.prog Tryz.f3 [] false w args ∧ laidMetH Tryz.prog Rows.fnTextsRow.laid w) ∧ sizedMet enc Tryz.prog Tryz.f3 (OpenSpec.ofChange Rows.fnTextsSpec) false w args)
      (Rows.fnTextsSpec.post enc Tryz.prog Tryz.f3 false true false false) := by
  refine returnsInHanded_of_change_and (C := Tryz.checked) (X := fun w _ => laidMetH Tryz.prog Rows.fnTextsRow.laid w) (fun _ _ _ hh h => h.of_heap hh) own started (by kernel_rfl) Tryz.func3
    (ChangeSpec.witness_shaped (enc := enc) (C := Tryz.checked) (os := os) (X := fun w _ => laidMetH Tryz.prog Rows.fnTextsRow.laid w) false (witWorld os) witArgs 8 (World.laidAll_os _ _ _)
      (witShaped os) (witOk os) (witPre os H enc) (witSized os H enc) (witLaid os)) ?_
  intro W base args ds gs before hval0 hW _ _ hL _
  have hval : ∀ (j : Nat) t v, Tryz.f3.params[j]? = some t → args[j]? = some v → Value.okWide Tryz.prog W .any base t v := hval0
  have hW' := hW
  obtain ⟨p, q, hA0, hV, rfl, _, _⟩ := hW
  have hA : DataW.TrodAll enc Tryz.prog W 0 (fun _ => true) true Tryz.f3.params.toList args.toList ds p := hA0
  rw [Tryz.params3] at hA hval
  obtain ⟨v0, d0, rfl, rfl, h0⟩ := trodAll_one hA
  obtain ⟨rfl, rfl⟩ := trodVars_none hV
  rw [MakeChecks.laidMetH_plain _ _ _ (by kernel_rfl)] at hL
  have hT := tab_of hL
  have k0 := h0
  have lt0 : ∀ x ∈ p, x.block < W.heap.size := by
    obtain ⟨m, hm⟩ := k0
    exact DataW.trod_lt m _ _ _ hm
  obtain ⟨cs, rfl, _⟩ := okWide_struct Tryz.underlying25 (hval 0 25 v0 rfl rfl)
  obtain ⟨fuel, hf⟩ := h0
  obtain ⟨y, hK, hwf⟩ := read_value fuel _ _ hf
  obtain ⟨A4, c4, A5, c5, e, l4, g4, l5, g5⟩ := k25_open hK
  obtain rfl : cs = #[.int .i64 y.f0, .bool y.f1, .int .i64 y.f2, .string y.f3, .slice A4 y.f4.length c4, .slice A5 y.f5.length c5] := by
    obtain ⟨l⟩ := cs
    have e' : l = _ := e
    rw [e']
  simp only [List.append_nil] at hW'
  refine (law y A4 c4 A5 c5 W ⟨l4, g4, l5, g5, hwf⟩ hT).mono fun e W' ⟨he, hb⟩ => ?_
  subst he
  exact ⟨_, rfl, _, _, _, [], p, [], hW', trodAll_mk1 (shut_bool Tryz.underlying4 _), trodAll_mk1 (Below.trod laidOut (by kernel_rfl) (of_decide_eq_true (by kernel_rfl)) k0 hb lt0), rfl, hb.frame _, fun h => by cases h⟩

end Go.Proofs.YtjeeclmhifecbaaGreatDoor
