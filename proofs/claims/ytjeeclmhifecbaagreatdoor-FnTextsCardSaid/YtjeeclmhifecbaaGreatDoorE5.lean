/-
  pongo2's Value.IsNil, Interface and Bool at plain data. Condition: the boxed value lies in its block.
-/
import Derived.Test.YtjeeclmhifecbaaGreatDoorE4
namespace Go.Proofs.YtjeeclmhifecbaaGreatDoor
open Go.RowKit Go.Proofs.YtjeeclmhifecbaaGreatDoorW.PrintWords
attribute [local go_sem] as4_4 as3_4 as3_3 as9_4 as9_3 as9_2 as9_5 as9_55 as9_57 as9_9 as41_4 as41_3 as41_2 as41_5 as41_55 as41_57 as41_9 as41_41 as41_66 as41_23 as41_67 as42_4 as42_3 as42_2 as42_5 as42_55 as42_57 as42_9 as42_41 as42_66 as42_23 as42_67 as42_42 as42_68 as4_4p as4_61 as3_61 as9_61 as41_61 as42_61
set_option linter.unusedVariables false
set_option linter.unusedSimpArgs false
set_option maxRecDepth 100000 in
theorem isNil_no (b : Nat) (u : TypeId) (v : Value) (k : Int) (w : World) (h : Boxed b (.iface u v) true w)
    (hk : ∀ W, Calls Tryz.prog 24 #[.agg #[.iface u v, .bool true, .bool false]] W fun e w' => e = .returned (.int .u64 k) ∧ Below W.heap.size W w') (hne : (k == 20) = false) :
    Calls Tryz.prog 33 #[.pointer (some ⟨b, 0, none⟩)] w fun e w' => e = .returned (.bool false) ∧ Below w.heap.size w w' := by
  go_enter Tryz.func33, Tryz.ntmps33
  go_wp2_with fail
  refine (resolved_ok b u v k w h hk hne).mono ?_
  rintro e w1 ⟨rfl, hb1⟩
  have HB1 := Aside0.mk (below_step (Below.refl w.heap.size w) hb1)
  clear h hb1
  go_wp2_with fail
  refine (isValid_any (.iface u v) true false _).mono ?_
  rintro e w2 ⟨rfl, hb2⟩
  have HB2 := Aside0.mk (below_step HB1.out hb2)
  clear HB1 hb2
  go_wp2
  go_ret
  exact ⟨rfl, HB2.out⟩
theorem isNil_yes (b : Nat) (w : World) (h : Boxed b .nilIface false w) :
    Calls Tryz.prog 33 #[.pointer (some ⟨b, 0, none⟩)] w fun e w' => e = .returned (.bool true) ∧ Below w.heap.size w w' := by
  go_enter Tryz.func33, Tryz.ntmps33
  go_wp2_with fail
  refine (resolved_nil b w h).mono ?_
  rintro e w1 ⟨rfl, hb1⟩
  have HB1 := Aside0.mk (below_step (Below.refl w.heap.size w) hb1)
  clear h hb1
  go_wp2_with fail
  refine (isValid_any .nilIface false false _).mono ?_
  rintro e w2 ⟨rfl, hb2⟩
  have HB2 := Aside0.mk (below_step HB1.out hb2)
  clear HB1 hb2
  go_wp2
  go_ret
  exact ⟨rfl, HB2.out⟩
theorem interface_ok (b : Nat) (u : TypeId) (v : Value) (w : World) (h : Boxed b (.iface u v) true w) :
    Calls Tryz.prog 34 #[.pointer (some ⟨b, 0, none⟩)] w fun e w' => e = .returned (.iface u v) ∧ Below w.heap.size w w' := by
  have h0 := h.c0
  have h1 := h.c1
  have h2 := h.c2
  go_enter Tryz.func34, Tryz.ntmps34
  go_wp2_with fail
  refine (isValid_any (.iface u v) true false _).mono ?_
  rintro e w1 ⟨rfl, hb1⟩
  have B1 := h.below hb1
  have HB1 := Aside0.mk (below_step (Below.refl w.heap.size w) hb1)
  clear h hb1 h0 h1 h2
  have h0 := B1.c0
  have h1 := B1.c1
  have h2 := B1.c2
  go_wp2_with fail
  refine (iface_any (.iface u v) true false _).mono ?_
  rintro e w2 ⟨rfl, hb2⟩
  have HB2 := Aside0.mk (below_step HB1.out hb2)
  clear HB1 hb2 h0 h1 h2
  go_wp2
  go_ret
  exact ⟨rfl, HB2.out⟩
set_option maxRecDepth 100000 in
theorem valueBool (b : Nat) (c : Bool) (w : World) (h : Boxed b (.iface 4 (.bool c)) true w) :
    Calls Tryz.prog 38 #[.pointer (some ⟨b, 0, none⟩)] w fun e w' => e = .returned (.bool c) ∧ Below w.heap.size w w' := by
  go_enter Tryz.func38, Tryz.ntmps38
  go_wp2_with fail
  refine (resolved_ok b 4 (.bool c) 1 w h (fun W => kind_4 c false W) rfl).mono ?_
  rintro e w1 ⟨rfl, hb1⟩
  have B1 := h.below hb1
  have HB1 := Aside0.mk (below_step (Below.refl w.heap.size w) hb1)
  clear h hb1
  go_wp2_with fail
  refine (kind_4 c false _).mono ?_
  rintro e w2 ⟨rfl, hb2⟩
  have B2 := B1.below hb2
  have HB2 := Aside0.mk (below_step HB1.out hb2)
  clear B1 HB1 hb2
  go_wp2_with fail
  refine (resolved_ok b 4 (.bool c) 1 _ B2 (fun W => kind_4 c false W) rfl).mono ?_
  rintro e w3 ⟨rfl, hb3⟩
  have HB3 := Aside0.mk (below_step HB2.out hb3)
  clear B2 HB2 hb3
  go_wp2_with fail
  refine (rfBool_ok c true false _).mono ?_
  rintro e w4 ⟨rfl, hb4⟩
  have HB4 := Aside0.mk (below_step HB3.out hb4)
  clear HB3 hb4
  go_wp2
  go_ret
  exact ⟨rfl, HB4.out⟩
end Go.Proofs.YtjeeclmhifecbaaGreatDoor
