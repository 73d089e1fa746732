/-
  pongo2's True and Text at plain data. Condition for whole numbers: the table of powers of ten reads as its initialiser lays it.
-/
import Derived.Test.YtjeeclmhifecbaaGreatDoorE6
namespace Go.Proofs.YtjeeclmhifecbaaGreatDoor
open Go.RowKit Go.Proofs.YtjeeclmhifecbaaGreatDoorW.PrintWords
set_option linter.unusedVariables false
set_option linter.unusedSimpArgs false
theorem true_4 (c : Bool) (w : World) :
    Calls Tryz.prog 13 #[.iface 4 (.bool c)] w fun e w' => e = .returned (.bool (c)) ∧ Below w.heap.size w w' := by
  go_enter Tryz.func13, Tryz.ntmps13
  go_wp2_with fail
  refine (asValue_some 4 (.bool c) _).mono ?_
  rintro e w1 ⟨b, rfl, _, B1, hb1⟩
  have HB1 := Aside0.mk (below_step (Below.refl w.heap.size w) hb1)
  clear hb1
  go_wp2_with fail
  refine (isTrue_4 b c _ B1).mono ?_
  rintro e w2 ⟨rfl, hb2⟩
  have HB2 := Aside0.mk (below_step HB1.out hb2)
  clear HB1 hb2
  go_wp2
  go_ret
  exact ⟨rfl, HB2.out⟩
theorem true_3 (n : Int) (w : World) :
    Calls Tryz.prog 13 #[.iface 3 (.int .i64 n)] w fun e w' => e = .returned (.bool ((n != 0))) ∧ Below w.heap.size w w' := by
  go_enter Tryz.func13, Tryz.ntmps13
  go_wp2_with fail
  refine (asValue_some 3 (.int .i64 n) _).mono ?_
  rintro e w1 ⟨b, rfl, _, B1, hb1⟩
  have HB1 := Aside0.mk (below_step (Below.refl w.heap.size w) hb1)
  clear hb1
  go_wp2_with fail
  refine (isTrue_3 b n _ B1).mono ?_
  rintro e w2 ⟨rfl, hb2⟩
  have HB2 := Aside0.mk (below_step HB1.out hb2)
  clear HB1 hb2
  go_wp2
  go_ret
  exact ⟨rfl, HB2.out⟩
theorem true_9 (s : ByteArray) (w : World) :
    Calls Tryz.prog 13 #[.iface 9 (.string s)] w fun e w' => e = .returned (.bool (decide (0 < s.size))) ∧ Below w.heap.size w w' := by
  go_enter Tryz.func13, Tryz.ntmps13
  go_wp2_with fail
  refine (asValue_some 9 (.string s) _).mono ?_
  rintro e w1 ⟨b, rfl, _, B1, hb1⟩
  have HB1 := Aside0.mk (below_step (Below.refl w.heap.size w) hb1)
  clear hb1
  go_wp2_with fail
  refine (isTrue_9 b s _ B1).mono ?_
  rintro e w2 ⟨rfl, hb2⟩
  have HB2 := Aside0.mk (below_step HB1.out hb2)
  clear HB1 hb2
  go_wp2
  go_ret
  exact ⟨rfl, HB2.out⟩
theorem true_41 (A : Option Addr) (n c : Nat) (w : World) :
    Calls Tryz.prog 13 #[.iface 41 (.slice A n c)] w fun e w' => e = .returned (.bool (decide (0 < n))) ∧ Below w.heap.size w w' := by
  go_enter Tryz.func13, Tryz.ntmps13
  go_wp2_with fail
  refine (asValue_some 41 (.slice A n c) _).mono ?_
  rintro e w1 ⟨b, rfl, _, B1, hb1⟩
  have HB1 := Aside0.mk (below_step (Below.refl w.heap.size w) hb1)
  clear hb1
  go_wp2_with fail
  refine (isTrue_41 b A n c _ B1).mono ?_
  rintro e w2 ⟨rfl, hb2⟩
  have HB2 := Aside0.mk (below_step HB1.out hb2)
  clear HB1 hb2
  go_wp2
  go_ret
  exact ⟨rfl, HB2.out⟩
theorem true_42 (r : Nat) (es : Array MapEntry) (clock : Nat) (w : World) (hm : w.heap[r]? = some (.map es clock)) :
    Calls Tryz.prog 13 #[.iface 42 (.map (some r))] w fun e w' => e = .returned (.bool (decide (0 < es.size))) ∧ Below w.heap.size w w' := by
  have M0 := Aside0.mk hm
  clear hm
  go_enter Tryz.func13, Tryz.ntmps13
  go_wp2_with fail
  refine (asValue_some 42 (.map (some r)) _).mono ?_
  rintro e w1 ⟨b, rfl, _, B1, hb1⟩
  have HB1 := Aside0.mk (below_step (Below.refl w.heap.size w) hb1)
  clear hb1
  go_wp2_with fail
  refine (isTrue_42 b r es clock _ B1 (blk_below M0.out HB1.out)).mono ?_
  rintro e w2 ⟨rfl, hb2⟩
  have HB2 := Aside0.mk (below_step HB1.out hb2)
  clear HB1 hb2
  go_wp2
  go_ret
  exact ⟨rfl, HB2.out⟩
theorem true_nil  (w : World) :
    Calls Tryz.prog 13 #[.nilIface] w fun e w' => e = .returned (.bool false) ∧ Below w.heap.size w w' := by
  go_enter Tryz.func13, Tryz.ntmps13
  go_wp2_with fail
  refine (asValue_nil _).mono ?_
  rintro e w1 ⟨b, rfl, _, B1, hb1⟩
  have HB1 := Aside0.mk (below_step (Below.refl w.heap.size w) hb1)
  clear hb1
  go_wp2_with fail
  refine (isTrue_nil b _ B1).mono ?_
  rintro e w2 ⟨rfl, hb2⟩
  have HB2 := Aside0.mk (below_step HB1.out hb2)
  clear HB1 hb2
  go_wp2
  go_ret
  exact ⟨rfl, HB2.out⟩
theorem text_nil  (w : World) :
    Calls Tryz.prog 17 #[.nilIface] w fun e w' => e = .returned (.string ⟨#[]⟩) ∧ Below w.heap.size w w' := by
  go_enter Tryz.func17, Tryz.ntmps17
  go_wp2_with fail
  refine (asValue_nil _).mono ?_
  rintro e w1 ⟨b, rfl, _, B1, hb1⟩
  have HB1 := Aside0.mk (below_step (Below.refl w.heap.size w) hb1)
  clear hb1
  go_wp2_with fail
  refine (string_nil b _ B1).mono ?_
  rintro e w2 ⟨rfl, hb2⟩
  have HB2 := Aside0.mk (below_step HB1.out hb2)
  clear HB1 hb2
  go_wp2
  go_ret
  exact ⟨rfl, HB2.out⟩
theorem text_4 (c : Bool) (w : World) :
    Calls Tryz.prog 17 #[.iface 4 (.bool c)] w fun e w' => e = .returned (.string (boolText c)) ∧ Below w.heap.size w w' := by
  go_enter Tryz.func17, Tryz.ntmps17
  go_wp2_with fail
  refine (asValue_some 4 (.bool c) _).mono ?_
  rintro e w1 ⟨b, rfl, _, B1, hb1⟩
  have HB1 := Aside0.mk (below_step (Below.refl w.heap.size w) hb1)
  clear hb1
  go_wp2_with fail
  refine (string_bool b c _ B1).mono ?_
  rintro e w2 ⟨rfl, hb2⟩
  have HB2 := Aside0.mk (below_step HB1.out hb2)
  clear HB1 hb2
  go_wp2
  go_ret
  exact ⟨rfl, HB2.out⟩
theorem text_9 (s : ByteArray) (w : World) :
    Calls Tryz.prog 17 #[.iface 9 (.string s)] w fun e w' => e = .returned (.string s) ∧ Below w.heap.size w w' := by
  go_enter Tryz.func17, Tryz.ntmps17
  go_wp2_with fail
  refine (asValue_some 9 (.string s) _).mono ?_
  rintro e w1 ⟨b, rfl, _, B1, hb1⟩
  have HB1 := Aside0.mk (below_step (Below.refl w.heap.size w) hb1)
  clear hb1
  go_wp2_with fail
  refine (string_text b s _ B1).mono ?_
  rintro e w2 ⟨rfl, hb2⟩
  have HB2 := Aside0.mk (below_step HB1.out hb2)
  clear HB1 hb2
  go_wp2
  go_ret
  exact ⟨rfl, HB2.out⟩
theorem text_3 (n : Int) (w : World) (h0 : -9223372036854775808 ≤ n) (h1 : n ≤ 9223372036854775807) (ht : Tab w) :
    Calls Tryz.prog 17 #[.iface 3 (.int .i64 n)] w fun e w' => e = .returned (.string (itoaB n)) ∧ Below w.heap.size w w' := by
  have T0 := Aside0.mk ht
  clear ht
  go_enter Tryz.func17, Tryz.ntmps17
  go_wp2_with fail
  refine (asValue_some 3 (.int .i64 n) _).mono ?_
  rintro e w1 ⟨b, rfl, _, B1, hb1⟩
  have HB1 := Aside0.mk (below_step (Below.refl w.heap.size w) hb1)
  clear hb1
  go_wp2_with fail
  refine (string_int b n _ B1 h0 h1 (T0.out.below HB1.out)).mono ?_
  rintro e w2 ⟨rfl, hb2⟩
  have HB2 := Aside0.mk (below_step HB1.out hb2)
  clear HB1 hb2
  go_wp2
  go_ret
  exact ⟨rfl, HB2.out⟩
end Go.Proofs.YtjeeclmhifecbaaGreatDoor
