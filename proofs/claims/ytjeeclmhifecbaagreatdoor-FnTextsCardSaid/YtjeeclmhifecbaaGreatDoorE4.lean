/-
  pongo2's Value.IsTrue at the five kinds of plain data and at nil. Condition: the boxed value lies in its block.
-/
import Derived.Test.YtjeeclmhifecbaaGreatDoorE3
namespace Go.Proofs.YtjeeclmhifecbaaGreatDoor
open Go.RowKit Go.Proofs.YtjeeclmhifecbaaGreatDoorW.PrintWords
set_option linter.unusedVariables false
set_option linter.unusedSimpArgs false
set_option maxRecDepth 100000 in
theorem isTrue_4 (b : Nat) (c : Bool) (w : World) (h : Boxed b (.iface 4 (.bool c)) true w) :
    Calls Tryz.prog 19 #[.pointer (some ⟨b, 0, none⟩)] w fun e w' => e = .returned (.bool (c)) ∧ Below w.heap.size w w' := by
  go_enter Tryz.func19, Tryz.ntmps19
  go_wp2_with fail
  refine (resolved_ok b 4 (.bool c) 1 w h (fun W => kind_4 c false W) rfl).mono ?_
  rintro e w1 ⟨rfl, hb1⟩
  have B1 := h.below hb1
  have HB1 := Aside0.mk (below_step (Below.refl w.heap.size w) hb1)
  clear h hb1
  go_wp2_with fail
  refine (kind_4 c false _).mono ?_
  rintro e w2 ⟨rfl, hb2⟩
  have B2 := B1.below hb2
  have HB2 := Aside0.mk (below_step HB1.out hb2)
  clear B1 HB1 hb2
  go_wp2_with fail
  refine (resolved_ok b 4 (.bool c) 1 _ B2 (fun W => kind_4 c false W) rfl).mono ?_
  rintro e w3 ⟨rfl, hb3⟩
  have HB3 := Aside0.mk (below_step HB2.out hb3)
  clear B2 HB2 hb3
  go_wp2_with fail
  refine (rfBool_ok c true false _).mono ?_
  rintro e w4 ⟨rfl, hb4⟩
  have HB4 := Aside0.mk (below_step HB3.out hb4)
  clear HB3 hb4
  go_wp2
  go_ret
  exact ⟨rfl, HB4.out⟩
set_option maxRecDepth 100000 in
theorem isTrue_3 (b : Nat) (n : Int) (w : World) (h : Boxed b (.iface 3 (.int .i64 n)) true w) :
    Calls Tryz.prog 19 #[.pointer (some ⟨b, 0, none⟩)] w fun e w' => e = .returned (.bool ((n != 0))) ∧ Below w.heap.size w w' := by
  go_enter Tryz.func19, Tryz.ntmps19
  go_wp2_with fail
  refine (resolved_ok b 3 (.int .i64 n) 2 w h (fun W => kind_3 n false W) rfl).mono ?_
  rintro e w1 ⟨rfl, hb1⟩
  have B1 := h.below hb1
  have HB1 := Aside0.mk (below_step (Below.refl w.heap.size w) hb1)
  clear h hb1
  go_wp2_with fail
  refine (kind_3 n false _).mono ?_
  rintro e w2 ⟨rfl, hb2⟩
  have B2 := B1.below hb2
  have HB2 := Aside0.mk (below_step HB1.out hb2)
  clear B1 HB1 hb2
  go_wp2_with fail
  refine (resolved_ok b 3 (.int .i64 n) 2 _ B2 (fun W => kind_3 n false W) rfl).mono ?_
  rintro e w3 ⟨rfl, hb3⟩
  have HB3 := Aside0.mk (below_step HB2.out hb3)
  clear B2 HB2 hb3
  go_wp2_with fail
  refine (rfInt_ok n true false _).mono ?_
  rintro e w4 ⟨rfl, hb4⟩
  have HB4 := Aside0.mk (below_step HB3.out hb4)
  clear HB3 hb4
  go_wp2
  go_ret
  exact ⟨rfl, HB4.out⟩
set_option maxRecDepth 100000 in
theorem isTrue_9 (b : Nat) (s : ByteArray) (w : World) (h : Boxed b (.iface 9 (.string s)) true w) :
    Calls Tryz.prog 19 #[.pointer (some ⟨b, 0, none⟩)] w fun e w' => e = .returned (.bool (decide (0 < s.size))) ∧ Below w.heap.size w w' := by
  go_enter Tryz.func19, Tryz.ntmps19
  go_wp2_with fail
  refine (resolved_ok b 9 (.string s) 14 w h (fun W => kind_9 s false W) rfl).mono ?_
  rintro e w1 ⟨rfl, hb1⟩
  have B1 := h.below hb1
  have HB1 := Aside0.mk (below_step (Below.refl w.heap.size w) hb1)
  clear h hb1
  go_wp2_with fail
  refine (kind_9 s false _).mono ?_
  rintro e w2 ⟨rfl, hb2⟩
  have B2 := B1.below hb2
  have HB2 := Aside0.mk (below_step HB1.out hb2)
  clear B1 HB1 hb2
  go_wp2_with fail
  refine (resolved_ok b 9 (.string s) 14 _ B2 (fun W => kind_9 s false W) rfl).mono ?_
  rintro e w3 ⟨rfl, hb3⟩
  have HB3 := Aside0.mk (below_step HB2.out hb3)
  clear B2 HB2 hb3
  go_wp2_with fail
  refine (rfLen_text s true false _).mono ?_
  rintro e w4 ⟨rfl, hb4⟩
  have HB4 := Aside0.mk (below_step HB3.out hb4)
  clear HB3 hb4
  go_wp2
  go_ret
  exact ⟨rfl, HB4.out⟩
set_option maxRecDepth 100000 in
theorem isTrue_41 (b : Nat) (A : Option Addr) (n c : Nat) (w : World) (h : Boxed b (.iface 41 (.slice A n c)) true w) :
    Calls Tryz.prog 19 #[.pointer (some ⟨b, 0, none⟩)] w fun e w' => e = .returned (.bool (decide (0 < n))) ∧ Below w.heap.size w w' := by
  go_enter Tryz.func19, Tryz.ntmps19
  go_wp2_with fail
  refine (resolved_ok b 41 (.slice A n c) 16 w h (fun W => kind_41 A n c false W) rfl).mono ?_
  rintro e w1 ⟨rfl, hb1⟩
  have B1 := h.below hb1
  have HB1 := Aside0.mk (below_step (Below.refl w.heap.size w) hb1)
  clear h hb1
  go_wp2_with fail
  refine (kind_41 A n c false _).mono ?_
  rintro e w2 ⟨rfl, hb2⟩
  have B2 := B1.below hb2
  have HB2 := Aside0.mk (below_step HB1.out hb2)
  clear B1 HB1 hb2
  go_wp2_with fail
  refine (resolved_ok b 41 (.slice A n c) 16 _ B2 (fun W => kind_41 A n c false W) rfl).mono ?_
  rintro e w3 ⟨rfl, hb3⟩
  have HB3 := Aside0.mk (below_step HB2.out hb3)
  clear B2 HB2 hb3
  go_wp2_with fail
  refine (rfLen_list A n c true false _).mono ?_
  rintro e w4 ⟨rfl, hb4⟩
  have HB4 := Aside0.mk (below_step HB3.out hb4)
  clear HB3 hb4
  go_wp2
  go_ret
  exact ⟨rfl, HB4.out⟩
set_option maxRecDepth 100000 in
theorem isTrue_42 (b : Nat) (r : Nat) (es : Array MapEntry) (clock : Nat) (w : World) (h : Boxed b (.iface 42 (.map (some r))) true w) (hm : w.heap[r]? = some (.map es clock)) :
    Calls Tryz.prog 19 #[.pointer (some ⟨b, 0, none⟩)] w fun e w' => e = .returned (.bool (decide (0 < es.size))) ∧ Below w.heap.size w w' := by
  have M0 := Aside0.mk hm
  clear hm
  go_enter Tryz.func19, Tryz.ntmps19
  go_wp2_with fail
  refine (resolved_ok b 42 (.map (some r)) 18 w h (fun W => kind_42 (some r) false W) rfl).mono ?_
  rintro e w1 ⟨rfl, hb1⟩
  have B1 := h.below hb1
  have HB1 := Aside0.mk (below_step (Below.refl w.heap.size w) hb1)
  have M1 := Aside0.mk (blk_below M0.out hb1)
  clear h hb1
  go_wp2_with fail
  refine (kind_42 (some r) false _).mono ?_
  rintro e w2 ⟨rfl, hb2⟩
  have B2 := B1.below hb2
  have HB2 := Aside0.mk (below_step HB1.out hb2)
  have M2 := Aside0.mk (blk_below M1.out hb2)
  clear B1 HB1 hb2
  go_wp2_with fail
  refine (resolved_ok b 42 (.map (some r)) 18 _ B2 (fun W => kind_42 (some r) false W) rfl).mono ?_
  rintro e w3 ⟨rfl, hb3⟩
  have HB3 := Aside0.mk (below_step HB2.out hb3)
  have M3 := Aside0.mk (blk_below M2.out hb3)
  clear B2 HB2 hb3
  go_wp2_with fail
  refine (rfLen_dict r es clock true false _ M3.out).mono ?_
  rintro e w4 ⟨rfl, hb4⟩
  have HB4 := Aside0.mk (below_step HB3.out hb4)
  clear HB3 hb4
  go_wp2
  go_ret
  exact ⟨rfl, HB4.out⟩
set_option maxRecDepth 100000 in
theorem isTrue_nil (b : Nat) (w : World) (h : Boxed b .nilIface false w) :
    Calls Tryz.prog 19 #[.pointer (some ⟨b, 0, none⟩)] w fun e w' => e = .returned (.bool false) ∧ Below w.heap.size w w' := by
  go_enter Tryz.func19, Tryz.ntmps19
  go_wp2_with fail
  refine (resolved_nil b w h).mono ?_
  rintro e w1 ⟨rfl, hb1⟩
  have B1 := h.below hb1
  have HB1 := Aside0.mk (below_step (Below.refl w.heap.size w) hb1)
  clear h hb1
  go_wp2_with fail
  refine (kind_nil .nilIface false _).mono ?_
  rintro e w2 ⟨rfl, hb2⟩
  have B2 := B1.below hb2
  have HB2 := Aside0.mk (below_step HB1.out hb2)
  clear B1 HB1 hb2
  go_wp2_with fail
  refine (resolved_nil b _ B2).mono ?_
  rintro e w3 ⟨rfl, hb3⟩
  have HB3 := Aside0.mk (below_step HB2.out hb3)
  clear B2 HB2 hb3
  go_wp2_with fail
  refine (kind_nil .nilIface false _).mono ?_
  rintro e w4 ⟨rfl, hb4⟩
  have HB4 := Aside0.mk (below_step HB3.out hb4)
  clear HB3 hb4
  go_wp2_with fail
  refine (kindName _ _).mono ?_
  rintro e w5 ⟨rfl, hb5⟩
  have HB5 := Aside0.mk (below_step HB4.out hb5)
  clear HB4 hb5
  go_wp2_with fail
  refine (logf_any _ _ _).mono ?_
  rintro e w6 ⟨rfl, hb6⟩
  have HB6 := Aside0.mk (below_step (below_alloc HB5.out _) hb6)
  clear HB5 hb6
  go_wp2
  go_ret
  exact ⟨rfl, HB6.out⟩
end Go.Proofs.YtjeeclmhifecbaaGreatDoor
