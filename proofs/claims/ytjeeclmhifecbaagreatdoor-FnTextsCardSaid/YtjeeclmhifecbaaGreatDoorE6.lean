/-
  strconv.FormatInt at base 10, and pongo2's Value.String at nil, bools, whole numbers and texts. Conditions: the boxed value lies in its block; for whole numbers the table of powers of ten reads as its initialiser lays it.
-/
import Derived.Test.YtjeeclmhifecbaaGreatDoorE5
import Derived.Test.YtjeeclmhifecbaaGreatDoorShelf
import Derived.Lib.AppendIntMem
namespace Go.Proofs.YtjeeclmhifecbaaGreatDoor
open Go.RowKit Go.Proofs.YtjeeclmhifecbaaGreatDoorW.PrintWords
attribute [local go_sem] as4_4 as3_4 as3_3 as9_4 as9_3 as9_2 as9_5 as9_55 as9_57 as9_9 as41_4 as41_3 as41_2 as41_5 as41_55 as41_57 as41_9 as41_41 as41_66 as41_23 as41_67 as42_4 as42_3 as42_2 as42_5 as42_55 as42_57 as42_9 as42_41 as42_66 as42_23 as42_67 as42_42 as42_68 as4_4p as4_61 as3_61 as9_61 as41_61 as42_61
set_option linter.unusedVariables false
set_option linter.unusedSimpArgs false
/-- The table that FormatInt reads. -/
def Tab (w : World) : Prop := Lib.TabIs Tryz.prog w "internal/strconv.uint64pow10" .u64 Lib.pow10Tab
theorem Tab.below {w w' : World} (h : Tab w) (hb : Below w.heap.size w w') : Tab w' :=
  Joins.tab_stays (show Tryz.prog.globalNamed "internal/strconv.uint64pow10" = some 0 by kernel_rfl) h hb (Nat.le_refl _)
def itoaB (n : Int) : ByteArray := ⟨(Lib.itoa n).toArray⟩
theorem formatInt (n : Int) (h0 : -9223372036854775808 ≤ n) (h1 : n ≤ 9223372036854775807) (w : World) (ht : Tab w) :
    Calls Tryz.prog 20 #[.int .i64 n, .int .i64 10] w fun e w' => e = .returned (.string (itoaB n)) ∧ Below w.heap.size w w' := by
  refine (Tryz.strconv_FormatInt_10 n h0 h1 w ht).mono ?_
  rintro e w' ⟨rfl, k, os, rfl⟩
  exact ⟨rfl, Lib.below_grow _ _ (Nat.le_refl _) _ _⟩
set_option maxRecDepth 100000 in
theorem string_nil (b : Nat) (w : World) (h : Boxed b .nilIface false w) :
    Calls Tryz.prog 21 #[.pointer (some ⟨b, 0, none⟩)] w fun e w' => e = .returned (.string ⟨#[]⟩) ∧ Below w.heap.size w w' := by
  go_enter Tryz.func21, Tryz.ntmps21
  go_wp2_with fail
  refine (isNil_yes b w h).mono ?_
  rintro e w1 ⟨rfl, hb1⟩
  have HB1 := Aside0.mk (below_step (Below.refl w.heap.size w) hb1)
  clear h hb1
  go_wp2
  go_ret
  exact ⟨rfl, HB1.out⟩
set_option maxRecDepth 100000 in
theorem string_text (b : Nat) (s : ByteArray) (w : World) (h : Boxed b (.iface 9 (.string s)) true w) :
    Calls Tryz.prog 21 #[.pointer (some ⟨b, 0, none⟩)] w fun e w' => e = .returned (.string s) ∧ Below w.heap.size w w' := by
  go_enter Tryz.func21, Tryz.ntmps21
  go_wp2_with fail
  refine (isNil_no b 9 (.string s) 14 w h (fun W => kind_9 s false W) rfl).mono ?_
  rintro e w1 ⟨rfl, hb1⟩
  have B1 := h.below hb1
  have HB1 := Aside0.mk (below_step (Below.refl w.heap.size w) hb1)
  clear h hb1
  go_wp2_with fail
  refine (interface_ok b 9 (.string s) _ B1).mono ?_
  rintro e w2 ⟨rfl, hb2⟩
  have B2 := B1.below hb2
  have HB2 := Aside0.mk (below_step HB1.out hb2)
  clear B1 HB1 hb2
  go_wp2_with fail
  refine (resolved_ok b 9 (.string s) 14 _ B2 (fun W => kind_9 s false W) rfl).mono ?_
  rintro e w3 ⟨rfl, hb3⟩
  have B3 := B2.below hb3
  have HB3 := Aside0.mk (below_step HB2.out hb3)
  clear B2 HB2 hb3
  go_wp2_with fail
  refine (kind_9 s false _).mono ?_
  rintro e w4 ⟨rfl, hb4⟩
  have B4 := B3.below hb4
  have HB4 := Aside0.mk (below_step HB3.out hb4)
  clear B3 HB3 hb4
  go_wp2_with fail
  refine (resolved_ok b 9 (.string s) 14 _ B4 (fun W => kind_9 s false W) rfl).mono ?_
  rintro e w5 ⟨rfl, hb5⟩
  have HB5 := Aside0.mk (below_step HB4.out hb5)
  clear B4 HB4 hb5
  go_wp2_with fail
  refine (rfString_ok s true false _).mono ?_
  rintro e w6 ⟨rfl, hb6⟩
  have HB6 := Aside0.mk (below_step HB5.out hb6)
  clear HB5 hb6
  go_wp2
  go_ret
  exact ⟨rfl, HB6.out⟩
set_option maxRecDepth 100000 in
theorem string_int (b : Nat) (n : Int) (w : World) (h : Boxed b (.iface 3 (.int .i64 n)) true w) (h0 : -9223372036854775808 ≤ n) (h1 : n ≤ 9223372036854775807) (ht : Tab w) :
    Calls Tryz.prog 21 #[.pointer (some ⟨b, 0, none⟩)] w fun e w' => e = .returned (.string (itoaB n)) ∧ Below w.heap.size w w' := by
  have T0 := Aside0.mk ht
  clear ht
  go_enter Tryz.func21, Tryz.ntmps21
  go_wp2_with fail
  refine (isNil_no b 3 (.int .i64 n) 2 w h (fun W => kind_3 n false W) rfl).mono ?_
  rintro e w1 ⟨rfl, hb1⟩
  have B1 := h.below hb1
  have HB1 := Aside0.mk (below_step (Below.refl w.heap.size w) hb1)
  clear h hb1
  go_wp2_with fail
  refine (interface_ok b 3 (.int .i64 n) _ B1).mono ?_
  rintro e w2 ⟨rfl, hb2⟩
  have B2 := B1.below hb2
  have HB2 := Aside0.mk (below_step HB1.out hb2)
  clear B1 HB1 hb2
  go_wp2_with fail
  refine (resolved_ok b 3 (.int .i64 n) 2 _ B2 (fun W => kind_3 n false W) rfl).mono ?_
  rintro e w3 ⟨rfl, hb3⟩
  have B3 := B2.below hb3
  have HB3 := Aside0.mk (below_step HB2.out hb3)
  clear B2 HB2 hb3
  go_wp2_with fail
  refine (kind_3 n false _).mono ?_
  rintro e w4 ⟨rfl, hb4⟩
  have B4 := B3.below hb4
  have HB4 := Aside0.mk (below_step HB3.out hb4)
  clear B3 HB3 hb4
  go_wp2_with fail
  refine (resolved_ok b 3 (.int .i64 n) 2 _ B4 (fun W => kind_3 n false W) rfl).mono ?_
  rintro e w5 ⟨rfl, hb5⟩
  have HB5 := Aside0.mk (below_step HB4.out hb5)
  clear B4 HB4 hb5
  go_wp2_with fail
  refine (rfInt_ok n true false _).mono ?_
  rintro e w6 ⟨rfl, hb6⟩
  have HB6 := Aside0.mk (below_step HB5.out hb6)
  clear HB5 hb6
  go_wp2_with fail
  refine (formatInt n h0 h1 _ (T0.out.below HB6.out)).mono ?_
  rintro e w7 ⟨rfl, hb7⟩
  have HB7 := Aside0.mk (below_step HB6.out hb7)
  clear HB6 hb7
  go_wp2
  go_ret
  exact ⟨rfl, HB7.out⟩
def boolText (c : Bool) : ByteArray := if c then ⟨#[84, 114, 117, 101]⟩ else ⟨#[70, 97, 108, 115, 101]⟩
set_option maxRecDepth 100000 in
theorem string_bool (b : Nat) (c : Bool) (w : World) (h : Boxed b (.iface 4 (.bool c)) true w) :
    Calls Tryz.prog 21 #[.pointer (some ⟨b, 0, none⟩)] w fun e w' => e = .returned (.string (boolText c)) ∧ Below w.heap.size w w' := by
  go_enter Tryz.func21, Tryz.ntmps21
  go_wp2_with fail
  refine (isNil_no b 4 (.bool c) 1 w h (fun W => kind_4 c false W) rfl).mono ?_
  rintro e w1 ⟨rfl, hb1⟩
  have B1 := h.below hb1
  have HB1 := Aside0.mk (below_step (Below.refl w.heap.size w) hb1)
  clear h hb1
  go_wp2_with fail
  refine (interface_ok b 4 (.bool c) _ B1).mono ?_
  rintro e w2 ⟨rfl, hb2⟩
  have B2 := B1.below hb2
  have HB2 := Aside0.mk (below_step HB1.out hb2)
  clear B1 HB1 hb2
  go_wp2_with fail
  refine (resolved_ok b 4 (.bool c) 1 _ B2 (fun W => kind_4 c false W) rfl).mono ?_
  rintro e w3 ⟨rfl, hb3⟩
  have B3 := B2.below hb3
  have HB3 := Aside0.mk (below_step HB2.out hb3)
  clear B2 HB2 hb3
  go_wp2_with fail
  refine (kind_4 c false _).mono ?_
  rintro e w4 ⟨rfl, hb4⟩
  have B4 := B3.below hb4
  have HB4 := Aside0.mk (below_step HB3.out hb4)
  clear B3 HB3 hb4
  go_wp2_with fail
  refine (valueBool b c _ B4).mono ?_
  rintro e w5 ⟨rfl, hb5⟩
  have HB5 := Aside0.mk (below_step HB4.out hb5)
  clear B4 HB4 hb5
  cases c with
  | true =>
    go_wp2
    go_ret
    exact ⟨rfl, HB5.out⟩
  | false =>
    go_wp2
    go_ret
    exact ⟨rfl, HB5.out⟩
end Go.Proofs.YtjeeclmhifecbaaGreatDoor
