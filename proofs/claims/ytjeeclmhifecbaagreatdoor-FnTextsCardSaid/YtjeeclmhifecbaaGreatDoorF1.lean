/-
  The reference's isTrue, textOf, IsTrue and TextOf at each kind of value. Condition for whole numbers: the table of powers of ten reads as its initialiser lays it.
-/
import Derived.Test.YtjeeclmhifecbaaGreatDoorE6
namespace Go.Proofs.YtjeeclmhifecbaaGreatDoor
open Go.RowKit Go.Proofs.YtjeeclmhifecbaaGreatDoorW.PrintWords
set_option linter.unusedVariables false
set_option linter.unusedSimpArgs false
theorem size_toList (s : ByteArray) : (!s.toList.isEmpty) = decide (0 < s.size) := by
  rw [ByteArray.toList_eq]
  obtain ⟨⟨l⟩⟩ := s
  cases l with
  | nil => rfl
  | cons a r => simp [ByteArray.size]
set_option maxRecDepth 100000 in
theorem specTrue_0 (c : Bool) (n : Int) (s : ByteArray) (A4 : Option Addr) (n4 c4 : Nat) (A5 : Option Addr) (n5 c5 : Nat) (w : World) :
    Calls Tryz.prog 15 #[.agg #[.int .i64 0, .bool c, .int .i64 n, .string s, .slice A4 n4 c4, .slice A5 n5 c5]] w fun e w' => e = .returned (.bool (false)) ∧ Below w.heap.size w w' := by
  go_enter Tryz.func15, Tryz.ntmps15
  go_wp2
  go_ret
  exact ⟨rfl, by go_grown⟩
set_option maxRecDepth 100000 in
theorem specTrue_1 (c : Bool) (n : Int) (s : ByteArray) (A4 : Option Addr) (n4 c4 : Nat) (A5 : Option Addr) (n5 c5 : Nat) (w : World) :
    Calls Tryz.prog 15 #[.agg #[.int .i64 1, .bool c, .int .i64 n, .string s, .slice A4 n4 c4, .slice A5 n5 c5]] w fun e w' => e = .returned (.bool (c)) ∧ Below w.heap.size w w' := by
  go_enter Tryz.func15, Tryz.ntmps15
  go_wp2
  go_ret
  exact ⟨rfl, by go_grown⟩
set_option maxRecDepth 100000 in
theorem specTrue_2 (c : Bool) (n : Int) (s : ByteArray) (A4 : Option Addr) (n4 c4 : Nat) (A5 : Option Addr) (n5 c5 : Nat) (w : World) :
    Calls Tryz.prog 15 #[.agg #[.int .i64 2, .bool c, .int .i64 n, .string s, .slice A4 n4 c4, .slice A5 n5 c5]] w fun e w' => e = .returned (.bool ((n != 0))) ∧ Below w.heap.size w w' := by
  go_enter Tryz.func15, Tryz.ntmps15
  go_wp2
  go_ret
  exact ⟨rfl, by go_grown⟩
set_option maxRecDepth 100000 in
theorem specTrue_3 (c : Bool) (n : Int) (s : ByteArray) (A4 : Option Addr) (n4 c4 : Nat) (A5 : Option Addr) (n5 c5 : Nat) (w : World) :
    Calls Tryz.prog 15 #[.agg #[.int .i64 3, .bool c, .int .i64 n, .string s, .slice A4 n4 c4, .slice A5 n5 c5]] w fun e w' => e = .returned (.bool ((!s.toList.isEmpty))) ∧ Below w.heap.size w w' := by
  go_enter Tryz.func15, Tryz.ntmps15
  go_wp2
  go_ret
  exact ⟨rfl, by go_grown⟩
set_option maxRecDepth 100000 in
theorem specTrue_4 (c : Bool) (n : Int) (s : ByteArray) (A4 : Option Addr) (n4 c4 : Nat) (A5 : Option Addr) (n5 c5 : Nat) (w : World) :
    Calls Tryz.prog 15 #[.agg #[.int .i64 4, .bool c, .int .i64 n, .string s, .slice A4 n4 c4, .slice A5 n5 c5]] w fun e w' => e = .returned (.bool (decide (0 < n4))) ∧ Below w.heap.size w w' := by
  go_enter Tryz.func15, Tryz.ntmps15
  go_wp2
  go_ret
  exact ⟨rfl, by go_grown⟩
set_option maxRecDepth 100000 in
theorem specTrue_5 (c : Bool) (n : Int) (s : ByteArray) (A4 : Option Addr) (n4 c4 : Nat) (A5 : Option Addr) (n5 c5 : Nat) (w : World) :
    Calls Tryz.prog 15 #[.agg #[.int .i64 5, .bool c, .int .i64 n, .string s, .slice A4 n4 c4, .slice A5 n5 c5]] w fun e w' => e = .returned (.bool (decide (0 < n4))) ∧ Below w.heap.size w w' := by
  go_enter Tryz.func15, Tryz.ntmps15
  go_wp2
  go_ret
  exact ⟨rfl, by go_grown⟩
set_option maxRecDepth 100000 in
theorem textOf_0 (c : Bool) (n : Int) (s : ByteArray) (A4 : Option Addr) (n4 c4 : Nat) (A5 : Option Addr) (n5 c5 : Nat) (w : World) :
    Calls Tryz.prog 16 #[.agg #[.int .i64 0, .bool c, .int .i64 n, .string s, .slice A4 n4 c4, .slice A5 n5 c5]] w fun e w' => e = .returned (.tuple #[.string ⟨#[]⟩, .int .i64 0]) ∧ Below w.heap.size w w' := by
  go_enter Tryz.func16, Tryz.ntmps16
  go_wp2
  go_ret2
  exact ⟨rfl, by go_grown⟩
set_option maxRecDepth 100000 in
theorem textOf_3 (c : Bool) (n : Int) (s : ByteArray) (A4 : Option Addr) (n4 c4 : Nat) (A5 : Option Addr) (n5 c5 : Nat) (w : World) :
    Calls Tryz.prog 16 #[.agg #[.int .i64 3, .bool c, .int .i64 n, .string s, .slice A4 n4 c4, .slice A5 n5 c5]] w fun e w' => e = .returned (.tuple #[.string s, .int .i64 0]) ∧ Below w.heap.size w w' := by
  go_enter Tryz.func16, Tryz.ntmps16
  go_wp2
  go_ret2
  exact ⟨rfl, by go_grown⟩
set_option maxRecDepth 100000 in
theorem textOf_4 (c : Bool) (n : Int) (s : ByteArray) (A4 : Option Addr) (n4 c4 : Nat) (A5 : Option Addr) (n5 c5 : Nat) (w : World) :
    Calls Tryz.prog 16 #[.agg #[.int .i64 4, .bool c, .int .i64 n, .string s, .slice A4 n4 c4, .slice A5 n5 c5]] w fun e w' => e = .returned (.tuple #[.string ⟨#[]⟩, .int .i64 2]) ∧ Below w.heap.size w w' := by
  go_enter Tryz.func16, Tryz.ntmps16
  go_wp2
  go_ret2
  exact ⟨rfl, by go_grown⟩
set_option maxRecDepth 100000 in
theorem textOf_5 (c : Bool) (n : Int) (s : ByteArray) (A4 : Option Addr) (n4 c4 : Nat) (A5 : Option Addr) (n5 c5 : Nat) (w : World) :
    Calls Tryz.prog 16 #[.agg #[.int .i64 5, .bool c, .int .i64 n, .string s, .slice A4 n4 c4, .slice A5 n5 c5]] w fun e w' => e = .returned (.tuple #[.string ⟨#[]⟩, .int .i64 2]) ∧ Below w.heap.size w w' := by
  go_enter Tryz.func16, Tryz.ntmps16
  go_wp2
  go_ret2
  exact ⟨rfl, by go_grown⟩
set_option maxRecDepth 100000 in
theorem textOf_1 (c : Bool) (n : Int) (s : ByteArray) (A4 : Option Addr) (n4 c4 : Nat) (A5 : Option Addr) (n5 c5 : Nat) (w : World) :
    Calls Tryz.prog 16 #[.agg #[.int .i64 1, .bool c, .int .i64 n, .string s, .slice A4 n4 c4, .slice A5 n5 c5]] w fun e w' => e = .returned (.tuple #[.string (boolText c), .int .i64 0]) ∧ Below w.heap.size w w' := by
  cases c with
  | true =>
    go_enter Tryz.func16, Tryz.ntmps16
    go_wp2
    go_ret2
    exact ⟨rfl, by go_grown⟩
  | false =>
    go_enter Tryz.func16, Tryz.ntmps16
    go_wp2
    go_ret2
    exact ⟨rfl, by go_grown⟩
set_option maxRecDepth 100000 in
theorem textOf_2 (c : Bool) (n : Int) (s : ByteArray) (A4 : Option Addr) (n4 c4 : Nat) (A5 : Option Addr) (n5 c5 : Nat) (w : World) (h0 : -9223372036854775808 ≤ n) (h1 : n ≤ 9223372036854775807) (ht : Tab w) :
    Calls Tryz.prog 16 #[.agg #[.int .i64 2, .bool c, .int .i64 n, .string s, .slice A4 n4 c4, .slice A5 n5 c5]] w fun e w' => e = .returned (.tuple #[.string (itoaB n), .int .i64 0]) ∧ Below w.heap.size w w' := by
  have T0 := Aside0.mk ht
  clear ht
  go_enter Tryz.func16, Tryz.ntmps16
  go_wp2_with fail
  refine (formatInt n h0 h1 _ (T0.out.below (below_alloc (Below.refl _ _) _))).mono ?_
  rintro e w1 ⟨rfl, hb1⟩
  have HB1 := Aside0.mk (below_step (below_alloc (Below.refl w.heap.size w) _) hb1)
  clear hb1
  go_wp2
  go_ret2
  exact ⟨rfl, HB1.out⟩

theorem specIsTrue_of (r : Bool) (c : Bool) (n : Int) (s : ByteArray) (A4 : Option Addr) (n4 c4 : Nat) (A5 : Option Addr) (n5 c5 : Nat) (k : Int) (w : World) (h : ∀ W, Calls Tryz.prog 15 #[.agg #[.int .i64 k, .bool c, .int .i64 n, .string s, .slice A4 n4 c4, .slice A5 n5 c5]] W fun e w' => e = .returned (.bool r) ∧ Below W.heap.size W w') :
    Calls Tryz.prog 7 #[.agg #[.int .i64 k, .bool c, .int .i64 n, .string s, .slice A4 n4 c4, .slice A5 n5 c5]] w fun e w' => e = .returned (.bool r) ∧ Below w.heap.size w w' := by
  go_enter Tryz.func7, Tryz.ntmps7
  go_wp2_with fail
  refine (h _).mono ?_
  rintro e w1 ⟨rfl, hb1⟩
  have HB1 := Aside0.mk (below_step (below_alloc (Below.refl w.heap.size w) _) hb1)
  clear hb1
  go_wp2
  go_ret
  exact ⟨rfl, HB1.out⟩
theorem specTextOf_of (t : ByteArray) (q : Int) (told : Bool) (hq : (q == 0) = told) (c : Bool) (n : Int) (s : ByteArray) (A4 : Option Addr) (n4 c4 : Nat) (A5 : Option Addr) (n5 c5 : Nat) (k : Int) (w : World) (ht : Tab w) (h : ∀ W, Tab W → Calls Tryz.prog 16 #[.agg #[.int .i64 k, .bool c, .int .i64 n, .string s, .slice A4 n4 c4, .slice A5 n5 c5]] W fun e w' => e = .returned (.tuple #[.string t, .int .i64 q]) ∧ Below W.heap.size W w') :
    Calls Tryz.prog 8 #[.agg #[.int .i64 k, .bool c, .int .i64 n, .string s, .slice A4 n4 c4, .slice A5 n5 c5]] w fun e w' => e = .returned (.tuple #[.string t, .bool told]) ∧ Below w.heap.size w w' := by
  have T0 := Aside0.mk ht
  clear ht
  go_enter Tryz.func8, Tryz.ntmps8
  go_wp2_with fail
  refine (h _ (T0.out.below (below_alloc (Below.refl _ _) _))).mono ?_
  rintro e w1 ⟨rfl, hb1⟩
  have HB1 := Aside0.mk (below_step (below_alloc (Below.refl w.heap.size w) _) hb1)
  clear hb1
  go_wp2
  go_ret2
  exact ⟨rfl, HB1.out⟩
end Go.Proofs.YtjeeclmhifecbaaGreatDoor
