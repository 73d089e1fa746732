/-
  IsValue at the kinds without a list: what it answers, kind by kind. Conditions: the tests as they are decided.
-/
import Derived.Test.YtjeeclmhifecbaaGreatDoorP1
import Derived.Test.YtjeeclmhifecbaaGreatDoorD1
import Derived.Handy
import Derived.WalkLawsBesides
import Derived.WalkSpells
namespace Go.Proofs.YtjeeclmhifecbaaGreatDoor
open Go.RowKit Go.Proofs.YtjeeclmhifecbaaGreatDoorW.PrintWords PFnTexts
set_option linter.unusedVariables false
set_option linter.unusedSimpArgs false
set_option maxRecDepth 100000 in
theorem iv_deep (d : Int) (k : Int) (c : Bool) (n : Int) (s : ByteArray) (A4 : Option Addr) (n4 c4 : Nat) (A5 : Option Addr) (n5 c5 : Nat) (w : World) (hd : decide (4 < d) = true) :
    Calls Tryz.prog 5 #[.agg #[.int .i64 k, .bool c, .int .i64 n, .string s, .slice A4 n4 c4, .slice A5 n5 c5], .int .i64 d] w fun e w' => e = .returned (.bool false) ∧ Below w.heap.size w w' := by
  go_enter Tryz.func5, Tryz.ntmps5
  go_wp2
  go_ret
  exact ⟨rfl, by go_grown⟩
set_option maxRecDepth 100000 in
theorem iv_long (d : Int) (k : Int) (c : Bool) (n : Int) (s : ByteArray) (A4 : Option Addr) (n4 c4 : Nat) (A5 : Option Addr) (n5 c5 : Nat) (w : World) (hd : decide (4 < d) = false) (hl : decide ((12 : Int) < n4) = true) :
    Calls Tryz.prog 5 #[.agg #[.int .i64 k, .bool c, .int .i64 n, .string s, .slice A4 n4 c4, .slice A5 n5 c5], .int .i64 d] w fun e w' => e = .returned (.bool false) ∧ Below w.heap.size w w' := by
  go_enter Tryz.func5, Tryz.ntmps5
  go_wp2
  go_ret
  exact ⟨rfl, by go_grown⟩
set_option maxRecDepth 100000 in
theorem iv_neg (d : Int) (k : Int) (c : Bool) (n : Int) (s : ByteArray) (A4 : Option Addr) (n4 c4 : Nat) (A5 : Option Addr) (n5 c5 : Nat) (w : World) (hd : decide (4 < d) = false) (hl : decide ((12 : Int) < n4) = false) (hk : decide (k < 0) = true) :
    Calls Tryz.prog 5 #[.agg #[.int .i64 k, .bool c, .int .i64 n, .string s, .slice A4 n4 c4, .slice A5 n5 c5], .int .i64 d] w fun e w' => e = .returned (.bool false) ∧ Below w.heap.size w w' := by
  go_enter Tryz.func5, Tryz.ntmps5
  go_wp2
  go_ret
  exact ⟨rfl, by go_grown⟩
set_option maxRecDepth 100000 in
theorem iv_big (d : Int) (k : Int) (c : Bool) (n : Int) (s : ByteArray) (A4 : Option Addr) (n4 c4 : Nat) (A5 : Option Addr) (n5 c5 : Nat) (w : World) (hd : decide (4 < d) = false) (hl : decide ((12 : Int) < n4) = false) (hk : decide (k < 0) = false) (hk5 : decide (5 < k) = true) :
    Calls Tryz.prog 5 #[.agg #[.int .i64 k, .bool c, .int .i64 n, .string s, .slice A4 n4 c4, .slice A5 n5 c5], .int .i64 d] w fun e w' => e = .returned (.bool false) ∧ Below w.heap.size w w' := by
  go_enter Tryz.func5, Tryz.ntmps5
  go_wp2
  go_ret
  exact ⟨rfl, by go_grown⟩
set_option maxRecDepth 100000 in
theorem iv_0 (d : Int) (c : Bool) (n : Int) (s : ByteArray) (A4 : Option Addr) (n4 c4 : Nat) (A5 : Option Addr) (n5 c5 : Nat) (w : World) (hd : decide (4 < d) = false) (hl : decide ((12 : Int) < n4) = false)  :
    Calls Tryz.prog 5 #[.agg #[.int .i64 0, .bool c, .int .i64 n, .string s, .slice A4 n4 c4, .slice A5 n5 c5], .int .i64 d] w fun e w' => e = .returned (.bool true) ∧ Below w.heap.size w w' := by
  go_enter Tryz.func5, Tryz.ntmps5
  go_wp2
  go_ret
  exact ⟨rfl, by go_grown⟩
set_option maxRecDepth 100000 in
theorem iv_1 (d : Int) (c : Bool) (n : Int) (s : ByteArray) (A4 : Option Addr) (n4 c4 : Nat) (A5 : Option Addr) (n5 c5 : Nat) (w : World) (hd : decide (4 < d) = false) (hl : decide ((12 : Int) < n4) = false)  :
    Calls Tryz.prog 5 #[.agg #[.int .i64 1, .bool c, .int .i64 n, .string s, .slice A4 n4 c4, .slice A5 n5 c5], .int .i64 d] w fun e w' => e = .returned (.bool true) ∧ Below w.heap.size w w' := by
  go_enter Tryz.func5, Tryz.ntmps5
  go_wp2
  go_ret
  exact ⟨rfl, by go_grown⟩
set_option maxRecDepth 100000 in
theorem iv_2up (d : Int) (c : Bool) (n : Int) (s : ByteArray) (A4 : Option Addr) (n4 c4 : Nat) (A5 : Option Addr) (n5 c5 : Nat) (w : World) (hd : decide (4 < d) = false) (hl : decide ((12 : Int) < n4) = false) (hn : decide (1000000000 < n) = true) :
    Calls Tryz.prog 5 #[.agg #[.int .i64 2, .bool c, .int .i64 n, .string s, .slice A4 n4 c4, .slice A5 n5 c5], .int .i64 d] w fun e w' => e = .returned (.bool false) ∧ Below w.heap.size w w' := by
  go_enter Tryz.func5, Tryz.ntmps5
  go_wp2
  go_ret
  exact ⟨rfl, by go_grown⟩
set_option maxRecDepth 100000 in
theorem iv_2down (d : Int) (c : Bool) (n : Int) (s : ByteArray) (A4 : Option Addr) (n4 c4 : Nat) (A5 : Option Addr) (n5 c5 : Nat) (w : World) (hd : decide (4 < d) = false) (hl : decide ((12 : Int) < n4) = false) (hn : decide (1000000000 < n) = false) (hn2 : decide (n < -1000000000) = true) :
    Calls Tryz.prog 5 #[.agg #[.int .i64 2, .bool c, .int .i64 n, .string s, .slice A4 n4 c4, .slice A5 n5 c5], .int .i64 d] w fun e w' => e = .returned (.bool false) ∧ Below w.heap.size w w' := by
  go_enter Tryz.func5, Tryz.ntmps5
  go_wp2
  go_ret
  exact ⟨rfl, by go_grown⟩
set_option maxRecDepth 100000 in
theorem iv_2 (d : Int) (c : Bool) (n : Int) (s : ByteArray) (A4 : Option Addr) (n4 c4 : Nat) (A5 : Option Addr) (n5 c5 : Nat) (w : World) (hd : decide (4 < d) = false) (hl : decide ((12 : Int) < n4) = false) (hn : decide (1000000000 < n) = false) (hn2 : decide (n < -1000000000) = false) :
    Calls Tryz.prog 5 #[.agg #[.int .i64 2, .bool c, .int .i64 n, .string s, .slice A4 n4 c4, .slice A5 n5 c5], .int .i64 d] w fun e w' => e = .returned (.bool true) ∧ Below w.heap.size w w' := by
  go_enter Tryz.func5, Tryz.ntmps5
  go_wp2
  go_ret
  exact ⟨rfl, by go_grown⟩
set_option maxRecDepth 100000 in
theorem iv_3no (d : Int) (c : Bool) (n : Int) (s : ByteArray) (A4 : Option Addr) (n4 c4 : Nat) (A5 : Option Addr) (n5 c5 : Nat) (w : World) (hd : decide (4 < d) = false) (hl : decide ((12 : Int) < n4) = false) (hs : s.size ≤ 9223372036854775807) (hp : plainB s = false) :
    Calls Tryz.prog 5 #[.agg #[.int .i64 3, .bool c, .int .i64 n, .string s, .slice A4 n4 c4, .slice A5 n5 c5], .int .i64 d] w fun e w' => e = .returned (.bool false) ∧ Below w.heap.size w w' := by
  go_enter Tryz.func5, Tryz.ntmps5
  go_wp2_with fail
  have hq := plain_any s hs (w.alloc (.cells #[.int .i64 3, .bool c, .int .i64 n, .string s, .slice A4 n4 c4, .slice A5 n5 c5] 25))
  rw [hp] at hq
  refine hq.mono ?_
  rintro e w1 ⟨rfl, hb1⟩
  have BK1 := blk_below (blk_new w _) hb1
  have HB1 := Aside0.mk (below_step (below_alloc (Below.refl w.heap.size w) _) hb1)
  clear hb1 hq
  have h0 : w1.cell? ⟨w.heap.size, 0, none⟩ = some (.int .i64 3) := (blk_cell BK1 0).trans rfl
  go_wp2
  go_ret
  exact ⟨rfl, HB1.out⟩
set_option maxRecDepth 100000 in
theorem iv_3 (d : Int) (c : Bool) (n : Int) (s : ByteArray) (A4 : Option Addr) (n4 c4 : Nat) (A5 : Option Addr) (n5 c5 : Nat) (w : World) (hd : decide (4 < d) = false) (hl : decide ((12 : Int) < n4) = false) (hs : s.size ≤ 9223372036854775807) (hp : plainB s = true) :
    Calls Tryz.prog 5 #[.agg #[.int .i64 3, .bool c, .int .i64 n, .string s, .slice A4 n4 c4, .slice A5 n5 c5], .int .i64 d] w fun e w' => e = .returned (.bool true) ∧ Below w.heap.size w w' := by
  go_enter Tryz.func5, Tryz.ntmps5
  go_wp2_with fail
  have hq := plain_any s hs (w.alloc (.cells #[.int .i64 3, .bool c, .int .i64 n, .string s, .slice A4 n4 c4, .slice A5 n5 c5] 25))
  rw [hp] at hq
  refine hq.mono ?_
  rintro e w1 ⟨rfl, hb1⟩
  have BK1 := blk_below (blk_new w _) hb1
  have HB1 := Aside0.mk (below_step (below_alloc (Below.refl w.heap.size w) _) hb1)
  clear hb1 hq
  have h0 : w1.cell? ⟨w.heap.size, 0, none⟩ = some (.int .i64 3) := (blk_cell BK1 0).trans rfl
  go_wp2
  go_ret
  exact ⟨rfl, HB1.out⟩
set_option maxRecDepth 100000 in
theorem iv_5ne (d : Int) (c : Bool) (n : Int) (s : ByteArray) (A4 : Option Addr) (n4 c4 : Nat) (A5 : Option Addr) (n5 c5 : Nat) (w : World) (hd : decide (4 < d) = false) (hl : decide ((12 : Int) < n4) = false) (hne : ((n5 : Int) == n4) = false) (hne2 : ((n5 : Int) != n4) = true) :
    Calls Tryz.prog 5 #[.agg #[.int .i64 5, .bool c, .int .i64 n, .string s, .slice A4 n4 c4, .slice A5 n5 c5], .int .i64 d] w fun e w' => e = .returned (.bool false) ∧ Below w.heap.size w w' := by
  go_enter Tryz.func5, Tryz.ntmps5
  go_wp2
  go_ret
  exact ⟨rfl, by go_grown⟩
end Go.Proofs.YtjeeclmhifecbaaGreatDoor
