/-
  laws.FnTexts returns true, by the two ways of IsValue. Condition: the table of powers of ten reads as its initialiser lays it.
-/
import Derived.Test.YtjeeclmhifecbaaGreatDoorG1
import Derived.Lib.QuietBelow
import Derived.BigQuiet
namespace Go.Proofs.YtjeeclmhifecbaaGreatDoor
open Go.RowKit Go.Proofs.YtjeeclmhifecbaaGreatDoorW.PrintWords PFnTexts
open Go.Sort
set_option linter.unusedVariables false
set_option linter.unusedSimpArgs false
/-- laws.zzFits2 answers something. -/
theorem fitsIn (y : S25) (hl : y.f5.length ≤ 9223372036854775807) : ∃ r : Bool, ∀ (A4 : Option Addr) (c4 : Nat) (A5 : Option Addr) (c5 : Nat) (w : World), In w y A4 c4 A5 c5 →
    Calls Tryz.prog 4 #[.agg #[.int .i64 y.f0, .bool y.f1, .int .i64 y.f2, .string y.f3, .slice A4 y.f4.length c4, .slice A5 y.f5.length c5]] w fun e w' => e = .returned (.bool r) ∧ Below w.heap.size w w' := by
  obtain ⟨r, k, h⟩ := fits2_total y hl
  exact ⟨r, fun A4 c4 A5 c5 w hin => laws_zzFits2.calls k y.f0 y.f1 y.f2 y.f3 A4 c4 y.f4 A5 c5 y.f5 r w hin.g4 hin.l4 hin.g5 hin.l5 h⟩
theorem isValueIn (y : S25) (A4 : Option Addr) (c4 : Nat) (A5 : Option Addr) (c5 : Nat) (w : World) (h : In w y A4 c4 A5 c5) :
    Calls Tryz.prog 5 #[.agg #[.int .i64 y.f0, .bool y.f1, .int .i64 y.f2, .string y.f3, .slice A4 y.f4.length c4, .slice A5 y.f5.length c5], .int .i64 0] w fun e w' => e = .returned (.bool (val 5 y)) ∧ Below w.heap.size w w' :=
  isValue 5 0 (by omega) (by rfl) y A4 c4 A5 c5 w h.l4 h.g4 h.l5 h.g5 h.wf

set_option maxRecDepth 100000 in
set_option maxHeartbeats 1000000 in
theorem law_no (y : S25) (A4 : Option Addr) (c4 : Nat) (A5 : Option Addr) (c5 : Nat) (w : World) (h : In w y A4 c4 A5 c5) (hv : Hid (val 5 y = false)) :
    Calls Tryz.prog 3 #[.agg #[.int .i64 y.f0, .bool y.f1, .int .i64 y.f2, .string y.f3, .slice A4 y.f4.length c4, .slice A5 y.f5.length c5]] w fun e w' => e = .returned (.bool true) ∧ Below w.heap.size w w' := by
  have hk : y.f5.length ≤ 9223372036854775807 := by cases h.wf; assumption
  obtain ⟨r, hf⟩ := fitsIn y hk
  clear hk
  have h1 := h.below (below_alloc (Below.refl _ _) (.cells #[.int .i64 y.f0, .bool y.f1, .int .i64 y.f2, .string y.f3, .slice A4 y.f4.length c4, .slice A5 y.f5.length c5] 25))
  have hc := hf A4 c4 A5 c5 _ h1
  clear hf
  go_enter Tryz.func3, Tryz.ntmps3
  go_wp2_with fail
  refine hc.mono ?_
  clear hc
  rintro e w1 ⟨rfl, hb1⟩
  have H1 := Aside0.mk (h1.below hb1)
  have HB1 := Aside0.mk (below_step (below_alloc (Below.refl w.heap.size w) _) hb1)
  have BK1 := Aside0.mk (blk_below (blk_new w _) hb1)
  clear hb1 h1 h
  cases r with
  | false =>
    go_wp2
    go_ret
    exact ⟨rfl, HB1.out⟩
  | true =>
    go_wp2
    have k0 := cell_regrown (((blk_cell BK1.out 0).trans rfl : w1.cell? ⟨w.heap.size, 0, none⟩ = some (.int .i64 y.f0)))
    have k1 := cell_regrown (((blk_cell BK1.out 1).trans rfl : w1.cell? ⟨w.heap.size, 1, none⟩ = some (.bool y.f1)))
    have k2 := cell_regrown (((blk_cell BK1.out 2).trans rfl : w1.cell? ⟨w.heap.size, 2, none⟩ = some (.int .i64 y.f2)))
    have k3 := cell_regrown (((blk_cell BK1.out 3).trans rfl : w1.cell? ⟨w.heap.size, 3, none⟩ = some (.string y.f3)))
    have k4 := cell_regrown (((blk_cell BK1.out 4).trans rfl : w1.cell? ⟨w.heap.size, 4, none⟩ = some (.slice A4 y.f4.length c4)))
    have k5 := cell_regrown (((blk_cell BK1.out 5).trans rfl : w1.cell? ⟨w.heap.size, 5, none⟩ = some (.slice A5 y.f5.length c5)))
    have c5' : ∀ d os, Calls Tryz.prog 5 #[.agg #[.int .i64 y.f0, .bool y.f1, .int .i64 y.f2, .string y.f3, .slice A4 y.f4.length c4, .slice A5 y.f5.length c5], .int .i64 0] (grow (redrawn w1 d) os) fun e w'' => e = .returned (.bool false) ∧ ∃ p : Regrown, w'' = grow (redrawn w1 p.d) p.os := fun d os => by
      have := isValueIn y A4 c4 A5 c5 _ (H1.out.below (below_regrown w1 d os))
      rw [hv.out] at this
      exact Calls.regrown_of this
    refine wp_region_quiet_below (by kernel_rfl) (by kernel_rfl) ?_
    repeat (quiet_step (first | exact c5' _ _))
    refine wpQuiet_nil ?_
    intro _ hw'
    obtain ⟨⟨dq, osq⟩, hw''⟩ := hw'
    subst hw''
    have hb2 := below_regrown w1 dq osq
    clear k0 k1 k2 k3 k4 k5
    generalize grow (redrawn w1 dq) osq = w2 at hb2 ⊢
    have H2 := Aside0.mk (H1.out.below hb2)
    have HB2 := Aside0.mk (below_step HB1.out hb2)
    have BK2 := Aside0.mk (blk_below BK1.out hb2)
    clear hb2 H1 HB1 BK1
    have q0 : w2.cell? ⟨w.heap.size, 0, none⟩ = some (.int .i64 y.f0) := (blk_cell BK2.out 0).trans rfl
    have q1 : w2.cell? ⟨w.heap.size, 1, none⟩ = some (.bool y.f1) := (blk_cell BK2.out 1).trans rfl
    have q2 : w2.cell? ⟨w.heap.size, 2, none⟩ = some (.int .i64 y.f2) := (blk_cell BK2.out 2).trans rfl
    have q3 : w2.cell? ⟨w.heap.size, 3, none⟩ = some (.string y.f3) := (blk_cell BK2.out 3).trans rfl
    have q4 : w2.cell? ⟨w.heap.size, 4, none⟩ = some (.slice A4 y.f4.length c4) := (blk_cell BK2.out 4).trans rfl
    have q5 : w2.cell? ⟨w.heap.size, 5, none⟩ = some (.slice A5 y.f5.length c5) := (blk_cell BK2.out 5).trans rfl
    clear c5'
    go_wp2_with fail
    have hc := isValueIn y A4 c4 A5 c5 w2 H2.out
    rw [hv.out] at hc
    refine hc.mono ?_
    clear hc
    rintro e w3 ⟨rfl, hb3⟩
    have HB3 := Aside0.mk (below_step HB2.out hb3)
    clear hb3 HB2 q0 q1 q2 q3 q4 q5
    go_wp2
    go_ret
    exact ⟨rfl, HB3.out⟩
set_option maxRecDepth 100000 in
set_option maxHeartbeats 1000000 in
theorem law_yes (y : S25) (A4 : Option Addr) (c4 : Nat) (A5 : Option Addr) (c5 : Nat) (w : World) (h : In w y A4 c4 A5 c5) (hv : Hid (val 5 y = true)) (ht : Tab w) :
    Calls Tryz.prog 3 #[.agg #[.int .i64 y.f0, .bool y.f1, .int .i64 y.f2, .string y.f3, .slice A4 y.f4.length c4, .slice A5 y.f5.length c5]] w fun e w' => e = .returned (.bool true) ∧ Below w.heap.size w w' := by
  have hk : y.f5.length ≤ 9223372036854775807 := by cases h.wf; assumption
  obtain ⟨r, hf⟩ := fitsIn y hk
  clear hk
  have h1 := h.below (below_alloc (Below.refl _ _) (.cells #[.int .i64 y.f0, .bool y.f1, .int .i64 y.f2, .string y.f3, .slice A4 y.f4.length c4, .slice A5 y.f5.length c5] 25))
  have hc := hf A4 c4 A5 c5 _ h1
  clear hf
  have T0 := Aside0.mk ht
  clear ht
  go_enter Tryz.func3, Tryz.ntmps3
  go_wp2_with fail
  refine hc.mono ?_
  clear hc
  rintro e w1 ⟨rfl, hb1⟩
  have H1 := Aside0.mk (h1.below hb1)
  have HB1 := Aside0.mk (below_step (below_alloc (Below.refl w.heap.size w) _) hb1)
  have BK1 := Aside0.mk (blk_below (blk_new w _) hb1)
  clear hb1 h1 h
  cases r with
  | false =>
    go_wp2
    go_ret
    exact ⟨rfl, HB1.out⟩
  | true =>
    go_wp2
    have k0 := cell_regrown (((blk_cell BK1.out 0).trans rfl : w1.cell? ⟨w.heap.size, 0, none⟩ = some (.int .i64 y.f0)))
    have k1 := cell_regrown (((blk_cell BK1.out 1).trans rfl : w1.cell? ⟨w.heap.size, 1, none⟩ = some (.bool y.f1)))
    have k2 := cell_regrown (((blk_cell BK1.out 2).trans rfl : w1.cell? ⟨w.heap.size, 2, none⟩ = some (.int .i64 y.f2)))
    have k3 := cell_regrown (((blk_cell BK1.out 3).trans rfl : w1.cell? ⟨w.heap.size, 3, none⟩ = some (.string y.f3)))
    have k4 := cell_regrown (((blk_cell BK1.out 4).trans rfl : w1.cell? ⟨w.heap.size, 4, none⟩ = some (.slice A4 y.f4.length c4)))
    have k5 := cell_regrown (((blk_cell BK1.out 5).trans rfl : w1.cell? ⟨w.heap.size, 5, none⟩ = some (.slice A5 y.f5.length c5)))
    have c5' : ∀ d os, Calls Tryz.prog 5 #[.agg #[.int .i64 y.f0, .bool y.f1, .int .i64 y.f2, .string y.f3, .slice A4 y.f4.length c4, .slice A5 y.f5.length c5], .int .i64 0] (grow (redrawn w1 d) os) fun e w'' => e = .returned (.bool true) ∧ ∃ p : Regrown, w'' = grow (redrawn w1 p.d) p.os := fun d os => by
      have := isValueIn y A4 c4 A5 c5 _ (H1.out.below (below_regrown w1 d os))
      rw [hv.out] at this
      exact Calls.regrown_of this
    have c6' : ∀ d os, Calls Tryz.prog 6 #[.agg #[.int .i64 y.f0, .bool y.f1, .int .i64 y.f2, .string y.f3, .slice A4 y.f4.length c4, .slice A5 y.f5.length c5]] (grow (redrawn w1 d) os) fun e w'' => e = .returned (.bool (truthB y)) ∧ ∃ p : Regrown, w'' = grow (redrawn w1 p.d) p.os := fun d os =>
      Calls.regrown_of (implIsTrue y A4 c4 A5 c5 _ (H1.out.below (below_regrown w1 d os)) hv)
    have c7' : ∀ d os, Calls Tryz.prog 7 #[.agg #[.int .i64 y.f0, .bool y.f1, .int .i64 y.f2, .string y.f3, .slice A4 y.f4.length c4, .slice A5 y.f5.length c5]] (grow (redrawn w1 d) os) fun e w'' => e = .returned (.bool (truthB y)) ∧ ∃ p : Regrown, w'' = grow (redrawn w1 p.d) p.os := fun d os =>
      Calls.regrown_of (specTrueIn y A4 c4 A5 c5 _ hv.out)
    refine wp_region_quiet_below (by kernel_rfl) (by kernel_rfl) ?_
    repeat (quiet_step (first | exact c5' _ _ | exact c6' _ _ | exact c7' _ _))
    refine wpQuiet_nil ?_
    intro _ hw'
    obtain ⟨⟨dq, osq⟩, hw''⟩ := hw'
    subst hw''
    have hb2 := below_regrown w1 dq osq
    clear k0 k1 k2 k3 k4 k5
    generalize grow (redrawn w1 dq) osq = w2 at hb2 ⊢
    have H2 := Aside0.mk (H1.out.below hb2)
    have HB2 := Aside0.mk (below_step HB1.out hb2)
    have BK2 := Aside0.mk (blk_below BK1.out hb2)
    clear hb2 H1 HB1 BK1
    have q0 : w2.cell? ⟨w.heap.size, 0, none⟩ = some (.int .i64 y.f0) := (blk_cell BK2.out 0).trans rfl
    have q1 : w2.cell? ⟨w.heap.size, 1, none⟩ = some (.bool y.f1) := (blk_cell BK2.out 1).trans rfl
    have q2 : w2.cell? ⟨w.heap.size, 2, none⟩ = some (.int .i64 y.f2) := (blk_cell BK2.out 2).trans rfl
    have q3 : w2.cell? ⟨w.heap.size, 3, none⟩ = some (.string y.f3) := (blk_cell BK2.out 3).trans rfl
    have q4 : w2.cell? ⟨w.heap.size, 4, none⟩ = some (.slice A4 y.f4.length c4) := (blk_cell BK2.out 4).trans rfl
    have q5 : w2.cell? ⟨w.heap.size, 5, none⟩ = some (.slice A5 y.f5.length c5) := (blk_cell BK2.out 5).trans rfl
    clear c5' c6' c7'
    go_wp2_with fail
    refine (specTextIn y A4 c4 A5 c5 w2 hv.out (T0.out.below HB2.out)).mono ?_
    rintro e w3 ⟨rfl, hb3⟩
    have H3 := Aside0.mk (H2.out.below hb3)
    have HB3 := Aside0.mk (below_step HB2.out hb3)
    have BK3 := Aside0.mk (blk_below BK2.out hb3)
    clear hb3 HB2 H2 BK2 q0 q1 q2 q3 q4 q5
    have q0 : w3.cell? ⟨w.heap.size, 0, none⟩ = some (.int .i64 y.f0) := (blk_cell BK3.out 0).trans rfl
    have q1 : w3.cell? ⟨w.heap.size, 1, none⟩ = some (.bool y.f1) := (blk_cell BK3.out 1).trans rfl
    have q2 : w3.cell? ⟨w.heap.size, 2, none⟩ = some (.int .i64 y.f2) := (blk_cell BK3.out 2).trans rfl
    have q3 : w3.cell? ⟨w.heap.size, 3, none⟩ = some (.string y.f3) := (blk_cell BK3.out 3).trans rfl
    have q4 : w3.cell? ⟨w.heap.size, 4, none⟩ = some (.slice A4 y.f4.length c4) := (blk_cell BK3.out 4).trans rfl
    have q5 : w3.cell? ⟨w.heap.size, 5, none⟩ = some (.slice A5 y.f5.length c5) := (blk_cell BK3.out 5).trans rfl
    cases hd : toldB y with
    | false =>
      go_wp2
      go_ret
      exact ⟨rfl, HB3.out⟩
    | true =>
      have HD : Hid (toldB y = true) := hd
      clear hd
      go_wp2_with fail
      refine (implTextOf y A4 c4 A5 c5 w3 H3.out hv HD (T0.out.below HB3.out)).mono ?_
      rintro e w4 ⟨rfl, hb4⟩
      have HB4 := Aside0.mk (below_step HB3.out hb4)
      clear hb4 HB3 q0 q1 q2 q3 q4 q5
      go_wp2
      go_ret
      exact ⟨rfl, HB4.out⟩
end Go.Proofs.YtjeeclmhifecbaaGreatDoor
