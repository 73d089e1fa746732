/-
  impl.IsTrue and spec.IsTrue give one truth value, impl.TextOf and spec.TextOf one text where it is told. Conditions: IsValue lets the value by; the table of powers of ten reads as its initialiser lays it.
-/
import Derived.Test.YtjeeclmhifecbaaGreatDoorN4
import Derived.Test.YtjeeclmhifecbaaGreatDoorE7
import Derived.Test.YtjeeclmhifecbaaGreatDoorF1
namespace Go.Proofs.YtjeeclmhifecbaaGreatDoor
open Go.RowKit Go.Proofs.YtjeeclmhifecbaaGreatDoorW.PrintWords PFnTexts
set_option linter.unusedVariables false
set_option linter.unusedSimpArgs false
/-- Whether a value counts as true. -/
def truthB (y : S25) : Bool := if y.f0 = 1 then y.f1 else if y.f0 = 2 then (y.f2 != 0) else if y.f0 = 3 then decide (0 < y.f3.size) else if y.f0 = 4 ∨ y.f0 = 5 then decide (0 < y.f4.length) else false
/-- The text by which a value is written, and whether it is told. -/
def textB (y : S25) : ByteArray := if y.f0 = 1 then boolText y.f1 else if y.f0 = 2 then itoaB y.f2 else if y.f0 = 3 then y.f3 else ⟨#[]⟩
def toldB (y : S25) : Bool := decide (y.f0 ≤ 3)
/-- A value that was read. -/
structure In (w : World) (y : S25) (A4 : Option Addr) (c4 : Nat) (A5 : Option Addr) (c5 : Nat) : Prop where
  l4 : y.f4.length ≤ c4
  g4 : Kd.C k25 w A4 y.f4.length y.f4
  l5 : y.f5.length ≤ c5
  g5 : Kd.C Kd.string w A5 y.f5.length y.f5
  wf : WF y
theorem In.below {w w' : World} {y : S25} {A4 : Option Addr} {c4 : Nat} {A5 : Option Addr} {c5 : Nat} (h : In w y A4 c4 A5 c5) (hb : Below w.heap.size w w') : In w' y A4 c4 A5 c5 :=
  ⟨h.l4, Kd.C_below h.g4 hb, h.l5, Kd.C_below h.g5 hb, h.wf⟩
theorem kinds {y : S25} (hv : val 5 y = true) : y.f0 = 0 ∨ y.f0 = 1 ∨ y.f0 = 2 ∨ y.f0 = 3 ∨ y.f0 = 4 ∨ y.f0 = 5 := by
  obtain ⟨_, h2, h3, _⟩ := val_parts hv
  omega
theorem ints {y : S25} (hv : val 5 y = true) (h : y.f0 = 2) : -9223372036854775808 ≤ y.f2 ∧ y.f2 ≤ 9223372036854775807 := by
  obtain ⟨_, _, _, h4, _⟩ := val_parts hv
  have := h4 h
  omega

theorem trueOf {y : S25} {x : Value} {W : World} (hv : val 5 y = true) (h : Plain y x W) :
    Calls Tryz.prog 13 #[x] W fun e w' => e = .returned (.bool (truthB y)) ∧ Below W.heap.size W w' := by
  rcases kinds hv with e | e | e | e | e | e
  · rw [h.none e, show truthB y = false by simp [truthB, e]]
    exact true_nil W
  · rw [h.bool e, show truthB y = y.f1 by simp [truthB, e]]
    exact true_4 y.f1 W
  · rw [h.int e, show truthB y = (y.f2 != 0) by simp [truthB, e]]
    exact true_3 y.f2 W
  · rw [h.text e, show truthB y = decide (0 < y.f3.size) by simp [truthB, e]]
    exact true_9 y.f3 W
  · obtain ⟨A, c, rfl⟩ := h.list e
    rw [show truthB y = decide (0 < y.f4.length) by simp [truthB, e]]
    exact true_41 A y.f4.length c W
  · obtain ⟨r, es, clock, rfl, hm, hs⟩ := h.dict e
    rw [show truthB y = decide (0 < y.f4.length) by simp [truthB, e], ← hs]
    exact true_42 r es clock W hm
theorem textOfI {y : S25} {x : Value} {W : World} (hv : val 5 y = true) (h : Plain y x W) (ht : Tab W) (hd : toldB y = true) :
    Calls Tryz.prog 17 #[x] W fun e w' => e = .returned (.string (textB y)) ∧ Below W.heap.size W w' := by
  rcases kinds hv with e | e | e | e | e | e
  · rw [h.none e, show textB y = ⟨#[]⟩ by simp [textB, e]]
    exact text_nil W
  · rw [h.bool e, show textB y = boolText y.f1 by simp [textB, e]]
    exact text_4 y.f1 W
  · rw [h.int e, show textB y = itoaB y.f2 by simp [textB, e]]
    exact text_3 y.f2 W (ints hv e).1 (ints hv e).2 ht
  · rw [h.text e, show textB y = y.f3 by simp [textB, e]]
    exact text_9 y.f3 W
  · simp [toldB, e] at hd
  · simp [toldB, e] at hd

/-- impl.IsTrue. -/
theorem implIsTrue (y : S25) (A4 : Option Addr) (c4 : Nat) (A5 : Option Addr) (c5 : Nat) (w : World) (h : In w y A4 c4 A5 c5) (hv : Hid (val 5 y = true)) :
    Calls Tryz.prog 6 #[.agg #[.int .i64 y.f0, .bool y.f1, .int .i64 y.f2, .string y.f3, .slice A4 y.f4.length c4, .slice A5 y.f5.length c5]] w fun e w' => e = .returned (.bool (truthB y)) ∧ Below w.heap.size w w' := by
  go_enter Tryz.func6, Tryz.ntmps6
  go_wp2_with fail
  have h1 := h.below (below_alloc (Below.refl _ _) (.cells #[.int .i64 y.f0, .bool y.f1, .int .i64 y.f2, .string y.f3, .slice A4 y.f4.length c4, .slice A5 y.f5.length c5] 25))
  refine (plainAll 5 y A4 c4 A5 c5 _ h1.l4 h1.g4 h1.l5 h1.g5 h1.wf hv.out).mono ?_
  rintro e w1 ⟨x, rfl, hp, hb1⟩
  have HB1 := Aside0.mk (below_step (below_alloc (Below.refl w.heap.size w) _) hb1)
  clear hb1 h1 h
  go_wp2_with fail
  refine (trueOf hv.out hp).mono ?_
  rintro e w2 ⟨rfl, hb2⟩
  have HB2 := Aside0.mk (below_step HB1.out hb2)
  clear hb2 HB1 hp
  go_wp2
  go_ret
  exact ⟨rfl, HB2.out⟩
/-- impl.TextOf, where it is told. -/
theorem implTextOf (y : S25) (A4 : Option Addr) (c4 : Nat) (A5 : Option Addr) (c5 : Nat) (w : World) (h : In w y A4 c4 A5 c5) (hv : Hid (val 5 y = true)) (hd : Hid (toldB y = true)) (ht : Tab w) :
    Calls Tryz.prog 9 #[.agg #[.int .i64 y.f0, .bool y.f1, .int .i64 y.f2, .string y.f3, .slice A4 y.f4.length c4, .slice A5 y.f5.length c5]] w fun e w' => e = .returned (.string (textB y)) ∧ Below w.heap.size w w' := by
  have T0 := Aside0.mk ht
  clear ht
  go_enter Tryz.func9, Tryz.ntmps9
  go_wp2_with fail
  have h1 := h.below (below_alloc (Below.refl _ _) (.cells #[.int .i64 y.f0, .bool y.f1, .int .i64 y.f2, .string y.f3, .slice A4 y.f4.length c4, .slice A5 y.f5.length c5] 25))
  refine (plainAll 5 y A4 c4 A5 c5 _ h1.l4 h1.g4 h1.l5 h1.g5 h1.wf hv.out).mono ?_
  rintro e w1 ⟨x, rfl, hp, hb1⟩
  have HB1 := Aside0.mk (below_step (below_alloc (Below.refl w.heap.size w) _) hb1)
  clear hb1 h1 h
  go_wp2_with fail
  refine (textOfI hv.out hp (T0.out.below HB1.out) hd.out).mono ?_
  rintro e w2 ⟨rfl, hb2⟩
  have HB2 := Aside0.mk (below_step HB1.out hb2)
  clear hb2 HB1 hp
  go_wp2
  go_ret
  exact ⟨rfl, HB2.out⟩

theorem specTrueIn (y : S25) (A4 : Option Addr) (c4 : Nat) (A5 : Option Addr) (c5 : Nat) (w : World) (hv : val 5 y = true) :
    Calls Tryz.prog 7 #[.agg #[.int .i64 y.f0, .bool y.f1, .int .i64 y.f2, .string y.f3, .slice A4 y.f4.length c4, .slice A5 y.f5.length c5]] w fun e w' => e = .returned (.bool (truthB y)) ∧ Below w.heap.size w w' := by
  refine specIsTrue_of (truthB y) y.f1 y.f2 y.f3 A4 y.f4.length c4 A5 y.f5.length c5 y.f0 w (fun W => ?_)
  rcases kinds hv with e | e | e | e | e | e
  · rw [e, show truthB y = false by simp [truthB, e]]
    exact specTrue_0 _ _ _ _ _ _ _ _ _ W
  · rw [e, show truthB y = y.f1 by simp [truthB, e]]
    exact specTrue_1 _ _ _ _ _ _ _ _ _ W
  · rw [e, show truthB y = (y.f2 != 0) by simp [truthB, e]]
    exact specTrue_2 _ _ _ _ _ _ _ _ _ W
  · rw [e, show truthB y = (!y.f3.toList.isEmpty) by simp only [truthB, e, size_toList]; rfl]
    exact specTrue_3 _ _ _ _ _ _ _ _ _ W
  · rw [e, show truthB y = decide (0 < y.f4.length) by simp [truthB, e]]
    exact specTrue_4 _ _ _ _ _ _ _ _ _ W
  · rw [e, show truthB y = decide (0 < y.f4.length) by simp [truthB, e]]
    exact specTrue_5 _ _ _ _ _ _ _ _ _ W
theorem specTextIn (y : S25) (A4 : Option Addr) (c4 : Nat) (A5 : Option Addr) (c5 : Nat) (w : World) (hv : val 5 y = true) (ht : Tab w) :
    Calls Tryz.prog 8 #[.agg #[.int .i64 y.f0, .bool y.f1, .int .i64 y.f2, .string y.f3, .slice A4 y.f4.length c4, .slice A5 y.f5.length c5]] w fun e w' => e = .returned (.tuple #[.string (textB y), .bool (toldB y)]) ∧ Below w.heap.size w w' := by
  refine specTextOf_of (textB y) (if y.f0 ≤ 3 then 0 else 2) (toldB y) (by unfold toldB; split <;> simp_all) y.f1 y.f2 y.f3 A4 y.f4.length c4 A5 y.f5.length c5 y.f0 w ht (fun W hT => ?_)
  rcases kinds hv with e | e | e | e | e | e
  · rw [show textB y = ⟨#[]⟩ by simp [textB, e], e]
    exact textOf_0 _ _ _ _ _ _ _ _ _ W
  · rw [show textB y = boolText y.f1 by simp [textB, e], e]
    exact textOf_1 _ _ _ _ _ _ _ _ _ W
  · rw [show textB y = itoaB y.f2 by simp [textB, e], e]
    exact textOf_2 _ _ _ _ _ _ _ _ _ W (ints hv e).1 (ints hv e).2 hT
  · rw [show textB y = y.f3 by simp [textB, e], e]
    exact textOf_3 _ _ _ _ _ _ _ _ _ W
  · rw [show textB y = ⟨#[]⟩ by simp [textB, e], e]
    exact textOf_4 _ _ _ _ _ _ _ _ _ W
  · rw [show textB y = ⟨#[]⟩ by simp [textB, e], e]
    exact textOf_5 _ _ _ _ _ _ _ _ _ W
end Go.Proofs.YtjeeclmhifecbaaGreatDoor
