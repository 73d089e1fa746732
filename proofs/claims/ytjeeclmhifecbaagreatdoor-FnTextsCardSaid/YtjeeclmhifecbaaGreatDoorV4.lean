/-
  IsValue answers val for every value that was read. Condition: the depth and the levels left come to five.
-/
import Derived.Test.YtjeeclmhifecbaaGreatDoorV3
namespace Go.Proofs.YtjeeclmhifecbaaGreatDoor
open Go.RowKit Go.Proofs.YtjeeclmhifecbaaGreatDoorW.PrintWords PFnTexts
set_option linter.unusedVariables false
set_option linter.unusedSimpArgs false
theorem val_of_head {m : Nat} {x : S25} (h : headOk x = false) : val (m + 1) x = false := by
  unfold val
  rw [h]
  rfl
/-- spec.IsValue answers val, with so many levels left. -/
theorem isValue (m : Nat) : ∀ d : Int, 0 ≤ d → d + m = 5 → Ih m d := by
  induction m with
  | zero =>
    intro d h0 h5 y A4 c4 A5 c5 W l4 g4 l5 g5 wf
    exact iv_deep d y.f0 y.f1 y.f2 y.f3 A4 y.f4.length c4 A5 y.f5.length c5 W (decide_eq_true (by omega))
  | succ m ih =>
    intro d h0 h5 y A4 c4 A5 c5 W l4 g4 l5 g5 wf
    have hd : decide (4 < d) = false := decide_eq_false (by omega)
    have ihm : Hid (Ih m (d + 1)) := ih (d + 1) (by omega) (by omega)
    obtain ⟨k, c, n, s, x4, x5⟩ := y
    cases wf with
    | mk _ ht hl4 hl5 hks hi0 hi1 hxs =>
    simp only at *
    by_cases hl : (12 : Int) < x4.length
    · rw [val_of_head (by unfold headOk; rw [decide_eq_false (show ¬ x4.length ≤ 12 by omega)]; rfl)]
      exact iv_long d k c n s A4 x4.length c4 A5 x5.length c5 W hd (decide_eq_true hl)
    have hlb : decide ((12 : Int) < x4.length) = false := decide_eq_false hl
    have hl' : x4.length ≤ 12 := by omega
    by_cases hk : k < 0
    · rw [val_of_head (by unfold headOk; simp; intros; omega)]
      exact iv_neg d k c n s A4 x4.length c4 A5 x5.length c5 W hd hlb (decide_eq_true hk)
    have hkb : decide (k < 0) = false := decide_eq_false hk
    by_cases hk5 : 5 < k
    · rw [val_of_head (by unfold headOk; simp; intros; omega)]
      exact iv_big d k c n s A4 x4.length c4 A5 x5.length c5 W hd hlb hkb (decide_eq_true hk5)
    have hkk : k = 0 ∨ k = 1 ∨ k = 2 ∨ k = 3 ∨ k = 4 ∨ k = 5 := by omega
    rcases hkk with rfl | rfl | rfl | rfl | rfl | rfl
    · have e : val (m + 1) ⟨0, c, n, s, x4, x5⟩ = true := by simp [val, headOk, hl']
      rw [e]
      exact iv_0 d c n s A4 x4.length c4 A5 x5.length c5 W hd hlb
    · have e : val (m + 1) ⟨1, c, n, s, x4, x5⟩ = true := by simp [val, headOk, hl']
      rw [e]
      exact iv_1 d c n s A4 x4.length c4 A5 x5.length c5 W hd hlb
    · by_cases h1 : 1000000000 < n
      · have e : val (m + 1) ⟨2, c, n, s, x4, x5⟩ = false := val_of_head (by simp [headOk]; intros; omega)
        rw [e]
        exact iv_2up d c n s A4 x4.length c4 A5 x5.length c5 W hd hlb (decide_eq_true h1)
      by_cases h2 : n < -1000000000
      · have e : val (m + 1) ⟨2, c, n, s, x4, x5⟩ = false := val_of_head (by simp [headOk]; intros; omega)
        rw [e]
        exact iv_2down d c n s A4 x4.length c4 A5 x5.length c5 W hd hlb (decide_eq_false h1) (decide_eq_true h2)
      · have e : val (m + 1) ⟨2, c, n, s, x4, x5⟩ = true := by simp [val, headOk, hl']; omega
        rw [e]
        exact iv_2 d c n s A4 x4.length c4 A5 x5.length c5 W hd hlb (decide_eq_false h1) (decide_eq_false h2)
    · cases hp : plainB s with
      | false =>
        have e : val (m + 1) ⟨3, c, n, s, x4, x5⟩ = false := val_of_head (by simp [headOk, hp])
        rw [e]
        exact iv_3no d c n s A4 x4.length c4 A5 x5.length c5 W hd hlb ht hp
      | true =>
        have e : val (m + 1) ⟨3, c, n, s, x4, x5⟩ = true := by simp [val, headOk, hl', hp]
        rw [e]
        exact iv_3 d c n s A4 x4.length c4 A5 x5.length c5 W hd hlb ht hp
    · have e : val (m + 1) ⟨4, c, n, s, x4, x5⟩ = x4.all (val m) := by simp [val, headOk, hl']
      rw [e]
      exact iv_4 m d c n s A4 x4 c4 A5 x5.length c5 W h0 hd hlb g4 hxs ihm
    · by_cases hn : x5.length = x4.length
      · have e : val (m + 1) ⟨5, c, n, s, x4, x5⟩ = (keysOk x5 && x4.all (val m)) := by simp [val, headOk, hl', hn]
        rw [e]
        exact iv_5 m d c n s A4 x4 c4 A5 x5 c5 W h0 hd hlb hn (by rw [hn]; simp) g4 hxs g5 hks ihm
      · have e : val (m + 1) ⟨5, c, n, s, x4, x5⟩ = false := by simp [val, hn]
        rw [e]
        exact iv_5ne d c n s A4 x4.length c4 A5 x5.length c5 W hd hlb (by simp; omega) (by simp; omega)
end Go.Proofs.YtjeeclmhifecbaaGreatDoor
