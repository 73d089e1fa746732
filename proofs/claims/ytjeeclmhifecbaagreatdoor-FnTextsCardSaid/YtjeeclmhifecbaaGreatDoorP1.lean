/-
  zzFits2, isPlain and IsName always answer something. Condition: lengths are lengths of Go.
-/
import Derived.Test.YtjeeclmhifecbaaGreatDoorPFnTextsx2
import Derived.Test.YtjeeclmhifecbaaGreatDoorPFnTextsx1
namespace Go.Proofs.YtjeeclmhifecbaaGreatDoor
open Go.RowKit Go.Proofs.YtjeeclmhifecbaaGreatDoorW.PrintWords Go.Proofs.YtjeeclmhifecbaaGreatDoorW.PrintLast PFnTexts
set_option linter.unusedVariables false
set_option linter.unusedSimpArgs false
theorem wrap_up {i : Int} (h0 : 0 ≤ i) (h : i < 9223372036854775807) : wrap64 (i + 1) = i + 1 := by unfold wrap64; omega

theorem plain_loop (s : ByteArray) (hs : s.size ≤ 9223372036854775807) (d : Nat) : ∀ i : Int, 0 ≤ i → i + d = s.size → ∃ r, spec_isPlain.l0 (d + 1) s (s.size : Int) i = some r := by
  induction d with
  | zero =>
    intro i h0 h1
    exact ⟨_, by simp only [spec_isPlain.l0]; rw [if_neg (by omega)]⟩
  | succ d ih =>
    intro i h0 h1
    obtain ⟨r, hr⟩ := ih (i + 1) (by omega) (by omega)
    rw [← wrap_up h0 (by omega)] at hr
    rw [spec_isPlain.l0, if_pos (by omega), if_pos h0, if_pos (by omega)]
    by_cases c1 : bt s i = 9
    · exact ⟨r, by rw [if_pos c1]; exact hr⟩
    rw [if_neg c1]
    by_cases c2 : bt s i = 10
    · exact ⟨r, by rw [if_pos c2]; exact hr⟩
    rw [if_neg c2]
    by_cases c3 : bt s i < 32
    · exact ⟨false, by rw [if_pos c3]⟩
    rw [if_neg c3]
    by_cases c4 : bt s i > 126
    · exact ⟨false, by rw [if_pos c4]⟩
    rw [if_neg c4]
    exact ⟨r, hr⟩
theorem plain_total (s : ByteArray) (hs : s.size ≤ 9223372036854775807) : ∃ r, ∃ k, spec_isPlain.f k s = some r := by
  obtain ⟨r, hr⟩ := plain_loop s hs s.size 0 (by omega) (by omega)
  exact ⟨r, s.size + 1, hr⟩

theorem name_words (s : ByteArray) (l : List ByteArray) (hl : l.length < 9223372036854775807) (d : Nat) : ∀ i : Int, 0 ≤ i → i + d = l.length → ∃ r, spec_IsName.l1 (d + 1) s l (l.length : Int) i = some r := by
  induction d with
  | zero =>
    intro i h0 h1
    exact ⟨_, by simp only [spec_IsName.l1]; rw [if_neg (by omega)]⟩
  | succ d ih =>
    intro i h0 h1
    obtain ⟨r, hr⟩ := ih (i + 1) (by omega) (by omega)
    rw [← wrap_up h0 (by omega)] at hr
    rw [spec_IsName.l1, if_pos (by omega), if_pos h0, if_pos (by omega)]
    by_cases c1 : s.toList = (rdOf ByteArray.empty l i).toList
    · exact ⟨false, by rw [if_pos c1]⟩
    rw [if_neg c1]
    exact ⟨r, hr⟩
theorem name_loop (s : ByteArray) (hs : s.size ≤ 9223372036854775807) (d : Nat) : ∀ i : Int, 0 ≤ i → i + d = s.size → ∃ r, spec_IsName.l0 (d + 25) s (s.size : Int) i = some r := by
  induction d with
  | zero =>
    intro i h0 h1
    simp only [spec_IsName.l0]
    rw [if_neg (by omega)]
    simp only [Option.bind_some]
    exact name_words s _ (by decide) 23 0 (by decide) (by rfl)
  | succ d ih =>
    intro i h0 h1
    obtain ⟨r, hr⟩ := ih (i + 1) (by omega) (by omega)
    rw [← wrap_up h0 (by omega)] at hr
    rw [show d + 1 + 25 = (d + 25) + 1 by omega, spec_IsName.l0, if_pos (by omega), if_pos h0, if_pos (by omega)]
    by_cases c1 : bt s i < 97
    · rw [if_pos c1]
      by_cases c3 : bt s i < 48
      · exact ⟨false, by rw [if_pos c3]⟩
      rw [if_neg c3]
      by_cases c4 : bt s i > 57
      · exact ⟨false, by rw [if_pos c4]⟩
      rw [if_neg c4]
      exact ⟨r, hr⟩
    rw [if_neg c1]
    by_cases c2 : bt s i > 122
    · rw [if_pos c2]
      by_cases c3 : bt s i < 48
      · exact ⟨false, by rw [if_pos c3]⟩
      rw [if_neg c3]
      by_cases c4 : bt s i > 57
      · exact ⟨false, by rw [if_pos c4]⟩
      rw [if_neg c4]
      exact ⟨r, hr⟩
    rw [if_neg c2]
    exact ⟨r, hr⟩
theorem name_j0 (s : ByteArray) (hs : s.size ≤ 9223372036854775807) (c : Bool) : ∃ r, spec_IsName.j0 (s.size + 26) s c = some r := by
  obtain ⟨r, hr⟩ := name_loop s hs s.size 0 (by omega) (by omega)
  rw [show s.size + 26 = (s.size + 25) + 1 by omega, spec_IsName.j0]
  by_cases c1 : c = true
  · exact ⟨false, by rw [if_pos c1]⟩
  · exact ⟨r, by rw [if_neg c1]; exact hr⟩
theorem name_total (s : ByteArray) (hs : s.size ≤ 9223372036854775807) : ∃ r, ∃ k, spec_IsName.f k s = some r := by
  obtain ⟨r1, h1⟩ := name_j0 s hs true
  obtain ⟨r2, h2⟩ := name_j0 s hs (decide (bt s 0 > 122))
  unfold spec_IsName.f
  by_cases c1 : (s.size : Int) < 2
  · exact ⟨r1, _, by rw [if_pos c1]; exact h1⟩
  by_cases c2 : (s.size : Int) > 8
  · exact ⟨r1, _, by rw [if_neg c1, if_pos c2]; exact h1⟩
  have c3 : 0 < (s.size : Int) := by omega
  by_cases c4 : bt s 0 < 97
  · exact ⟨r1, _, by rw [if_neg c1, if_neg c2, if_pos c3, if_pos c4]; exact h1⟩
  · exact ⟨r2, _, by rw [if_neg c1, if_neg c2, if_pos c3, if_neg c4]; exact h2⟩

theorem fits1_loop (l : List ByteArray) (hl : l.length ≤ 9223372036854775807) (d : Nat) : ∀ i : Int, 0 ≤ i → i + d = l.length → ∃ r, laws_zzFits1.l0 (d + 1) l (l.length : Int) i = some r := by
  induction d with
  | zero =>
    intro i h0 h1
    exact ⟨_, by simp only [laws_zzFits1.l0]; rw [if_neg (by omega)]⟩
  | succ d ih =>
    intro i h0 h1
    obtain ⟨r, hr⟩ := ih (i + 1) (by omega) (by omega)
    rw [← wrap_up h0 (by omega)] at hr
    rw [laws_zzFits1.l0, if_pos (by omega), if_pos h0, if_pos (by omega)]
    by_cases c1 : ((rdOf ByteArray.empty l i).size : Int) > 2147483647
    · exact ⟨false, by rw [if_pos c1]⟩
    rw [if_neg c1]
    exact ⟨r, hr⟩
theorem fits2_total (x : S25) (hl : x.f5.length ≤ 9223372036854775807) : ∃ r, ∃ k, laws_zzFits2.f k x.f0 x.f1 x.f2 x.f3 x.f4 x.f5 = some r := by
  obtain ⟨r, hr⟩ := fits1_loop x.f5 hl x.f5.length 0 (by omega) (by omega)
  unfold laws_zzFits2.f laws_zzFits1.f
  by_cases c1 : (x.f3.size : Int) > 2147483647
  · exact ⟨false, 0, by rw [if_pos c1]⟩
  simp only [if_neg c1]
  by_cases c2 : (x.f4.length : Int) > 2147483647
  · exact ⟨false, 0, by rw [if_pos c2]⟩
  simp only [if_neg c2]
  by_cases c3 : (x.f5.length : Int) > 2147483647
  · exact ⟨false, 0, by rw [if_pos c3]; rfl⟩
  simp only [if_neg c3]
  refine ⟨r, x.f5.length + 1, ?_⟩
  rw [hr]
  cases r <;> rfl

open Classical in
/-- What isPlain answers. -/
noncomputable def plainB (s : ByteArray) : Bool := if h : ∃ r, ∃ k, spec_isPlain.f k s = some r then h.choose else false
open Classical in
/-- What IsName answers. -/
noncomputable def nameB (s : ByteArray) : Bool := if h : ∃ r, ∃ k, spec_IsName.f k s = some r then h.choose else false
theorem plain_any (s : ByteArray) (hs : s.size ≤ 9223372036854775807) (w : World) :
    Calls Tryz.prog 11 #[.string s] w fun e w' => e = .returned (.bool (plainB s)) ∧ Below w.heap.size w w' := by
  have h := plain_total s hs
  have e : plainB s = h.choose := by unfold plainB; rw [dif_pos h]
  obtain ⟨k, hk⟩ := h.choose_spec
  rw [e]
  exact (spec_isPlain.calls k s _ w hk).mono fun e w' ⟨he, hd⟩ => ⟨he, hd.below⟩
theorem name_any (s : ByteArray) (hs : s.size ≤ 9223372036854775807) (w : World) :
    Calls Tryz.prog 12 #[.string s] w fun e w' => e = .returned (.bool (nameB s)) ∧ Below w.heap.size w w' := by
  have h := name_total s hs
  have e : nameB s = h.choose := by unfold nameB; rw [dif_pos h]
  obtain ⟨k, hk⟩ := h.choose_spec
  rw [e]
  exact spec_IsName.calls k s _ w hk
end Go.Proofs.YtjeeclmhifecbaaGreatDoor
