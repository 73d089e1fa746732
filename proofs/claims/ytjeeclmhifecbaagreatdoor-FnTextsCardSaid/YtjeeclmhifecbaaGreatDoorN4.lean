/-
  plain hands back plain data for every value that IsValue lets by. Condition: IsValue lets it by.
-/
import Derived.Test.YtjeeclmhifecbaaGreatDoorN3
import Derived.Test.YtjeeclmhifecbaaGreatDoorV4
namespace Go.Proofs.YtjeeclmhifecbaaGreatDoor
open Go.RowKit Go.Proofs.YtjeeclmhifecbaaGreatDoorW.PrintWords PFnTexts
set_option linter.unusedVariables false
set_option linter.unusedSimpArgs false
/-- What a value that the test lets by is like. -/
theorem val_parts {m : Nat} {y : S25} (h : val (m + 1) y = true) : (y.f4.length : Int) ≤ 12 ∧ 0 ≤ y.f0 ∧ y.f0 ≤ 5 ∧ (y.f0 = 2 → -1000000000 ≤ y.f2 ∧ y.f2 ≤ 1000000000) ∧ (y.f0 = 5 → y.f5.length = y.f4.length) ∧ (y.f0 = 4 ∨ y.f0 = 5 → ∀ z ∈ y.f4, val m z = true) := by
  unfold val headOk at h
  simp only [Bool.and_eq_true, Bool.or_eq_true, decide_eq_true_eq, Bool.not_eq_true', bne_iff_ne, ne_eq, List.all_eq_true] at h
  obtain ⟨⟨⟨⟨⟨⟨h1, h2⟩, h3⟩, h4⟩, h5⟩, h6⟩, h7⟩ := h
  refine ⟨by omega, h2, h3, fun e => ?_, fun e => ?_, fun e => ?_⟩
  · rw [e] at h4
    simp at h4
    omega
  · rcases h6 with h6 | ⟨h6, _⟩
    · exact absurd e h6
    · simpa using h6
  · rcases h7 with ⟨h7, h8⟩ | h7
    · rcases e with e | e
      · exact absurd e h7
      · exact absurd e h8
    · exact h7
/-- impl.plain: every value that the test lets by. -/
theorem plainAll (m : Nat) : Pl m := by
  induction m with
  | zero =>
    intro y A4 c4 A5 c5 W l4 g4 l5 g5 wf hv
    cases hv
  | succ m ih =>
    intro y A4 c4 A5 c5 W l4 g4 l5 g5 wf hv
    obtain ⟨h1, h2, h3, h4, h5, h6⟩ := val_parts hv
    have ihm : Hid (Pl m) := ih
    obtain ⟨k, c, n, s, x4, x5⟩ := y
    cases wf with
    | mk _ ht hl4 hl5 hks hi0 hi1 hxs =>
    simp only at *
    have hkk : k = 0 ∨ k = 1 ∨ k = 2 ∨ k = 3 ∨ k = 4 ∨ k = 5 := by omega
    rcases hkk with rfl | rfl | rfl | rfl | rfl | rfl
    · refine (plain_0 c n s A4 x4.length c4 A5 x5.length c5 W).mono ?_
      rintro e w' ⟨rfl, hb⟩
      exact ⟨_, rfl, ⟨.inl rfl, fun _ => rfl, fun h => by simp at h, fun h => by simp at h, fun h => by simp at h, fun h => by simp at h, fun h => by simp at h⟩, hb⟩
    · refine (plain_1 c n s A4 x4.length c4 A5 x5.length c5 W).mono ?_
      rintro e w' ⟨rfl, hb⟩
      exact ⟨_, rfl, ⟨.inr ⟨_, _, rfl⟩, fun h => by simp at h, fun _ => rfl, fun h => by simp at h, fun h => by simp at h, fun h => by simp at h, fun h => by simp at h⟩, hb⟩
    · refine (plain_2 c n s A4 x4.length c4 A5 x5.length c5 W hi0 hi1).mono ?_
      rintro e w' ⟨rfl, hb⟩
      exact ⟨_, rfl, ⟨.inr ⟨_, _, rfl⟩, fun h => by simp at h, fun h => by simp at h, fun _ => rfl, fun h => by simp at h, fun h => by simp at h, fun h => by simp at h⟩, hb⟩
    · refine (plain_3 c n s A4 x4.length c4 A5 x5.length c5 W).mono ?_
      rintro e w' ⟨rfl, hb⟩
      exact ⟨_, rfl, ⟨.inr ⟨_, _, rfl⟩, fun h => by simp at h, fun h => by simp at h, fun h => by simp at h, fun _ => rfl, fun h => by simp at h, fun h => by simp at h⟩, hb⟩
    · refine (plain_4 m c n s A4 x4 c4 A5 x5.length c5 W h1 g4 (fun y hy => ⟨hxs y hy, h6 (.inl rfl) y hy⟩) ihm).mono ?_
      rintro e w' ⟨A, k, rfl, hb⟩
      exact ⟨_, rfl, ⟨.inr ⟨_, _, rfl⟩, fun h => by simp at h, fun h => by simp at h, fun h => by simp at h, fun h => by simp at h, fun _ => ⟨A, k, rfl⟩, fun h => by simp at h⟩, hb⟩
    · refine (plain_5 m c n s A4 x4 c4 A5 x5 c5 W h1 (h5 rfl) g4 (fun y hy => ⟨hxs y hy, h6 (.inr rfl) y hy⟩) g5 hks ihm).mono ?_
      rintro e w' ⟨b, rfl, ⟨D, _, es, clock, he, hs⟩, hb⟩
      exact ⟨_, rfl, ⟨.inr ⟨_, _, rfl⟩, fun h => by simp at h, fun h => by simp at h, fun h => by simp at h, fun h => by simp at h, fun h => by simp at h, fun _ => ⟨b, es, clock, rfl, he, by rw [hs, h5 rfl]⟩⟩, hb⟩
end Go.Proofs.YtjeeclmhifecbaaGreatDoor
