/-
  What the form reads at the type of a value is a tree of values with texts and lists of Go's lengths. No condition.
-/
import Derived.Test.YtjeeclmhifecbaaGreatDoorPFnTextsx0
import Derived.ProofKit
import Derived.Deep.Slices
namespace Go.Proofs.YtjeeclmhifecbaaGreatDoor
open Go.RowKit Go.Proofs.YtjeeclmhifecbaaGreatDoorW.PrintWords PFnTexts
set_option linter.unusedVariables false
set_option linter.unusedSimpArgs false
theorem cells25 : Tryz.prog.cellsOf 25 = 6 := by kernel_rfl
theorem cells9 : Tryz.prog.cellsOf 9 = 1 := by kernel_rfl
theorem cells22 : Tryz.prog.cellsOf 22 = 1 := by kernel_rfl
theorem cells23 : Tryz.prog.cellsOf 23 = 1 := by kernel_rfl
theorem cells2 : Tryz.prog.cellsOf 2 = 1 := by kernel_rfl
theorem cells4 : Tryz.prog.cellsOf 4 = 1 := by kernel_rfl

/-- The bounds of what was read: texts, lists. -/
inductive WF : S25 → Prop
  | mk (x : S25) (t : x.f3.size ≤ 9223372036854775807) (l : x.f4.length ≤ 9223372036854775807) (k : x.f5.length ≤ 9223372036854775807) (ks : ∀ s ∈ x.f5, s.size ≤ 9223372036854775807)
      (i0 : -9223372036854775808 ≤ x.f2) (i1 : x.f2 ≤ 9223372036854775807) (xs : ∀ y ∈ x.f4, WF y) : WF x

theorem add_add (a : Addr) (m j : Nat) : (a.add m).add j = a.add (m + j) := by
  unfold Addr.add
  by_cases hm : m = 0
  · subst hm; simp
  · by_cases hj : j = 0
    · subst hj; simp
    · rw [if_neg hm, if_neg hj, if_neg (by omega)]
      simp [Nat.add_assoc]
theorem six {α : Type} (l : List α) (h : l.length = 6) : ∃ c0 c1 c2 c3 c4 c5, l = [c0, c1, c2, c3, c4, c5] := by
  match l, h with
  | [c0, c1, c2, c3, c4, c5], _ => exact ⟨c0, c1, c2, c3, c4, c5, rfl⟩

theorem pick {β : Type} (p : Nat → β → Prop) : ∀ n, (∀ i, i < n → ∃ y, p i y) → ∃ l : List β, l.length = n ∧ ∀ i y, l[i]? = some y → p i y
  | 0, _ => ⟨[], rfl, fun i y h => by simp at h⟩
  | n + 1, h => by
    obtain ⟨l, hl, hp⟩ := pick p n (fun i hi => h i (by omega))
    obtain ⟨y, hy⟩ := h n (by omega)
    refine ⟨l ++ [y], by simp [hl], fun i z hz => ?_⟩
    rw [List.getElem?_append] at hz
    by_cases hi : i < l.length
    · rw [if_pos hi] at hz
      exact hp i z hz
    · rw [if_neg hi] at hz
      obtain rfl : i = n := by
        rcases Nat.lt_or_ge (i - l.length) 1 with h1 | h1
        · omega
        · rw [List.getElem?_eq_none (by simpa using h1)] at hz
          cases hz
      have e : i - l.length = 0 := by omega
      rw [e] at hz
      have : y = z := by simpa using hz
      subst this
      exact hy

section
variable {H : Type} {enc : TypeId × Value → H} {w : World} {sp : Nat → Bool} {held : Bool}
theorem read_row {α : Type} (K : Kd α) (R : α → Prop) {t e : TypeId} (ht : Tryz.prog.underlying t = some (.slice e)) (hs : Tryz.prog.cellsOf e = K.sz) {fuel : Nat} {cs : List Value} {x : DataW H × List MemPlace}
    (ih : ∀ n cs x, n < fuel → DataW.trod enc Tryz.prog w 0 sp held n e cs = some x → ∃ y, K.K w y cs ∧ R y)
    (h : DataW.trod enc Tryz.prog w 0 sp held fuel t cs = some x) :
    ∃ A c l, cs = [.slice A l.length c] ∧ l.length ≤ c ∧ l.length ≤ 9223372036854775807 ∧ K.C w A l.length l ∧ ∀ y ∈ l, R y := by
  rcases DataW.trod_slice ht h with ⟨rfl, _⟩ | ⟨a, len, cap, elems, rest, n, rfl, rfl, _, _, hl, hm, hlen, hel, _, _⟩
  · exact ⟨none, 0, [], rfl, Nat.le_refl _, by simp, ⟨rfl, by simp, fun h => absurd h (by simp)⟩, fun y hy => by simp at hy⟩
  · obtain ⟨l, h1, h2⟩ := pick (fun i y => (∃ c, c.length = K.sz ∧ K.K w y c ∧ ∀ j u, c[j]? = some u → w.cell? (a.add (i * K.sz + j)) = some u) ∧ R y) len (fun i hi => by
      have key := hel i hi
      rw [List.getElem?_eq_getElem (by omega), hs] at key
      obtain ⟨cs', k1, k2⟩ := Option.bind_eq_some_iff.1 key
      obtain ⟨y, k3, k4⟩ := ih n cs' _ (by omega) k2
      obtain ⟨_, k5, k6⟩ := World.cells?_some k1
      refine ⟨y, ⟨cs', k5, k3, fun j u hj => ?_⟩, k4⟩
      have hj' : j < K.sz := by
        rcases Nat.lt_or_ge j cs'.length with h1 | h1
        · omega
        · rw [List.getElem?_eq_none h1] at hj; cases hj
      have k7 := k6 j hj'
      rw [hj] at k7
      rw [← k7, add_add])
    subst h1
    unfold maxLen at hm
    refine ⟨some a, cap, l, rfl, hl, by omega, ⟨rfl, by omega, fun _ => ⟨a, rfl, fun j p hj => (h2 j p hj).1⟩⟩, fun y hy => ?_⟩
    obtain ⟨i, hi⟩ := List.getElem?_of_mem hy
    exact (h2 i y hi).2

theorem read_string {n : Nat} {cs : List Value} {x : DataW H × List MemPlace} (h : DataW.trod enc Tryz.prog w 0 sp held n 9 cs = some x) : ∃ s : ByteArray, Kd.string.K w s cs ∧ s.size ≤ 9223372036854775807 := by
  obtain ⟨s, rfl, _, hs⟩ := DataW.trod_string Tryz.underlying9 h
  exact ⟨s, rfl, hs⟩
theorem read_value (fuel : Nat) : ∀ cs (x : DataW H × List MemPlace), DataW.trod enc Tryz.prog w 0 sp held fuel 25 cs = some x → ∃ y, k25.K w y cs ∧ WF y := by
  induction fuel using Nat.strongRecOn with
  | _ fuel ih =>
  intro cs x h
  obtain ⟨xs, n, rfl, _, hl, hx, hf⟩ := DataW.trod_struct Tryz.underlying25 h
  rw [cells25] at hl
  obtain ⟨c0, c1, c2, c3, c4, c5, rfl⟩ := six cs hl
  have hx : xs.length = 6 := hx
  have g0 : DataW.trod enc Tryz.prog w 0 sp held n 2 (([c0, c1, c2, c3, c4, c5].drop 0).take (Tryz.prog.cellsOf 2)) = xs[0]? := hf 0 _ rfl
  rw [cells2, List.getElem?_eq_getElem (by omega)] at g0
  have g1 : DataW.trod enc Tryz.prog w 0 sp held n 4 (([c0, c1, c2, c3, c4, c5].drop 1).take (Tryz.prog.cellsOf 4)) = xs[1]? := hf 1 _ rfl
  rw [cells4, List.getElem?_eq_getElem (by omega)] at g1
  have g2 : DataW.trod enc Tryz.prog w 0 sp held n 2 (([c0, c1, c2, c3, c4, c5].drop 2).take (Tryz.prog.cellsOf 2)) = xs[2]? := hf 2 _ rfl
  rw [cells2, List.getElem?_eq_getElem (by omega)] at g2
  have g3 : DataW.trod enc Tryz.prog w 0 sp held n 9 (([c0, c1, c2, c3, c4, c5].drop 3).take (Tryz.prog.cellsOf 9)) = xs[3]? := hf 3 _ rfl
  rw [cells9, List.getElem?_eq_getElem (by omega)] at g3
  have g4 : DataW.trod enc Tryz.prog w 0 sp held n 22 (([c0, c1, c2, c3, c4, c5].drop 4).take (Tryz.prog.cellsOf 22)) = xs[4]? := hf 4 _ rfl
  rw [cells22, List.getElem?_eq_getElem (by omega)] at g4
  have g5 : DataW.trod enc Tryz.prog w 0 sp held n 23 (([c0, c1, c2, c3, c4, c5].drop 5).take (Tryz.prog.cellsOf 23)) = xs[5]? := hf 5 _ rfl
  rw [cells23, List.getElem?_eq_getElem (by omega)] at g5
  obtain ⟨z0, e0, _, _⟩ := DataW.trod_int Tryz.underlying2 g0
  obtain ⟨z1, e1, _⟩ := DataW.trod_bool Tryz.underlying4 g1
  obtain ⟨z2, e2, _, w2⟩ := DataW.trod_int Tryz.underlying2 g2
  obtain ⟨z3, e3, _, w3⟩ := DataW.trod_string Tryz.underlying9 g3
  obtain ⟨A4, d4, l4, e4, n4, m4, r4, q4⟩ := read_row k25 WF Tryz.underlying22 (cells25.trans rfl) (fun m cs x hm hx => ih m (by omega) cs x hx) g4
  obtain ⟨A5, d5, l5, e5, n5, m5, r5, q5⟩ := read_row Kd.string (fun s => s.size ≤ 9223372036854775807) Tryz.underlying23 (cells9.trans rfl) (fun m cs x hm hx => read_string hx) g5
  cases e0
  cases e1
  cases e2
  cases e3
  cases e4
  cases e5
  have hw : -9223372036854775808 ≤ z2 ∧ z2 ≤ 9223372036854775807 := by simpa [Lit.wf, IntKind.min, IntKind.max, IntKind.signed, IntKind.bits] using w2
  exact ⟨⟨z0, z1, z2, z3, l4, l5⟩, k25_mk w ⟨z0, z1, z2, z3, l4, l5⟩ n4 r4 n5 r5, .mk _ w3 m4 m5 q5 hw.1 hw.2 q4⟩
end
end Go.Proofs.YtjeeclmhifecbaaGreatDoor
