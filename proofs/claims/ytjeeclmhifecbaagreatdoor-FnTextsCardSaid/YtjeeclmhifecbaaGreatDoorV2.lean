/-
  IsValue at a list: it answers whether all elements are values with one level less. Condition: the contract with one level less.
-/
import Derived.Test.YtjeeclmhifecbaaGreatDoorV1
import Derived.Deep.LoopGhost
import Derived.LoopTactic
namespace Go.Proofs.YtjeeclmhifecbaaGreatDoor
open Go.RowKit Go.Proofs.YtjeeclmhifecbaaGreatDoorW.PrintWords PFnTexts
set_option linter.unusedVariables false
set_option linter.unusedSimpArgs false
/-- A key at its place: a name, and greater than the one ahead of it. -/
noncomputable def okAt (l : List ByteArray) (i : Nat) : Bool := nameB (rdOf ByteArray.empty l i) && (i == 0 || Op.bytesLess (rdOf ByteArray.empty l ((i - 1 : Nat) : Int)).toList (rdOf ByteArray.empty l i).toList)
noncomputable def keysOk (l : List ByteArray) : Bool := (List.range l.length).all (okAt l)
/-- The head of the test, without the lists' parts. -/
noncomputable def headOk (x : S25) : Bool := decide (x.f4.length ≤ 12) && decide (0 ≤ x.f0) && decide (x.f0 ≤ 5) && !(x.f0 == 2 && (decide (1000000000 < x.f2) || decide (x.f2 < -1000000000))) && !(x.f0 == 3 && !plainB x.f3)
/-- What IsValue answers with m levels left. -/
noncomputable def val : Nat → S25 → Bool
  | 0, _ => false
  | m + 1, x => headOk x && (x.f0 != 5 || (x.f5.length == x.f4.length && keysOk x.f5)) && ((x.f0 != 4 && x.f0 != 5) || x.f4.all (val m))
/-- The contract with m levels left, as a callee. -/
def Ih (m : Nat) (d1 : Int) : Prop := ∀ (y : S25) (A4 : Option Addr) (c4 : Nat) (A5 : Option Addr) (c5 : Nat) (W : World), y.f4.length ≤ c4 → Kd.C k25 W A4 y.f4.length y.f4 → y.f5.length ≤ c5 → Kd.C Kd.string W A5 y.f5.length y.f5 → WF y →
  Calls Tryz.prog 5 #[.agg #[.int .i64 y.f0, .bool y.f1, .int .i64 y.f2, .string y.f3, .slice A4 y.f4.length c4, .slice A5 y.f5.length c5], .int .i64 d1] W fun e w' => e = .returned (.bool (val m y)) ∧ Below W.heap.size W w'

theorem all_snoc {α : Type} (p : α → Bool) (l : List α) (i : Nat) (hi : i < l.length) (d : α) (h : (l.take i).all p = true) : (l.take (i + 1)).all p = p (l.getD i d) := by
  rw [List.take_succ_eq_append_getElem hi, List.all_append, h]
  simp [List.getD, List.getElem?_eq_getElem hi]
theorem all_fails {α : Type} (p : α → Bool) (l : List α) (i : Nat) (hi : i < l.length) (d : α) (h : p (l.getD i d) = false) : l.all p = false := by
  rw [Bool.eq_false_iff]
  intro hh
  have := List.all_eq_true.1 hh _ (List.getElem_mem hi)
  rw [List.getD, List.getElem?_eq_getElem hi] at h
  simp only [Option.getD_some] at h
  rw [h] at this
  cases this


/-- Element i of a list that is read, in a later world. -/
theorem at_val {w wr : World} {A : Option Addr} {l : List S25} (h : Kd.C k25 w A l.length l) (hb : Below w.heap.size w wr) (i : Nat) (hi : i < l.length) : ∃ (ad : Addr) (y : S25) (B4 : Option Addr) (d4 : Nat) (B5 : Option Addr) (d5 : Nat), A = some ad ∧ l.getD i z25 = y ∧ y ∈ l ∧
    wr.cell? (ad.add (i * 6)) = some (.int .i64 y.f0) ∧ wr.cell? ⟨(ad.add (i * 6)).block, (ad.add (i * 6)).off + 1, none⟩ = some (.bool y.f1) ∧ wr.cell? ⟨(ad.add (i * 6)).block, (ad.add (i * 6)).off + 2, none⟩ = some (.int .i64 y.f2) ∧
    wr.cell? ⟨(ad.add (i * 6)).block, (ad.add (i * 6)).off + 3, none⟩ = some (.string y.f3) ∧ wr.cell? ⟨(ad.add (i * 6)).block, (ad.add (i * 6)).off + 4, none⟩ = some (.slice B4 y.f4.length d4) ∧ wr.cell? ⟨(ad.add (i * 6)).block, (ad.add (i * 6)).off + 5, none⟩ = some (.slice B5 y.f5.length d5) ∧
    Aside0 (y.f4.length ≤ d4 ∧ Kd.C k25 wr B4 y.f4.length y.f4 ∧ y.f5.length ≤ d5 ∧ Kd.C Kd.string wr B5 y.f5.length y.f5) := by
  obtain ⟨ad, B4, d4, B5, d5, e0, x0, x1, x2, x3, x4, x5, hl4, hi4, hl5, hi5⟩ := at_T25 h (i : Int) (by omega) (by omega)
  have e : rd_T25 l (i : Int) = l.getD i z25 := by simp [rd_T25]
  rw [Int.toNat_natCast] at x0 x1 x2 x3 x4 x5
  rw [e] at x0 x1 x2 x3 x4 x5 hl4 hi4 hl5 hi5
  refine ⟨ad, l.getD i z25, B4, d4, B5, d5, e0, rfl, ?_, (hb.cell (World.block_lt_of_cell? w _ x0)).trans x0, (hb.cell (World.block_lt_of_cell? w _ x1)).trans x1, (hb.cell (World.block_lt_of_cell? w _ x2)).trans x2, (hb.cell (World.block_lt_of_cell? w _ x3)).trans x3, (hb.cell (World.block_lt_of_cell? w _ x4)).trans x4, (hb.cell (World.block_lt_of_cell? w _ x5)).trans x5, ⟨hl4, Kd.C_below hi4 hb, hl5, Kd.C_below hi5 hb⟩⟩
  rw [List.getD, List.getElem?_eq_getElem hi]
  exact List.getElem_mem hi

set_option maxRecDepth 100000 in
set_option maxHeartbeats 1000000 in
theorem iv_4 (m : Nat) (d : Int) (c : Bool) (n : Int) (s : ByteArray) (A4 : Option Addr) (l4 : List S25) (c4 : Nat) (A5 : Option Addr) (n5 c5 : Nat) (w : World) (hd0 : 0 ≤ d) (hd : decide (4 < d) = false) (hl : decide ((12 : Int) < l4.length) = false)
    (hr : Kd.C k25 w A4 l4.length l4) (hw : ∀ y ∈ l4, WF y) (ih : Hid (Ih m (d + 1))) :
    Calls Tryz.prog 5 #[.agg #[.int .i64 4, .bool c, .int .i64 n, .string s, .slice A4 l4.length c4, .slice A5 n5 c5], .int .i64 d] w fun e w' => e = .returned (.bool (l4.all (val m))) ∧ Below w.heap.size w w' := by
  have hl' : (l4.length : Int) ≤ 12 := by simpa using hl
  have hd' : d ≤ 4 := by simpa using hd
  have HR := Aside0.mk hr
  have HW := Aside0.mk hw
  have HB := Aside0.mk (below_alloc (Below.refl w.heap.size w) (.cells #[.int .i64 4, .bool c, .int .i64 n, .string s, .slice A4 l4.length c4, .slice A5 n5 c5] 25))
  clear hr hw
  go_enter Tryz.func5, Tryz.ntmps5
  go_wp2
  go_loopw [98] (fun v wr => ∃ i : Nat, i ≤ l4.length ∧ v = .int .i64 i ∧ Aside0 (Below w.heap.size w wr) ∧ Aside0 ((l4.take i).all (val m) = true)) (fun v _ => l4.length - (intOf v).toNat)
  case atStart => exact ⟨0, Nat.zero_le _, rfl, HB, ⟨rfl⟩⟩
  case round =>
    clear HB
    obtain ⟨i, hi, rfl, HB, HA⟩ := hrel
    by_cases hlt : i < l4.length
    · obtain ⟨ad, y, B4, d4, B5, d5, e0, e1, hy, x0, x1, x2, x3, x4, x5, hin⟩ := at_val HR.out HB.out i hlt
      subst e0
      have E1 := Aside0.mk e1
      have HY := Aside0.mk (HW.out y hy)
      clear e1 hy
      go_wp2_with fail
      have hc := ih.out y B4 d4 B5 d5 (wr.alloc (.cells #[.int .i64 y.f0, .bool y.f1, .int .i64 y.f2, .string y.f3, .slice B4 y.f4.length d4, .slice B5 y.f5.length d5] 25)) hin.out.1 (Kd.C_below hin.out.2.1 (below_alloc (Below.refl _ _) _)) hin.out.2.2.1 (Kd.C_below hin.out.2.2.2 (below_alloc (Below.refl _ _) _)) HY.out
      cases hv : val m y with
      | true =>
        rw [hv] at hc
        have HV := Aside0.mk hv
        clear hv
        refine hc.mono ?_
        clear hc
        rintro e w1 ⟨rfl, hb1⟩
        have HB1 := Aside0.mk (below_step (below_alloc HB.out _) hb1)
        clear hb1 x0 x1 x2 x3 x4 x5
        go_wp2
        go_roundw
        case rel => exact ⟨i + 1, by omega, by go_num, HB1, ⟨by rw [all_snoc _ _ _ hlt z25 HA.out, E1.out, HV.out]⟩⟩
        case measure => simp [intOf]; omega
      | false =>
        rw [hv] at hc
        have HV := Aside0.mk hv
        clear hv
        refine hc.mono ?_
        clear hc
        rintro e w1 ⟨rfl, hb1⟩
        have HB1 := Aside0.mk (below_step (below_alloc HB.out _) hb1)
        clear hb1 x0 x1 x2 x3 x4 x5
        go_wp2
        go_ret
        exact ⟨by rw [all_fails _ _ _ hlt z25 (by rw [E1.out, HV.out])]; rfl, HB1.out⟩
    · go_wp2
      go_ret
      refine ⟨?_, HB.out⟩
      have e : l4.take i = l4 := List.take_of_length_le (by omega)
      have := HA.out
      rw [e] at this
      rw [this]
      rfl
end Go.Proofs.YtjeeclmhifecbaaGreatDoor
