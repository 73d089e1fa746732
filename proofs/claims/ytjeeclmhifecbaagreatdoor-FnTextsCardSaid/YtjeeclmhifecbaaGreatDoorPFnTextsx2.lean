-- PRINTED BY print.sh 35421559b90ae4d0a3588c463048766b98c2df88dd9212a6774a882060cdf62d: not written by this session
import Derived.Test.YtjeeclmhifecbaaGreatDoorPFnTextsx0
namespace Go.Proofs.YtjeeclmhifecbaaGreatDoor.PFnTexts
open Go.RowKit Go.Proofs.YtjeeclmhifecbaaGreatDoorW.PrintWords Go.Proofs.YtjeeclmhifecbaaGreatDoorW.PrintLast Go.Proofs.YtjeeclmhifecbaaGreatDoorW.PrintMore
attribute [local go_sem] max2_int min2_int max_two min_two max_three min_three max_four min_four   -- for this text's walks alone
set_option linter.unusedVariables false
set_option linter.unusedSimpArgs false

/-! ### spec_IsName: function 12 -/
mutual
def spec_IsName.j0 : Nat → ByteArray → Bool → Option (Bool)
  | 0, _, _ => none
  | k + 1, x0, x23 => if x23 = true then (some false) else (spec_IsName.l0 k x0 (x0.size : Int) 0)
def spec_IsName.l0 : Nat → ByteArray → Int → Int → Option (Bool)
  | 0, _, _, _ => none
  | k + 1, x0, x25, x26 => if x26 < x25 then (if 0 ≤ x26 then (if x26 < (x0.size : Int) then (if (bt x0 x26) < 97 then (if (bt x0 x26) < 48 then (some false) else (if (bt x0 x26) > 57 then (some false) else (spec_IsName.l0 k x0 x25 (wrap64 (x26 + 1))))) else (if (bt x0 x26) > 122 then (if (bt x0 x26) < 48 then (some false) else (if (bt x0 x26) > 57 then (some false) else (spec_IsName.l0 k x0 x25 (wrap64 (x26 + 1))))) else (spec_IsName.l0 k x0 x25 (wrap64 (x26 + 1))))) else (none)) else (none)) else ((some (([(⟨#[105, 110]⟩ : ByteArray), (⟨#[97, 110, 100]⟩ : ByteArray), (⟨#[111, 114]⟩ : ByteArray), (⟨#[110, 111, 116]⟩ : ByteArray), (⟨#[116, 114, 117, 101]⟩ : ByteArray), (⟨#[102, 97, 108, 115, 101]⟩ : ByteArray), (⟨#[97, 115]⟩ : ByteArray), (⟨#[101, 120, 112, 111, 114, 116]⟩ : ByteArray), (⟨#[110, 111, 110, 101]⟩ : ByteArray), (⟨#[110, 105, 108]⟩ : ByteArray), (⟨#[102, 111, 114, 108, 111, 111, 112]⟩ : ByteArray), (⟨#[112, 111, 110, 103, 111, 50]⟩ : ByteArray), (⟨#[98, 108, 111, 99, 107]⟩ : ByteArray), (⟨#[119, 105, 116, 104]⟩ : ByteArray), (⟨#[105, 102]⟩ : ByteArray), (⟨#[102, 111, 114]⟩ : ByteArray), (⟨#[115, 101, 116]⟩ : ByteArray), (⟨#[115, 111, 114, 116, 101, 100]⟩ : ByteArray), (⟨#[114, 101, 118, 101, 114, 115, 101, 100]⟩ : ByteArray), (⟨#[111, 110, 108, 121]⟩ : ByteArray), (⟨#[115, 105, 108, 101, 110, 116]⟩ : ByteArray), (⟨#[101, 108, 115, 101]⟩ : ByteArray), (⟨#[105, 115]⟩ : ByteArray)] : List ByteArray) : List ByteArray)).bind fun y104 => (spec_IsName.l1 k x0 y104 (y104.length : Int) 0))
def spec_IsName.l1 : Nat → ByteArray → List ByteArray → Int → Int → Option (Bool)
  | 0, _, _, _, _ => none
  | k + 1, x0, x52, x53, x54 => if x54 < x53 then (if 0 ≤ x54 then (if x54 < (x52.length : Int) then (if x0.toList = (rdOf ByteArray.empty x52 x54).toList then (some false) else (spec_IsName.l1 k x0 x52 x53 (wrap64 (x54 + 1)))) else (none)) else (none)) else (some true)
end
def spec_IsName.f (k : Nat) (a0 : ByteArray) : Option (Bool) := if (a0.size : Int) < 2 then (spec_IsName.j0 k a0 true) else (if (a0.size : Int) > 8 then (spec_IsName.j0 k a0 true) else (if 0 < (a0.size : Int) then (if (bt a0 0) < 97 then (spec_IsName.j0 k a0 true) else (spec_IsName.j0 k a0 (decide ((bt a0 0) > 122)))) else (none)))
theorem spec_IsName.mono_l : ∀ k, (∀ y0 y1, LeO (spec_IsName.j0 k y0 y1) (spec_IsName.j0 (k + 1) y0 y1)) ∧ (∀ y0 y1 y2, LeO (spec_IsName.l0 k y0 y1 y2) (spec_IsName.l0 (k + 1) y0 y1 y2)) ∧ (∀ y0 y1 y2 y3, LeO (spec_IsName.l1 k y0 y1 y2 y3) (spec_IsName.l1 (k + 1) y0 y1 y2 y3))
  | 0 => ⟨fun _ _ r h => by simp [spec_IsName.j0] at h, fun _ _ _ r h => by simp [spec_IsName.l0] at h, fun _ _ _ _ r h => by simp [spec_IsName.l1] at h⟩
  | k + 1 => by
    obtain ⟨ih0, ih1, ih2⟩ := spec_IsName.mono_l k
    refine ⟨?_, ?_, ?_⟩
    · intro y0 y1
      unfold spec_IsName.j0
      repeat' first
      | (with_reducible exact ih0 _ _)
      | (with_reducible exact ih1 _ _ _)
      | (with_reducible exact ih2 _ _ _ _)
      | (with_reducible exact LeO.refl _)
      | (with_reducible exact LeO.none _)
      | (with_reducible refine LeO.ite ?_ ?_)
      | (with_reducible refine LeO.bind ?_ (fun _ => ?_))
      | exact ih0 _ _
      | exact ih1 _ _ _
      | exact ih2 _ _ _ _
      | exact LeO.none _
      | refine LeO.ite ?_ ?_
      | refine LeO.bind ?_ (fun _ => ?_)
    · intro y0 y1 y2
      unfold spec_IsName.l0
      repeat' first
      | (with_reducible exact ih0 _ _)
      | (with_reducible exact ih1 _ _ _)
      | (with_reducible exact ih2 _ _ _ _)
      | (with_reducible exact LeO.refl _)
      | (with_reducible exact LeO.none _)
      | (with_reducible refine LeO.ite ?_ ?_)
      | (with_reducible refine LeO.bind ?_ (fun _ => ?_))
      | exact ih0 _ _
      | exact ih1 _ _ _
      | exact ih2 _ _ _ _
      | exact LeO.none _
      | refine LeO.ite ?_ ?_
      | refine LeO.bind ?_ (fun _ => ?_)
    · intro y0 y1 y2 y3
      unfold spec_IsName.l1
      repeat' first
      | (with_reducible exact ih0 _ _)
      | (with_reducible exact ih1 _ _ _)
      | (with_reducible exact ih2 _ _ _ _)
      | (with_reducible exact LeO.refl _)
      | (with_reducible exact LeO.none _)
      | (with_reducible refine LeO.ite ?_ ?_)
      | (with_reducible refine LeO.bind ?_ (fun _ => ?_))
      | exact ih0 _ _
      | exact ih1 _ _ _
      | exact ih2 _ _ _ _
      | exact LeO.none _
      | refine LeO.ite ?_ ?_
      | refine LeO.bind ?_ (fun _ => ?_)
theorem spec_IsName.mono : ∀ a0 k, LeO (spec_IsName.f k a0) (spec_IsName.f (k + 1) a0) := by
  intro a0 k
  obtain ⟨ih0, ih1, ih2⟩ := spec_IsName.mono_l k
  unfold spec_IsName.f
  repeat' first
      | (with_reducible exact ih0 _ _)
      | (with_reducible exact ih1 _ _ _)
      | (with_reducible exact ih2 _ _ _ _)
      | (with_reducible exact LeO.refl _)
      | (with_reducible exact LeO.none _)
      | (with_reducible refine LeO.ite ?_ ?_)
      | (with_reducible refine LeO.bind ?_ (fun _ => ?_))
      | exact ih0 _ _
      | exact ih1 _ _ _
      | exact ih2 _ _ _ _
      | exact LeO.none _
      | refine LeO.ite ?_ ?_
      | refine LeO.bind ?_ (fun _ => ?_)
set_option maxHeartbeats 8000000 in
set_option maxRecDepth 100000 in
theorem spec_IsName.calls (k : Nat) (a0 : ByteArray) (r : Bool) (w : World) (h : spec_IsName.f k a0 = some r) :
    Calls Tryz.prog 12 #[.string a0] w fun e w' => e = .returned (.bool r) ∧ Below w.heap.size w w' := by
  have HB := Aside0.mk (Below.refl w.heap.size w)
  have H : (if (a0.size : Int) < 2 then (spec_IsName.j0 k a0 true) else (if (a0.size : Int) > 8 then (spec_IsName.j0 k a0 true) else (if 0 < (a0.size : Int) then (if (bt a0 0) < 97 then (spec_IsName.j0 k a0 true) else (spec_IsName.j0 k a0 (decide ((bt a0 0) > 122)))) else (none)))) = some r := h
  clear h
  have HC2 := Aside0.mk H
  clear H
  go_enter Tryz.func12, Tryz.ntmps12
  go_upto_region 1 with (fail)
  go_cut [23] (fun v23 wc => ∃ (kq : Nat) (x23_1 : Bool), v23 = .bool x23_1 ∧ Aside0 (spec_IsName.j0 kq a0 x23_1 = some r) ∧ Aside0 (kq ≤ k) ∧ Aside0 (Below w.heap.size w wc))
  case first =>
    have H := HC2.out
    clear HC2
    by_cases c3 : (a0.size : Int) < 2
    · rw [if_pos c3] at H
      have c3b0 : decide ((a0.size : Int) < 2) = true := decide_eq_true c3
      have c3b1 : decide (a0.size < 2) = true := decide_eq_true (by omega)
      clear c3
      (first | rw [c3b0] | (simp only [i64_w, i32_w]; rw [c3b0]) | skip)
      have H' := Aside0.mk H
      clear H
      go_wp2
      go_meet
      case rel => exact ⟨_, (true), (by first | rfl | (simp; done) | (simp [*]; done)), H', ⟨by first | omega | exact Nat.le_refl _⟩, ⟨by repeat (first | (with_reducible first | exact HB.out | apply below_alloc | apply pw_below_drewN | apply below_drew1) | exact HB.out)⟩⟩
    · rw [if_neg c3] at H
      have c3b0 : decide ((a0.size : Int) < 2) = false := decide_eq_false c3
      have c3b1 : decide (a0.size < 2) = false := decide_eq_false (by omega)
      clear c3
      (first | rw [c3b0] | (simp only [i64_w, i32_w]; rw [c3b0]) | skip)
      by_cases c4 : (a0.size : Int) > 8
      · rw [if_pos c4] at H
        have c4b0 : decide (8 < (a0.size : Int)) = true := decide_eq_true c4
        have c4b1 : decide (8 < a0.size) = true := decide_eq_true (by omega)
        clear c4
        have H' := Aside0.mk H
        clear H
        go_wp2
        go_meet
        case rel => exact ⟨_, (true), (by first | rfl | (simp; done) | (simp [*]; done)), H', ⟨by first | omega | exact Nat.le_refl _⟩, ⟨by repeat (first | (with_reducible first | exact HB.out | apply below_alloc | apply pw_below_drewN | apply below_drew1) | exact HB.out)⟩⟩
      · rw [if_neg c4] at H
        have c4b0 : decide (8 < (a0.size : Int)) = false := decide_eq_false c4
        have c4b1 : decide (8 < a0.size) = false := decide_eq_false (by omega)
        clear c4
        by_cases c5 : 0 < (a0.size : Int)
        · rw [if_pos c5] at H
          have c5b0 : decide (0 < (a0.size : Int)) = true := decide_eq_true c5
          have c5b1 : decide (0 < a0.size) = true := decide_eq_true (by omega)
          clear c5
          by_cases c7 : (bt a0 0) < 97
          · rw [if_pos c7] at H
            have c7b0 : decide ((bt a0 0) < 97) = true := decide_eq_true c7
            clear c7
            have H' := Aside0.mk H
            clear H
            have p6 : 0 ≤ (0 : Int) := (by omega)
            have q6 : 0 < a0.size := (by have : (0 : Int) < (a0.size : Int) := of_decide_eq_true (by first | (with_reducible assumption) | assumption); omega)
            have hx6 : ∀ h : 0 < a0.size, ((a0[0]'h).toNat : Int) = bt a0 0 := bt_at a0 0
            clear p6
            have qi6 : (0 < (a0.size : Int)) = True := eq_true (of_decide_eq_true (by first | (with_reducible assumption) | assumption))
            replace q6 := eq_true q6
            go_wp2
            go_meet
            case rel => exact ⟨_, (true), (by first | rfl | (simp; done) | (simp [*]; done)), H', ⟨by first | omega | exact Nat.le_refl _⟩, ⟨by repeat (first | (with_reducible first | exact HB.out | apply below_alloc | apply pw_below_drewN | apply below_drew1) | exact HB.out)⟩⟩
          · rw [if_neg c7] at H
            have c7b0 : decide ((bt a0 0) < 97) = false := decide_eq_false c7
            clear c7
            have H' := Aside0.mk H
            clear H
            have p6 : 0 ≤ (0 : Int) := (by omega)
            have q6 : 0 < a0.size := (by have : (0 : Int) < (a0.size : Int) := of_decide_eq_true (by first | (with_reducible assumption) | assumption); omega)
            have hx6 : ∀ h : 0 < a0.size, ((a0[0]'h).toNat : Int) = bt a0 0 := bt_at a0 0
            clear p6
            have qi6 : (0 < (a0.size : Int)) = True := eq_true (of_decide_eq_true (by first | (with_reducible assumption) | assumption))
            replace q6 := eq_true q6
            have p8 : 0 ≤ (0 : Int) := (by omega)
            have q8 : 0 < a0.size := (by have : (0 : Int) < (a0.size : Int) := of_decide_eq_true (by first | (with_reducible assumption) | assumption); omega)
            have hx8 : ∀ h : 0 < a0.size, ((a0[0]'h).toNat : Int) = bt a0 0 := bt_at a0 0
            clear p8
            have qi8 : (0 < (a0.size : Int)) = True := eq_true (of_decide_eq_true (by first | (with_reducible assumption) | assumption))
            replace q8 := eq_true q8
            go_wp2
            go_meet
            case rel => exact ⟨_, (decide ((bt a0 0) > 122)), (by first | rfl | (simp; done) | (simp [*]; done)), H', ⟨by first | omega | exact Nat.le_refl _⟩, ⟨by repeat (first | (with_reducible first | exact HB.out | apply below_alloc | apply pw_below_drewN | apply below_drew1) | exact HB.out)⟩⟩
        · rw [if_neg c5] at H
          exact absurd H (by simp)
  case rest =>
    clear HC2
    try clear c1
    try clear p2
    try clear c3
    try clear c3b0
    try clear c3b1
    try clear c4
    try clear c4b0
    try clear c4b1
    try clear c5
    try clear c5b0
    try clear c5b1
    try clear p6
    try clear q6
    try clear hx6
    try clear qi6
    try clear c7
    try clear c7b0
    try clear p8
    try clear q8
    try clear hx8
    try clear qi8
    try clear p6
    try clear p8
    try clear q6
    try clear q8
    obtain ⟨kq, x23_1, rfl, HA, HJ1, HB⟩ := hcut
    cases kq with
    | zero => exact absurd HA.out (by simp [spec_IsName.j0])
    | succ kj1 =>
      have H := HA.out
      clear HA
      simp only [spec_IsName.j0] at H
      by_cases c9 : x23_1 = true
      · subst c9
        have H1 : (some false) = some r := by rw [if_pos rfl] at H; exact H
        clear H
        have H := H1
        clear H1
        obtain rfl := Option.some.inj H
        go_wp2
        go_ret
        exact ⟨by first | rfl | (simp [errW_none, errW_some] <;> rfl) | (simp [*, errW_none, errW_some] <;> rfl), by repeat (first | (with_reducible first | exact HB.out | apply below_alloc | apply pw_below_drewN | apply below_drew1) | exact HB.out)⟩
      · replace c9 := Bool.eq_false_iff.mpr c9
        subst c9
        have H1 : (spec_IsName.l0 kj1 a0 (a0.size : Int) 0) = some r := by rw [if_neg (show ¬ (false = true) by decide)] at H; exact H
        clear H
        have H := H1
        clear H1
        have H' := Aside0.mk H
        clear H
        go_wp2
        go_loopg [26] kj1 (fun kq v26 w' => ∃ (x26_2 : Int), v26 = .int .i64 x26_2 ∧ Aside0 (spec_IsName.l0 kq a0 (a0.size : Int) x26_2 = some r) ∧ Aside0 (kq ≤ kj1) ∧ Aside0 (Below w.heap.size w w'))
        case atStart => exact ⟨(0), (by first | rfl | (simp; done) | (simp [*]; done)), H', ⟨Nat.le_refl _⟩, ⟨by repeat (first | (with_reducible first | exact HB.out | apply below_alloc | apply pw_below_drewN | apply below_drew1) | exact HB.out)⟩⟩
        case round =>
          clear H'
          try clear c1
          try clear p2
          try clear c3
          try clear c3b0
          try clear c3b1
          try clear c4
          try clear c4b0
          try clear c4b1
          try clear c5
          try clear c5b0
          try clear c5b1
          try clear p6
          try clear q6
          try clear hx6
          try clear qi6
          try clear c7
          try clear c7b0
          try clear p8
          try clear q8
          try clear hx8
          try clear qi8
          try clear c9
          try clear p2
          try clear p6
          try clear p8
          try clear q6
          try clear q8
          obtain ⟨x26_2, rfl, HA, HK2, HB⟩ := hrel
          cases gk with
          | zero => exact absurd HA.out (by simp [spec_IsName.l0])
          | succ k2 =>
            have H := HA.out
            clear HA
            simp only [spec_IsName.l0] at H
            by_cases c10 : x26_2 < (a0.size : Int)
            · rw [if_pos c10] at H
              have c10b0 : decide (x26_2 < (a0.size : Int)) = true := decide_eq_true c10
              clear c10
              by_cases c11 : 0 ≤ x26_2
              · rw [if_pos c11] at H
                have c11b0 : decide (0 ≤ x26_2) = true := decide_eq_true c11
                clear c11
                by_cases c12 : x26_2 < (a0.size : Int)
                · rw [if_pos c12] at H
                  have c12b0 : decide (x26_2 < (a0.size : Int)) = true := decide_eq_true c12
                  clear c12
                  by_cases c14 : (bt a0 x26_2) < 97
                  · rw [if_pos c14] at H
                    have c14b0 : decide ((bt a0 x26_2) < 97) = true := decide_eq_true c14
                    clear c14
                    by_cases c16 : (bt a0 x26_2) < 48
                    · rw [if_pos c16] at H
                      have c16b0 : decide ((bt a0 x26_2) < 48) = true := decide_eq_true c16
                      clear c16
                      obtain rfl := Option.some.inj H
                      have p13 : 0 ≤ (x26_2 : Int) := of_decide_eq_true (by first | (with_reducible assumption) | assumption)
                      have q13 : x26_2 < (a0.size : Int) := of_decide_eq_true (by first | (with_reducible assumption) | assumption)
                      have hx13 := bt_at a0 x26_2
                      replace p13 := eq_true p13
                      replace q13 := eq_true q13
                      have p15 : 0 ≤ (x26_2 : Int) := of_decide_eq_true (by first | (with_reducible assumption) | assumption)
                      have q15 : x26_2 < (a0.size : Int) := of_decide_eq_true (by first | (with_reducible assumption) | assumption)
                      have hx15 := bt_at a0 x26_2
                      replace p15 := eq_true p15
                      replace q15 := eq_true q15
                      go_wp2
                      go_ret
                      exact ⟨by first | rfl | (simp [errW_none, errW_some] <;> rfl) | (simp [*, errW_none, errW_some] <;> rfl), by repeat (first | (with_reducible first | exact HB.out | apply below_alloc | apply pw_below_drewN | apply below_drew1) | exact HB.out)⟩
                    · rw [if_neg c16] at H
                      have c16b0 : decide ((bt a0 x26_2) < 48) = false := decide_eq_false c16
                      clear c16
                      by_cases c18 : (bt a0 x26_2) > 57
                      · rw [if_pos c18] at H
                        have c18b0 : decide (57 < (bt a0 x26_2)) = true := decide_eq_true c18
                        clear c18
                        obtain rfl := Option.some.inj H
                        have p13 : 0 ≤ (x26_2 : Int) := of_decide_eq_true (by first | (with_reducible assumption) | assumption)
                        have q13 : x26_2 < (a0.size : Int) := of_decide_eq_true (by first | (with_reducible assumption) | assumption)
                        have hx13 := bt_at a0 x26_2
                        replace p13 := eq_true p13
                        replace q13 := eq_true q13
                        have p15 : 0 ≤ (x26_2 : Int) := of_decide_eq_true (by first | (with_reducible assumption) | assumption)
                        have q15 : x26_2 < (a0.size : Int) := of_decide_eq_true (by first | (with_reducible assumption) | assumption)
                        have hx15 := bt_at a0 x26_2
                        replace p15 := eq_true p15
                        replace q15 := eq_true q15
                        have p17 : 0 ≤ (x26_2 : Int) := of_decide_eq_true (by first | (with_reducible assumption) | assumption)
                        have q17 : x26_2 < (a0.size : Int) := of_decide_eq_true (by first | (with_reducible assumption) | assumption)
                        have hx17 := bt_at a0 x26_2
                        replace p17 := eq_true p17
                        replace q17 := eq_true q17
                        go_wp2
                        go_ret
                        exact ⟨by first | rfl | (simp [errW_none, errW_some] <;> rfl) | (simp [*, errW_none, errW_some] <;> rfl), by repeat (first | (with_reducible first | exact HB.out | apply below_alloc | apply pw_below_drewN | apply below_drew1) | exact HB.out)⟩
                      · rw [if_neg c18] at H
                        have c18b0 : decide (57 < (bt a0 x26_2)) = false := decide_eq_false c18
                        clear c18
                        have H' := Aside0.mk H
                        clear H
                        have p13 : 0 ≤ (x26_2 : Int) := of_decide_eq_true (by first | (with_reducible assumption) | assumption)
                        have q13 : x26_2 < (a0.size : Int) := of_decide_eq_true (by first | (with_reducible assumption) | assumption)
                        have hx13 := bt_at a0 x26_2
                        replace p13 := eq_true p13
                        replace q13 := eq_true q13
                        have p15 : 0 ≤ (x26_2 : Int) := of_decide_eq_true (by first | (with_reducible assumption) | assumption)
                        have q15 : x26_2 < (a0.size : Int) := of_decide_eq_true (by first | (with_reducible assumption) | assumption)
                        have hx15 := bt_at a0 x26_2
                        replace p15 := eq_true p15
                        replace q15 := eq_true q15
                        have p17 : 0 ≤ (x26_2 : Int) := of_decide_eq_true (by first | (with_reducible assumption) | assumption)
                        have q17 : x26_2 < (a0.size : Int) := of_decide_eq_true (by first | (with_reducible assumption) | assumption)
                        have hx17 := bt_at a0 x26_2
                        replace p17 := eq_true p17
                        replace q17 := eq_true q17
                        go_wp2
                        go_roundg k2
                        case measure => have := HJ1.out; have := HK2.out; omega
                        case rel => exact ⟨(wrap64 (x26_2 + 1)), (by first | rfl | (simp; done) | (simp [*]; done)), H', ⟨by have := HJ1.out; have := HK2.out; omega⟩, ⟨by repeat (first | (with_reducible first | exact HB.out | apply below_alloc | apply pw_below_drewN | apply below_drew1) | exact HB.out)⟩⟩
                  · rw [if_neg c14] at H
                    have c14b0 : decide ((bt a0 x26_2) < 97) = false := decide_eq_false c14
                    clear c14
                    by_cases c20 : (bt a0 x26_2) > 122
                    · rw [if_pos c20] at H
                      have c20b0 : decide (122 < (bt a0 x26_2)) = true := decide_eq_true c20
                      clear c20
                      by_cases c22 : (bt a0 x26_2) < 48
                      · rw [if_pos c22] at H
                        have c22b0 : decide ((bt a0 x26_2) < 48) = true := decide_eq_true c22
                        clear c22
                        obtain rfl := Option.some.inj H
                        have p13 : 0 ≤ (x26_2 : Int) := of_decide_eq_true (by first | (with_reducible assumption) | assumption)
                        have q13 : x26_2 < (a0.size : Int) := of_decide_eq_true (by first | (with_reducible assumption) | assumption)
                        have hx13 := bt_at a0 x26_2
                        replace p13 := eq_true p13
                        replace q13 := eq_true q13
                        have p19 : 0 ≤ (x26_2 : Int) := of_decide_eq_true (by first | (with_reducible assumption) | assumption)
                        have q19 : x26_2 < (a0.size : Int) := of_decide_eq_true (by first | (with_reducible assumption) | assumption)
                        have hx19 := bt_at a0 x26_2
                        replace p19 := eq_true p19
                        replace q19 := eq_true q19
                        have p21 : 0 ≤ (x26_2 : Int) := of_decide_eq_true (by first | (with_reducible assumption) | assumption)
                        have q21 : x26_2 < (a0.size : Int) := of_decide_eq_true (by first | (with_reducible assumption) | assumption)
                        have hx21 := bt_at a0 x26_2
                        replace p21 := eq_true p21
                        replace q21 := eq_true q21
                        go_wp2
                        go_ret
                        exact ⟨by first | rfl | (simp [errW_none, errW_some] <;> rfl) | (simp [*, errW_none, errW_some] <;> rfl), by repeat (first | (with_reducible first | exact HB.out | apply below_alloc | apply pw_below_drewN | apply below_drew1) | exact HB.out)⟩
                      · rw [if_neg c22] at H
                        have c22b0 : decide ((bt a0 x26_2) < 48) = false := decide_eq_false c22
                        clear c22
                        by_cases c24 : (bt a0 x26_2) > 57
                        · rw [if_pos c24] at H
                          have c24b0 : decide (57 < (bt a0 x26_2)) = true := decide_eq_true c24
                          clear c24
                          obtain rfl := Option.some.inj H
                          have p13 : 0 ≤ (x26_2 : Int) := of_decide_eq_true (by first | (with_reducible assumption) | assumption)
                          have q13 : x26_2 < (a0.size : Int) := of_decide_eq_true (by first | (with_reducible assumption) | assumption)
                          have hx13 := bt_at a0 x26_2
                          replace p13 := eq_true p13
                          replace q13 := eq_true q13
                          have p19 : 0 ≤ (x26_2 : Int) := of_decide_eq_true (by first | (with_reducible assumption) | assumption)
                          have q19 : x26_2 < (a0.size : Int) := of_decide_eq_true (by first | (with_reducible assumption) | assumption)
                          have hx19 := bt_at a0 x26_2
                          replace p19 := eq_true p19
                          replace q19 := eq_true q19
                          have p21 : 0 ≤ (x26_2 : Int) := of_decide_eq_true (by first | (with_reducible assumption) | assumption)
                          have q21 : x26_2 < (a0.size : Int) := of_decide_eq_true (by first | (with_reducible assumption) | assumption)
                          have hx21 := bt_at a0 x26_2
                          replace p21 := eq_true p21
                          replace q21 := eq_true q21
                          have p23 : 0 ≤ (x26_2 : Int) := of_decide_eq_true (by first | (with_reducible assumption) | assumption)
                          have q23 : x26_2 < (a0.size : Int) := of_decide_eq_true (by first | (with_reducible assumption) | assumption)
                          have hx23 := bt_at a0 x26_2
                          replace p23 := eq_true p23
                          replace q23 := eq_true q23
                          go_wp2
                          go_ret
                          exact ⟨by first | rfl | (simp [errW_none, errW_some] <;> rfl) | (simp [*, errW_none, errW_some] <;> rfl), by repeat (first | (with_reducible first | exact HB.out | apply below_alloc | apply pw_below_drewN | apply below_drew1) | exact HB.out)⟩
                        · rw [if_neg c24] at H
                          have c24b0 : decide (57 < (bt a0 x26_2)) = false := decide_eq_false c24
                          clear c24
                          have H' := Aside0.mk H
                          clear H
                          have p13 : 0 ≤ (x26_2 : Int) := of_decide_eq_true (by first | (with_reducible assumption) | assumption)
                          have q13 : x26_2 < (a0.size : Int) := of_decide_eq_true (by first | (with_reducible assumption) | assumption)
                          have hx13 := bt_at a0 x26_2
                          replace p13 := eq_true p13
                          replace q13 := eq_true q13
                          have p19 : 0 ≤ (x26_2 : Int) := of_decide_eq_true (by first | (with_reducible assumption) | assumption)
                          have q19 : x26_2 < (a0.size : Int) := of_decide_eq_true (by first | (with_reducible assumption) | assumption)
                          have hx19 := bt_at a0 x26_2
                          replace p19 := eq_true p19
                          replace q19 := eq_true q19
                          have p21 : 0 ≤ (x26_2 : Int) := of_decide_eq_true (by first | (with_reducible assumption) | assumption)
                          have q21 : x26_2 < (a0.size : Int) := of_decide_eq_true (by first | (with_reducible assumption) | assumption)
                          have hx21 := bt_at a0 x26_2
                          replace p21 := eq_true p21
                          replace q21 := eq_true q21
                          have p23 : 0 ≤ (x26_2 : Int) := of_decide_eq_true (by first | (with_reducible assumption) | assumption)
                          have q23 : x26_2 < (a0.size : Int) := of_decide_eq_true (by first | (with_reducible assumption) | assumption)
                          have hx23 := bt_at a0 x26_2
                          replace p23 := eq_true p23
                          replace q23 := eq_true q23
                          go_wp2
                          go_roundg k2
                          case measure => have := HJ1.out; have := HK2.out; omega
                          case rel => exact ⟨(wrap64 (x26_2 + 1)), (by first | rfl | (simp; done) | (simp [*]; done)), H', ⟨by have := HJ1.out; have := HK2.out; omega⟩, ⟨by repeat (first | (with_reducible first | exact HB.out | apply below_alloc | apply pw_below_drewN | apply below_drew1) | exact HB.out)⟩⟩
                    · rw [if_neg c20] at H
                      have c20b0 : decide (122 < (bt a0 x26_2)) = false := decide_eq_false c20
                      clear c20
                      have H' := Aside0.mk H
                      clear H
                      have p13 : 0 ≤ (x26_2 : Int) := of_decide_eq_true (by first | (with_reducible assumption) | assumption)
                      have q13 : x26_2 < (a0.size : Int) := of_decide_eq_true (by first | (with_reducible assumption) | assumption)
                      have hx13 := bt_at a0 x26_2
                      replace p13 := eq_true p13
                      replace q13 := eq_true q13
                      have p19 : 0 ≤ (x26_2 : Int) := of_decide_eq_true (by first | (with_reducible assumption) | assumption)
                      have q19 : x26_2 < (a0.size : Int) := of_decide_eq_true (by first | (with_reducible assumption) | assumption)
                      have hx19 := bt_at a0 x26_2
                      replace p19 := eq_true p19
                      replace q19 := eq_true q19
                      go_wp2
                      go_roundg k2
                      case measure => have := HJ1.out; have := HK2.out; omega
                      case rel => exact ⟨(wrap64 (x26_2 + 1)), (by first | rfl | (simp; done) | (simp [*]; done)), H', ⟨by have := HJ1.out; have := HK2.out; omega⟩, ⟨by repeat (first | (with_reducible first | exact HB.out | apply below_alloc | apply pw_below_drewN | apply below_drew1) | exact HB.out)⟩⟩
                · rw [if_neg c12] at H
                  exact absurd H (by simp)
              · rw [if_neg c11] at H
                exact absurd H (by simp)
            · rw [if_neg c10] at H
              have c10b0 : decide (x26_2 < (a0.size : Int)) = false := decide_eq_false c10
              clear c10
              obtain ⟨y104, hy104⟩ : ∃ y_ : List ByteArray, y_ = (([(⟨#[105, 110]⟩ : ByteArray), (⟨#[97, 110, 100]⟩ : ByteArray), (⟨#[111, 114]⟩ : ByteArray), (⟨#[110, 111, 116]⟩ : ByteArray), (⟨#[116, 114, 117, 101]⟩ : ByteArray), (⟨#[102, 97, 108, 115, 101]⟩ : ByteArray), (⟨#[97, 115]⟩ : ByteArray), (⟨#[101, 120, 112, 111, 114, 116]⟩ : ByteArray), (⟨#[110, 111, 110, 101]⟩ : ByteArray), (⟨#[110, 105, 108]⟩ : ByteArray), (⟨#[102, 111, 114, 108, 111, 111, 112]⟩ : ByteArray), (⟨#[112, 111, 110, 103, 111, 50]⟩ : ByteArray), (⟨#[98, 108, 111, 99, 107]⟩ : ByteArray), (⟨#[119, 105, 116, 104]⟩ : ByteArray), (⟨#[105, 102]⟩ : ByteArray), (⟨#[102, 111, 114]⟩ : ByteArray), (⟨#[115, 101, 116]⟩ : ByteArray), (⟨#[115, 111, 114, 116, 101, 100]⟩ : ByteArray), (⟨#[114, 101, 118, 101, 114, 115, 101, 100]⟩ : ByteArray), (⟨#[111, 110, 108, 121]⟩ : ByteArray), (⟨#[115, 105, 108, 101, 110, 116]⟩ : ByteArray), (⟨#[101, 108, 115, 101]⟩ : ByteArray), (⟨#[105, 115]⟩ : ByteArray)] : List ByteArray)) := ⟨_, rfl⟩
              replace H : (spec_IsName.l1 k2 a0 y104 (y104.length : Int) 0) = some r := by first | (rw [hy104]; with_reducible exact H) | (have H2_ := (Option.bind_some _ _).symm.trans H; rw [hy104]; with_reducible exact H2_) | (have H2_ := (Option.bind_some _ _).symm.trans H; with_reducible exact H2_) | with_reducible exact H | (rw [hy104]; exact H) | exact H
              have Ny104 := Aside0.mk hy104
              clear hy104
              have H' := Aside0.mk H
              clear H
              go_wp2_with (first | ((with_reducible refine gate_dst (N := 52) rfl ?_); (try (refine gate_guard (by rfl) ?_; dsimp only)); refine Kd.R_lit Kd.string _ 9 ?hg (N := 52) ?hd (xs := ([(⟨#[105, 110]⟩ : ByteArray), (⟨#[97, 110, 100]⟩ : ByteArray), (⟨#[111, 114]⟩ : ByteArray), (⟨#[110, 111, 116]⟩ : ByteArray), (⟨#[116, 114, 117, 101]⟩ : ByteArray), (⟨#[102, 97, 108, 115, 101]⟩ : ByteArray), (⟨#[97, 115]⟩ : ByteArray), (⟨#[101, 120, 112, 111, 114, 116]⟩ : ByteArray), (⟨#[110, 111, 110, 101]⟩ : ByteArray), (⟨#[110, 105, 108]⟩ : ByteArray), (⟨#[102, 111, 114, 108, 111, 111, 112]⟩ : ByteArray), (⟨#[112, 111, 110, 103, 111, 50]⟩ : ByteArray), (⟨#[98, 108, 111, 99, 107]⟩ : ByteArray), (⟨#[119, 105, 116, 104]⟩ : ByteArray), (⟨#[105, 102]⟩ : ByteArray), (⟨#[102, 111, 114]⟩ : ByteArray), (⟨#[115, 101, 116]⟩ : ByteArray), (⟨#[115, 111, 114, 116, 101, 100]⟩ : ByteArray), (⟨#[114, 101, 118, 101, 114, 115, 101, 100]⟩ : ByteArray), (⟨#[111, 110, 108, 121]⟩ : ByteArray), (⟨#[115, 105, 108, 101, 110, 116]⟩ : ByteArray), (⟨#[101, 108, 115, 101]⟩ : ByteArray), (⟨#[105, 115]⟩ : ByteArray)] : List ByteArray)) (inner := [.string (⟨#[105, 110]⟩ : ByteArray), .string (⟨#[97, 110, 100]⟩ : ByteArray), .string (⟨#[111, 114]⟩ : ByteArray), .string (⟨#[110, 111, 116]⟩ : ByteArray), .string (⟨#[116, 114, 117, 101]⟩ : ByteArray), .string (⟨#[102, 97, 108, 115, 101]⟩ : ByteArray), .string (⟨#[97, 115]⟩ : ByteArray), .string (⟨#[101, 120, 112, 111, 114, 116]⟩ : ByteArray), .string (⟨#[110, 111, 110, 101]⟩ : ByteArray), .string (⟨#[110, 105, 108]⟩ : ByteArray), .string (⟨#[102, 111, 114, 108, 111, 111, 112]⟩ : ByteArray), .string (⟨#[112, 111, 110, 103, 111, 50]⟩ : ByteArray), .string (⟨#[98, 108, 111, 99, 107]⟩ : ByteArray), .string (⟨#[119, 105, 116, 104]⟩ : ByteArray), .string (⟨#[105, 102]⟩ : ByteArray), .string (⟨#[102, 111, 114]⟩ : ByteArray), .string (⟨#[115, 101, 116]⟩ : ByteArray), .string (⟨#[115, 111, 114, 116, 101, 100]⟩ : ByteArray), .string (⟨#[114, 101, 118, 101, 114, 115, 101, 100]⟩ : ByteArray), .string (⟨#[111, 110, 108, 121]⟩ : ByteArray), .string (⟨#[115, 105, 108, 101, 110, 116]⟩ : ByteArray), .string (⟨#[101, 108, 115, 101]⟩ : ByteArray), .string (⟨#[105, 115]⟩ : ByteArray)]) (ok := fun _ => True) (okp := fun _ => True) ?hr ?hp (fun _ hk => hk) trivial (Below.refl _ _) (Nat.le_refl _) (by simp) ?_; (case hd => rfl); (case hg => rfl); (case hr => first | (go_simp; done) | (go_simp; rfl)); (case hp => exact (Reps.one (show Kd.M Kd.string _ _ _ (⟨#[105, 110]⟩ : ByteArray) [.string (⟨#[105, 110]⟩ : ByteArray)] from rfl) (Reps.one (show Kd.M Kd.string _ _ _ (⟨#[97, 110, 100]⟩ : ByteArray) [.string (⟨#[97, 110, 100]⟩ : ByteArray)] from rfl) (Reps.one (show Kd.M Kd.string _ _ _ (⟨#[111, 114]⟩ : ByteArray) [.string (⟨#[111, 114]⟩ : ByteArray)] from rfl) (Reps.one (show Kd.M Kd.string _ _ _ (⟨#[110, 111, 116]⟩ : ByteArray) [.string (⟨#[110, 111, 116]⟩ : ByteArray)] from rfl) (Reps.one (show Kd.M Kd.string _ _ _ (⟨#[116, 114, 117, 101]⟩ : ByteArray) [.string (⟨#[116, 114, 117, 101]⟩ : ByteArray)] from rfl) (Reps.one (show Kd.M Kd.string _ _ _ (⟨#[102, 97, 108, 115, 101]⟩ : ByteArray) [.string (⟨#[102, 97, 108, 115, 101]⟩ : ByteArray)] from rfl) (Reps.one (show Kd.M Kd.string _ _ _ (⟨#[97, 115]⟩ : ByteArray) [.string (⟨#[97, 115]⟩ : ByteArray)] from rfl) (Reps.one (show Kd.M Kd.string _ _ _ (⟨#[101, 120, 112, 111, 114, 116]⟩ : ByteArray) [.string (⟨#[101, 120, 112, 111, 114, 116]⟩ : ByteArray)] from rfl) (Reps.one (show Kd.M Kd.string _ _ _ (⟨#[110, 111, 110, 101]⟩ : ByteArray) [.string (⟨#[110, 111, 110, 101]⟩ : ByteArray)] from rfl) (Reps.one (show Kd.M Kd.string _ _ _ (⟨#[110, 105, 108]⟩ : ByteArray) [.string (⟨#[110, 105, 108]⟩ : ByteArray)] from rfl) (Reps.one (show Kd.M Kd.string _ _ _ (⟨#[102, 111, 114, 108, 111, 111, 112]⟩ : ByteArray) [.string (⟨#[102, 111, 114, 108, 111, 111, 112]⟩ : ByteArray)] from rfl) (Reps.one (show Kd.M Kd.string _ _ _ (⟨#[112, 111, 110, 103, 111, 50]⟩ : ByteArray) [.string (⟨#[112, 111, 110, 103, 111, 50]⟩ : ByteArray)] from rfl) (Reps.one (show Kd.M Kd.string _ _ _ (⟨#[98, 108, 111, 99, 107]⟩ : ByteArray) [.string (⟨#[98, 108, 111, 99, 107]⟩ : ByteArray)] from rfl) (Reps.one (show Kd.M Kd.string _ _ _ (⟨#[119, 105, 116, 104]⟩ : ByteArray) [.string (⟨#[119, 105, 116, 104]⟩ : ByteArray)] from rfl) (Reps.one (show Kd.M Kd.string _ _ _ (⟨#[105, 102]⟩ : ByteArray) [.string (⟨#[105, 102]⟩ : ByteArray)] from rfl) (Reps.one (show Kd.M Kd.string _ _ _ (⟨#[102, 111, 114]⟩ : ByteArray) [.string (⟨#[102, 111, 114]⟩ : ByteArray)] from rfl) (Reps.one (show Kd.M Kd.string _ _ _ (⟨#[115, 101, 116]⟩ : ByteArray) [.string (⟨#[115, 101, 116]⟩ : ByteArray)] from rfl) (Reps.one (show Kd.M Kd.string _ _ _ (⟨#[115, 111, 114, 116, 101, 100]⟩ : ByteArray) [.string (⟨#[115, 111, 114, 116, 101, 100]⟩ : ByteArray)] from rfl) (Reps.one (show Kd.M Kd.string _ _ _ (⟨#[114, 101, 118, 101, 114, 115, 101, 100]⟩ : ByteArray) [.string (⟨#[114, 101, 118, 101, 114, 115, 101, 100]⟩ : ByteArray)] from rfl) (Reps.one (show Kd.M Kd.string _ _ _ (⟨#[111, 110, 108, 121]⟩ : ByteArray) [.string (⟨#[111, 110, 108, 121]⟩ : ByteArray)] from rfl) (Reps.one (show Kd.M Kd.string _ _ _ (⟨#[115, 105, 108, 101, 110, 116]⟩ : ByteArray) [.string (⟨#[115, 105, 108, 101, 110, 116]⟩ : ByteArray)] from rfl) (Reps.one (show Kd.M Kd.string _ _ _ (⟨#[101, 108, 115, 101]⟩ : ByteArray) [.string (⟨#[101, 108, 115, 101]⟩ : ByteArray)] from rfl) (Reps.one (show Kd.M Kd.string _ _ _ (⟨#[105, 115]⟩ : ByteArray) [.string (⟨#[105, 115]⟩ : ByteArray)] from rfl) (Reps.none _ _))))))))))))))))))))))))); intro v105 w25 ho26 hb hg_ hnew_; clear hg_ hnew_; (first | rw [← Ny104.out] at ho26 | (simp only [Int.reduceToNat] at ho26; rw [← Ny104.out] at ho26)); have n0_ := Aside0.mk (Kd.R_lower ho26 (below_size (by repeat (first | (with_reducible first | exact HB.out | apply below_alloc | apply pw_below_drewN | apply below_drew1) | exact HB.out)))); have n1_ := Aside0.mk (below_step (by repeat (first | (with_reducible first | exact HB.out | apply below_alloc | apply pw_below_drewN | apply below_drew1) | exact HB.out)) hb); clear HB; have HO106 := n0_; have HB := n1_; clear n0_ n1_; clear hb ho26; obtain ⟨Ao27, co27, eo27⟩ := Kd.R_slice HO106.out; subst eo27))
              go_loopg [54] k2 (fun kq v54 w' => ∃ (x54_3 : Int), v54 = .int .i64 x54_3 ∧ Aside0 (spec_IsName.l1 kq a0 y104 (y104.length : Int) x54_3 = some r) ∧ Aside0 (kq ≤ k2) ∧ Aside0 (Kd.R Kd.string 9 w' w.heap.size (fun _ => True) (.slice Ao27 y104.length co27) y104) ∧ Aside0 (Below w.heap.size w w'))
              case atStart => exact ⟨(0), (by first | rfl | (simp; done) | (simp [*]; done)), H', ⟨Nat.le_refl _⟩, ⟨by (with_reducible repeat (first | apply Kd.R_alloc | apply Kd.R_drewN | apply Kd.R_drew)); exact HO106.out⟩, ⟨by repeat (first | (with_reducible first | exact HB.out | apply below_alloc | apply pw_below_drewN | apply below_drew1) | exact HB.out)⟩⟩
              case round =>
                clear H'
                try clear c1
                try clear p1
                try clear q1
                try clear hx1
                try clear c2
                try clear p2
                try clear q2
                try clear hx2
                try clear c3
                try clear c3b0
                try clear c3b1
                try clear c4
                try clear c4b0
                try clear c4b1
                try clear c5
                try clear c5b0
                try clear c5b1
                try clear p6
                try clear q6
                try clear hx6
                try clear qi6
                try clear c7
                try clear c7b0
                try clear p8
                try clear q8
                try clear hx8
                try clear qi8
                try clear c9
                try clear c10
                try clear c10b0
                try clear c11
                try clear c11b0
                try clear c12
                try clear c12b0
                try clear p13
                try clear q13
                try clear hx13
                try clear c14
                try clear c14b0
                try clear p15
                try clear q15
                try clear hx15
                try clear c16
                try clear c16b0
                try clear p17
                try clear q17
                try clear hx17
                try clear c18
                try clear c18b0
                try clear p19
                try clear q19
                try clear hx19
                try clear c20
                try clear c20b0
                try clear p21
                try clear q21
                try clear hx21
                try clear c22
                try clear c22b0
                try clear p23
                try clear q23
                try clear hx23
                try clear c24
                try clear c24b0
                try clear p13
                try clear p15
                try clear p17
                try clear p19
                try clear p2
                try clear p21
                try clear p23
                try clear p6
                try clear p8
                try clear q13
                try clear q15
                try clear q17
                try clear q19
                try clear q21
                try clear q23
                try clear q6
                try clear q8
                obtain ⟨x54_3, rfl, HA, HK3, HO_52, HB⟩ := hrel
                cases gk with
                | zero => exact absurd HA.out (by simp [spec_IsName.l1])
                | succ k3 =>
                  have H := HA.out
                  clear HA
                  simp only [spec_IsName.l1] at H
                  by_cases c28 : x54_3 < (y104.length : Int)
                  · rw [if_pos c28] at H
                    have c28b0 : decide (x54_3 < (y104.length : Int)) = true := decide_eq_true c28
                    clear c28
                    by_cases c29 : 0 ≤ x54_3
                    · rw [if_pos c29] at H
                      have c29b0 : decide (0 ≤ x54_3) = true := decide_eq_true c29
                      clear c29
                      by_cases c30 : x54_3 < (y104.length : Int)
                      · rw [if_pos c30] at H
                        have c30b0 : decide (x54_3 < (y104.length : Int)) = true := decide_eq_true c30
                        clear c30
                        by_cases c31 : a0.toList = (rdOf ByteArray.empty y104 x54_3).toList
                        · rw [if_pos c31] at H
                          have c31b0 : (a0.toList == (rdOf ByteArray.empty y104 x54_3).toList) = true := beq_iff_eq.mpr c31
                          have c31b1 : (a0.toList != (rdOf ByteArray.empty y104 x54_3).toList) = false := bne_eq_false_iff_eq.mpr c31
                          clear c31
                          obtain rfl := Option.some.inj H
                          have p107 : 0 ≤ (x54_3 : Int) := of_decide_eq_true (by first | (with_reducible assumption) | assumption)
                          have q107 : x54_3 < (y104.length : Int) := of_decide_eq_true (by first | (with_reducible assumption) | assumption)
                          obtain ⟨ad107, e107, hx107_0⟩ := Kd.at_string (Kd.R_reads' HO_52.out).2.2 x54_3 p107 q107
                          cases e107
                          replace p107 := eq_true p107
                          replace q107 := eq_true q107
                          go_wp2
                          go_ret
                          exact ⟨by first | rfl | (simp [errW_none, errW_some] <;> rfl) | (simp [*, errW_none, errW_some] <;> rfl), by repeat (first | (with_reducible first | exact HB.out | apply below_alloc | apply pw_below_drewN | apply below_drew1) | exact HB.out)⟩
                        · rw [if_neg c31] at H
                          have c31b0 : (a0.toList == (rdOf ByteArray.empty y104 x54_3).toList) = false := beq_eq_false_iff_ne.mpr c31
                          have c31b1 : (a0.toList != (rdOf ByteArray.empty y104 x54_3).toList) = true := bne_iff_ne.mpr c31
                          have H' := Aside0.mk H
                          clear H
                          have p107 : 0 ≤ (x54_3 : Int) := of_decide_eq_true (by first | (with_reducible assumption) | assumption)
                          have q107 : x54_3 < (y104.length : Int) := of_decide_eq_true (by first | (with_reducible assumption) | assumption)
                          obtain ⟨ad107, e107, hx107_0⟩ := Kd.at_string (Kd.R_reads' HO_52.out).2.2 x54_3 p107 q107
                          cases e107
                          replace p107 := eq_true p107
                          replace q107 := eq_true q107
                          go_wp2
                          go_roundg k3
                          case measure => have := HJ1.out; have := HK2.out; have := HK3.out; omega
                          case rel => exact ⟨(wrap64 (x54_3 + 1)), (by first | rfl | (simp; done) | (simp [*]; done)), H', ⟨by have := HJ1.out; have := HK2.out; have := HK3.out; omega⟩, ⟨by (with_reducible repeat (first | apply Kd.R_alloc | apply Kd.R_drewN | apply Kd.R_drew)); exact HO_52.out⟩, ⟨by repeat (first | (with_reducible first | exact HB.out | apply below_alloc | apply pw_below_drewN | apply below_drew1) | exact HB.out)⟩⟩
                      · rw [if_neg c30] at H
                        exact absurd H (by simp)
                    · rw [if_neg c29] at H
                      exact absurd H (by simp)
                  · rw [if_neg c28] at H
                    have c28b0 : decide (x54_3 < (y104.length : Int)) = false := decide_eq_false c28
                    clear c28
                    obtain rfl := Option.some.inj H
                    go_wp2
                    go_ret
                    exact ⟨by first | rfl | (simp [errW_none, errW_some] <;> rfl) | (simp [*, errW_none, errW_some] <;> rfl), by repeat (first | (with_reducible first | exact HB.out | apply below_alloc | apply pw_below_drewN | apply below_drew1) | exact HB.out)⟩

end Go.Proofs.YtjeeclmhifecbaaGreatDoor.PFnTexts
