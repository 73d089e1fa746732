/-
  IsValue at a dict: it answers whether the keys rise and are names, and all elements are values with one level less. Condition: the contract with one level less.
-/
import Derived.Test.YtjeeclmhifecbaaGreatDoorV2
namespace Go.Proofs.YtjeeclmhifecbaaGreatDoor
open Go.RowKit Go.Proofs.YtjeeclmhifecbaaGreatDoorW.PrintWords PFnTexts
set_option linter.unusedVariables false
set_option linter.unusedSimpArgs false
/-- Key i, in a later world. -/
theorem at_key {w wr : World} {A : Option Addr} {l : List ByteArray} (h : Kd.C Kd.string w A l.length l) (hb : Below w.heap.size w wr) (i : Nat) (hi : i < l.length) :
    ∃ ad : Addr, A = some ad ∧ wr.cell? (ad.add i) = some (.string (rdOf ByteArray.empty l i)) := by
  obtain ⟨ad, e, hx⟩ := Kd.at_string h (i : Int) (by omega) (by omega)
  rw [Int.toNat_natCast] at hx
  exact ⟨ad, e, (hb.cell (World.block_lt_of_cell? w _ hx)).trans hx⟩
theorem key_mem {l : List ByteArray} {i : Nat} (hi : i < l.length) : rdOf ByteArray.empty l i ∈ l := by
  simp [rdOf, List.getD, List.getElem?_eq_getElem hi]

theorem keys_snoc {l : List ByteArray} {i : Nat} (h : (List.range i).all (okAt l) = true) : (List.range (i + 1)).all (okAt l) = okAt l i := by
  rw [List.range_succ, List.all_append, h]
  simp
theorem ok_zero {l : List ByteArray} {i : Nat} (hi : i ≤ 0) (h : nameB (rdOf ByteArray.empty l (i : Int)) = true) : okAt l i = true := by
  obtain rfl : i = 0 := by omega
  unfold okAt
  rw [h]
  rfl
theorem keys_fail {l : List ByteArray} {i : Nat} (hi : i < l.length) (h : okAt l i = false) : keysOk l = false := by
  unfold keysOk
  rw [Bool.eq_false_iff]
  intro hh
  have := List.all_eq_true.1 hh i (List.mem_range.2 hi)
  rw [h] at this
  cases this
set_option maxRecDepth 100000 in
set_option maxHeartbeats 2000000 in
theorem iv_5 (m : Nat) (d : Int) (c : Bool) (n : Int) (s : ByteArray) (A4 : Option Addr) (l4 : List S25) (c4 : Nat) (A5 : Option Addr) (l5 : List ByteArray) (c5 : Nat) (w : World) (hd0 : 0 ≤ d) (hd : decide (4 < d) = false) (hl : decide ((12 : Int) < l4.length) = false)
    (hlen : Hid (l5.length = l4.length)) (hne : ((l5.length : Int) != l4.length) = false)
    (hr : Kd.C k25 w A4 l4.length l4) (hw : ∀ y ∈ l4, WF y) (hr5 : Kd.C Kd.string w A5 l5.length l5) (hw5 : ∀ s ∈ l5, s.size ≤ 9223372036854775807) (ih : Hid (Ih m (d + 1))) :
    Calls Tryz.prog 5 #[.agg #[.int .i64 5, .bool c, .int .i64 n, .string s, .slice A4 l4.length c4, .slice A5 l5.length c5], .int .i64 d] w fun e w' => e = .returned (.bool (keysOk l5 && l4.all (val m))) ∧ Below w.heap.size w w' := by
  have hl' : (l4.length : Int) ≤ 12 := by simpa using hl
  have hl5 : (l5.length : Int) ≤ 12 := by rw [hlen.out]; exact hl'
  have hd' : d ≤ 4 := by simpa using hd
  have HR := Aside0.mk hr
  have HW := Aside0.mk hw
  have HR5 := Aside0.mk hr5
  have HW5 := Aside0.mk hw5
  have HB := Aside0.mk (below_alloc (Below.refl w.heap.size w) (.cells #[.int .i64 5, .bool c, .int .i64 n, .string s, .slice A4 l4.length c4, .slice A5 l5.length c5] 25))
  have BK := Aside0.mk (blk_new w (.cells #[.int .i64 5, .bool c, .int .i64 n, .string s, .slice A4 l4.length c4, .slice A5 l5.length c5] 25))
  clear hr hw hr5 hw5
  go_enter Tryz.func5, Tryz.ntmps5
  go_wp2
  go_loopw [64] (fun v wr => ∃ i : Nat, i ≤ l5.length ∧ v = .int .i64 i ∧ Aside0 (Below w.heap.size w wr) ∧ Aside0 (wr.heap[w.heap.size]? = some (.cells #[.int .i64 5, .bool c, .int .i64 n, .string s, .slice A4 l4.length c4, .slice A5 l5.length c5] 25 (0, 0))) ∧ Aside0 ((List.range i).all (okAt l5) = true)) (fun v _ => l5.length - (intOf v).toNat)
  case atStart => exact ⟨0, Nat.zero_le _, rfl, HB, BK, ⟨rfl⟩⟩
  case round =>
    clear HB BK
    obtain ⟨i, hi, rfl, HB, BK, HA⟩ := hrel
    by_cases hlt : i < l5.length
    · obtain ⟨ad, e0, x0⟩ := at_key HR5.out HB.out i hlt
      subst e0
      have hk := HW5.out _ (key_mem hlt)
      go_wp2_with fail
      have hc := name_any (rdOf ByteArray.empty l5 i) hk wr
      clear hk
      cases hv : nameB (rdOf ByteArray.empty l5 i) with
      | false =>
        rw [hv] at hc
        have HV := Aside0.mk hv
        clear hv
        refine hc.mono ?_
        clear hc
        rintro e w1 ⟨rfl, hb1⟩
        have HB1 := Aside0.mk (below_step HB.out hb1)
        clear hb1 x0
        go_wp2
        go_ret
        exact ⟨by rw [keys_fail hlt (by unfold okAt; rw [HV.out]; rfl)]; rfl, HB1.out⟩
      | true =>
        rw [hv] at hc
        have HV := Aside0.mk hv
        clear hv
        refine hc.mono ?_
        clear hc
        rintro e w1 ⟨rfl, hb1⟩
        have HB1 := Aside0.mk (below_step HB.out hb1)
        have BK1 := Aside0.mk (blk_below BK.out hb1)
        clear hb1 x0
        by_cases hp : 0 < i
        · have q5 : w1.cell? ⟨w.heap.size, 5, none⟩ = some (.slice (some ad) l5.length c5) := (blk_cell BK1.out 5).trans rfl
          obtain ⟨ad', e0, x1⟩ := at_key HR5.out HB1.out (i - 1) (by omega)
          obtain rfl : ad = ad' := Option.some.inj e0
          clear e0
          cases hq : Op.bytesLess (rdOf ByteArray.empty l5 ((i - 1 : Nat) : Int)).toList (rdOf ByteArray.empty l5 (i : Int)).toList with
          | true =>
            have HQ := Aside0.mk hq
            go_wp2
            clear q5 x1 hq
            go_roundw
            case rel => exact ⟨i + 1, by omega, by go_num, HB1, BK1, ⟨by rw [keys_snoc HA.out]; unfold okAt; rw [HV.out, HQ.out]; simp⟩⟩
            case measure => simp [intOf]; omega
          | false =>
            have HQ := Aside0.mk hq
            have hi0 : (i == 0) = false := by simp; omega
            go_wp2
            go_ret
            exact ⟨by rw [keys_fail hlt (by unfold okAt; rw [HV.out, HQ.out, hi0]; rfl)]; rfl, HB1.out⟩
        · have hz : i ≤ 0 := by omega
          go_wp2
          go_roundw
          case rel => exact ⟨i + 1, by omega, by go_num, HB1, BK1, ⟨by rw [keys_snoc HA.out]; exact ok_zero hz HV.out⟩⟩
          case measure => simp [intOf]; omega
    · have hi' : l5.length ≤ i := by omega
      have q0 : wr.cell? ⟨w.heap.size, 0, none⟩ = some (.int .i64 5) := (blk_cell BK.out 0).trans rfl
      have q4 : wr.cell? ⟨w.heap.size, 4, none⟩ = some (.slice A4 l4.length c4) := (blk_cell BK.out 4).trans rfl
      have HK : Aside0 (keysOk l5 = true) := ⟨by unfold keysOk; rw [← HA.out, show l5.length = i by omega]⟩
      clear HA BK HR5 HW5
      go_wp2
      obtain ⟨wo, rfl⟩ : ∃ wo : World, wo = wr := ⟨_, rfl⟩
      go_loopw [98] (fun v wr => ∃ i : Nat, i ≤ l4.length ∧ v = .int .i64 i ∧ Aside0 (Below w.heap.size w wr) ∧ Aside0 ((l4.take i).all (val m) = true)) (fun v _ => l4.length - (intOf v).toNat)
      case atStart => exact ⟨0, Nat.zero_le _, rfl, HB, ⟨rfl⟩⟩
      case round =>
        clear HB q0 q4 hi' hi
        obtain ⟨i, hi, rfl, HB, HA⟩ := hrel
        by_cases hlt : i < l4.length
        · obtain ⟨ad, y, B4, d4, B5, d5, e0, e1, hy, x0, x1, x2, x3, x4, x5, hin⟩ := at_val HR.out HB.out i hlt
          subst e0
          have E1 := Aside0.mk e1
          have HY := Aside0.mk (HW.out y hy)
          clear e1 hy
          go_wp2_with fail
          have hc := ih.out y B4 d4 B5 d5 (wr.alloc (.cells #[.int .i64 y.f0, .bool y.f1, .int .i64 y.f2, .string y.f3, .slice B4 y.f4.length d4, .slice B5 y.f5.length d5] 25)) hin.out.1 (Kd.C_below hin.out.2.1 (below_alloc (Below.refl _ _) _)) hin.out.2.2.1 (Kd.C_below hin.out.2.2.2 (below_alloc (Below.refl _ _) _)) HY.out
          cases hv : val m y with
          | true =>
            rw [hv] at hc
            have HV := Aside0.mk hv
            clear hv
            refine hc.mono ?_
            clear hc
            rintro e w1 ⟨rfl, hb1⟩
            have HB1 := Aside0.mk (below_step (below_alloc HB.out _) hb1)
            clear hb1 x0 x1 x2 x3 x4 x5
            go_wp2
            go_roundw
            case rel => exact ⟨i + 1, by omega, by go_num, HB1, ⟨by rw [all_snoc _ _ _ hlt z25 HA.out, E1.out, HV.out]⟩⟩
            case measure => simp [intOf]; omega
          | false =>
            rw [hv] at hc
            have HV := Aside0.mk hv
            clear hv
            refine hc.mono ?_
            clear hc
            rintro e w1 ⟨rfl, hb1⟩
            have HB1 := Aside0.mk (below_step (below_alloc HB.out _) hb1)
            clear hb1 x0 x1 x2 x3 x4 x5
            go_wp2
            go_ret
            exact ⟨by rw [all_fails _ _ _ hlt z25 (by rw [E1.out, HV.out]), Bool.and_false]; rfl, HB1.out⟩
        · go_wp2
          go_ret
          refine ⟨?_, HB.out⟩
          have e : l4.take i = l4 := List.take_of_length_le (by omega)
          have := HA.out
          rw [e] at this
          rw [this, HK.out]
          rfl
end Go.Proofs.YtjeeclmhifecbaaGreatDoor
