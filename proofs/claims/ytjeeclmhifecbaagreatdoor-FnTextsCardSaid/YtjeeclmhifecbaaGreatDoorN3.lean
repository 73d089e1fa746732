/-
  plain at a dict: a map that is empty just if the dict is. Conditions: at most twelve elements, each a value, as many keys; the contract with one level less.
-/
import Derived.Test.YtjeeclmhifecbaaGreatDoorN2
import Derived.Test.YtjeeclmhifecbaaGreatDoorV3
namespace Go.Proofs.YtjeeclmhifecbaaGreatDoor
open Go.RowKit Go.Proofs.YtjeeclmhifecbaaGreatDoorW.PrintWords PFnTexts
open Go.MapKept Go.ChangeMaps Go.WideElems Go.Maps Go.WideMaps
set_option linter.unusedVariables false
set_option linter.unusedSimpArgs false
/-- Of an element of the map nothing is asked. -/
def anyElem : Value → Option (DataW Unit × List MemPlace) := fun _ => some (.nil, [])
/-- Block b is a map that the call has made; it is empty just if no round has gone by. -/
def Dict (b i : Nat) (w : World) : Prop := ∃ D, w.ownsMap Tryz.prog 9 anyElem b i D ∧ ∃ es clock, w.heap[b]? = some (.map es clock) ∧ decide (0 < es.size) = decide (0 < i)
theorem Dict.made (w : World) : Dict w.heap.size 0 (w.alloc (.map #[] 0)) := ⟨_, World.ownsMap_made w Tryz.prog 9 anyElem, #[], 0, blk_new _ _, rfl⟩
theorem Dict.below {b i : Nat} {w w' : World} (h : Dict b i w) (hb : Below w.heap.size w w') : Dict b i w' := by
  obtain ⟨D, h, es, clock, he, hs⟩ := h
  exact ⟨D, h.kept (row := none) ⟨hb.os, hb.tape, hb.output, hb.size, fun j hj _ => hb.block j hj⟩ (by simp), es, clock, blk_below he hb, hs⟩
theorem Dict.put {b i : Nat} {w w' : World} {D : DataW Unit} {kl : Lit} {d : DataW Unit} (h : w.ownsMap Tryz.prog 9 anyElem b i D) (h' : w'.ownsMap Tryz.prog 9 anyElem b (i + 1) (D.put kl d)) : Dict b (i + 1) w' := by
  have hk := h'
  obtain ⟨es, clock, _, _, _, rfl⟩ := h
  obtain ⟨es', clock', hb', _, _, hD⟩ := h'
  refine ⟨_, hk, es', clock', hb', ?_⟩
  rw [DataW.put_eq] at hD
  have e := DataW.map.inj hD
  have e1 := congrArg List.length e
  rw [length_sorted] at e1
  unfold putKey at e1
  rw [length_insert] at e1
  simp at e1
  rw [decide_eq_true (by omega), decide_eq_true (by omega)]

set_option maxRecDepth 100000 in
set_option maxHeartbeats 1000000 in
theorem plain_5 (m : Nat) (c : Bool) (n : Int) (s : ByteArray) (A4 : Option Addr) (l4 : List S25) (c4 : Nat) (A5 : Option Addr) (l5 : List ByteArray) (c5 : Nat) (w : World) (hl : (l4.length : Int) ≤ 12) (hlen : Hid (l5.length = l4.length))
    (hr : Kd.C k25 w A4 l4.length l4) (hw : ∀ y ∈ l4, WF y ∧ val m y = true) (hr5 : Kd.C Kd.string w A5 l5.length l5) (hw5 : ∀ s ∈ l5, s.size ≤ 9223372036854775807) (ih : Hid (Pl m)) :
    Calls Tryz.prog 14 #[.agg #[.int .i64 5, .bool c, .int .i64 n, .string s, .slice A4 l4.length c4, .slice A5 l5.length c5]] w fun e w' => ∃ b, e = .returned (.iface 42 (.map (some b))) ∧ Dict b l5.length w' ∧ Below w.heap.size w w' := by
  have hl5 : (l5.length : Int) ≤ 12 := by rw [hlen.out]; exact hl
  have HR := Aside0.mk hr
  have HW := Aside0.mk hw
  have HR5 := Aside0.mk hr5
  have HW5 := Aside0.mk hw5
  clear hr hw hr5 hw5
  have hmm := @run_makeMap Tryz.prog
  go_enter Tryz.func14, Tryz.ntmps14
  go_wp2
  clear hmm
  go_loopw [50] (fun v wr => ∃ i : Nat, i ≤ l5.length ∧ v = .int .i64 i ∧ Aside0 (Dict (w.heap.size + 1) i wr) ∧ Aside0 (wr.heap[w.heap.size]? = some (.cells #[.int .i64 5, .bool c, .int .i64 n, .string s, .slice A4 l4.length c4, .slice A5 l5.length c5] 25 (0, 0))) ∧ Aside0 (Below w.heap.size w wr)) (fun v _ => l5.length - (intOf v).toNat)
  case atStart =>
    refine ⟨0, Nat.zero_le _, rfl, ⟨?_⟩, ⟨blk_alloc (blk_new _ _) _⟩, ⟨below_alloc (below_alloc (Below.refl _ _) _) _⟩⟩
    have h := Dict.made (w.alloc (.cells #[.int .i64 5, .bool c, .int .i64 n, .string s, .slice A4 l4.length c4, .slice A5 l5.length c5] 25))
    rw [World.size_alloc] at h
    exact h
  case round =>
    obtain ⟨i, hi, rfl, HD, BK, HB⟩ := hrel
    by_cases hlt : i < l5.length
    · have hlt4 : i < l4.length := by rw [← hlen.out]; exact hlt
      obtain ⟨ad, y, B4, d4, B5, d5, e0, e1, hy, x0, x1, x2, x3, x4, x5, hin⟩ := at_val HR.out HB.out i hlt4
      subst e0
      obtain ⟨ak, e0, z0⟩ := at_key HR5.out HB.out i hlt
      subst e0
      have HY := Aside0.mk (HW.out y hy)
      have hk := Aside0.mk (HW5.out _ (key_mem hlt))
      have q4 : wr.cell? ⟨w.heap.size, 4, none⟩ = some (.slice (some ad) l4.length c4) := (blk_cell BK.out 4).trans rfl
      clear e1 hy
      go_wp2_with fail
      have hc := ih.out y B4 d4 B5 d5 wr hin.out.1 hin.out.2.1 hin.out.2.2.1 hin.out.2.2.2 HY.out.1 HY.out.2
      refine hc.mono ?_
      clear hc
      rintro e w1 ⟨x, rfl, _, hb1⟩
      have HB1 := Aside0.mk (below_step HB.out hb1)
      have BK1 := Aside0.mk (blk_below BK.out hb1)
      obtain ⟨D, hown, _⟩ := HD.out.below hb1
      have HM := Aside0.mk hown
      clear hown hb1 x0 x1 x2 x3 x4 x5 z0 q4 HD BK
      go_wp2_with (at_mapUpdate; refine wpList_mapUpdate_own _ rfl _ _ _ 42 rfl 9 20 (string_keyed Tryz.underlying9) Tryz.underlying42 anyElem (w.heap.size + 1) i D rfl HM.out ?c1 (.string (rdOf ByteArray.empty l5 (i : Int))) _ (.string (rdOf ByteArray.empty l5 (i : Int)).data.toList) rfl rfl (keyOf_string_mk Tryz.underlying9 hk.out) .nil [] rfl ?_)
      case c1 => unfold maxLen; omega
      intro w2 hown2 hg2
      have HD2 := Aside0.mk (Dict.put HM.out hown2)
      have HB2 := Aside0.mk (pw_below_grown HB1.out _ HB1.out.size hg2 (fun k hk => by have : w.heap.size + 1 = k := Option.some.inj hk; omega))
      have BK2 := Aside0.mk (blk_grown BK1.out hg2 (by simp))
      clear hown2 hg2 HM HB1 BK1
      go_wp2
      go_roundw
      case rel => exact ⟨i + 1, by omega, by go_num, HD2, BK2, HB2⟩
      case measure => simp [intOf]; omega
    · go_wp2
      go_ret
      obtain rfl : i = l5.length := by omega
      exact ⟨_, rfl, HD.out, HB.out⟩
end Go.Proofs.YtjeeclmhifecbaaGreatDoor
