/-
  plain at a list: a list of as many interface values. Conditions: at most twelve elements, each a value; the contract with one level less.
-/
import Derived.Test.YtjeeclmhifecbaaGreatDoorN1
namespace Go.Proofs.YtjeeclmhifecbaaGreatDoor
open Go.RowKit Go.Proofs.YtjeeclmhifecbaaGreatDoorW.PrintWords PFnTexts
set_option linter.unusedVariables false
set_option linter.unusedSimpArgs false
/-- An interface value, nil or not. -/
def IsI (x : Value) : Prop := x = .nilIface ∨ ∃ u v, x = .iface u v
/-- What plain hands back for a value. -/
structure Plain (y : S25) (x : Value) (w : World) : Prop where
  isI : IsI x
  none : y.f0 = 0 → x = .nilIface
  bool : y.f0 = 1 → x = .iface 4 (.bool y.f1)
  int : y.f0 = 2 → x = .iface 3 (.int .i64 y.f2)
  text : y.f0 = 3 → x = .iface 9 (.string y.f3)
  list : y.f0 = 4 → ∃ A c, x = .iface 41 (.slice A y.f4.length c)
  dict : y.f0 = 5 → ∃ r es clock, x = .iface 42 (.map (some r)) ∧ w.heap[r]? = some (.map es clock) ∧ decide (0 < es.size) = decide (0 < y.f4.length)
def PlainPost (y : S25) (W : World) (e : Ending) (w' : World) : Prop := ∃ x, e = .returned x ∧ Plain y x w' ∧ Below W.heap.size W w'
/-- The contract of plain with m levels left, as a callee. -/
def Pl (m : Nat) : Prop := ∀ (y : S25) (A4 : Option Addr) (c4 : Nat) (A5 : Option Addr) (c5 : Nat) (W : World), y.f4.length ≤ c4 → Kd.C k25 W A4 y.f4.length y.f4 → y.f5.length ≤ c5 → Kd.C Kd.string W A5 y.f5.length y.f5 → WF y → val m y = true →
  Calls Tryz.prog 14 #[.agg #[.int .i64 y.f0, .bool y.f1, .int .i64 y.f2, .string y.f3, .slice A4 y.f4.length c4, .slice A5 y.f5.length c5]] W (PlainPost y W)
/-- A list of n interface values that the call has made. -/
def Row (B n : Nat) (v : Value) (w : World) : Prop := ∃ xs, w.ownsRow B 20 1 v n xs
theorem Row.below {B n : Nat} {v : Value} {w w' : World} (h : Row B n v w) (hb : Below w.heap.size w w') : Row B n v w' := by
  obtain ⟨xs, h⟩ := h
  exact ⟨xs, own_move h (fun k hk => hb.block k (own_lt h k hk))⟩
theorem info20 : (Tryz.prog.info? 20).map (fun i => (i.zero, i.size, i.bytes)) = some (some .nilIface, 1, 16) := by kernel_rfl

set_option maxRecDepth 100000 in
set_option maxHeartbeats 1000000 in
theorem plain_4 (m : Nat) (c : Bool) (n : Int) (s : ByteArray) (A4 : Option Addr) (l4 : List S25) (c4 : Nat) (A5 : Option Addr) (n5 c5 : Nat) (w : World) (hl : (l4.length : Int) ≤ 12)
    (hr : Kd.C k25 w A4 l4.length l4) (hw : ∀ y ∈ l4, WF y ∧ val m y = true) (ih : Hid (Pl m)) :
    Calls Tryz.prog 14 #[.agg #[.int .i64 4, .bool c, .int .i64 n, .string s, .slice A4 l4.length c4, .slice A5 n5 c5]] w fun e w' => ∃ A k, e = .returned (.iface 41 (.slice A l4.length k)) ∧ Below w.heap.size w w' := by
  have HR := Aside0.mk hr
  have HW := Aside0.mk hw
  clear hr hw
  go_enter Tryz.func14, Tryz.ntmps14
  go_wp2
  go_loopw [3, 32] (fun v3 v wr => ∃ i : Nat, i ≤ l4.length ∧ v = .int .i64 i ∧ Aside0 (Row w.heap.size i v3 wr) ∧ Aside0 (Below w.heap.size w wr)) (fun _ v _ => l4.length - (intOf v).toNat)
  case atStart => exact ⟨0, Nat.zero_le _, rfl, ⟨⟨[], rfl, .inr ⟨w.heap.size + 1, 0, #[], rfl, by omega, by rw [show w.heap.size + 1 = (w.alloc (.cells #[.int .i64 4, .bool c, .int .i64 n, .string s, .slice A4 l4.length c4, .slice A5 n5 c5] 25)).heap.size by simp]; exact blk_new _ _, Nat.le_refl _, Nat.zero_le _, rfl, rfl⟩⟩⟩, ⟨below_alloc (below_alloc (Below.refl _ _) _) _⟩⟩
  case round =>
    obtain ⟨i, hi, rfl, HO, HB⟩ := hrel
    by_cases hlt : i < l4.length
    · obtain ⟨ad, y, B4, d4, B5, d5, e0, e1, hy, x0, x1, x2, x3, x4, x5, hin⟩ := at_val HR.out HB.out i hlt
      subst e0
      have HY := Aside0.mk (HW.out y hy)
      clear e1 hy
      go_wp2_with fail
      have hc := ih.out y B4 d4 B5 d5 (wr.alloc (.cells #[.int .i64 y.f0, .bool y.f1, .int .i64 y.f2, .string y.f3, .slice B4 y.f4.length d4, .slice B5 y.f5.length d5] 25)) hin.out.1 (Kd.C_below hin.out.2.1 (below_alloc (Below.refl _ _) _)) hin.out.2.2.1 (Kd.C_below hin.out.2.2.2 (below_alloc (Below.refl _ _) _)) HY.out.1 HY.out.2
      refine hc.mono ?_
      clear hc
      rintro e w1 ⟨x, rfl, hp, hb1⟩
      have HB1 := Aside0.mk (below_step (below_alloc HB.out _) hb1)
      have HO1 := Aside0.mk ((HO.out.below (below_alloc (Below.refl _ _) _)).below hb1)
      have hx := hp.isI
      clear hp hb1 x0 x1 x2 x3 x4 x5
      obtain ⟨xs, hown⟩ := HO1.out
      have HN := Aside0.mk hown
      clear hown HO HO1
      rcases hx with rfl | ⟨u, v, rfl⟩
      · go_wp2_with (at_builtin; refine print_append_cells w.heap.size rfl _ _ 41 20 .nilIface 1 16 rfl Tryz.underlying41 info20 rfl (by decide) (by decide) u3 i xs [.nilIface] rfl rfl rfl ?c1 HN.out HB1.out HB1.out.size ?c4 ?_)
        case c1 => intro u hu; rw [List.mem_singleton.1 hu]; rfl
        case c4 => omega
        intro v' w2 hown2 hb2 _ _
        have HO2 : Aside0 (Row w.heap.size (i + 1) v' w2) := ⟨⟨_, hown2⟩⟩
        have HB2 := Aside0.mk hb2
        clear hown2 hb2 HN HB1
        go_wp2
        go_roundw
        case rel => exact ⟨i + 1, by omega, by go_num, HO2, HB2⟩
        case measure => simp [intOf]; omega
      · go_wp2_with (at_builtin; refine print_append_cells w.heap.size rfl _ _ 41 20 .nilIface 1 16 rfl Tryz.underlying41 info20 rfl (by decide) (by decide) u3 i xs [.iface u v] rfl rfl rfl ?c1 HN.out HB1.out HB1.out.size ?c4 ?_)
        case c1 => intro u hu; rw [List.mem_singleton.1 hu]; rfl
        case c4 => omega
        intro v' w2 hown2 hb2 _ _
        have HO2 : Aside0 (Row w.heap.size (i + 1) v' w2) := ⟨⟨_, hown2⟩⟩
        have HB2 := Aside0.mk hb2
        clear hown2 hb2 HN HB1
        go_wp2
        go_roundw
        case rel => exact ⟨i + 1, by omega, by go_num, HO2, HB2⟩
        case measure => simp [intOf]; omega
    · obtain ⟨xs, hown⟩ := HO.out
      obtain ⟨A, k, rfl⟩ := own_slice hown
      obtain rfl : i = l4.length := by omega
      clear hown
      go_wp2
      go_ret
      exact ⟨A, k, rfl, HB.out⟩
end Go.Proofs.YtjeeclmhifecbaaGreatDoor
