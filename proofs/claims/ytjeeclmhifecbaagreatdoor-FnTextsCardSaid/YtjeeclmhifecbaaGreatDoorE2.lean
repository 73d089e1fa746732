/-
  rfValueOf, AsValue and getResolvedValue over an interface value that is plain data: what they hand back, and that nothing that lay there turns. Condition: the callee's kind is none of a pointer.
-/
import Derived.Test.YtjeeclmhifecbaaGreatDoorE1
import Derived.Test.YtjeeclmhifecbaaGreatDoorWWords
namespace Go.Proofs.YtjeeclmhifecbaaGreatDoor
open Go.RowKit Go.Proofs.YtjeeclmhifecbaaGreatDoorW.PrintWords
set_option linter.unusedVariables false
set_option linter.unusedSimpArgs false

theorem bcell {W w1 : World} (hb : Below W.heap.size W w1) : (∀ b o, b < W.heap.size → w1.cell? ⟨b, o, none⟩ = W.cell? ⟨b, o, none⟩) ∧ (∀ b o, b < W.heap.size → w1.frozen? ⟨b, o, none⟩ = W.frozen? ⟨b, o, none⟩) :=
  ⟨fun b o h => hb.cell (p := ⟨b, o, none⟩) h, fun b o h => hb.frozen (p := ⟨b, o, none⟩) h⟩

structure Boxed (b : Nat) (x : Value) (ok : Bool) (w : World) : Prop where
  c0 : w.cell? ⟨b, 0, none⟩ = some x
  c1 : w.cell? ⟨b, 1, none⟩ = some (.bool ok)
  c2 : w.cell? ⟨b, 2, none⟩ = some (.bool false)
  c3 : w.cell? ⟨b, 3, none⟩ = some (.bool false)
theorem Boxed.lt {b : Nat} {x : Value} {ok : Bool} {w : World} (h : Boxed b x ok w) : b < w.heap.size := World.block_lt_of_cell? w _ h.c0
theorem Boxed.below {b : Nat} {x : Value} {ok : Bool} {w w' : World} (h : Boxed b x ok w) (hb : Below w.heap.size w w') : Boxed b x ok w' :=
  ⟨((bcell hb).1 b 0 h.lt).trans h.c0, ((bcell hb).1 b 1 h.lt).trans h.c1, ((bcell hb).1 b 2 h.lt).trans h.c2, ((bcell hb).1 b 3 h.lt).trans h.c3⟩

theorem Boxed.alloc {b : Nat} {x : Value} {ok : Bool} {w : World} (h : Boxed b x ok w) (o : Obj) : Boxed b x ok (w.alloc o) := h.below (below_alloc (Below.refl _ _) o)
theorem rfValueOf_some (u : TypeId) (v : Value) (w : World) :
    Calls Tryz.prog 22 #[.iface u v] w fun e w' => e = .returned (.agg #[.iface u v, .bool true, .bool false]) ∧ Below w.heap.size w w' := by
  go_enter Tryz.func22, Tryz.ntmps22
  go_wp2
  go_returns
  exact ⟨rfl, by go_grown⟩
theorem rfValueOf_nil (w : World) :
    Calls Tryz.prog 22 #[.nilIface] w fun e w' => e = .returned (.agg #[.nilIface, .bool false, .bool false]) ∧ Below w.heap.size w w' := by
  go_enter Tryz.func22, Tryz.ntmps22
  go_wp2
  go_returns
  exact ⟨rfl, by go_grown⟩

theorem asValue_some (u : TypeId) (v : Value) (w : World) :
    Calls Tryz.prog 18 #[.iface u v] w fun e w' => ∃ b, e = .returned (.pointer (some ⟨b, 0, none⟩)) ∧ w.heap.size ≤ b ∧ Boxed b (.iface u v) true w' ∧ Below w.heap.size w w' := by
  go_enter Tryz.func18, Tryz.ntmps18
  go_wp2_with fail
  refine (rfValueOf_some u v _).mono ?_
  rintro e w1 ⟨rfl, hb⟩
  go_wp2
  go_ret
  exact ⟨w1.heap.size, rfl, hb.size, ⟨by simp, by simp, by simp, by simp⟩, by have := hb.size; go_grown⟩
theorem asValue_nil (w : World) :
    Calls Tryz.prog 18 #[.nilIface] w fun e w' => ∃ b, e = .returned (.pointer (some ⟨b, 0, none⟩)) ∧ w.heap.size ≤ b ∧ Boxed b .nilIface false w' ∧ Below w.heap.size w w' := by
  go_enter Tryz.func18, Tryz.ntmps18
  go_wp2_with fail
  refine (rfValueOf_nil _).mono ?_
  rintro e w1 ⟨rfl, hb⟩
  go_wp2
  go_ret
  exact ⟨w1.heap.size, rfl, hb.size, ⟨by simp, by simp, by simp, by simp⟩, by have := hb.size; go_grown⟩

theorem resolved_ok (b : Nat) (u : TypeId) (v : Value) (k : Int) (w : World) (h : Boxed b (.iface u v) true w)
    (hk : ∀ W, Calls Tryz.prog 24 #[.agg #[.iface u v, .bool true, .bool false]] W fun e w' => e = .returned (.int .u64 k) ∧ Below W.heap.size W w') (hne : (k == 20) = false) :
    Calls Tryz.prog 23 #[.pointer (some ⟨b, 0, none⟩)] w fun e w' => e = .returned (.agg #[.iface u v, .bool true, .bool false]) ∧ Below w.heap.size w w' := by
  have h0 := h.c0
  have h1 := h.c1
  have h2 := h.c2
  have hlt := h.lt
  go_enter Tryz.func23, Tryz.ntmps23
  go_wp2_with fail
  refine (isValid_any (.iface u v) true false _).mono ?_
  rintro e w1 ⟨rfl, hb1⟩
  have B1 := (h.alloc _).below hb1
  have BK1 := blk_below (blk_new w _) hb1
  have HB1 := Aside0.mk (below_step (below_alloc (Below.refl w.heap.size w) _) hb1)
  clear h0 h1 h2 hlt h hb1
  have h0 := B1.c0
  have h1 := B1.c1
  have h2 := B1.c2
  go_wp2_with fail
  refine (hk _).mono ?_
  rintro e w2 ⟨rfl, hb2⟩
  have B2 := B1.below hb2
  have BK2 := blk_below BK1 hb2
  have HB2 := Aside0.mk (below_step HB1.out hb2)
  clear h0 h1 h2 hb2 B1 BK1 HB1
  have h0 := B2.c0
  have h1 := B2.c1
  have h2 := B2.c2
  have r0 : w2.cell? ⟨w.heap.size, 0, none⟩ = some (.nilIface) := (blk_cell BK2 0).trans rfl
  have r1 : w2.cell? ⟨w.heap.size, 1, none⟩ = some (.bool false) := (blk_cell BK2 1).trans rfl
  have r2 : w2.cell? ⟨w.heap.size, 2, none⟩ = some (.bool false) := (blk_cell BK2 2).trans rfl
  have f0 := blk_frozen BK2 0
  have f1 := blk_frozen BK2 1
  have f2 := blk_frozen BK2 2
  go_wp2
  refine bodyPost_ret (v := .agg #[.iface u v, .bool true, .bool false]) (by simp [results, Tryz.results23, go_sem, r0, r1, r2]) rfl ⟨rfl, below_set (below_set (below_set HB2.out (Nat.le_refl _)) (Nat.le_refl _)) (Nat.le_refl _)⟩
theorem resolved_nil (b : Nat) (w : World) (h : Boxed b .nilIface false w) :
    Calls Tryz.prog 23 #[.pointer (some ⟨b, 0, none⟩)] w fun e w' => e = .returned (.agg #[.nilIface, .bool false, .bool false]) ∧ Below w.heap.size w w' := by
  have h0 := h.c0
  have h1 := h.c1
  have h2 := h.c2
  have hlt := h.lt
  go_enter Tryz.func23, Tryz.ntmps23
  go_wp2_with fail
  refine (isValid_any .nilIface false false _).mono ?_
  rintro e w1 ⟨rfl, hb1⟩
  have B1 := (h.alloc _).below hb1
  have BK1 := blk_below (blk_new w _) hb1
  have HB1 := Aside0.mk (below_step (below_alloc (Below.refl w.heap.size w) _) hb1)
  clear h0 h1 h2 hlt h hb1
  have h0 := B1.c0
  have h1 := B1.c1
  have h2 := B1.c2
  have r0 : w1.cell? ⟨w.heap.size, 0, none⟩ = some (.nilIface) := (blk_cell BK1 0).trans rfl
  have r1 : w1.cell? ⟨w.heap.size, 1, none⟩ = some (.bool false) := (blk_cell BK1 1).trans rfl
  have r2 : w1.cell? ⟨w.heap.size, 2, none⟩ = some (.bool false) := (blk_cell BK1 2).trans rfl
  have f0 := blk_frozen BK1 0
  have f1 := blk_frozen BK1 1
  have f2 := blk_frozen BK1 2
  go_wp2
  refine bodyPost_ret (v := .agg #[.nilIface, .bool false, .bool false]) (by simp [results, Tryz.results23, go_sem, r0, r1, r2]) rfl ⟨rfl, below_set (below_set (below_set HB1.out (Nat.le_refl _)) (Nat.le_refl _)) (Nat.le_refl _)⟩
end Go.Proofs.YtjeeclmhifecbaaGreatDoor
