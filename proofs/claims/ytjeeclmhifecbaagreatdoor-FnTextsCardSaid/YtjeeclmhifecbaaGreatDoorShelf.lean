/-
  The contract of strconv.FormatInt at base 10, off the shelf, laid at this dump in plain words (written by the shelf's lay-plain.mjs); condition: the table internal/strconv.uint64pow10 reads as its initialiser lays it.
-/
import Derived.Shelf.LaysM
import Derived.Shelf.Strconv.Itoa4
import Derived.Lib.SmallJoins
import Derived.Test.YtjeeclmhifecbaaGreatDoorProg
namespace Go.Proofs.YtjeeclmhifecbaaGreatDoor
open Go.Shelf
def Tryz.laysM173_ren : Go.Shelf.Ren := ⟨fun | 173 => 20 | 246 => 32 | 283 => 41 | 284 => 42 | 285 => 43 | 286 => 44 | 129 => 51 | 317 => 50 | 318 => 52 | 319 => 53 | 320 => 54 | 337 => 58 | 338 => 59 | n => n, fun | 2 => 2 | 3 => 3 | 9 => 9 | 4 => 4 | 171 => 77 | 0 => 0 | 53 => 55 | 37 => 80 | 5 => 5 | 173 => 81 | 212 => 94 | 51 => 95 | 20 => 20 | 213 => 96 | 46 => 50 | 232 => 126 | 233 => 127 | n => n, fun | 17 => 0 | 18 => 2 | 19 => 3 | n => n⟩
theorem Tryz.laysM173 : Go.Proofs.LaysM.n173 Tryz.prog Tryz.laysM173_ren := {
  mixed := by kernel_rfl
  f129 := Tryz.func51.trans (congrArg some (by kernel_rfl))
  f173 := Tryz.func20.trans (congrArg some (by kernel_rfl))
  f246 := Tryz.func32.trans (congrArg some (by kernel_rfl))
  f283 := Tryz.func41.trans (congrArg some (by kernel_rfl))
  f284 := Tryz.func42.trans (congrArg some (by kernel_rfl))
  f285 := Tryz.func43.trans (congrArg some (by kernel_rfl))
  f286 := Tryz.func44.trans (congrArg some (by kernel_rfl))
  f317 := Tryz.func50.trans (congrArg some (by kernel_rfl))
  f318 := Tryz.func52.trans (congrArg some (by kernel_rfl))
  f319 := Tryz.func53.trans (congrArg some (by kernel_rfl))
  f320 := Tryz.func54.trans (congrArg some (by kernel_rfl))
  f337 := Tryz.func58.trans (congrArg some (by kernel_rfl))
  f338 := Tryz.func59.trans (congrArg some (by kernel_rfl))
  t0 := Tryz.underlying0
  a0 := Tryz.isAgg0
  z0 := Tryz.sizeOf0
  v0 := Tryz.zeroValue0
  t2 := Tryz.underlying2
  a2 := Tryz.isAgg2
  z2 := Tryz.sizeOf2
  v2 := Tryz.zeroValue2
  t3 := Tryz.underlying3
  a3 := Tryz.isAgg3
  z3 := Tryz.sizeOf3
  v3 := Tryz.zeroValue3
  t4 := Tryz.underlying4
  a4 := Tryz.isAgg4
  z4 := Tryz.sizeOf4
  v4 := Tryz.zeroValue4
  t5 := Tryz.underlying5
  a5 := Tryz.isAgg5
  z5 := Tryz.sizeOf5
  v5 := Tryz.zeroValue5
  t9 := Tryz.underlying9
  a9 := Tryz.isAgg9
  z9 := Tryz.sizeOf9
  v9 := Tryz.zeroValue9
  t20 := Tryz.underlying20
  a20 := Tryz.isAgg20
  z20 := Tryz.sizeOf20
  v20 := Tryz.zeroValue20
  t37 := Tryz.underlying80
  a37 := Tryz.isAgg80
  z37 := Tryz.sizeOf80
  v37 := Tryz.zeroValue80
  t46 := Tryz.underlying50
  a46 := Tryz.isAgg50
  z46 := Tryz.sizeOf50
  v46 := Tryz.zeroValue50
  t51 := Tryz.underlying95
  a51 := Tryz.isAgg95
  z51 := Tryz.sizeOf95
  v51 := Tryz.zeroValue95
  t53 := Tryz.underlying55
  a53 := Tryz.isAgg55
  z53 := Tryz.sizeOf55
  v53 := Tryz.zeroValue55
  t171 := Tryz.underlying77
  a171 := Tryz.isAgg77
  z171 := Tryz.sizeOf77
  v171 := Tryz.zeroValue77
  t173 := Tryz.underlying81
  a173 := Tryz.isAgg81
  z173 := Tryz.sizeOf81
  v173 := Tryz.zeroValue81
  t212 := Tryz.underlying94
  a212 := Tryz.isAgg94
  z212 := Tryz.sizeOf94
  v212 := Tryz.zeroValue94
  t213 := Tryz.underlying96
  a213 := Tryz.isAgg96
  z213 := Tryz.sizeOf96
  t232 := Tryz.underlying126
  a232 := Tryz.isAgg126
  z232 := Tryz.sizeOf126
  v232 := Tryz.zeroValue126
  t233 := Tryz.underlying127
  a233 := Tryz.isAgg127
  z233 := Tryz.sizeOf127
  v233 := Tryz.zeroValue127
  g17 := by kernel_rfl
  g18 := by kernel_rfl
  g19 := by kernel_rfl
  i0 := by kernel_rfl
  i2 := by kernel_rfl
  i3 := by kernel_rfl
  i4 := by kernel_rfl
  i5 := by kernel_rfl
  i9 := by kernel_rfl
  i20 := by kernel_rfl
  i37 := by kernel_rfl
  i46 := by kernel_rfl
  i51 := by kernel_rfl
  i53 := by kernel_rfl
  i171 := by kernel_rfl
  i173 := by kernel_rfl
  i212 := by kernel_rfl
  i232 := by kernel_rfl
  i233 := by kernel_rfl
  m17 := by kernel_rfl
  m18 := by kernel_rfl
  m19 := by kernel_rfl }
open Go.RowKit Go.Sort Go.Lib in
theorem Tryz.strconv_FormatInt_10 (n : Int) (h0 : -9223372036854775808 ≤ n) (h1 : n ≤ 9223372036854775807) (w : World) (htab : Lib.TabIs Tryz.prog w "internal/strconv.uint64pow10" .u64 Lib.pow10Tab) :
    Calls Tryz.prog 20 #[.int .i64 n, .int .i64 10] w fun e w' => e = .returned (.string ⟨(Lib.itoa n).toArray⟩) ∧ ∃ k os, w' = grow (w.drewN k) os := Any.strconv_FormatInt_10 Tryz.laysM173 n h0 h1 w htab
end Go.Proofs.YtjeeclmhifecbaaGreatDoor
