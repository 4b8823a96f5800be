/- strconv.Itoa's contract of the guide's shelf, laid at this program by the guide's own tools (lay-shelf, lay-plain), one contract of the twelve kept. -/
import Derived.Shelf.LaysM
import Derived.Shelf.Strconv.Itoa3
import Derived.Test.YbulkanjoDoorProg
namespace Go.Proofs
open Go.Shelf
def Ybad.laysM171_ren : Go.Shelf.Ren := ⟨fun | 171 => 12 | 243 => 14 | 246 => 15 | 283 => 16 | 284 => 17 | 285 => 18 | 286 => 19 | 129 => 21 | 317 => 20 | 318 => 22 | 319 => 23 | 320 => 24 | 337 => 25 | 338 => 26 | n => n, fun | 3 => 3 | 9 => 9 | 2 => 2 | 4 => 4 | 171 => 40 | 0 => 0 | 53 => 41 | 37 => 44 | 5 => 5 | 173 => 45 | 212 => 49 | 51 => 50 | 20 => 20 | 213 => 51 | 46 => 30 | 232 => 55 | 233 => 56 | n => n, fun | 17 => 0 | 18 => 1 | 19 => 2 | n => n⟩
theorem Ybad.laysM171 : Go.Proofs.LaysM.n171 Ybad.prog Ybad.laysM171_ren := {
  mixed := by kernel_rfl
  f129 := Ybad.func21.trans (congrArg some (by kernel_rfl))
  f171 := Ybad.func12.trans (congrArg some (by kernel_rfl))
  f243 := Ybad.func14.trans (congrArg some (by kernel_rfl))
  f246 := Ybad.func15.trans (congrArg some (by kernel_rfl))
  f283 := Ybad.func16.trans (congrArg some (by kernel_rfl))
  f284 := Ybad.func17.trans (congrArg some (by kernel_rfl))
  f285 := Ybad.func18.trans (congrArg some (by kernel_rfl))
  f286 := Ybad.func19.trans (congrArg some (by kernel_rfl))
  f317 := Ybad.func20.trans (congrArg some (by kernel_rfl))
  f318 := Ybad.func22.trans (congrArg some (by kernel_rfl))
  f319 := Ybad.func23.trans (congrArg some (by kernel_rfl))
  f320 := Ybad.func24.trans (congrArg some (by kernel_rfl))
  f337 := Ybad.func25.trans (congrArg some (by kernel_rfl))
  f338 := Ybad.func26.trans (congrArg some (by kernel_rfl))
  t0 := Ybad.underlying0
  a0 := Ybad.isAgg0
  z0 := Ybad.sizeOf0
  v0 := Ybad.zeroValue0
  t2 := Ybad.underlying2
  a2 := Ybad.isAgg2
  z2 := Ybad.sizeOf2
  v2 := Ybad.zeroValue2
  t3 := Ybad.underlying3
  a3 := Ybad.isAgg3
  z3 := Ybad.sizeOf3
  v3 := Ybad.zeroValue3
  t4 := Ybad.underlying4
  a4 := Ybad.isAgg4
  z4 := Ybad.sizeOf4
  v4 := Ybad.zeroValue4
  t5 := Ybad.underlying5
  a5 := Ybad.isAgg5
  z5 := Ybad.sizeOf5
  v5 := Ybad.zeroValue5
  t9 := Ybad.underlying9
  a9 := Ybad.isAgg9
  z9 := Ybad.sizeOf9
  v9 := Ybad.zeroValue9
  t20 := Ybad.underlying20
  a20 := Ybad.isAgg20
  z20 := Ybad.sizeOf20
  v20 := Ybad.zeroValue20
  t37 := Ybad.underlying44
  a37 := Ybad.isAgg44
  z37 := Ybad.sizeOf44
  v37 := Ybad.zeroValue44
  t46 := Ybad.underlying30
  a46 := Ybad.isAgg30
  z46 := Ybad.sizeOf30
  v46 := Ybad.zeroValue30
  t51 := Ybad.underlying50
  a51 := Ybad.isAgg50
  z51 := Ybad.sizeOf50
  v51 := Ybad.zeroValue50
  t53 := Ybad.underlying41
  a53 := Ybad.isAgg41
  z53 := Ybad.sizeOf41
  v53 := Ybad.zeroValue41
  t171 := Ybad.underlying40
  a171 := Ybad.isAgg40
  z171 := Ybad.sizeOf40
  v171 := Ybad.zeroValue40
  t173 := Ybad.underlying45
  a173 := Ybad.isAgg45
  z173 := Ybad.sizeOf45
  v173 := Ybad.zeroValue45
  t212 := Ybad.underlying49
  a212 := Ybad.isAgg49
  z212 := Ybad.sizeOf49
  v212 := Ybad.zeroValue49
  t213 := Ybad.underlying51
  a213 := Ybad.isAgg51
  z213 := Ybad.sizeOf51
  t232 := Ybad.underlying55
  a232 := Ybad.isAgg55
  z232 := Ybad.sizeOf55
  v232 := Ybad.zeroValue55
  t233 := Ybad.underlying56
  a233 := Ybad.isAgg56
  z233 := Ybad.sizeOf56
  v233 := Ybad.zeroValue56
  g17 := by kernel_rfl
  g18 := by kernel_rfl
  g19 := by kernel_rfl
  i0 := by kernel_rfl
  i2 := by kernel_rfl
  i3 := by kernel_rfl
  i4 := by kernel_rfl
  i5 := by kernel_rfl
  i9 := by kernel_rfl
  i20 := by kernel_rfl
  i37 := by kernel_rfl
  i46 := by kernel_rfl
  i51 := by kernel_rfl
  i53 := by kernel_rfl
  i171 := by kernel_rfl
  i173 := by kernel_rfl
  i212 := by kernel_rfl
  i232 := by kernel_rfl
  i233 := by kernel_rfl
  m17 := by kernel_rfl
  m18 := by kernel_rfl
  m19 := by kernel_rfl }
open Go.RowKit Go.Sort Go.Lib in
theorem Ybad.strconv_Itoa (n : Int) (h0 : -9223372036854775808 ≤ n) (h1 : n ≤ 9223372036854775807) (w : World) (htab : Lib.TabIs Ybad.prog w "internal/strconv.uint64pow10" .u64 Lib.pow10Tab) :
    Calls Ybad.prog 12 #[.int .i64 n] w fun e w' => e = .returned (.string ⟨(Lib.itoa n).toArray⟩) ∧ ∃ k os, w' = grow (w.drewN k) os := Any.strconv_Itoa Ybad.laysM171 n h0 h1 w htab
end Go.Proofs
