/- strconv.FormatInt below 100; FnTMOrder as its row wants it. -/
import Derived.Test.YtnmfaccpdgbjoaaDoorTm
import Derived.Shelf.Strconv.Itoa4
namespace Go.Proofs.YtnmfaccpdgbjoaaDoor
open Go.RowKit Go.Shelf
set_option linter.unusedVariables false

def lays173_ren : Go.Shelf.Ren := ⟨fun | 173 => 25 | 246 => 31 | 283 => 37 | 284 => 38 | 285 => 39 | 286 => 40 | 129 => 47 | 317 => 46 | 318 => 48 | 319 => 49 | 320 => 50 | 337 => 52 | 338 => 53 | n => n, fun | 2 => 2 | 3 => 3 | 9 => 9 | 4 => 4 | 171 => 67 | 0 => 0 | 53 => 25 | 37 => 38 | 5 => 5 | 173 => 70 | 212 => 79 | 51 => 22 | 20 => 20 | 213 => 80 | 46 => 65 | 232 => 88 | 233 => 89 | n => n, fun | 17 => 2 | 18 => 3 | 19 => 4 | n => n⟩
theorem lays173 : Go.Proofs.Lays.n173 Tryd.prog lays173_ren := {
  mixed := by kernel_rfl
  f129 := Tryd.func47.trans (congrArg some (by kernel_rfl))
  f173 := Tryd.func25.trans (congrArg some (by kernel_rfl))
  f246 := Tryd.func31.trans (congrArg some (by kernel_rfl))
  f283 := Tryd.func37.trans (congrArg some (by kernel_rfl))
  f284 := Tryd.func38.trans (congrArg some (by kernel_rfl))
  f285 := Tryd.func39.trans (congrArg some (by kernel_rfl))
  f286 := Tryd.func40.trans (congrArg some (by kernel_rfl))
  f317 := Tryd.func46.trans (congrArg some (by kernel_rfl))
  f318 := Tryd.func48.trans (congrArg some (by kernel_rfl))
  f319 := Tryd.func49.trans (congrArg some (by kernel_rfl))
  f320 := Tryd.func50.trans (congrArg some (by kernel_rfl))
  f337 := Tryd.func52.trans (congrArg some (by kernel_rfl))
  f338 := Tryd.func53.trans (congrArg some (by kernel_rfl))
  t0 := Tryd.underlying0
  a0 := Tryd.isAgg0
  z0 := Tryd.sizeOf0
  v0 := Tryd.zeroValue0
  t2 := Tryd.underlying2
  a2 := Tryd.isAgg2
  z2 := Tryd.sizeOf2
  v2 := Tryd.zeroValue2
  t3 := Tryd.underlying3
  a3 := Tryd.isAgg3
  z3 := Tryd.sizeOf3
  v3 := Tryd.zeroValue3
  t4 := Tryd.underlying4
  a4 := Tryd.isAgg4
  z4 := Tryd.sizeOf4
  v4 := Tryd.zeroValue4
  t5 := Tryd.underlying5
  a5 := Tryd.isAgg5
  z5 := Tryd.sizeOf5
  v5 := Tryd.zeroValue5
  t9 := Tryd.underlying9
  a9 := Tryd.isAgg9
  z9 := Tryd.sizeOf9
  v9 := Tryd.zeroValue9
  t20 := Tryd.underlying20
  a20 := Tryd.isAgg20
  z20 := Tryd.sizeOf20
  v20 := Tryd.zeroValue20
  t37 := Tryd.underlying38
  a37 := Tryd.isAgg38
  z37 := Tryd.sizeOf38
  v37 := Tryd.zeroValue38
  t46 := Tryd.underlying65
  a46 := Tryd.isAgg65
  z46 := Tryd.sizeOf65
  v46 := Tryd.zeroValue65
  t51 := Tryd.underlying22
  a51 := Tryd.isAgg22
  z51 := Tryd.sizeOf22
  v51 := Tryd.zeroValue22
  t53 := Tryd.underlying25
  a53 := Tryd.isAgg25
  z53 := Tryd.sizeOf25
  v53 := Tryd.zeroValue25
  t171 := Tryd.underlying67
  a171 := Tryd.isAgg67
  z171 := Tryd.sizeOf67
  v171 := Tryd.zeroValue67
  t173 := Tryd.underlying70
  a173 := Tryd.isAgg70
  z173 := Tryd.sizeOf70
  v173 := Tryd.zeroValue70
  t212 := Tryd.underlying79
  a212 := Tryd.isAgg79
  z212 := Tryd.sizeOf79
  v212 := Tryd.zeroValue79
  t213 := Tryd.underlying80
  a213 := Tryd.isAgg80
  z213 := Tryd.sizeOf80
  t232 := Tryd.underlying88
  a232 := Tryd.isAgg88
  z232 := Tryd.sizeOf88
  v232 := Tryd.zeroValue88
  t233 := Tryd.underlying89
  a233 := Tryd.isAgg89
  z233 := Tryd.sizeOf89
  v233 := Tryd.zeroValue89
  g17 := by kernel_rfl
  g18 := by kernel_rfl
  g19 := by kernel_rfl }
theorem formatSmall (w : World) (i : Nat) (h : i < 100) : Calls Tryd.prog 25 #[.int .i64 i, .int .i64 10] w fun e w' => e = .returned (.string (ba (Lib.decDigits i))) ∧ w = w' :=
  (Any.strconv_FormatInt_10_small lays173 i h w).mono fun e w' h => ⟨h.1, h.2.symm⟩
theorem orderRow (w : World) (a b : Nat) (ha : a < 4294967296) (hb : b < 4294967296) : Calls Tryd.prog 3 #[.int .u32 a, .int .u32 b] w fun e w' => e = .returned (.bool true) ∧ Below w.heap.size w w' :=
  (tmOrder w a b ha hb formatSmall).mono fun e w' h => ⟨h.1, h.2 ▸ Below.refl _ _⟩
end Go.Proofs.YtnmfaccpdgbjoaaDoor
