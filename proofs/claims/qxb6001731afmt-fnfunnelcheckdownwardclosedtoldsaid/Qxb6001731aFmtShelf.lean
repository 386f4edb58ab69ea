/-
  THE SHELF's CONTRACT FOR strconv.Itoa AT THIS DUMP, IN PLAIN WORDS: written for this program by the kit's own tools (lay-shelf.mjs, lay-plain.mjs); cut to the one contract that is used.
-/
import Derived.Shelf.Strconv.Itoa0
import Derived.Shelf.Strconv.Itoa1
import Derived.Shelf.LaysM
import Derived.Shelf.Strconv.Itoa2
import Derived.Shelf.Strconv.Itoa3
import Derived.Test.Qxb6001731aFmtProg
namespace Go.Proofs
open Go.Shelf
def Tryf.laysM171_ren : Go.Shelf.Ren := ⟨fun | 171 => 27 | 243 => 32 | 246 => 35 | 283 => 38 | 284 => 39 | 285 => 40 | 286 => 41 | 129 => 43 | 317 => 42 | 318 => 44 | 319 => 45 | 320 => 46 | 337 => 47 | 338 => 48 | n => n, fun | 3 => 3 | 9 => 9 | 2 => 2 | 4 => 4 | 171 => 74 | 0 => 0 | 53 => 33 | 37 => 22 | 5 => 5 | 173 => 77 | 212 => 81 | 51 => 82 | 20 => 20 | 213 => 83 | 46 => 55 | 232 => 67 | 233 => 87 | n => n, fun | 17 => 0 | 18 => 1 | 19 => 2 | n => n⟩
theorem Tryf.laysM171 : Go.Proofs.LaysM.n171 Tryf.prog Tryf.laysM171_ren := {
  mixed := by kernel_rfl
  f129 := Tryf.func43.trans (congrArg some (by kernel_rfl))
  f171 := Tryf.func27.trans (congrArg some (by kernel_rfl))
  f243 := Tryf.func32.trans (congrArg some (by kernel_rfl))
  f246 := Tryf.func35.trans (congrArg some (by kernel_rfl))
  f283 := Tryf.func38.trans (congrArg some (by kernel_rfl))
  f284 := Tryf.func39.trans (congrArg some (by kernel_rfl))
  f285 := Tryf.func40.trans (congrArg some (by kernel_rfl))
  f286 := Tryf.func41.trans (congrArg some (by kernel_rfl))
  f317 := Tryf.func42.trans (congrArg some (by kernel_rfl))
  f318 := Tryf.func44.trans (congrArg some (by kernel_rfl))
  f319 := Tryf.func45.trans (congrArg some (by kernel_rfl))
  f320 := Tryf.func46.trans (congrArg some (by kernel_rfl))
  f337 := Tryf.func47.trans (congrArg some (by kernel_rfl))
  f338 := Tryf.func48.trans (congrArg some (by kernel_rfl))
  t0 := Tryf.underlying0
  a0 := Tryf.isAgg0
  z0 := Tryf.sizeOf0
  v0 := Tryf.zeroValue0
  t2 := Tryf.underlying2
  a2 := Tryf.isAgg2
  z2 := Tryf.sizeOf2
  v2 := Tryf.zeroValue2
  t3 := Tryf.underlying3
  a3 := Tryf.isAgg3
  z3 := Tryf.sizeOf3
  v3 := Tryf.zeroValue3
  t4 := Tryf.underlying4
  a4 := Tryf.isAgg4
  z4 := Tryf.sizeOf4
  v4 := Tryf.zeroValue4
  t5 := Tryf.underlying5
  a5 := Tryf.isAgg5
  z5 := Tryf.sizeOf5
  v5 := Tryf.zeroValue5
  t9 := Tryf.underlying9
  a9 := Tryf.isAgg9
  z9 := Tryf.sizeOf9
  v9 := Tryf.zeroValue9
  t20 := Tryf.underlying20
  a20 := Tryf.isAgg20
  z20 := Tryf.sizeOf20
  v20 := Tryf.zeroValue20
  t37 := Tryf.underlying22
  a37 := Tryf.isAgg22
  z37 := Tryf.sizeOf22
  v37 := Tryf.zeroValue22
  t46 := Tryf.underlying55
  a46 := Tryf.isAgg55
  z46 := Tryf.sizeOf55
  v46 := Tryf.zeroValue55
  t51 := Tryf.underlying82
  a51 := Tryf.isAgg82
  z51 := Tryf.sizeOf82
  v51 := Tryf.zeroValue82
  t53 := Tryf.underlying33
  a53 := Tryf.isAgg33
  z53 := Tryf.sizeOf33
  v53 := Tryf.zeroValue33
  t171 := Tryf.underlying74
  a171 := Tryf.isAgg74
  z171 := Tryf.sizeOf74
  v171 := Tryf.zeroValue74
  t173 := Tryf.underlying77
  a173 := Tryf.isAgg77
  z173 := Tryf.sizeOf77
  v173 := Tryf.zeroValue77
  t212 := Tryf.underlying81
  a212 := Tryf.isAgg81
  z212 := Tryf.sizeOf81
  v212 := Tryf.zeroValue81
  t213 := Tryf.underlying83
  a213 := Tryf.isAgg83
  z213 := Tryf.sizeOf83
  t232 := Tryf.underlying67
  a232 := Tryf.isAgg67
  z232 := Tryf.sizeOf67
  v232 := Tryf.zeroValue67
  t233 := Tryf.underlying87
  a233 := Tryf.isAgg87
  z233 := Tryf.sizeOf87
  v233 := Tryf.zeroValue87
  g17 := by kernel_rfl
  g18 := by kernel_rfl
  g19 := by kernel_rfl
  i0 := by kernel_rfl
  i2 := by kernel_rfl
  i3 := by kernel_rfl
  i4 := by kernel_rfl
  i5 := by kernel_rfl
  i9 := by kernel_rfl
  i20 := by kernel_rfl
  i37 := by kernel_rfl
  i46 := by kernel_rfl
  i51 := by kernel_rfl
  i53 := by kernel_rfl
  i171 := by kernel_rfl
  i173 := by kernel_rfl
  i212 := by kernel_rfl
  i232 := by kernel_rfl
  i233 := by kernel_rfl
  m17 := by kernel_rfl
  m18 := by kernel_rfl
  m19 := by kernel_rfl }
open Go.RowKit Go.Sort Go.Lib in
/-- strconv.Itoa: "Itoa is equivalent to FormatInt(int64(i), 10).": i's DECIMAL NUMERAL ('Lib.itoa': a '-' where i is negative, then the digits), FOR EVERY int. The world behind the call: the world before it, new blocks behind the heap (the library's 'var a [24]byte'), draws. (LAID: no walk: one application.) -/
theorem Tryf.strconv_Itoa (n : Int) (h0 : -9223372036854775808 ≤ n) (h1 : n ≤ 9223372036854775807) (w : World) (htab : Lib.TabIs Tryf.prog w "internal/strconv.uint64pow10" .u64 Lib.pow10Tab) :
    Calls Tryf.prog 27 #[.int .i64 n] w fun e w' => e = .returned (.string ⟨(Lib.itoa n).toArray⟩) ∧ ∃ k os, w' = grow (w.drewN k) os := Any.strconv_Itoa Tryf.laysM171 n h0 h1 w htab
end Go.Proofs
