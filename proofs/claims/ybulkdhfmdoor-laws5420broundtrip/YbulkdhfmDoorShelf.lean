/-
  DERIVED: THE SHELF's CONTRACTS AT THIS DUMP, IN PLAIN WORDS (tools/lay-plain.mjs out of 'YbulkdhfmDoorShelf.lean', which tools/lay-shelf.mjs wrote): THE SAME DECLARATIONS UNDER THE SAME NAMES: 'import', 'namespace', 'open', 'def', 'theorem' AND NOTHING ELSE: no command of the shelf's: FOR A HAND-IN. Each laying: the table of numbers ('.._ren') and one theorem, a field a fact of the dump's own or the kernel's comparison; each contract: ONE APPLICATION.
-/
import Derived.Test.YbulkdhfmDoorProg
import Derived.Shelf.Strconv.Itoa3
namespace Go.Proofs
open Go.Shelf
def Ybad.lays171_ren : Go.Shelf.Ren := ⟨fun | 171 => 18 | 243 => 25 | 246 => 35 | 283 => 49 | 284 => 50 | 285 => 51 | 286 => 52 | 129 => 59 | 317 => 58 | 318 => 60 | 319 => 61 | 320 => 62 | 337 => 67 | 338 => 68 | n => n, fun | 3 => 3 | 9 => 9 | 2 => 2 | 4 => 4 | 171 => 66 | 0 => 0 | 53 => 31 | 37 => 67 | 5 => 5 | 173 => 111 | 212 => 117 | 51 => 51 | 20 => 20 | 213 => 118 | 46 => 38 | 232 => 123 | 233 => 124 | n => n, fun | 17 => 4 | 18 => 5 | 19 => 6 | n => n⟩
theorem Ybad.lays171 : Go.Proofs.LaysM.n171 Ybad.prog Ybad.lays171_ren := {
  mixed := by kernel_rfl
  f129 := Ybad.func59.trans (congrArg some (by kernel_rfl))
  f171 := Ybad.func18.trans (congrArg some (by kernel_rfl))
  f243 := Ybad.func25.trans (congrArg some (by kernel_rfl))
  f246 := Ybad.func35.trans (congrArg some (by kernel_rfl))
  f283 := Ybad.func49.trans (congrArg some (by kernel_rfl))
  f284 := Ybad.func50.trans (congrArg some (by kernel_rfl))
  f285 := Ybad.func51.trans (congrArg some (by kernel_rfl))
  f286 := Ybad.func52.trans (congrArg some (by kernel_rfl))
  f317 := Ybad.func58.trans (congrArg some (by kernel_rfl))
  f318 := Ybad.func60.trans (congrArg some (by kernel_rfl))
  f319 := Ybad.func61.trans (congrArg some (by kernel_rfl))
  f320 := Ybad.func62.trans (congrArg some (by kernel_rfl))
  f337 := Ybad.func67.trans (congrArg some (by kernel_rfl))
  f338 := Ybad.func68.trans (congrArg some (by kernel_rfl))
  t0 := Ybad.underlying0
  a0 := Ybad.isAgg0
  z0 := Ybad.sizeOf0
  v0 := Ybad.zeroValue0
  t2 := Ybad.underlying2
  a2 := Ybad.isAgg2
  z2 := Ybad.sizeOf2
  v2 := Ybad.zeroValue2
  t3 := Ybad.underlying3
  a3 := Ybad.isAgg3
  z3 := Ybad.sizeOf3
  v3 := Ybad.zeroValue3
  t4 := Ybad.underlying4
  a4 := Ybad.isAgg4
  z4 := Ybad.sizeOf4
  v4 := Ybad.zeroValue4
  t5 := Ybad.underlying5
  a5 := Ybad.isAgg5
  z5 := Ybad.sizeOf5
  v5 := Ybad.zeroValue5
  t9 := Ybad.underlying9
  a9 := Ybad.isAgg9
  z9 := Ybad.sizeOf9
  v9 := Ybad.zeroValue9
  t20 := Ybad.underlying20
  a20 := Ybad.isAgg20
  z20 := Ybad.sizeOf20
  v20 := Ybad.zeroValue20
  t37 := Ybad.underlying67
  a37 := Ybad.isAgg67
  z37 := Ybad.sizeOf67
  v37 := Ybad.zeroValue67
  t46 := Ybad.underlying38
  a46 := Ybad.isAgg38
  z46 := Ybad.sizeOf38
  v46 := Ybad.zeroValue38
  t51 := Ybad.underlying51
  a51 := Ybad.isAgg51
  z51 := Ybad.sizeOf51
  v51 := Ybad.zeroValue51
  t53 := Ybad.underlying31
  a53 := Ybad.isAgg31
  z53 := Ybad.sizeOf31
  v53 := Ybad.zeroValue31
  t171 := Ybad.underlying66
  a171 := Ybad.isAgg66
  z171 := Ybad.sizeOf66
  v171 := Ybad.zeroValue66
  t173 := Ybad.underlying111
  a173 := Ybad.isAgg111
  z173 := Ybad.sizeOf111
  v173 := Ybad.zeroValue111
  t212 := Ybad.underlying117
  a212 := Ybad.isAgg117
  z212 := Ybad.sizeOf117
  v212 := Ybad.zeroValue117
  t213 := Ybad.underlying118
  a213 := Ybad.isAgg118
  z213 := Ybad.sizeOf118
  t232 := Ybad.underlying123
  a232 := Ybad.isAgg123
  z232 := Ybad.sizeOf123
  v232 := Ybad.zeroValue123
  t233 := Ybad.underlying124
  a233 := Ybad.isAgg124
  z233 := Ybad.sizeOf124
  v233 := Ybad.zeroValue124
  g17 := by kernel_rfl
  g18 := by kernel_rfl
  g19 := by kernel_rfl
  i0 := by kernel_rfl
  i2 := by kernel_rfl
  i3 := by kernel_rfl
  i4 := by kernel_rfl
  i5 := by kernel_rfl
  i9 := by kernel_rfl
  i20 := by kernel_rfl
  i37 := by kernel_rfl
  i46 := by kernel_rfl
  i51 := by kernel_rfl
  i53 := by kernel_rfl
  i171 := by kernel_rfl
  i173 := by kernel_rfl
  i212 := by kernel_rfl
  i232 := by kernel_rfl
  i233 := by kernel_rfl
  m17 := by kernel_rfl
  m18 := by kernel_rfl
  m19 := by kernel_rfl }
open Go.RowKit Go.Sort Go.Lib in
theorem Ybad.strconv_Itoa (n : Int) (h0 : -9223372036854775808 ≤ n) (h1 : n ≤ 9223372036854775807) (w : World) (htab : Lib.TabIs Ybad.prog w "internal/strconv.uint64pow10" .u64 Lib.pow10Tab) : Calls Ybad.prog 18 #[.int .i64 n] w fun e w' => e = .returned (.string ⟨(Lib.itoa n).toArray⟩) ∧ ∃ k os, w' = grow (w.drewN k) os := Any.strconv_Itoa Ybad.lays171 n h0 h1 w htab
end Go.Proofs
