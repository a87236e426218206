/-
  DERIVED: THE SHELF's CONTRACTS AT THIS DUMP, IN PLAIN WORDS (tools/lay-plain.mjs out of 'Qxb6003863aFmtShelf.lean', which tools/lay-shelf.mjs wrote): THE SAME DECLARATIONS UNDER THE SAME NAMES: 'import', 'namespace', 'open', 'def', 'theorem' AND NOTHING ELSE: no command of the shelf's: FOR A HAND-IN. Each laying: the table of numbers ('.._ren') and one theorem, a field a fact of the dump's own or the kernel's comparison; each contract: ONE APPLICATION.
-/
import Derived.Test.Qxb6003863aFmtProg
import Derived.Shelf.Bytes.SlTrim
namespace Go.Proofs
open Go.Shelf
def Tryf.lays7v_ren : Go.Shelf.Ren := ⟨fun | 7 => 42 | 10 => 47 | 11 => 48 | 13 => 49 | 15 => 50 | 16 => 51 | 19 => 52 | 18 => 53 | 21 => 54 | 17 => 55 | 20 => 56 | n => n, fun | 22 => 22 | 9 => 9 | 3 => 3 | 4 => 4 | 5 => 5 | 28 => 86 | 27 => 85 | 0 => 0 | 31 => 89 | 21 => 21 | 33 => 95 | 36 => 98 | 37 => 44 | 40 => 101 | 39 => 100 | n => n, fun | 0 => 2 | 1 => 3 | n => n⟩
theorem Tryf.lays7v : Go.Proofs.SlLaysV.n7 Tryf.prog Tryf.lays7v_ren := {
  mixed := by kernel_rfl
  f7 := Tryf.func42.trans (congrArg some (by kernel_rfl))
  f10 := Tryf.func47.trans (congrArg some (by kernel_rfl))
  f11 := Tryf.func48.trans (congrArg some (by kernel_rfl))
  f13 := Tryf.func49.trans (congrArg some (by kernel_rfl))
  f15 := Tryf.func50.trans (congrArg some (by kernel_rfl))
  f16 := Tryf.func51.trans (congrArg some (by kernel_rfl))
  f17 := Tryf.func55.trans (congrArg some (by kernel_rfl))
  f18 := Tryf.func53.trans (congrArg some (by kernel_rfl))
  f19 := Tryf.func52.trans (congrArg some (by kernel_rfl))
  f20 := Tryf.func56.trans (congrArg some (by kernel_rfl))
  f21 := Tryf.func54.trans (congrArg some (by kernel_rfl))
  t0 := Tryf.underlying0
  a0 := Tryf.isAgg0
  z0 := Tryf.sizeOf0
  v0 := Tryf.zeroValue0
  t3 := Tryf.underlying3
  a3 := Tryf.isAgg3
  z3 := Tryf.sizeOf3
  v3 := Tryf.zeroValue3
  t4 := Tryf.underlying4
  a4 := Tryf.isAgg4
  z4 := Tryf.sizeOf4
  v4 := Tryf.zeroValue4
  t5 := Tryf.underlying5
  a5 := Tryf.isAgg5
  z5 := Tryf.sizeOf5
  v5 := Tryf.zeroValue5
  t9 := Tryf.underlying9
  a9 := Tryf.isAgg9
  z9 := Tryf.sizeOf9
  v9 := Tryf.zeroValue9
  t21 := Tryf.underlying21
  a21 := Tryf.isAgg21
  z21 := Tryf.sizeOf21
  v21 := Tryf.zeroValue21
  t22 := Tryf.underlying22
  a22 := Tryf.isAgg22
  z22 := Tryf.sizeOf22
  v22 := Tryf.zeroValue22
  t27 := Tryf.underlying85
  a27 := Tryf.isAgg85
  z27 := Tryf.sizeOf85
  t28 := Tryf.underlying86
  a28 := Tryf.isAgg86
  z28 := Tryf.sizeOf86
  v28 := Tryf.zeroValue86
  t31 := Tryf.underlying89
  a31 := Tryf.isAgg89
  z31 := Tryf.sizeOf89
  v31 := Tryf.zeroValue89
  t33 := Tryf.underlying95
  a33 := Tryf.isAgg95
  z33 := Tryf.sizeOf95
  v33 := Tryf.zeroValue95
  t36 := Tryf.underlying98
  a36 := Tryf.isAgg98
  z36 := Tryf.sizeOf98
  t37 := Tryf.underlying44
  a37 := Tryf.isAgg44
  z37 := Tryf.sizeOf44
  v37 := Tryf.zeroValue44
  t39 := Tryf.underlying100
  a39 := Tryf.isAgg100
  z39 := Tryf.sizeOf100
  v39 := Tryf.zeroValue100
  t40 := Tryf.underlying101
  a40 := Tryf.isAgg101
  z40 := Tryf.sizeOf101
  v40 := Tryf.zeroValue101 }
end Go.Proofs
