/-
  DERIVED: THE SHELF's CONTRACTS AT THIS DUMP, IN PLAIN WORDS (tools/lay-plain.mjs out of 'Qxb6613049aFmtShelf.lean', which tools/lay-shelf.mjs wrote): THE SAME DECLARATIONS UNDER THE SAME NAMES: 'import', 'namespace', 'open', 'def', 'theorem' AND NOTHING ELSE: no command of the shelf's: FOR A HAND-IN. Each laying: the table of numbers ('.._ren') and one theorem, a field a fact of the dump's own or the kernel's comparison; each contract: ONE APPLICATION.
-/
import Derived.Shelf.Small.Strs
import Derived.Shelf.Strings.Builder1
import Derived.Shelf.Strings.Builder2
import Derived.Shelf.Strings.OnBuilder
import Derived.Test.Qxb6613049aFmtProg
namespace Go.Proofs
open Go.Shelf
def Tryf.lays137_ren : Go.Shelf.Ren := ⟨fun | 137 => 42 | 217 => 52 | 266 => 60 | n => n, fun | 9 => 9 | 5 => 5 | 3 => 3 | n => n, fun | n => n⟩
theorem Tryf.lays137 : Go.Proofs.Lays.n137 Tryf.prog Tryf.lays137_ren := {
  mixed := by kernel_rfl
  f137 := Tryf.func42.trans (congrArg some (by kernel_rfl))
  f217 := Tryf.func52.trans (congrArg some (by kernel_rfl))
  f266 := Tryf.func60.trans (congrArg some (by kernel_rfl))
  t3 := Tryf.underlying3
  a3 := Tryf.isAgg3
  z3 := Tryf.sizeOf3
  v3 := Tryf.zeroValue3
  t5 := Tryf.underlying5
  a5 := Tryf.isAgg5
  z5 := Tryf.sizeOf5
  v5 := Tryf.zeroValue5
  t9 := Tryf.underlying9
  a9 := Tryf.isAgg9
  z9 := Tryf.sizeOf9
  v9 := Tryf.zeroValue9 }
def Tryf.lays159_ren : Go.Shelf.Ren := ⟨fun | 159 => 41 | 165 => 48 | 166 => 49 | 167 => 47 | 169 => 45 | 230 => 50 | 204 => 51 | 240 => 53 | 241 => 54 | 197 => 55 | 118 => 56 | 168 => 57 | 270 => 58 | 262 => 59 | 276 => 61 | 277 => 62 | 260 => 63 | 242 => 64 | 313 => 65 | 278 => 66 | 274 => 67 | 275 => 68 | n => n, fun | 9 => 9 | 4 => 4 | 3 => 3 | 5 => 5 | 72 => 73 | 0 => 0 | 76 => 76 | 75 => 32 | 107 => 79 | 70 => 71 | 20 => 20 | 37 => 57 | 127 => 83 | 21 => 21 | 105 => 84 | 164 => 90 | 162 => 96 | 203 => 94 | 119 => 97 | 46 => 98 | 139 => 101 | 138 => 100 | 51 => 102 | 160 => 103 | 208 => 109 | 206 => 107 | 80 => 59 | n => n, fun | 13 => 0 | 3 => 2 | 4 => 3 | n => n⟩
theorem Tryf.lays159 : Go.Proofs.Lays.n159 Tryf.prog Tryf.lays159_ren := {
  mixed := by kernel_rfl
  f118 := Tryf.func56.trans (congrArg some (by kernel_rfl))
  f159 := Tryf.func41.trans (congrArg some (by kernel_rfl))
  f165 := Tryf.func48.trans (congrArg some (by kernel_rfl))
  f166 := Tryf.func49.trans (congrArg some (by kernel_rfl))
  f167 := Tryf.func47.trans (congrArg some (by kernel_rfl))
  f168 := Tryf.func57.trans (congrArg some (by kernel_rfl))
  f169 := Tryf.func45.trans (congrArg some (by kernel_rfl))
  f197 := Tryf.func55.trans (congrArg some (by kernel_rfl))
  f204 := Tryf.func51.trans (congrArg some (by kernel_rfl))
  f230 := Tryf.func50.trans (congrArg some (by kernel_rfl))
  f240 := Tryf.func53.trans (congrArg some (by kernel_rfl))
  f241 := Tryf.func54.trans (congrArg some (by kernel_rfl))
  f242 := Tryf.func64.trans (congrArg some (by kernel_rfl))
  f260 := Tryf.func63.trans (congrArg some (by kernel_rfl))
  f262 := Tryf.func59.trans (congrArg some (by kernel_rfl))
  f270 := Tryf.func58.trans (congrArg some (by kernel_rfl))
  f274 := Tryf.func67.trans (congrArg some (by kernel_rfl))
  f275 := Tryf.func68.trans (congrArg some (by kernel_rfl))
  f276 := Tryf.func61.trans (congrArg some (by kernel_rfl))
  f277 := Tryf.func62.trans (congrArg some (by kernel_rfl))
  f278 := Tryf.func66.trans (congrArg some (by kernel_rfl))
  f313 := Tryf.func65.trans (congrArg some (by kernel_rfl))
  t0 := Tryf.underlying0
  a0 := Tryf.isAgg0
  z0 := Tryf.sizeOf0
  v0 := Tryf.zeroValue0
  t3 := Tryf.underlying3
  a3 := Tryf.isAgg3
  z3 := Tryf.sizeOf3
  v3 := Tryf.zeroValue3
  t4 := Tryf.underlying4
  a4 := Tryf.isAgg4
  z4 := Tryf.sizeOf4
  v4 := Tryf.zeroValue4
  t5 := Tryf.underlying5
  a5 := Tryf.isAgg5
  z5 := Tryf.sizeOf5
  v5 := Tryf.zeroValue5
  t9 := Tryf.underlying9
  a9 := Tryf.isAgg9
  z9 := Tryf.sizeOf9
  v9 := Tryf.zeroValue9
  t20 := Tryf.underlying20
  a20 := Tryf.isAgg20
  z20 := Tryf.sizeOf20
  v20 := Tryf.zeroValue20
  t21 := Tryf.underlying21
  a21 := Tryf.isAgg21
  z21 := Tryf.sizeOf21
  v21 := Tryf.zeroValue21
  t37 := Tryf.underlying57
  a37 := Tryf.isAgg57
  z37 := Tryf.sizeOf57
  v37 := Tryf.zeroValue57
  t46 := Tryf.underlying98
  a46 := Tryf.isAgg98
  z46 := Tryf.sizeOf98
  v46 := Tryf.zeroValue98
  t51 := Tryf.underlying102
  a51 := Tryf.isAgg102
  z51 := Tryf.sizeOf102
  v51 := Tryf.zeroValue102
  t70 := Tryf.underlying71
  a70 := Tryf.isAgg71
  z70 := Tryf.sizeOf71
  v70 := Tryf.zeroValue71
  t72 := Tryf.underlying73
  a72 := Tryf.isAgg73
  z72 := Tryf.sizeOf73
  v72 := Tryf.zeroValue73
  t75 := Tryf.underlying32
  a75 := Tryf.isAgg32
  z75 := Tryf.sizeOf32
  v75 := Tryf.zeroValue32
  t76 := Tryf.underlying76
  a76 := Tryf.isAgg76
  z76 := Tryf.sizeOf76
  v76 := Tryf.zeroValue76
  t105 := Tryf.underlying84
  a105 := Tryf.isAgg84
  z105 := Tryf.sizeOf84
  v105 := Tryf.zeroValue84
  t107 := Tryf.underlying79
  a107 := Tryf.isAgg79
  z107 := Tryf.sizeOf79
  v107 := Tryf.zeroValue79
  t119 := Tryf.underlying97
  a119 := Tryf.isAgg97
  z119 := Tryf.sizeOf97
  t127 := Tryf.underlying83
  a127 := Tryf.isAgg83
  z127 := Tryf.sizeOf83
  v127 := Tryf.zeroValue83
  t138 := Tryf.underlying100
  a138 := Tryf.isAgg100
  z138 := Tryf.sizeOf100
  v138 := Tryf.zeroValue100
  t139 := Tryf.underlying101
  a139 := Tryf.isAgg101
  z139 := Tryf.sizeOf101
  v139 := Tryf.zeroValue101
  t160 := Tryf.underlying103
  a160 := Tryf.isAgg103
  z160 := Tryf.sizeOf103
  v160 := Tryf.zeroValue103
  t162 := Tryf.underlying96
  a162 := Tryf.isAgg96
  z162 := Tryf.sizeOf96
  v162 := Tryf.zeroValue96
  t164 := Tryf.underlying90
  a164 := Tryf.isAgg90
  z164 := Tryf.sizeOf90
  v164 := Tryf.zeroValue90
  t203 := Tryf.underlying94
  a203 := Tryf.isAgg94
  z203 := Tryf.sizeOf94
  v203 := Tryf.zeroValue94
  t206 := Tryf.underlying107
  a206 := Tryf.isAgg107
  z206 := Tryf.sizeOf107
  v206 := Tryf.zeroValue107
  t208 := Tryf.underlying109
  a208 := Tryf.isAgg109
  z208 := Tryf.sizeOf109
  v208 := Tryf.zeroValue109
  g3 := by kernel_rfl
  g4 := by kernel_rfl
  g13 := by kernel_rfl }
theorem Tryf.Builder_Extra_159 : Builder.Extra Tryf.prog Tryf.lays159_ren := {
  sizeBuilder := by kernel_rfl
  liesBuilder := by kernel_rfl
  t5 := Tryf.underlying5
  a5 := Tryf.isAgg5
  z5 := Tryf.sizeOf5
  v5 := Tryf.zeroValue5
  infoByte := by kernel_rfl
  cellsByte := by kernel_rfl
  sizeByte := by kernel_rfl
  neB5 := by decide }
def Tryf.lays169_ren : Go.Shelf.Ren := ⟨fun | 169 => 45 | n => n, fun | 70 => 71 | 9 => 9 | 0 => 0 | 72 => 73 | 37 => 57 | 127 => 83 | 3 => 3 | 5 => 5 | n => n, fun | n => n⟩
theorem Tryf.lays169 : Go.Proofs.Lays.n169 Tryf.prog Tryf.lays169_ren := {
  mixed := by kernel_rfl
  f169 := Tryf.func45.trans (congrArg some (by kernel_rfl))
  t0 := Tryf.underlying0
  a0 := Tryf.isAgg0
  z0 := Tryf.sizeOf0
  v0 := Tryf.zeroValue0
  t3 := Tryf.underlying3
  a3 := Tryf.isAgg3
  z3 := Tryf.sizeOf3
  v3 := Tryf.zeroValue3
  t9 := Tryf.underlying9
  a9 := Tryf.isAgg9
  z9 := Tryf.sizeOf9
  v9 := Tryf.zeroValue9
  t37 := Tryf.underlying57
  a37 := Tryf.isAgg57
  z37 := Tryf.sizeOf57
  v37 := Tryf.zeroValue57
  t70 := Tryf.underlying71
  a70 := Tryf.isAgg71
  z70 := Tryf.sizeOf71
  v70 := Tryf.zeroValue71
  t72 := Tryf.underlying73
  a72 := Tryf.isAgg73
  z72 := Tryf.sizeOf73
  v72 := Tryf.zeroValue73
  t127 := Tryf.underlying83
  a127 := Tryf.isAgg83
  z127 := Tryf.sizeOf83
  v127 := Tryf.zeroValue83 }
theorem Tryf.Builder_Extra_169 : Builder.Extra Tryf.prog Tryf.lays169_ren := {
  sizeBuilder := by kernel_rfl
  liesBuilder := by kernel_rfl
  t5 := Tryf.underlying5
  a5 := Tryf.isAgg5
  z5 := Tryf.sizeOf5
  v5 := Tryf.zeroValue5
  infoByte := by kernel_rfl
  cellsByte := by kernel_rfl
  sizeByte := by kernel_rfl
  neB5 := by decide }
open Go.RowKit in
theorem Tryf.Builder_String_any (B b : Nat) (l : List UInt8) (w : World) (h : Lib.IsBuilder 73 5 B b (Lib.byteCells l) w) (hBw : B ≤ w.heap.size) :
    Calls Tryf.prog 45 #[.pointer (some ⟨b, 0, none⟩)] w fun e w' => e = .returned (.string ⟨l.toArray⟩) ∧ Below B w w' := Any.Builder_String_any Tryf.lays169 Tryf.Builder_Extra_169 B b l w h hBw
open Go.RowKit in
theorem Tryf.strings_ToLower_ascii (s : ByteArray) (w : World) (hs : s.size ≤ 140737488355328) (hascii : ∀ (j : Nat) (b : UInt8), s.data.toList[j]? = some b → b.toNat < 128) :
    Calls Tryf.prog 41 #[.string s] w fun e w' => e = .returned (.string ⟨(Lib.toLowerA s.data.toList).toArray⟩) ∧ Below w.heap.size w w' := Any.strings_ToLower_ascii Tryf.lays159 Tryf.Builder_Extra_159 s w hs hascii
open Go.RowKit in
theorem Tryf.strings_IndexByte (s : ByteArray) (c : Int) (w : World) :
    Calls Tryf.prog 42 #[.string s, .int .u8 c] w fun e w' => e = .returned (.int .i64 (Lib.indexByte s.data.toList c.toNat.toUInt8)) ∧ w' = w := Any.strings_IndexByte Tryf.lays137 s c w
end Go.Proofs
