/-
  DERIVED: THE SHELF's CONTRACTS AT THIS DUMP, IN PLAIN WORDS (tools/lay-plain.mjs out of 'Qxb6605421aDoorShelf.lean', which tools/lay-shelf.mjs wrote): THE SAME DECLARATIONS UNDER THE SAME NAMES: 'import', 'namespace', 'open', 'def', 'theorem' AND NOTHING ELSE: no command of the shelf's: FOR A HAND-IN. Each laying: the table of numbers ('.._ren') and one theorem, a field a fact of the dump's own or the kernel's comparison; each contract: ONE APPLICATION.
-/
import Derived.Shelf.Strings.Builder1
import Derived.Shelf.Strings.OnBuilder
import Derived.Test.Qxb6605421aDoorProg
namespace Go.Proofs
open Go.Shelf
def Tryd.lays169_ren : Go.Shelf.Ren := ⟨fun | 169 => 26 | n => n, fun | 70 => 53 | 9 => 9 | 0 => 0 | 72 => 55 | 37 => 27 | 127 => 77 | 3 => 3 | 5 => 5 | n => n, fun | n => n⟩
theorem Tryd.lays169 : Go.Proofs.Lays.n169 Tryd.prog Tryd.lays169_ren := {
  mixed := by kernel_rfl
  f169 := Tryd.func26.trans (congrArg some (by kernel_rfl))
  t0 := Tryd.underlying0
  a0 := Tryd.isAgg0
  z0 := Tryd.sizeOf0
  v0 := Tryd.zeroValue0
  t3 := Tryd.underlying3
  a3 := Tryd.isAgg3
  z3 := Tryd.sizeOf3
  v3 := Tryd.zeroValue3
  t9 := Tryd.underlying9
  a9 := Tryd.isAgg9
  z9 := Tryd.sizeOf9
  v9 := Tryd.zeroValue9
  t37 := Tryd.underlying27
  a37 := Tryd.isAgg27
  z37 := Tryd.sizeOf27
  v37 := Tryd.zeroValue27
  t70 := Tryd.underlying53
  a70 := Tryd.isAgg53
  z70 := Tryd.sizeOf53
  v70 := Tryd.zeroValue53
  t72 := Tryd.underlying55
  a72 := Tryd.isAgg55
  z72 := Tryd.sizeOf55
  v72 := Tryd.zeroValue55
  t127 := Tryd.underlying77
  a127 := Tryd.isAgg77
  z127 := Tryd.sizeOf77
  v127 := Tryd.zeroValue77 }
theorem Tryd.Builder_Extra_169 : Builder.Extra Tryd.prog Tryd.lays169_ren := {
  sizeBuilder := by kernel_rfl
  liesBuilder := by kernel_rfl
  t5 := Tryd.underlying5
  a5 := Tryd.isAgg5
  z5 := Tryd.sizeOf5
  v5 := Tryd.zeroValue5
  infoByte := by kernel_rfl
  cellsByte := by kernel_rfl
  sizeByte := by kernel_rfl
  neB5 := by decide }
open Go.RowKit in
/-- (*strings.Builder).String: "String returns the accumulated string.": WHATEVER THE BUILDER HOLDS. (LAID: no walk: one application.) -/
theorem Tryd.Builder_String_any (B b : Nat) (l : List UInt8) (w : World) (h : Lib.IsBuilder 55 5 B b (Lib.byteCells l) w) (hBw : B ≤ w.heap.size) :
    Calls Tryd.prog 26 #[.pointer (some ⟨b, 0, none⟩)] w fun e w' => e = .returned (.string ⟨l.toArray⟩) ∧ Below B w w' := Any.Builder_String_any Tryd.lays169 Tryd.Builder_Extra_169 B b l w h hBw
def Tryd.lays159_ren : Go.Shelf.Ren := ⟨fun | 159 => 20 | 165 => 32 | 166 => 33 | 167 => 27 | 169 => 26 | 230 => 34 | 204 => 35 | 240 => 43 | 241 => 48 | 197 => 49 | 118 => 50 | 168 => 51 | 270 => 52 | 262 => 53 | 276 => 62 | 277 => 68 | 260 => 69 | 242 => 70 | 313 => 71 | 278 => 84 | 274 => 85 | 275 => 86 | n => n, fun | 9 => 9 | 4 => 4 | 3 => 3 | 5 => 5 | 72 => 55 | 0 => 0 | 76 => 49 | 75 => 48 | 107 => 68 | 70 => 53 | 20 => 20 | 37 => 27 | 127 => 77 | 21 => 21 | 105 => 79 | 164 => 92 | 162 => 100 | 203 => 98 | 119 => 112 | 46 => 103 | 139 => 115 | 138 => 114 | 51 => 116 | 160 => 117 | 208 => 131 | 206 => 129 | 80 => 42 | n => n, fun | 13 => 0 | 3 => 4 | 4 => 5 | n => n⟩
theorem Tryd.lays159 : Go.Proofs.Lays.n159 Tryd.prog Tryd.lays159_ren := {
  mixed := by kernel_rfl
  f118 := Tryd.func50.trans (congrArg some (by kernel_rfl))
  f159 := Tryd.func20.trans (congrArg some (by kernel_rfl))
  f165 := Tryd.func32.trans (congrArg some (by kernel_rfl))
  f166 := Tryd.func33.trans (congrArg some (by kernel_rfl))
  f167 := Tryd.func27.trans (congrArg some (by kernel_rfl))
  f168 := Tryd.func51.trans (congrArg some (by kernel_rfl))
  f169 := Tryd.func26.trans (congrArg some (by kernel_rfl))
  f197 := Tryd.func49.trans (congrArg some (by kernel_rfl))
  f204 := Tryd.func35.trans (congrArg some (by kernel_rfl))
  f230 := Tryd.func34.trans (congrArg some (by kernel_rfl))
  f240 := Tryd.func43.trans (congrArg some (by kernel_rfl))
  f241 := Tryd.func48.trans (congrArg some (by kernel_rfl))
  f242 := Tryd.func70.trans (congrArg some (by kernel_rfl))
  f260 := Tryd.func69.trans (congrArg some (by kernel_rfl))
  f262 := Tryd.func53.trans (congrArg some (by kernel_rfl))
  f270 := Tryd.func52.trans (congrArg some (by kernel_rfl))
  f274 := Tryd.func85.trans (congrArg some (by kernel_rfl))
  f275 := Tryd.func86.trans (congrArg some (by kernel_rfl))
  f276 := Tryd.func62.trans (congrArg some (by kernel_rfl))
  f277 := Tryd.func68.trans (congrArg some (by kernel_rfl))
  f278 := Tryd.func84.trans (congrArg some (by kernel_rfl))
  f313 := Tryd.func71.trans (congrArg some (by kernel_rfl))
  t0 := Tryd.underlying0
  a0 := Tryd.isAgg0
  z0 := Tryd.sizeOf0
  v0 := Tryd.zeroValue0
  t3 := Tryd.underlying3
  a3 := Tryd.isAgg3
  z3 := Tryd.sizeOf3
  v3 := Tryd.zeroValue3
  t4 := Tryd.underlying4
  a4 := Tryd.isAgg4
  z4 := Tryd.sizeOf4
  v4 := Tryd.zeroValue4
  t5 := Tryd.underlying5
  a5 := Tryd.isAgg5
  z5 := Tryd.sizeOf5
  v5 := Tryd.zeroValue5
  t9 := Tryd.underlying9
  a9 := Tryd.isAgg9
  z9 := Tryd.sizeOf9
  v9 := Tryd.zeroValue9
  t20 := Tryd.underlying20
  a20 := Tryd.isAgg20
  z20 := Tryd.sizeOf20
  v20 := Tryd.zeroValue20
  t21 := Tryd.underlying21
  a21 := Tryd.isAgg21
  z21 := Tryd.sizeOf21
  v21 := Tryd.zeroValue21
  t37 := Tryd.underlying27
  a37 := Tryd.isAgg27
  z37 := Tryd.sizeOf27
  v37 := Tryd.zeroValue27
  t46 := Tryd.underlying103
  a46 := Tryd.isAgg103
  z46 := Tryd.sizeOf103
  v46 := Tryd.zeroValue103
  t51 := Tryd.underlying116
  a51 := Tryd.isAgg116
  z51 := Tryd.sizeOf116
  v51 := Tryd.zeroValue116
  t70 := Tryd.underlying53
  a70 := Tryd.isAgg53
  z70 := Tryd.sizeOf53
  v70 := Tryd.zeroValue53
  t72 := Tryd.underlying55
  a72 := Tryd.isAgg55
  z72 := Tryd.sizeOf55
  v72 := Tryd.zeroValue55
  t75 := Tryd.underlying48
  a75 := Tryd.isAgg48
  z75 := Tryd.sizeOf48
  v75 := Tryd.zeroValue48
  t76 := Tryd.underlying49
  a76 := Tryd.isAgg49
  z76 := Tryd.sizeOf49
  v76 := Tryd.zeroValue49
  t105 := Tryd.underlying79
  a105 := Tryd.isAgg79
  z105 := Tryd.sizeOf79
  v105 := Tryd.zeroValue79
  t107 := Tryd.underlying68
  a107 := Tryd.isAgg68
  z107 := Tryd.sizeOf68
  v107 := Tryd.zeroValue68
  t119 := Tryd.underlying112
  a119 := Tryd.isAgg112
  z119 := Tryd.sizeOf112
  t127 := Tryd.underlying77
  a127 := Tryd.isAgg77
  z127 := Tryd.sizeOf77
  v127 := Tryd.zeroValue77
  t138 := Tryd.underlying114
  a138 := Tryd.isAgg114
  z138 := Tryd.sizeOf114
  v138 := Tryd.zeroValue114
  t139 := Tryd.underlying115
  a139 := Tryd.isAgg115
  z139 := Tryd.sizeOf115
  v139 := Tryd.zeroValue115
  t160 := Tryd.underlying117
  a160 := Tryd.isAgg117
  z160 := Tryd.sizeOf117
  v160 := Tryd.zeroValue117
  t162 := Tryd.underlying100
  a162 := Tryd.isAgg100
  z162 := Tryd.sizeOf100
  v162 := Tryd.zeroValue100
  t164 := Tryd.underlying92
  a164 := Tryd.isAgg92
  z164 := Tryd.sizeOf92
  v164 := Tryd.zeroValue92
  t203 := Tryd.underlying98
  a203 := Tryd.isAgg98
  z203 := Tryd.sizeOf98
  v203 := Tryd.zeroValue98
  t206 := Tryd.underlying129
  a206 := Tryd.isAgg129
  z206 := Tryd.sizeOf129
  v206 := Tryd.zeroValue129
  t208 := Tryd.underlying131
  a208 := Tryd.isAgg131
  z208 := Tryd.sizeOf131
  v208 := Tryd.zeroValue131
  g3 := by kernel_rfl
  g4 := by kernel_rfl
  g13 := by kernel_rfl }
theorem Tryd.Builder_Extra_159 : Builder.Extra Tryd.prog Tryd.lays159_ren := {
  sizeBuilder := by kernel_rfl
  liesBuilder := by kernel_rfl
  t5 := Tryd.underlying5
  a5 := Tryd.isAgg5
  z5 := Tryd.sizeOf5
  v5 := Tryd.zeroValue5
  infoByte := by kernel_rfl
  cellsByte := by kernel_rfl
  sizeByte := by kernel_rfl
  neB5 := by decide }
open Go.RowKit in
/-- strings.ToLower: "ToLower returns s with all Unicode letters mapped to their lower case.": ON ASCII TEXT OF AT MOST 2^47 BYTES. Below the heap's end the world is as it was: where a letter turns, the call makes a builder and its buffer. (LAID: no walk: one application.) -/
theorem Tryd.strings_ToLower_ascii (s : ByteArray) (w : World) (hs : s.size ≤ 140737488355328) (hascii : ∀ (j : Nat) (b : UInt8), s.data.toList[j]? = some b → b.toNat < 128) :
    Calls Tryd.prog 20 #[.string s] w fun e w' => e = .returned (.string ⟨(Lib.toLowerA s.data.toList).toArray⟩) ∧ Below w.heap.size w w' := Any.strings_ToLower_ascii Tryd.lays159 Tryd.Builder_Extra_159 s w hs hascii
open Go.RowKit in
theorem Tryd.Builder_WriteByte (B b : Nat) (bs : List Value) (c : Int) (w : World) (h : Lib.IsBuilder 55 5 B b bs w) (hlen : bs.length + 1 ≤ 140737488355328) (hBw : B ≤ w.heap.size) :
    Calls Tryd.prog 27 #[.pointer (some ⟨b, 0, none⟩), .int .u8 c] w fun e w' => e = .returned .nilIface ∧ (Lib.BuilderAt 55 5 B b (.pointer (some ⟨b, 0, none⟩)) (bs ++ [.int .u8 c]) w' ∧ Below B w w') :=
  Any.Builder_WriteByte (ρ := Tryd.lays159_ren) { Tryd.lays159 with } Tryd.Builder_Extra_159 B b bs c w h hlen hBw
end Go.Proofs
