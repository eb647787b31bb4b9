/-
  The contracts of the functions of Go's library that FnInherited calls, at this seat's numbers; the last two are this session's. DERIVED: THE SHELF's CONTRACTS AT THIS DUMP, IN PLAIN WORDS (tools/lay-plain.mjs out of 'TryzShelf.lean', which tools/lay-shelf.mjs wrote): THE SAME DECLARATIONS UNDER THE SAME NAMES: 'import', 'namespace', 'open', 'def', 'theorem' AND NOTHING ELSE: no command of the shelf's: FOR A HAND-IN. Each laying: the table of numbers ('.._ren') and one theorem, a field a fact of the dump's own or the kernel's comparison; each contract: ONE APPLICATION.
-/
import Derived.Shelf.Strings.Builder1
import Derived.Shelf.Strings.Builder2
import Derived.Shelf.Strings.OnBuilder
import Derived.Shelf.Strings.LastIndex
import Derived.Shelf.Strings.Prefix
import Derived.Test.YthphgelfiggleaaGreatDoorProg
namespace Go.Proofs
open Go.Shelf
def Tryz.lays170_ren : Go.Shelf.Ren := ⟨fun | 170 => 36 | n => n, fun | 70 => 63 | 3 => 3 | 0 => 0 | 72 => 66 | 37 => 64 | 5 => 5 | n => n, fun | n => n⟩
theorem Tryz.lays170 : Go.Proofs.Lays.n170 Tryz.prog Tryz.lays170_ren := {
  mixed := by kernel_rfl
  f170 := Tryz.func36.trans (congrArg some (by kernel_rfl))
  t0 := Tryz.underlying0
  a0 := Tryz.isAgg0
  z0 := Tryz.sizeOf0
  v0 := Tryz.zeroValue0
  t3 := Tryz.underlying3
  a3 := Tryz.isAgg3
  z3 := Tryz.sizeOf3
  v3 := Tryz.zeroValue3
  t37 := Tryz.underlying64
  a37 := Tryz.isAgg64
  z37 := Tryz.sizeOf64
  v37 := Tryz.zeroValue64
  t70 := Tryz.underlying63
  a70 := Tryz.isAgg63
  z70 := Tryz.sizeOf63
  v70 := Tryz.zeroValue63
  t72 := Tryz.underlying66
  a72 := Tryz.isAgg66
  z72 := Tryz.sizeOf66
  v72 := Tryz.zeroValue66 }
open Go.RowKit in
/-- (*strings.Builder).Len: "Len returns the number of accumulated bytes; b.Len() == len(b.String()).": the world is as it was. (LAID: no walk: one application.) -/
theorem Tryz.Builder_Len (B b : Nat) (bs : List Value) (w : World) (h : Lib.IsBuilder 66 5 B b bs w) :
    Calls Tryz.prog 36 #[.pointer (some ⟨b, 0, none⟩)] w fun e w' => e = .returned (.int .i64 bs.length) ∧ w' = w := Any.Builder_Len Tryz.lays170 B b bs w h
def Tryz.lays169_ren : Go.Shelf.Ren := ⟨fun | 169 => 40 | n => n, fun | 70 => 63 | 9 => 9 | 0 => 0 | 72 => 66 | 37 => 64 | 127 => 94 | 3 => 3 | 5 => 5 | n => n, fun | n => n⟩
theorem Tryz.lays169 : Go.Proofs.Lays.n169 Tryz.prog Tryz.lays169_ren := {
  mixed := by kernel_rfl
  f169 := Tryz.func40.trans (congrArg some (by kernel_rfl))
  t0 := Tryz.underlying0
  a0 := Tryz.isAgg0
  z0 := Tryz.sizeOf0
  v0 := Tryz.zeroValue0
  t3 := Tryz.underlying3
  a3 := Tryz.isAgg3
  z3 := Tryz.sizeOf3
  v3 := Tryz.zeroValue3
  t9 := Tryz.underlying9
  a9 := Tryz.isAgg9
  z9 := Tryz.sizeOf9
  v9 := Tryz.zeroValue9
  t37 := Tryz.underlying64
  a37 := Tryz.isAgg64
  z37 := Tryz.sizeOf64
  v37 := Tryz.zeroValue64
  t70 := Tryz.underlying63
  a70 := Tryz.isAgg63
  z70 := Tryz.sizeOf63
  v70 := Tryz.zeroValue63
  t72 := Tryz.underlying66
  a72 := Tryz.isAgg66
  z72 := Tryz.sizeOf66
  v72 := Tryz.zeroValue66
  t127 := Tryz.underlying94
  a127 := Tryz.isAgg94
  z127 := Tryz.sizeOf94
  v127 := Tryz.zeroValue94 }
theorem Tryz.Builder_Extra_169 : Builder.Extra Tryz.prog Tryz.lays169_ren := {
  sizeBuilder := by kernel_rfl
  liesBuilder := by kernel_rfl
  t5 := Tryz.underlying5
  a5 := Tryz.isAgg5
  z5 := Tryz.sizeOf5
  v5 := Tryz.zeroValue5
  infoByte := by kernel_rfl
  cellsByte := by kernel_rfl
  sizeByte := by kernel_rfl
  neB5 := by decide }
open Go.RowKit in
/-- (*strings.Builder).String: "String returns the accumulated string.": WHATEVER THE BUILDER HOLDS. (LAID: no walk: one application.) -/
theorem Tryz.Builder_String_any (B b : Nat) (l : List UInt8) (w : World) (h : Lib.IsBuilder 66 5 B b (Lib.byteCells l) w) (hBw : B ≤ w.heap.size) :
    Calls Tryz.prog 40 #[.pointer (some ⟨b, 0, none⟩)] w fun e w' => e = .returned (.string ⟨l.toArray⟩) ∧ Below B w w' := Any.Builder_String_any Tryz.lays169 Tryz.Builder_Extra_169 B b l w h hBw
def Tryz.lays165_ren : Go.Shelf.Ren := ⟨fun | 165 => 30 | 240 => 49 | 241 => 50 | 276 => 66 | 277 => 67 | n => n, fun | 70 => 63 | 3 => 3 | 0 => 0 | 4 => 4 | 9 => 9 | 20 => 20 | 72 => 66 | 37 => 64 | 164 => 103 | 5 => 5 | n => n, fun | n => n⟩
theorem Tryz.lays165 : Go.Proofs.Lays.n165 Tryz.prog Tryz.lays165_ren := {
  mixed := by kernel_rfl
  f165 := Tryz.func30.trans (congrArg some (by kernel_rfl))
  f240 := Tryz.func49.trans (congrArg some (by kernel_rfl))
  f241 := Tryz.func50.trans (congrArg some (by kernel_rfl))
  f276 := Tryz.func66.trans (congrArg some (by kernel_rfl))
  f277 := Tryz.func67.trans (congrArg some (by kernel_rfl))
  t0 := Tryz.underlying0
  a0 := Tryz.isAgg0
  z0 := Tryz.sizeOf0
  v0 := Tryz.zeroValue0
  t3 := Tryz.underlying3
  a3 := Tryz.isAgg3
  z3 := Tryz.sizeOf3
  v3 := Tryz.zeroValue3
  t4 := Tryz.underlying4
  a4 := Tryz.isAgg4
  z4 := Tryz.sizeOf4
  v4 := Tryz.zeroValue4
  t9 := Tryz.underlying9
  a9 := Tryz.isAgg9
  z9 := Tryz.sizeOf9
  v9 := Tryz.zeroValue9
  t20 := Tryz.underlying20
  a20 := Tryz.isAgg20
  z20 := Tryz.sizeOf20
  v20 := Tryz.zeroValue20
  t37 := Tryz.underlying64
  a37 := Tryz.isAgg64
  z37 := Tryz.sizeOf64
  v37 := Tryz.zeroValue64
  t70 := Tryz.underlying63
  a70 := Tryz.isAgg63
  z70 := Tryz.sizeOf63
  v70 := Tryz.zeroValue63
  t72 := Tryz.underlying66
  a72 := Tryz.isAgg66
  z72 := Tryz.sizeOf66
  v72 := Tryz.zeroValue66
  t164 := Tryz.underlying103
  a164 := Tryz.isAgg103
  z164 := Tryz.sizeOf103
  v164 := Tryz.zeroValue103 }
theorem Tryz.Builder_Extra_165 : Builder.Extra Tryz.prog Tryz.lays165_ren := {
  sizeBuilder := by kernel_rfl
  liesBuilder := by kernel_rfl
  t5 := Tryz.underlying5
  a5 := Tryz.isAgg5
  z5 := Tryz.sizeOf5
  v5 := Tryz.zeroValue5
  infoByte := by kernel_rfl
  cellsByte := by kernel_rfl
  sizeByte := by kernel_rfl
  neB5 := by decide }
open Go.RowKit in
/-- (*strings.Builder).Grow AT A BUILDER THAT HAS NOT BEEN WRITTEN ('var b strings.Builder; b.Grow(n)'): "Grow grows b's capacity, if necessary, to guarantee space for another n bytes.": it holds no byte behind it as before it. (LAID: no walk: one application.) -/
theorem Tryz.Builder_Grow_fresh (B b n : Nat) (w : World) (hB : B ≤ b) (hbk : w.heap[b]? = some (.cells #[.pointer none, .slice none 0 0] 66 (0, 0))) (hBw : B ≤ w.heap.size) (hn : n ≤ 281474976710656) :
    Calls Tryz.prog 30 #[.pointer (some ⟨b, 0, none⟩), .int .i64 n] w fun e w' => e = .returned (.tuple #[]) ∧ (Lib.BuilderAt 66 5 B b (.pointer (some ⟨b, 0, none⟩)) [] w' ∧ Below B w w') := Any.Builder_Grow_fresh Tryz.lays165 Tryz.Builder_Extra_165 B b n w hB hbk hBw hn
def Tryz.lays159_ren : Go.Shelf.Ren := ⟨fun | 159 => 56 | 165 => 30 | 166 => 31 | 167 => 32 | 169 => 40 | 230 => 68 | 204 => 69 | 240 => 49 | 241 => 50 | 197 => 76 | 118 => 77 | 168 => 78 | 270 => 79 | 262 => 80 | 276 => 66 | 277 => 67 | 260 => 84 | 242 => 85 | 313 => 86 | 278 => 90 | 274 => 91 | 275 => 92 | n => n, fun | 9 => 9 | 4 => 4 | 3 => 3 | 5 => 5 | 72 => 66 | 0 => 0 | 76 => 69 | 75 => 38 | 107 => 108 | 70 => 63 | 20 => 20 | 37 => 64 | 127 => 94 | 21 => 21 | 105 => 115 | 164 => 103 | 162 => 136 | 203 => 134 | 119 => 140 | 46 => 93 | 139 => 143 | 138 => 142 | 51 => 112 | 160 => 144 | 208 => 157 | 206 => 155 | 80 => 44 | n => n, fun | 13 => 2 | 3 => 3 | 4 => 4 | n => n⟩
theorem Tryz.lays159 : Go.Proofs.Lays.n159 Tryz.prog Tryz.lays159_ren := {
  mixed := by kernel_rfl
  f118 := Tryz.func77.trans (congrArg some (by kernel_rfl))
  f159 := Tryz.func56.trans (congrArg some (by kernel_rfl))
  f165 := Tryz.func30.trans (congrArg some (by kernel_rfl))
  f166 := Tryz.func31.trans (congrArg some (by kernel_rfl))
  f167 := Tryz.func32.trans (congrArg some (by kernel_rfl))
  f168 := Tryz.func78.trans (congrArg some (by kernel_rfl))
  f169 := Tryz.func40.trans (congrArg some (by kernel_rfl))
  f197 := Tryz.func76.trans (congrArg some (by kernel_rfl))
  f204 := Tryz.func69.trans (congrArg some (by kernel_rfl))
  f230 := Tryz.func68.trans (congrArg some (by kernel_rfl))
  f240 := Tryz.func49.trans (congrArg some (by kernel_rfl))
  f241 := Tryz.func50.trans (congrArg some (by kernel_rfl))
  f242 := Tryz.func85.trans (congrArg some (by kernel_rfl))
  f260 := Tryz.func84.trans (congrArg some (by kernel_rfl))
  f262 := Tryz.func80.trans (congrArg some (by kernel_rfl))
  f270 := Tryz.func79.trans (congrArg some (by kernel_rfl))
  f274 := Tryz.func91.trans (congrArg some (by kernel_rfl))
  f275 := Tryz.func92.trans (congrArg some (by kernel_rfl))
  f276 := Tryz.func66.trans (congrArg some (by kernel_rfl))
  f277 := Tryz.func67.trans (congrArg some (by kernel_rfl))
  f278 := Tryz.func90.trans (congrArg some (by kernel_rfl))
  f313 := Tryz.func86.trans (congrArg some (by kernel_rfl))
  t0 := Tryz.underlying0
  a0 := Tryz.isAgg0
  z0 := Tryz.sizeOf0
  v0 := Tryz.zeroValue0
  t3 := Tryz.underlying3
  a3 := Tryz.isAgg3
  z3 := Tryz.sizeOf3
  v3 := Tryz.zeroValue3
  t4 := Tryz.underlying4
  a4 := Tryz.isAgg4
  z4 := Tryz.sizeOf4
  v4 := Tryz.zeroValue4
  t5 := Tryz.underlying5
  a5 := Tryz.isAgg5
  z5 := Tryz.sizeOf5
  v5 := Tryz.zeroValue5
  t9 := Tryz.underlying9
  a9 := Tryz.isAgg9
  z9 := Tryz.sizeOf9
  v9 := Tryz.zeroValue9
  t20 := Tryz.underlying20
  a20 := Tryz.isAgg20
  z20 := Tryz.sizeOf20
  v20 := Tryz.zeroValue20
  t21 := Tryz.underlying21
  a21 := Tryz.isAgg21
  z21 := Tryz.sizeOf21
  v21 := Tryz.zeroValue21
  t37 := Tryz.underlying64
  a37 := Tryz.isAgg64
  z37 := Tryz.sizeOf64
  v37 := Tryz.zeroValue64
  t46 := Tryz.underlying93
  a46 := Tryz.isAgg93
  z46 := Tryz.sizeOf93
  v46 := Tryz.zeroValue93
  t51 := Tryz.underlying112
  a51 := Tryz.isAgg112
  z51 := Tryz.sizeOf112
  v51 := Tryz.zeroValue112
  t70 := Tryz.underlying63
  a70 := Tryz.isAgg63
  z70 := Tryz.sizeOf63
  v70 := Tryz.zeroValue63
  t72 := Tryz.underlying66
  a72 := Tryz.isAgg66
  z72 := Tryz.sizeOf66
  v72 := Tryz.zeroValue66
  t75 := Tryz.underlying38
  a75 := Tryz.isAgg38
  z75 := Tryz.sizeOf38
  v75 := Tryz.zeroValue38
  t76 := Tryz.underlying69
  a76 := Tryz.isAgg69
  z76 := Tryz.sizeOf69
  v76 := Tryz.zeroValue69
  t105 := Tryz.underlying115
  a105 := Tryz.isAgg115
  z105 := Tryz.sizeOf115
  v105 := Tryz.zeroValue115
  t107 := Tryz.underlying108
  a107 := Tryz.isAgg108
  z107 := Tryz.sizeOf108
  v107 := Tryz.zeroValue108
  t119 := Tryz.underlying140
  a119 := Tryz.isAgg140
  z119 := Tryz.sizeOf140
  t127 := Tryz.underlying94
  a127 := Tryz.isAgg94
  z127 := Tryz.sizeOf94
  v127 := Tryz.zeroValue94
  t138 := Tryz.underlying142
  a138 := Tryz.isAgg142
  z138 := Tryz.sizeOf142
  v138 := Tryz.zeroValue142
  t139 := Tryz.underlying143
  a139 := Tryz.isAgg143
  z139 := Tryz.sizeOf143
  v139 := Tryz.zeroValue143
  t160 := Tryz.underlying144
  a160 := Tryz.isAgg144
  z160 := Tryz.sizeOf144
  v160 := Tryz.zeroValue144
  t162 := Tryz.underlying136
  a162 := Tryz.isAgg136
  z162 := Tryz.sizeOf136
  v162 := Tryz.zeroValue136
  t164 := Tryz.underlying103
  a164 := Tryz.isAgg103
  z164 := Tryz.sizeOf103
  v164 := Tryz.zeroValue103
  t203 := Tryz.underlying134
  a203 := Tryz.isAgg134
  z203 := Tryz.sizeOf134
  v203 := Tryz.zeroValue134
  t206 := Tryz.underlying155
  a206 := Tryz.isAgg155
  z206 := Tryz.sizeOf155
  v206 := Tryz.zeroValue155
  t208 := Tryz.underlying157
  a208 := Tryz.isAgg157
  z208 := Tryz.sizeOf157
  v208 := Tryz.zeroValue157
  g3 := by kernel_rfl
  g4 := by kernel_rfl
  g13 := by kernel_rfl }
theorem Tryz.Builder_Extra_159 : Builder.Extra Tryz.prog Tryz.lays159_ren := {
  sizeBuilder := by kernel_rfl
  liesBuilder := by kernel_rfl
  t5 := Tryz.underlying5
  a5 := Tryz.isAgg5
  z5 := Tryz.sizeOf5
  v5 := Tryz.zeroValue5
  infoByte := by kernel_rfl
  cellsByte := by kernel_rfl
  sizeByte := by kernel_rfl
  neB5 := by decide }
open Go.RowKit in
/-- strings.ToLower: "ToLower returns s with all Unicode letters mapped to their lower case.": ON ASCII TEXT OF AT MOST 2^47 BYTES. Below the heap's end the world is as it was: where a letter turns, the call makes a builder and its buffer. (LAID: no walk: one application.) -/
theorem Tryz.strings_ToLower_ascii (s : ByteArray) (w : World) (hs : s.size ≤ 140737488355328) (hascii : ∀ (j : Nat) (b : UInt8), s.data.toList[j]? = some b → b.toNat < 128) :
    Calls Tryz.prog 56 #[.string s] w fun e w' => e = .returned (.string ⟨(Lib.toLowerA s.data.toList).toArray⟩) ∧ Below w.heap.size w w' := Any.strings_ToLower_ascii Tryz.lays159 Tryz.Builder_Extra_159 s w hs hascii
def Tryz.lays148_ren : Go.Shelf.Ren := ⟨fun | 148 => 46 | 222 => 63 | 223 => 64 | 269 => 75 | n => n, fun | 9 => 9 | 3 => 3 | 4 => 4 | 5 => 5 | 146 => 113 | 51 => 112 | 46 => 93 | n => n, fun | n => n⟩
theorem Tryz.lays148 : Go.Proofs.Lays.n148 Tryz.prog Tryz.lays148_ren := {
  mixed := by kernel_rfl
  f148 := Tryz.func46.trans (congrArg some (by kernel_rfl))
  f222 := Tryz.func63.trans (congrArg some (by kernel_rfl))
  f223 := Tryz.func64.trans (congrArg some (by kernel_rfl))
  f269 := Tryz.func75.trans (congrArg some (by kernel_rfl))
  t3 := Tryz.underlying3
  a3 := Tryz.isAgg3
  z3 := Tryz.sizeOf3
  v3 := Tryz.zeroValue3
  t4 := Tryz.underlying4
  a4 := Tryz.isAgg4
  z4 := Tryz.sizeOf4
  v4 := Tryz.zeroValue4
  t5 := Tryz.underlying5
  a5 := Tryz.isAgg5
  z5 := Tryz.sizeOf5
  v5 := Tryz.zeroValue5
  t9 := Tryz.underlying9
  a9 := Tryz.isAgg9
  z9 := Tryz.sizeOf9
  v9 := Tryz.zeroValue9
  t46 := Tryz.underlying93
  a46 := Tryz.isAgg93
  z46 := Tryz.sizeOf93
  v46 := Tryz.zeroValue93
  t51 := Tryz.underlying112
  a51 := Tryz.isAgg112
  z51 := Tryz.sizeOf112
  v51 := Tryz.zeroValue112
  t146 := Tryz.underlying113
  a146 := Tryz.isAgg113
  z146 := Tryz.sizeOf113
  v146 := Tryz.zeroValue113 }
open Go.RowKit Go.Lib in
/-- strings.LastIndex AT A substr OF ONE BYTE (as in 'strings.LastIndex(path, "/")'): the last place of that byte, or -1. (LAID: no walk: one application.) -/
theorem Tryz.strings_LastIndex_one (s sub : ByteArray) (h1 : sub.size = 1) (hs : s.size < 4611686018427387904) (w : World) :
    Calls Tryz.prog 46 #[.string s, .string sub] w fun e w' => e = .returned (.int .i64 (Lib.lastIndexByte s ((sub[0]'(by omega)).toNat : Int))) ∧ w' = w := Any.strings_LastIndex_one Tryz.lays148 s sub h1 hs w
def Tryz.lays99_ren : Go.Shelf.Ren := ⟨fun | 99 => 35 | 206 => 52 | n => n, fun | 9 => 9 | 4 => 4 | 3 => 3 | n => n, fun | n => n⟩
theorem Tryz.lays99 : Go.Proofs.Lays.n99 Tryz.prog Tryz.lays99_ren := {
  mixed := by kernel_rfl
  f99 := Tryz.func35.trans (congrArg some (by kernel_rfl))
  f206 := Tryz.func52.trans (congrArg some (by kernel_rfl))
  t3 := Tryz.underlying3
  a3 := Tryz.isAgg3
  z3 := Tryz.sizeOf3
  v3 := Tryz.zeroValue3
  t4 := Tryz.underlying4
  a4 := Tryz.isAgg4
  z4 := Tryz.sizeOf4
  v4 := Tryz.zeroValue4
  t9 := Tryz.underlying9
  a9 := Tryz.isAgg9
  z9 := Tryz.sizeOf9
  v9 := Tryz.zeroValue9 }
open Go.RowKit Go.Lib in
/-- strings.HasPrefix: "HasPrefix reports whether the string s begins with prefix.": IT RETURNS 'Lib.hasPrefix s prefix'; the world is as it was. (LAID: no walk: one application.) -/
theorem Tryz.strings_HasPrefix (s p : ByteArray) (w : World) :
    Calls Tryz.prog 35 #[.string s, .string p] w fun e w' => e = .returned (.bool (Lib.hasPrefix s.data.toList p.data.toList)) ∧ w' = w := Any.strings_HasPrefix Tryz.lays99 s p w
def Tryz.lays100_ren : Go.Shelf.Ren := ⟨fun | 100 => 57 | 207 => 70 | n => n, fun | 9 => 9 | 4 => 4 | 3 => 3 | n => n, fun | n => n⟩
theorem Tryz.lays100 : Go.Proofs.Lays.n100 Tryz.prog Tryz.lays100_ren := {
  mixed := by kernel_rfl
  f100 := Tryz.func57.trans (congrArg some (by kernel_rfl))
  f207 := Tryz.func70.trans (congrArg some (by kernel_rfl))
  t3 := Tryz.underlying3
  a3 := Tryz.isAgg3
  z3 := Tryz.sizeOf3
  v3 := Tryz.zeroValue3
  t4 := Tryz.underlying4
  a4 := Tryz.isAgg4
  z4 := Tryz.sizeOf4
  v4 := Tryz.zeroValue4
  t9 := Tryz.underlying9
  a9 := Tryz.isAgg9
  z9 := Tryz.sizeOf9
  v9 := Tryz.zeroValue9 }
open Go.RowKit Go.Lib in
/-- strings.HasSuffix: "HasSuffix reports whether the string s ends with suffix.": IT RETURNS 'Lib.hasSuffix s suffix'; the world is as it was. ('hs': no Go string is longer: a caller has it of every string that it was handed.) (LAID: no walk: one application.) -/
theorem Tryz.strings_HasSuffix (s p : ByteArray) (w : World) (hs : s.size ≤ 9223372036854775807) :
    Calls Tryz.prog 57 #[.string s, .string p] w fun e w' => e = .returned (.bool (Lib.hasSuffix s.data.toList p.data.toList)) ∧ w' = w := Any.strings_HasSuffix Tryz.lays100 s p w hs
/-- (*strings.Builder).WriteByte, by the table of strings.ToLower's laying. -/
theorem Tryz.Builder_WriteByte (B b : Nat) (bs : List Value) (c : Int) (w : World) (h : Lib.IsBuilder 66 5 B b bs w) (hlen : bs.length + 1 ≤ 140737488355328) (hBw : B ≤ w.heap.size) :
    Calls Tryz.prog 32 #[.pointer (some ⟨b, 0, none⟩), .int .u8 c] w fun e w' => e = .returned .nilIface ∧ (Lib.BuilderAt 66 5 B b (.pointer (some ⟨b, 0, none⟩)) (bs ++ [.int .u8 c]) w' ∧ Go.RowKit.Below B w w') :=
  Any.Builder_WriteByte { Tryz.lays159 with } Tryz.Builder_Extra_159 B b bs c w h hlen hBw
/-- (*strings.Builder).WriteString, by the table of strings.ToLower's laying. -/
theorem Tryz.Builder_WriteString (B b : Nat) (bs : List Value) (s : ByteArray) (w : World) (h : Lib.IsBuilder 66 5 B b bs w) (hlen : bs.length + s.size ≤ 140737488355328) (hBw : B ≤ w.heap.size) :
    Calls Tryz.prog 31 #[.pointer (some ⟨b, 0, none⟩), .string s] w fun e w' => e = .returned (.tuple #[.int .i64 s.size, .nilIface]) ∧ (Lib.BuilderAt 66 5 B b (.pointer (some ⟨b, 0, none⟩)) (bs ++ Lib.strCells s) w' ∧ Go.RowKit.Below B w w') :=
  Any.Builder_WriteString { Tryz.lays159 with } Tryz.Builder_Extra_159 B b bs s w h hlen hBw
end Go.Proofs
