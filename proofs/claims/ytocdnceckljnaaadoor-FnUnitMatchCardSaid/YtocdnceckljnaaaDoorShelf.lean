/-
  DERIVED: THE SHELF's CONTRACTS AT THIS DUMP, IN PLAIN WORDS (tools/lay-plain.mjs out of 'TrydShelf.lean', which tools/lay-shelf.mjs wrote): THE SAME DECLARATIONS UNDER THE SAME NAMES: 'import', 'namespace', 'open', 'def', 'theorem' AND NOTHING ELSE: no command of the shelf's: FOR A HAND-IN. Each laying: the table of numbers ('.._ren') and one theorem, a field a fact of the dump's own or the kernel's comparison; each contract: ONE APPLICATION.
-/
import Derived.Shelf.Strings.TrimSpace
import Derived.Shelf.Small.Utf8
import Derived.Shelf.Small.Strs
import Derived.Shelf.Strings.Search1
import Derived.Shelf.Strings.Prefix
import Derived.Shelf.Unicode.DecodeSlow
import Derived.Shelf.Bytes.SlSmallAll
import Derived.Shelf.Bytes.Small
import Derived.Shelf.Bytes.TrimSpace
import Derived.Test.YtocdnceckljnaaaDoorProg
namespace Go.Proofs
open Go.Shelf
def Tryd.lays163_ren : Go.Shelf.Ren := ⟨fun | 163 => 119 | 237 => 131 | 199 => 106 | 238 => 132 | 272 => 139 | 261 => 117 | 273 => 140 | 197 => 91 | 315 => 143 | 311 => 129 | 312 => 130 | 271 => 144 | 260 => 99 | 120 => 142 | n => n, fun | 9 => 9 | 37 => 33 | 3 => 3 | 0 => 0 | 5 => 5 | 4 => 4 | 40 => 136 | 119 => 154 | 21 => 21 | 51 => 166 | 141 => 168 | 105 => 144 | 196 => 181 | 193 => 178 | 198 => 184 | 49 => 182 | 194 => 179 | 201 => 187 | 226 => 191 | 46 => 112 | 227 => 192 | 139 => 157 | 138 => 156 | n => n, fun | 0 => 8 | 6 => 6 | 3 => 3 | 4 => 4 | n => n⟩
theorem Tryd.lays163 : Go.Proofs.Lays.n163 Tryd.prog Tryd.lays163_ren := {
  mixed := by kernel_rfl
  f120 := Tryd.func142.trans (congrArg some (by kernel_rfl))
  f163 := Tryd.func119.trans (congrArg some (by kernel_rfl))
  f197 := Tryd.func91.trans (congrArg some (by kernel_rfl))
  f199 := Tryd.func106.trans (congrArg some (by kernel_rfl))
  f237 := Tryd.func131.trans (congrArg some (by kernel_rfl))
  f238 := Tryd.func132.trans (congrArg some (by kernel_rfl))
  f260 := Tryd.func99.trans (congrArg some (by kernel_rfl))
  f261 := Tryd.func117.trans (congrArg some (by kernel_rfl))
  f271 := Tryd.func144.trans (congrArg some (by kernel_rfl))
  f272 := Tryd.func139.trans (congrArg some (by kernel_rfl))
  f273 := Tryd.func140.trans (congrArg some (by kernel_rfl))
  f311 := Tryd.func129.trans (congrArg some (by kernel_rfl))
  f312 := Tryd.func130.trans (congrArg some (by kernel_rfl))
  f315 := Tryd.func143.trans (congrArg some (by kernel_rfl))
  t0 := Tryd.underlying0
  a0 := Tryd.isAgg0
  z0 := Tryd.sizeOf0
  v0 := Tryd.zeroValue0
  t3 := Tryd.underlying3
  a3 := Tryd.isAgg3
  z3 := Tryd.sizeOf3
  v3 := Tryd.zeroValue3
  t4 := Tryd.underlying4
  a4 := Tryd.isAgg4
  z4 := Tryd.sizeOf4
  v4 := Tryd.zeroValue4
  t5 := Tryd.underlying5
  a5 := Tryd.isAgg5
  z5 := Tryd.sizeOf5
  v5 := Tryd.zeroValue5
  t9 := Tryd.underlying9
  a9 := Tryd.isAgg9
  z9 := Tryd.sizeOf9
  v9 := Tryd.zeroValue9
  t21 := Tryd.underlying21
  a21 := Tryd.isAgg21
  z21 := Tryd.sizeOf21
  v21 := Tryd.zeroValue21
  t37 := Tryd.underlying33
  a37 := Tryd.isAgg33
  z37 := Tryd.sizeOf33
  v37 := Tryd.zeroValue33
  t40 := Tryd.underlying136
  a40 := Tryd.isAgg136
  z40 := Tryd.sizeOf136
  v40 := Tryd.zeroValue136
  t46 := Tryd.underlying112
  a46 := Tryd.isAgg112
  z46 := Tryd.sizeOf112
  v46 := Tryd.zeroValue112
  t49 := Tryd.underlying182
  a49 := Tryd.isAgg182
  z49 := Tryd.sizeOf182
  v49 := Tryd.zeroValue182
  t51 := Tryd.underlying166
  a51 := Tryd.isAgg166
  z51 := Tryd.sizeOf166
  v51 := Tryd.zeroValue166
  t105 := Tryd.underlying144
  a105 := Tryd.isAgg144
  z105 := Tryd.sizeOf144
  v105 := Tryd.zeroValue144
  t119 := Tryd.underlying154
  a119 := Tryd.isAgg154
  z119 := Tryd.sizeOf154
  t138 := Tryd.underlying156
  a138 := Tryd.isAgg156
  z138 := Tryd.sizeOf156
  v138 := Tryd.zeroValue156
  t139 := Tryd.underlying157
  a139 := Tryd.isAgg157
  z139 := Tryd.sizeOf157
  v139 := Tryd.zeroValue157
  t141 := Tryd.underlying168
  a141 := Tryd.isAgg168
  z141 := Tryd.sizeOf168
  v141 := Tryd.zeroValue168
  t193 := Tryd.underlying178
  a193 := Tryd.isAgg178
  z193 := Tryd.sizeOf178
  v193 := Tryd.zeroValue178
  t194 := Tryd.underlying179
  a194 := Tryd.isAgg179
  z194 := Tryd.sizeOf179
  v194 := Tryd.zeroValue179
  t196 := Tryd.underlying181
  a196 := Tryd.isAgg181
  z196 := Tryd.sizeOf181
  v196 := Tryd.zeroValue181
  t198 := Tryd.underlying184
  a198 := Tryd.isAgg184
  z198 := Tryd.sizeOf184
  v198 := Tryd.zeroValue184
  t201 := Tryd.underlying187
  a201 := Tryd.isAgg187
  z201 := Tryd.sizeOf187
  v201 := Tryd.zeroValue187
  t226 := Tryd.underlying191
  a226 := Tryd.isAgg191
  z226 := Tryd.sizeOf191
  v226 := Tryd.zeroValue191
  t227 := Tryd.underlying192
  a227 := Tryd.isAgg192
  z227 := Tryd.sizeOf192
  v227 := Tryd.zeroValue192
  g0 := by kernel_rfl
  g3 := by kernel_rfl
  g4 := by kernel_rfl
  g6 := by kernel_rfl }
theorem Tryd.Space_Extra_163 : Space.Extra Tryd.prog Tryd.lays163_ren := {
  gNamed := by kernel_rfl }
open Go.RowKit in
theorem Tryd.strings_TrimSpace (s : ByteArray) (w : World) (hs : s.size ≤ 9223372036854775807) (hascii : ∀ (j : Nat) b, s.data.toList[j]? = some b → b.toNat < 128) (htab : Lib.TabIs Tryd.prog w "strings.asciiSpace" .u8 Lib.asciiSpaceTab) :
    Calls Tryd.prog 119 #[.string s] w fun e w' => e = .returned (.string ⟨(Lib.trimSpace s.data.toList).toArray⟩) ∧ w' = Lib.bytesWorld w 5 s := Any.strings_TrimSpace Tryd.lays163 Tryd.Space_Extra_163 s w hs hascii htab
def Tryd.lays120_ren : Go.Shelf.Ren := ⟨fun | 120 => 142 | n => n, fun | 5 => 5 | 4 => 4 | n => n, fun | n => n⟩
theorem Tryd.lays120 : Go.Proofs.Lays.n120 Tryd.prog Tryd.lays120_ren := {
  mixed := by kernel_rfl
  f120 := Tryd.func142.trans (congrArg some (by kernel_rfl))
  t4 := Tryd.underlying4
  a4 := Tryd.isAgg4
  z4 := Tryd.sizeOf4
  v4 := Tryd.zeroValue4
  t5 := Tryd.underlying5
  a5 := Tryd.isAgg5
  z5 := Tryd.sizeOf5
  v5 := Tryd.zeroValue5 }
/-- utf8.RuneStart: "RuneStart reports whether the byte could be the first byte of an encoded, possibly invalid rune. Second and subsequent bytes always have the top two bits set to 10.": IT RETURNS 'Lib.runeStart b'; the world is as it was. ('h0', 'h1': b is a byte: a caller has it of every byte that it was handed.) (LAID: no walk: one application.) -/
theorem Tryd.utf8_RuneStart (b : Int) (w : World) (h0 : 0 ≤ b) (h1 : b < 256) :
    Calls Tryd.prog 142 #[.int .u8 b] w fun e w' => e = .returned (.bool (Lib.runeStart b)) ∧ w' = w := Any.utf8_RuneStart Tryd.lays120 b w h0 h1
def Tryd.lays137_ren : Go.Shelf.Ren := ⟨fun | 137 => 59 | 217 => 67 | 266 => 79 | n => n, fun | 9 => 9 | 5 => 5 | 3 => 3 | n => n, fun | n => n⟩
theorem Tryd.lays137 : Go.Proofs.Lays.n137 Tryd.prog Tryd.lays137_ren := {
  mixed := by kernel_rfl
  f137 := Tryd.func59.trans (congrArg some (by kernel_rfl))
  f217 := Tryd.func67.trans (congrArg some (by kernel_rfl))
  f266 := Tryd.func79.trans (congrArg some (by kernel_rfl))
  t3 := Tryd.underlying3
  a3 := Tryd.isAgg3
  z3 := Tryd.sizeOf3
  v3 := Tryd.zeroValue3
  t5 := Tryd.underlying5
  a5 := Tryd.isAgg5
  z5 := Tryd.sizeOf5
  v5 := Tryd.zeroValue5
  t9 := Tryd.underlying9
  a9 := Tryd.isAgg9
  z9 := Tryd.sizeOf9
  v9 := Tryd.zeroValue9 }
open Go.RowKit in
/-- strings.IndexByte: "IndexByte returns the index of the first instance of c in s, or -1 if c is not present in s.": IT RETURNS 'Lib.indexByte s c'; the world is as it was. (LAID: no walk: one application.) -/
theorem Tryd.strings_IndexByte (s : ByteArray) (c : Int) (w : World) :
    Calls Tryd.prog 59 #[.string s, .int .u8 c] w fun e w' => e = .returned (.int .i64 (Lib.indexByte s.data.toList c.toNat.toUInt8)) ∧ w' = w := Any.strings_IndexByte Tryd.lays137 s c w
def Tryd.lays217_ren : Go.Shelf.Ren := ⟨fun | 217 => 67 | 266 => 79 | n => n, fun | 9 => 9 | 5 => 5 | 3 => 3 | n => n, fun | n => n⟩
theorem Tryd.lays217 : Go.Proofs.Lays.n217 Tryd.prog Tryd.lays217_ren := {
  mixed := by kernel_rfl
  f217 := Tryd.func67.trans (congrArg some (by kernel_rfl))
  f266 := Tryd.func79.trans (congrArg some (by kernel_rfl))
  t3 := Tryd.underlying3
  a3 := Tryd.isAgg3
  z3 := Tryd.sizeOf3
  v3 := Tryd.zeroValue3
  t5 := Tryd.underlying5
  a5 := Tryd.isAgg5
  z5 := Tryd.sizeOf5
  v5 := Tryd.zeroValue5
  t9 := Tryd.underlying9
  a9 := Tryd.isAgg9
  z9 := Tryd.sizeOf9
  v9 := Tryd.zeroValue9 }
open Go.RowKit Go.Lib in
/-- internal/stringslite.IndexByte (what strings.IndexByte calls): IT RETURNS 'Lib.indexByte s c'; the world is as it was. (LAID: no walk: one application.) -/
theorem Tryd.stringslite_IndexByte (s : ByteArray) (c : Int) (w : World) :
    Calls Tryd.prog 67 #[.string s, .int .u8 c] w fun e w' => e = .returned (.int .i64 (Lib.indexByte s.data.toList c.toNat.toUInt8)) ∧ w' = w := Any.stringslite_IndexByte Tryd.lays217 s c w
def Tryd.lays207_ren : Go.Shelf.Ren := ⟨fun | 207 => 141 | n => n, fun | 9 => 9 | 4 => 4 | 3 => 3 | n => n, fun | n => n⟩
theorem Tryd.lays207 : Go.Proofs.Lays.n207 Tryd.prog Tryd.lays207_ren := {
  mixed := by kernel_rfl
  f207 := Tryd.func141.trans (congrArg some (by kernel_rfl))
  t3 := Tryd.underlying3
  a3 := Tryd.isAgg3
  z3 := Tryd.sizeOf3
  v3 := Tryd.zeroValue3
  t4 := Tryd.underlying4
  a4 := Tryd.isAgg4
  z4 := Tryd.sizeOf4
  v4 := Tryd.zeroValue4
  t9 := Tryd.underlying9
  a9 := Tryd.isAgg9
  z9 := Tryd.sizeOf9
  v9 := Tryd.zeroValue9 }
open Go.RowKit Go.Lib in
/-- internal/stringslite.HasSuffix (what strings.HasSuffix calls). (LAID: no walk: one application.) -/
theorem Tryd.stringslite_HasSuffix (s p : ByteArray) (w : World) (hs : s.size ≤ 9223372036854775807) :
    Calls Tryd.prog 141 #[.string s, .string p] w fun e w' => e = .returned (.bool (Lib.hasSuffix s.data.toList p.data.toList)) ∧ w' = w := Any.stringslite_HasSuffix Tryd.lays207 s p w hs
def Tryd.lays100_ren : Go.Shelf.Ren := ⟨fun | 100 => 134 | 207 => 141 | n => n, fun | 9 => 9 | 4 => 4 | 3 => 3 | n => n, fun | n => n⟩
theorem Tryd.lays100 : Go.Proofs.Lays.n100 Tryd.prog Tryd.lays100_ren := {
  mixed := by kernel_rfl
  f100 := Tryd.func134.trans (congrArg some (by kernel_rfl))
  f207 := Tryd.func141.trans (congrArg some (by kernel_rfl))
  t3 := Tryd.underlying3
  a3 := Tryd.isAgg3
  z3 := Tryd.sizeOf3
  v3 := Tryd.zeroValue3
  t4 := Tryd.underlying4
  a4 := Tryd.isAgg4
  z4 := Tryd.sizeOf4
  v4 := Tryd.zeroValue4
  t9 := Tryd.underlying9
  a9 := Tryd.isAgg9
  z9 := Tryd.sizeOf9
  v9 := Tryd.zeroValue9 }
open Go.RowKit Go.Lib in
/-- strings.HasSuffix: "HasSuffix reports whether the string s ends with suffix.": IT RETURNS 'Lib.hasSuffix s suffix'; the world is as it was. ('hs': no Go string is longer: a caller has it of every string that it was handed.) (LAID: no walk: one application.) -/
theorem Tryd.strings_HasSuffix (s p : ByteArray) (w : World) (hs : s.size ≤ 9223372036854775807) :
    Calls Tryd.prog 134 #[.string s, .string p] w fun e w' => e = .returned (.bool (Lib.hasSuffix s.data.toList p.data.toList)) ∧ w' = w := Any.strings_HasSuffix Tryd.lays100 s p w hs
def Tryd.lays260_ren : Go.Shelf.Ren := ⟨fun | 260 => 99 | n => n, fun | 9 => 9 | 21 => 21 | 3 => 3 | 4 => 4 | 5 => 5 | 119 => 154 | 0 => 0 | 46 => 112 | 139 => 157 | 138 => 156 | n => n, fun | 3 => 3 | 4 => 4 | n => n⟩
theorem Tryd.lays260 : Go.Proofs.Lays.n260 Tryd.prog Tryd.lays260_ren := {
  mixed := by kernel_rfl
  f260 := Tryd.func99.trans (congrArg some (by kernel_rfl))
  t0 := Tryd.underlying0
  a0 := Tryd.isAgg0
  z0 := Tryd.sizeOf0
  v0 := Tryd.zeroValue0
  t3 := Tryd.underlying3
  a3 := Tryd.isAgg3
  z3 := Tryd.sizeOf3
  v3 := Tryd.zeroValue3
  t4 := Tryd.underlying4
  a4 := Tryd.isAgg4
  z4 := Tryd.sizeOf4
  v4 := Tryd.zeroValue4
  t5 := Tryd.underlying5
  a5 := Tryd.isAgg5
  z5 := Tryd.sizeOf5
  v5 := Tryd.zeroValue5
  t9 := Tryd.underlying9
  a9 := Tryd.isAgg9
  z9 := Tryd.sizeOf9
  v9 := Tryd.zeroValue9
  t21 := Tryd.underlying21
  a21 := Tryd.isAgg21
  z21 := Tryd.sizeOf21
  v21 := Tryd.zeroValue21
  t46 := Tryd.underlying112
  a46 := Tryd.isAgg112
  z46 := Tryd.sizeOf112
  v46 := Tryd.zeroValue112
  t119 := Tryd.underlying154
  a119 := Tryd.isAgg154
  z119 := Tryd.sizeOf154
  t138 := Tryd.underlying156
  a138 := Tryd.isAgg156
  z138 := Tryd.sizeOf156
  v138 := Tryd.zeroValue156
  t139 := Tryd.underlying157
  a139 := Tryd.isAgg157
  z139 := Tryd.sizeOf157
  v139 := Tryd.zeroValue157
  g3 := by kernel_rfl
  g4 := by kernel_rfl }
open Go.RowKit Go.Lib in
theorem Tryd.utf8_decodeRuneInStringSlow (s : ByteArray) (w : World) (hT : Lib.Utf8Tabs 3 4 w) :
    Calls Tryd.prog 99 #[.string s] w fun e w' => e = .returned (.tuple #[.int .i32 (Lib.decodeGo s).1, .int .i64 (Lib.decodeGo s).2]) ∧ Below w.heap.size w w' := Any.utf8_decodeRuneInStringSlow Tryd.lays260 s w hT
def Tryd.laysnb117_ren : Go.Shelf.Ren := ⟨fun | 117 => 97 | 115 => 103 | n => n, fun | 37 => 33 | 4 => 4 | 3 => 3 | 9 => 9 | 5 => 5 | n => n, fun | n => n⟩
theorem Tryd.laysnb117 : Go.Proofs.Lays.nb117 Tryd.prog Tryd.laysnb117_ren := {
  mixed := by kernel_rfl
  f115 := Tryd.func103.trans (congrArg some (by kernel_rfl))
  f117 := Tryd.func97.trans (congrArg some (by kernel_rfl))
  t3 := Tryd.underlying3
  a3 := Tryd.isAgg3
  z3 := Tryd.sizeOf3
  v3 := Tryd.zeroValue3
  t4 := Tryd.underlying4
  a4 := Tryd.isAgg4
  z4 := Tryd.sizeOf4
  v4 := Tryd.zeroValue4
  t9 := Tryd.underlying9
  a9 := Tryd.isAgg9
  z9 := Tryd.sizeOf9
  v9 := Tryd.zeroValue9
  t37 := Tryd.underlying33
  a37 := Tryd.isAgg33
  z37 := Tryd.sizeOf33
  v37 := Tryd.zeroValue33
  t5 := Tryd.underlying5
  a5 := Tryd.isAgg5
  z5 := Tryd.sizeOf5
  v5 := Tryd.zeroValue5 }
theorem Tryd.bytes_HasSuffix_e2 (p1 p2 : Option Addr) (n c d : Nat) (_hnc : n ≤ c) (hbig : n ≤ 9223372036854775807) (w : World) :
    Calls Tryd.prog 97 #[.slice p1 n c, .slice p2 0 d] w fun e w' => e = .returned (.bool true) ∧ w' = w := Any.bytes_HasSuffix_e2 Tryd.laysnb117 p1 p2 n c d _hnc hbig w
theorem Tryd.bytes_HasSuffix_e1 (p1 p2 : Option Addr) (c m d : Nat) (hm : 0 < m) (w : World) :
    Calls Tryd.prog 97 #[.slice p1 0 c, .slice p2 m d] w fun e w' => e = .returned (.bool false) ∧ w' = w := Any.bytes_HasSuffix_e1 Tryd.laysnb117 p1 p2 c m d hm w
def Tryd.laysnb140_ren : Go.Shelf.Ren := ⟨fun | 140 => 96 | 117 => 97 | 115 => 103 | n => n, fun | 37 => 33 | 4 => 4 | 3 => 3 | 9 => 9 | 5 => 5 | n => n, fun | n => n⟩
theorem Tryd.laysnb140 : Go.Proofs.Lays.nb140 Tryd.prog Tryd.laysnb140_ren := {
  mixed := by kernel_rfl
  f115 := Tryd.func103.trans (congrArg some (by kernel_rfl))
  f117 := Tryd.func97.trans (congrArg some (by kernel_rfl))
  f140 := Tryd.func96.trans (congrArg some (by kernel_rfl))
  t3 := Tryd.underlying3
  a3 := Tryd.isAgg3
  z3 := Tryd.sizeOf3
  v3 := Tryd.zeroValue3
  t4 := Tryd.underlying4
  a4 := Tryd.isAgg4
  z4 := Tryd.sizeOf4
  v4 := Tryd.zeroValue4
  t9 := Tryd.underlying9
  a9 := Tryd.isAgg9
  z9 := Tryd.sizeOf9
  v9 := Tryd.zeroValue9
  t37 := Tryd.underlying33
  a37 := Tryd.isAgg33
  z37 := Tryd.sizeOf33
  v37 := Tryd.zeroValue33
  t5 := Tryd.underlying5
  a5 := Tryd.isAgg5
  z5 := Tryd.sizeOf5
  v5 := Tryd.zeroValue5 }
theorem Tryd.bytes_TrimSuffix_e2 (p1 p2 : Option Addr) (n c d : Nat) (hnc : n ≤ c) (hbig : n ≤ 9223372036854775807) (w : World) :
    Calls Tryd.prog 96 #[.slice p1 n c, .slice p2 0 d] w fun e w' => e = .returned (.slice p1 n c) ∧ w' = w := Any.bytes_TrimSuffix_e2 Tryd.laysnb140 p1 p2 n c d hnc hbig w
theorem Tryd.bytes_TrimSuffix_e1 (p1 p2 : Option Addr) (c m d : Nat) (hm : 0 < m) (w : World) :
    Calls Tryd.prog 96 #[.slice p1 0 c, .slice p2 m d] w fun e w' => e = .returned (.slice p1 0 c) ∧ w' = w := Any.bytes_TrimSuffix_e1 Tryd.laysnb140 p1 p2 c m d hm w
/-- bytes.HasSuffix: WHOLE: each argument nil, or of no byte at whatever address, or at an address with its cells. (LAID: no walk: one application.) -/
theorem Tryd.bytes_HasSuffix_all (p1 p2 : Option Addr) (n c m d : Nat) (xs ys : List Int) (w : World) (hx : xs.length = n) (hy : ys.length = m) (hnc : n ≤ c) (hbig : n ≤ 9223372036854775807) (h1 : Lib.BytesIn w p1 n xs) (h2 : Lib.BytesIn w p2 m ys) :
    Calls Tryd.prog 97 #[.slice p1 n c, .slice p2 m d] w fun e w' => e = .returned (.bool (Lib.hasSuffix (Lib.bytesOf xs) (Lib.bytesOf ys))) ∧ w' = w := Any.bytes_HasSuffix_all Tryd.laysnb117 p1 p2 n c m d xs ys w hx hy hnc hbig h1 h2
/-- bytes.TrimSuffix: WHOLE. (LAID: no walk: one application.) -/
theorem Tryd.bytes_TrimSuffix_all (p1 p2 : Option Addr) (n c m d : Nat) (xs ys : List Int) (w : World) (hx : xs.length = n) (hy : ys.length = m) (hnc : n ≤ c) (hbig : n ≤ 9223372036854775807) (h1 : Lib.BytesIn w p1 n xs) (h2 : Lib.BytesIn w p2 m ys) :
    Calls Tryd.prog 96 #[.slice p1 n c, .slice p2 m d] w fun e w' => e = .returned (Lib.trimSuffixV p1 n c xs ys) ∧ w' = w := Any.bytes_TrimSuffix_all Tryd.laysnb140 p1 p2 n c m d xs ys w hx hy hnc hbig h1 h2
def Tryd.lays115_ren : Go.Shelf.Ren := ⟨fun | 115 => 103 | n => n, fun | 37 => 33 | 4 => 4 | 9 => 9 | 5 => 5 | n => n, fun | n => n⟩
theorem Tryd.lays115 : Go.Proofs.Lays.n115 Tryd.prog Tryd.lays115_ren := {
  mixed := by kernel_rfl
  f115 := Tryd.func103.trans (congrArg some (by kernel_rfl))
  t4 := Tryd.underlying4
  a4 := Tryd.isAgg4
  z4 := Tryd.sizeOf4
  v4 := Tryd.zeroValue4
  t9 := Tryd.underlying9
  a9 := Tryd.isAgg9
  z9 := Tryd.sizeOf9
  v9 := Tryd.zeroValue9
  t37 := Tryd.underlying33
  a37 := Tryd.isAgg33
  z37 := Tryd.sizeOf33
  v37 := Tryd.zeroValue33 }
/-- bytes.Equal: "Equal reports whether a and b are the same length and contain the same bytes. A nil argument is equivalent to an empty slice.": IT RETURNS 'the bytes of the one == the bytes of the other'; the world is as it was. THE TWO ARGUMENTS COME AS WHATEVER VALUES, each with the one fact that the walk wants of it: what 'string(..)' of it gives: for a slice whose cells you know: 'run_convert_bytes_arg' (Derived/Laws/BytesArg.lean) hands that fact; for a nil one: 'run_convert_bytes_nil' (with xs := []). (LAID: no walk: one application.) -/
theorem Tryd.bytes_Equal (v1 v2 : Value) (xs ys : List Int) (w : World) (h1 : (convert 33 9 v1).run Tryd.prog w = .ok (.string (strOfNums xs)) w) (h2 : (convert 33 9 v2).run Tryd.prog w = .ok (.string (strOfNums ys)) w) :
    Calls Tryd.prog 103 #[v1, v2] w fun e w' => e = .returned (.bool (Lib.bytesOf xs == Lib.bytesOf ys)) ∧ w' = w := Any.bytes_Equal Tryd.lays115 v1 v2 xs ys w h1 h2
/-- bytes.HasSuffix: "HasSuffix reports whether the byte slice s ends with suffix.": IT RETURNS 'Lib.hasSuffix (the bytes of s) (the bytes of suffix)'; the world is as it was. ITS CALLEE bytes.Equal IS MET BY ITS OWN CONTRACT OFF THE SHELF (lay that first). (An empty suffix too: there the model's slicing may keep the slice's address, where the cut falls at its very capacity: the value bears an 'if': 'gA' pays both arms.) (LAID: no walk: one application.) -/
theorem Tryd.bytes_HasSuffix (b1 o1 n c b2 o2 m d : Nat) (xs ys : List Int) (w : World) (hx : xs.length = n) (hy : ys.length = m) (hnc : n ≤ c) (hbig : n ≤ 9223372036854775807) (hc1 : ∀ i, i < n → w.cell? ⟨b1, o1 + i, none⟩ = some (.int .u8 (xs.getD i 0))) (hc2 : ∀ i, i < m → w.cell? ⟨b2, o2 + i, none⟩ = some (.int .u8 (ys.getD i 0))) :
    Calls Tryd.prog 97 #[.slice (some ⟨b1, o1, none⟩) n c, .slice (some ⟨b2, o2, none⟩) m d] w fun e w' => e = .returned (.bool (Lib.hasSuffix (Lib.bytesOf xs) (Lib.bytesOf ys))) ∧ w' = w := Any.bytes_HasSuffix Tryd.laysnb117 b1 o1 n c b2 o2 m d xs ys w hx hy hnc hbig hc1 hc2
/-- bytes.TrimSuffix: "TrimSuffix returns s without the provided trailing suffix string. If s doesn't end with suffix, s is returned unchanged.": IT RETURNS 'Lib.bytesTrimSuffix': s[:len(s)-len(suffix)] OF THE ARGUMENT's OWN MEMORY where s ends with suffix, else s itself; the world is as it was. (LAID: no walk: one application.) -/
theorem Tryd.bytes_TrimSuffix (b1 o1 n c b2 o2 m d : Nat) (xs ys : List Int) (w : World) (hx : xs.length = n) (hy : ys.length = m) (hnc : n ≤ c) (hbig : n ≤ 9223372036854775807) (hc1 : ∀ i, i < n → w.cell? ⟨b1, o1 + i, none⟩ = some (.int .u8 (xs.getD i 0))) (hc2 : ∀ i, i < m → w.cell? ⟨b2, o2 + i, none⟩ = some (.int .u8 (ys.getD i 0))) :
    Calls Tryd.prog 96 #[.slice (some ⟨b1, o1, none⟩) n c, .slice (some ⟨b2, o2, none⟩) m d] w fun e w' => e = .returned (Lib.bytesTrimSuffix b1 o1 n c xs ys) ∧ w' = w := Any.bytes_TrimSuffix Tryd.laysnb140 b1 o1 n c b2 o2 m d xs ys w hx hy hnc hbig hc1 hc2
def Tryd.laysbs188_ren : Go.Shelf.Ren := ⟨fun | 188 => 101 | 256 => 105 | 199 => 106 | 293 => 116 | 292 => 115 | 261 => 117 | 327 => 128 | 325 => 126 | 326 => 127 | 311 => 129 | 312 => 130 | 341 => 137 | 342 => 138 | 120 => 142 | n => n, fun | 37 => 33 | 3 => 3 | 0 => 0 | 5 => 5 | 4 => 4 | 40 => 136 | 119 => 154 | 21 => 21 | 51 => 166 | 141 => 168 | 105 => 144 | 196 => 181 | 193 => 178 | 198 => 184 | 49 => 182 | 194 => 179 | 201 => 187 | 226 => 191 | 46 => 112 | 227 => 192 | 139 => 157 | 138 => 156 | n => n, fun | 2 => 5 | 6 => 6 | 3 => 3 | 4 => 4 | n => n⟩
theorem Tryd.laysbs188 : Go.Proofs.Lays.nbs188 Tryd.prog Tryd.laysbs188_ren := {
  mixed := by kernel_rfl
  f120 := Tryd.func142.trans (congrArg some (by kernel_rfl))
  f188 := Tryd.func101.trans (congrArg some (by kernel_rfl))
  f199 := Tryd.func106.trans (congrArg some (by kernel_rfl))
  f256 := Tryd.func105.trans (congrArg some (by kernel_rfl))
  f261 := Tryd.func117.trans (congrArg some (by kernel_rfl))
  f292 := Tryd.func115.trans (congrArg some (by kernel_rfl))
  f293 := Tryd.func116.trans (congrArg some (by kernel_rfl))
  f311 := Tryd.func129.trans (congrArg some (by kernel_rfl))
  f312 := Tryd.func130.trans (congrArg some (by kernel_rfl))
  f325 := Tryd.func126.trans (congrArg some (by kernel_rfl))
  f326 := Tryd.func127.trans (congrArg some (by kernel_rfl))
  f327 := Tryd.func128.trans (congrArg some (by kernel_rfl))
  f341 := Tryd.func137.trans (congrArg some (by kernel_rfl))
  f342 := Tryd.func138.trans (congrArg some (by kernel_rfl))
  t0 := Tryd.underlying0
  a0 := Tryd.isAgg0
  z0 := Tryd.sizeOf0
  v0 := Tryd.zeroValue0
  t3 := Tryd.underlying3
  a3 := Tryd.isAgg3
  z3 := Tryd.sizeOf3
  v3 := Tryd.zeroValue3
  t4 := Tryd.underlying4
  a4 := Tryd.isAgg4
  z4 := Tryd.sizeOf4
  v4 := Tryd.zeroValue4
  t5 := Tryd.underlying5
  a5 := Tryd.isAgg5
  z5 := Tryd.sizeOf5
  v5 := Tryd.zeroValue5
  t21 := Tryd.underlying21
  a21 := Tryd.isAgg21
  z21 := Tryd.sizeOf21
  v21 := Tryd.zeroValue21
  t37 := Tryd.underlying33
  a37 := Tryd.isAgg33
  z37 := Tryd.sizeOf33
  v37 := Tryd.zeroValue33
  t40 := Tryd.underlying136
  a40 := Tryd.isAgg136
  z40 := Tryd.sizeOf136
  v40 := Tryd.zeroValue136
  t46 := Tryd.underlying112
  a46 := Tryd.isAgg112
  z46 := Tryd.sizeOf112
  v46 := Tryd.zeroValue112
  t49 := Tryd.underlying182
  a49 := Tryd.isAgg182
  z49 := Tryd.sizeOf182
  v49 := Tryd.zeroValue182
  t51 := Tryd.underlying166
  a51 := Tryd.isAgg166
  z51 := Tryd.sizeOf166
  v51 := Tryd.zeroValue166
  t105 := Tryd.underlying144
  a105 := Tryd.isAgg144
  z105 := Tryd.sizeOf144
  v105 := Tryd.zeroValue144
  t119 := Tryd.underlying154
  a119 := Tryd.isAgg154
  z119 := Tryd.sizeOf154
  t138 := Tryd.underlying156
  a138 := Tryd.isAgg156
  z138 := Tryd.sizeOf156
  v138 := Tryd.zeroValue156
  t139 := Tryd.underlying157
  a139 := Tryd.isAgg157
  z139 := Tryd.sizeOf157
  v139 := Tryd.zeroValue157
  t141 := Tryd.underlying168
  a141 := Tryd.isAgg168
  z141 := Tryd.sizeOf168
  v141 := Tryd.zeroValue168
  t193 := Tryd.underlying178
  a193 := Tryd.isAgg178
  z193 := Tryd.sizeOf178
  v193 := Tryd.zeroValue178
  t194 := Tryd.underlying179
  a194 := Tryd.isAgg179
  z194 := Tryd.sizeOf179
  v194 := Tryd.zeroValue179
  t196 := Tryd.underlying181
  a196 := Tryd.isAgg181
  z196 := Tryd.sizeOf181
  v196 := Tryd.zeroValue181
  t198 := Tryd.underlying184
  a198 := Tryd.isAgg184
  z198 := Tryd.sizeOf184
  v198 := Tryd.zeroValue184
  t201 := Tryd.underlying187
  a201 := Tryd.isAgg187
  z201 := Tryd.sizeOf187
  v201 := Tryd.zeroValue187
  t226 := Tryd.underlying191
  a226 := Tryd.isAgg191
  z226 := Tryd.sizeOf191
  v226 := Tryd.zeroValue191
  t227 := Tryd.underlying192
  a227 := Tryd.isAgg192
  z227 := Tryd.sizeOf192
  v227 := Tryd.zeroValue192
  g2 := by kernel_rfl
  g3 := by kernel_rfl
  g4 := by kernel_rfl
  g6 := by kernel_rfl
  gNamed := by kernel_rfl }
open Go.RowKit in
/-- bytes.TrimSpace: "TrimSpace returns a subslice of s by slicing off all leading and trailing white space, as defined by Unicode.": ON ASCII BYTES ('hascii': each number below 128): IT RETURNS 'Lib.bytesTrimSpace b o c (the bytes of s)': a slice OF THE ARGUMENT's OWN MEMORY, nil where all is white space; the world is as it was. 'htab': the table bytes.asciiSpace holds its numbers (as strings.TrimSpace's contract asks of its own). (LAID: no walk: one application.) -/
theorem Tryd.bytes_TrimSpace (b o n c : Nat) (xs : List Int) (w : World) (hx : xs.length = n) (hnc : n ≤ c) (hbig : n ≤ 9223372036854775807) (hc : ∀ i, i < n → w.cell? ⟨b, o + i, none⟩ = some (.int .u8 (xs.getD i 0))) (hascii : ∀ i, i < n → 0 ≤ xs.getD i 0 ∧ xs.getD i 0 < 128) (htab : Lib.TabIs Tryd.prog w "bytes.asciiSpace" .u8 Lib.asciiSpaceTab) :
    Calls Tryd.prog 101 #[.slice (some ⟨b, o, none⟩) n c] w fun e w' => e = .returned (Lib.bytesTrimSpace b o c (Lib.bytesOf xs)) ∧ w' = w := Any.bytes_TrimSpace Tryd.laysbs188 b o n c xs w hx hnc hbig hc hascii htab
def Tryd.lays188_ren : Go.Shelf.Ren := ⟨fun | 188 => 101 | 256 => 105 | 199 => 106 | 293 => 116 | 292 => 115 | 261 => 117 | 327 => 128 | 325 => 126 | 326 => 127 | 311 => 129 | 312 => 130 | 341 => 137 | 342 => 138 | 120 => 142 | n => n, fun | 37 => 33 | 3 => 3 | 0 => 0 | 5 => 5 | 4 => 4 | 40 => 136 | 119 => 154 | 21 => 21 | 51 => 166 | 141 => 168 | 105 => 144 | 196 => 181 | 193 => 178 | 198 => 184 | 49 => 182 | 194 => 179 | 201 => 187 | 226 => 191 | 46 => 112 | 227 => 192 | 139 => 157 | 138 => 156 | n => n, fun | 2 => 5 | 6 => 6 | 3 => 3 | 4 => 4 | n => n⟩
theorem Tryd.lays188 : Go.Proofs.Lays.n188 Tryd.prog Tryd.lays188_ren := {
  mixed := by kernel_rfl
  f120 := Tryd.func142.trans (congrArg some (by kernel_rfl))
  f188 := Tryd.func101.trans (congrArg some (by kernel_rfl))
  f199 := Tryd.func106.trans (congrArg some (by kernel_rfl))
  f256 := Tryd.func105.trans (congrArg some (by kernel_rfl))
  f261 := Tryd.func117.trans (congrArg some (by kernel_rfl))
  f292 := Tryd.func115.trans (congrArg some (by kernel_rfl))
  f293 := Tryd.func116.trans (congrArg some (by kernel_rfl))
  f311 := Tryd.func129.trans (congrArg some (by kernel_rfl))
  f312 := Tryd.func130.trans (congrArg some (by kernel_rfl))
  f325 := Tryd.func126.trans (congrArg some (by kernel_rfl))
  f326 := Tryd.func127.trans (congrArg some (by kernel_rfl))
  f327 := Tryd.func128.trans (congrArg some (by kernel_rfl))
  f341 := Tryd.func137.trans (congrArg some (by kernel_rfl))
  f342 := Tryd.func138.trans (congrArg some (by kernel_rfl))
  t0 := Tryd.underlying0
  a0 := Tryd.isAgg0
  z0 := Tryd.sizeOf0
  v0 := Tryd.zeroValue0
  t3 := Tryd.underlying3
  a3 := Tryd.isAgg3
  z3 := Tryd.sizeOf3
  v3 := Tryd.zeroValue3
  t4 := Tryd.underlying4
  a4 := Tryd.isAgg4
  z4 := Tryd.sizeOf4
  v4 := Tryd.zeroValue4
  t5 := Tryd.underlying5
  a5 := Tryd.isAgg5
  z5 := Tryd.sizeOf5
  v5 := Tryd.zeroValue5
  t21 := Tryd.underlying21
  a21 := Tryd.isAgg21
  z21 := Tryd.sizeOf21
  v21 := Tryd.zeroValue21
  t37 := Tryd.underlying33
  a37 := Tryd.isAgg33
  z37 := Tryd.sizeOf33
  v37 := Tryd.zeroValue33
  t40 := Tryd.underlying136
  a40 := Tryd.isAgg136
  z40 := Tryd.sizeOf136
  v40 := Tryd.zeroValue136
  t46 := Tryd.underlying112
  a46 := Tryd.isAgg112
  z46 := Tryd.sizeOf112
  v46 := Tryd.zeroValue112
  t49 := Tryd.underlying182
  a49 := Tryd.isAgg182
  z49 := Tryd.sizeOf182
  v49 := Tryd.zeroValue182
  t51 := Tryd.underlying166
  a51 := Tryd.isAgg166
  z51 := Tryd.sizeOf166
  v51 := Tryd.zeroValue166
  t105 := Tryd.underlying144
  a105 := Tryd.isAgg144
  z105 := Tryd.sizeOf144
  v105 := Tryd.zeroValue144
  t119 := Tryd.underlying154
  a119 := Tryd.isAgg154
  z119 := Tryd.sizeOf154
  t138 := Tryd.underlying156
  a138 := Tryd.isAgg156
  z138 := Tryd.sizeOf156
  v138 := Tryd.zeroValue156
  t139 := Tryd.underlying157
  a139 := Tryd.isAgg157
  z139 := Tryd.sizeOf157
  v139 := Tryd.zeroValue157
  t141 := Tryd.underlying168
  a141 := Tryd.isAgg168
  z141 := Tryd.sizeOf168
  v141 := Tryd.zeroValue168
  t193 := Tryd.underlying178
  a193 := Tryd.isAgg178
  z193 := Tryd.sizeOf178
  v193 := Tryd.zeroValue178
  t194 := Tryd.underlying179
  a194 := Tryd.isAgg179
  z194 := Tryd.sizeOf179
  v194 := Tryd.zeroValue179
  t196 := Tryd.underlying181
  a196 := Tryd.isAgg181
  z196 := Tryd.sizeOf181
  v196 := Tryd.zeroValue181
  t198 := Tryd.underlying184
  a198 := Tryd.isAgg184
  z198 := Tryd.sizeOf184
  v198 := Tryd.zeroValue184
  t201 := Tryd.underlying187
  a201 := Tryd.isAgg187
  z201 := Tryd.sizeOf187
  v201 := Tryd.zeroValue187
  t226 := Tryd.underlying191
  a226 := Tryd.isAgg191
  z226 := Tryd.sizeOf191
  v226 := Tryd.zeroValue191
  t227 := Tryd.underlying192
  a227 := Tryd.isAgg192
  z227 := Tryd.sizeOf192
  v227 := Tryd.zeroValue192
  g2 := by kernel_rfl
  g3 := by kernel_rfl
  g4 := by kernel_rfl
  g6 := by kernel_rfl }
open Go.RowKit in
/-- bytes.TrimSpace AT nil: nil. (LAID: no walk: one application.) -/
theorem Tryd.bytes_TrimSpace_nil (w : World) :
    Calls Tryd.prog 101 #[.slice none 0 0] w fun e w' => e = .returned (.slice none 0 0) ∧ w' = w := Any.bytes_TrimSpace_nil Tryd.lays188 w
end Go.Proofs
