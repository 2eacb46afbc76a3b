/-
  DERIVED: THE SHELF's CONTRACTS AT THIS DUMP, IN PLAIN WORDS (tools/lay-plain.mjs out of 'TrydShelf.lean', which tools/lay-shelf.mjs wrote): THE SAME DECLARATIONS UNDER THE SAME NAMES: 'import', 'namespace', 'open', 'def', 'theorem' AND NOTHING ELSE: no command of the shelf's: FOR A HAND-IN. Each laying: the table of numbers ('.._ren') and one theorem, a field a fact of the dump's own or the kernel's comparison; each contract: ONE APPLICATION.
-/
import Derived.Shelf.Small.Utf8
import Derived.Shelf.Small.Strs
import Derived.Shelf.Strings.Search1
import Derived.Shelf.Unicode.Latin
import Derived.Shelf.Unicode.DecodeSlow
import Derived.Shelf.Unicode.Is16White
import Derived.Shelf.Unicode.IsSpaceAny
import Derived.Shelf.Unicode.Is16Any
import Derived.Shelf.Unicode.Is32Any
import Derived.Shelf.Unicode.ExclAny
import Derived.Test.YtocdnceckljnaaaDoorProg
namespace Go.Proofs
open Go.Shelf
def Tryd.lays120_ren : Go.Shelf.Ren := ⟨fun | 120 => 142 | n => n, fun | 5 => 5 | 4 => 4 | n => n, fun | n => n⟩
theorem Tryd.lays120 : Go.Proofs.Lays.n120 Tryd.prog Tryd.lays120_ren := {
  mixed := by kernel_rfl
  f120 := Tryd.func142.trans (congrArg some (by kernel_rfl))
  t4 := Tryd.underlying4
  a4 := Tryd.isAgg4
  z4 := Tryd.sizeOf4
  v4 := Tryd.zeroValue4
  t5 := Tryd.underlying5
  a5 := Tryd.isAgg5
  z5 := Tryd.sizeOf5
  v5 := Tryd.zeroValue5 }
/-- utf8.RuneStart: "RuneStart reports whether the byte could be the first byte of an encoded, possibly invalid rune. Second and subsequent bytes always have the top two bits set to 10.": IT RETURNS 'Lib.runeStart b'; the world is as it was. ('h0', 'h1': b is a byte: a caller has it of every byte that it was handed.) (LAID: no walk: one application.) -/
theorem Tryd.utf8_RuneStart (b : Int) (w : World) (h0 : 0 ≤ b) (h1 : b < 256) :
    Calls Tryd.prog 142 #[.int .u8 b] w fun e w' => e = .returned (.bool (Lib.runeStart b)) ∧ w' = w := Any.utf8_RuneStart Tryd.lays120 b w h0 h1
def Tryd.lays137_ren : Go.Shelf.Ren := ⟨fun | 137 => 59 | 217 => 67 | 266 => 79 | n => n, fun | 9 => 9 | 5 => 5 | 3 => 3 | n => n, fun | n => n⟩
theorem Tryd.lays137 : Go.Proofs.Lays.n137 Tryd.prog Tryd.lays137_ren := {
  mixed := by kernel_rfl
  f137 := Tryd.func59.trans (congrArg some (by kernel_rfl))
  f217 := Tryd.func67.trans (congrArg some (by kernel_rfl))
  f266 := Tryd.func79.trans (congrArg some (by kernel_rfl))
  t3 := Tryd.underlying3
  a3 := Tryd.isAgg3
  z3 := Tryd.sizeOf3
  v3 := Tryd.zeroValue3
  t5 := Tryd.underlying5
  a5 := Tryd.isAgg5
  z5 := Tryd.sizeOf5
  v5 := Tryd.zeroValue5
  t9 := Tryd.underlying9
  a9 := Tryd.isAgg9
  z9 := Tryd.sizeOf9
  v9 := Tryd.zeroValue9 }
open Go.RowKit in
/-- strings.IndexByte: "IndexByte returns the index of the first instance of c in s, or -1 if c is not present in s.": IT RETURNS 'Lib.indexByte s c'; the world is as it was. (LAID: no walk: one application.) -/
theorem Tryd.strings_IndexByte (s : ByteArray) (c : Int) (w : World) :
    Calls Tryd.prog 59 #[.string s, .int .u8 c] w fun e w' => e = .returned (.int .i64 (Lib.indexByte s.data.toList c.toNat.toUInt8)) ∧ w' = w := Any.strings_IndexByte Tryd.lays137 s c w
def Tryd.lays217_ren : Go.Shelf.Ren := ⟨fun | 217 => 67 | 266 => 79 | n => n, fun | 9 => 9 | 5 => 5 | 3 => 3 | n => n, fun | n => n⟩
theorem Tryd.lays217 : Go.Proofs.Lays.n217 Tryd.prog Tryd.lays217_ren := {
  mixed := by kernel_rfl
  f217 := Tryd.func67.trans (congrArg some (by kernel_rfl))
  f266 := Tryd.func79.trans (congrArg some (by kernel_rfl))
  t3 := Tryd.underlying3
  a3 := Tryd.isAgg3
  z3 := Tryd.sizeOf3
  v3 := Tryd.zeroValue3
  t5 := Tryd.underlying5
  a5 := Tryd.isAgg5
  z5 := Tryd.sizeOf5
  v5 := Tryd.zeroValue5
  t9 := Tryd.underlying9
  a9 := Tryd.isAgg9
  z9 := Tryd.sizeOf9
  v9 := Tryd.zeroValue9 }
open Go.RowKit Go.Lib in
/-- internal/stringslite.IndexByte (what strings.IndexByte calls): IT RETURNS 'Lib.indexByte s c'; the world is as it was. (LAID: no walk: one application.) -/
theorem Tryd.stringslite_IndexByte (s : ByteArray) (c : Int) (w : World) :
    Calls Tryd.prog 67 #[.string s, .int .u8 c] w fun e w' => e = .returned (.int .i64 (Lib.indexByte s.data.toList c.toNat.toUInt8)) ∧ w' = w := Any.stringslite_IndexByte Tryd.lays217 s c w
def Tryd.lays199_ren : Go.Shelf.Ren := ⟨fun | 199 => 106 | 261 => 117 | 311 => 129 | 312 => 130 | n => n, fun | 21 => 21 | 4 => 4 | 51 => 166 | 141 => 168 | 0 => 0 | 196 => 181 | 193 => 178 | 3 => 3 | 198 => 184 | 49 => 182 | 194 => 179 | 201 => 187 | 226 => 191 | 46 => 112 | 227 => 192 | n => n, fun | 6 => 6 | n => n⟩
theorem Tryd.lays199 : Go.Proofs.Lays.n199 Tryd.prog Tryd.lays199_ren := {
  mixed := by kernel_rfl
  f199 := Tryd.func106.trans (congrArg some (by kernel_rfl))
  f261 := Tryd.func117.trans (congrArg some (by kernel_rfl))
  f311 := Tryd.func129.trans (congrArg some (by kernel_rfl))
  f312 := Tryd.func130.trans (congrArg some (by kernel_rfl))
  t0 := Tryd.underlying0
  a0 := Tryd.isAgg0
  z0 := Tryd.sizeOf0
  v0 := Tryd.zeroValue0
  t3 := Tryd.underlying3
  a3 := Tryd.isAgg3
  z3 := Tryd.sizeOf3
  v3 := Tryd.zeroValue3
  t4 := Tryd.underlying4
  a4 := Tryd.isAgg4
  z4 := Tryd.sizeOf4
  v4 := Tryd.zeroValue4
  t21 := Tryd.underlying21
  a21 := Tryd.isAgg21
  z21 := Tryd.sizeOf21
  v21 := Tryd.zeroValue21
  t46 := Tryd.underlying112
  a46 := Tryd.isAgg112
  z46 := Tryd.sizeOf112
  v46 := Tryd.zeroValue112
  t49 := Tryd.underlying182
  a49 := Tryd.isAgg182
  z49 := Tryd.sizeOf182
  v49 := Tryd.zeroValue182
  t51 := Tryd.underlying166
  a51 := Tryd.isAgg166
  z51 := Tryd.sizeOf166
  v51 := Tryd.zeroValue166
  t141 := Tryd.underlying168
  a141 := Tryd.isAgg168
  z141 := Tryd.sizeOf168
  v141 := Tryd.zeroValue168
  t193 := Tryd.underlying178
  a193 := Tryd.isAgg178
  z193 := Tryd.sizeOf178
  v193 := Tryd.zeroValue178
  t194 := Tryd.underlying179
  a194 := Tryd.isAgg179
  z194 := Tryd.sizeOf179
  v194 := Tryd.zeroValue179
  t196 := Tryd.underlying181
  a196 := Tryd.isAgg181
  z196 := Tryd.sizeOf181
  v196 := Tryd.zeroValue181
  t198 := Tryd.underlying184
  a198 := Tryd.isAgg184
  z198 := Tryd.sizeOf184
  v198 := Tryd.zeroValue184
  t201 := Tryd.underlying187
  a201 := Tryd.isAgg187
  z201 := Tryd.sizeOf187
  v201 := Tryd.zeroValue187
  t226 := Tryd.underlying191
  a226 := Tryd.isAgg191
  z226 := Tryd.sizeOf191
  v226 := Tryd.zeroValue191
  t227 := Tryd.underlying192
  a227 := Tryd.isAgg192
  z227 := Tryd.sizeOf192
  v227 := Tryd.zeroValue192
  g6 := by kernel_rfl }
open Go.RowKit Go.Lib in
theorem Tryd.unicode_IsSpace (r : Int) (w : World) (h0 : 0 ≤ r) (h : r ≤ 255) :
    Calls Tryd.prog 106 #[.int .i32 r] w fun e w' => e = .returned (.bool (Lib.isSpaceL r)) ∧ w' = w := Any.unicode_IsSpace Tryd.lays199 r w h0 h
def Tryd.lays260_ren : Go.Shelf.Ren := ⟨fun | 260 => 99 | n => n, fun | 9 => 9 | 21 => 21 | 3 => 3 | 4 => 4 | 5 => 5 | 119 => 154 | 0 => 0 | 46 => 112 | 139 => 157 | 138 => 156 | n => n, fun | 3 => 3 | 4 => 4 | n => n⟩
theorem Tryd.lays260 : Go.Proofs.Lays.n260 Tryd.prog Tryd.lays260_ren := {
  mixed := by kernel_rfl
  f260 := Tryd.func99.trans (congrArg some (by kernel_rfl))
  t0 := Tryd.underlying0
  a0 := Tryd.isAgg0
  z0 := Tryd.sizeOf0
  v0 := Tryd.zeroValue0
  t3 := Tryd.underlying3
  a3 := Tryd.isAgg3
  z3 := Tryd.sizeOf3
  v3 := Tryd.zeroValue3
  t4 := Tryd.underlying4
  a4 := Tryd.isAgg4
  z4 := Tryd.sizeOf4
  v4 := Tryd.zeroValue4
  t5 := Tryd.underlying5
  a5 := Tryd.isAgg5
  z5 := Tryd.sizeOf5
  v5 := Tryd.zeroValue5
  t9 := Tryd.underlying9
  a9 := Tryd.isAgg9
  z9 := Tryd.sizeOf9
  v9 := Tryd.zeroValue9
  t21 := Tryd.underlying21
  a21 := Tryd.isAgg21
  z21 := Tryd.sizeOf21
  v21 := Tryd.zeroValue21
  t46 := Tryd.underlying112
  a46 := Tryd.isAgg112
  z46 := Tryd.sizeOf112
  v46 := Tryd.zeroValue112
  t119 := Tryd.underlying154
  a119 := Tryd.isAgg154
  z119 := Tryd.sizeOf154
  t138 := Tryd.underlying156
  a138 := Tryd.isAgg156
  z138 := Tryd.sizeOf156
  v138 := Tryd.zeroValue156
  t139 := Tryd.underlying157
  a139 := Tryd.isAgg157
  z139 := Tryd.sizeOf157
  v139 := Tryd.zeroValue157
  g3 := by kernel_rfl
  g4 := by kernel_rfl }
open Go.RowKit Go.Lib in
theorem Tryd.utf8_decodeRuneInStringSlow (s : ByteArray) (w : World) (hT : Lib.Utf8Tabs 3 4 w) :
    Calls Tryd.prog 99 #[.string s] w fun e w' => e = .returned (.tuple #[.int .i32 (Lib.decodeGo s).1, .int .i64 (Lib.decodeGo s).2]) ∧ Below w.heap.size w w' := Any.utf8_decodeRuneInStringSlow Tryd.lays260 s w hT
def Tryd.lays311_ren : Go.Shelf.Ren := ⟨fun | 311 => 129 | n => n, fun | 193 => 178 | 49 => 182 | 4 => 4 | 3 => 3 | 0 => 0 | 226 => 191 | 198 => 184 | 46 => 112 | n => n, fun | n => n⟩
theorem Tryd.lays311 : Go.Proofs.Lays.n311 Tryd.prog Tryd.lays311_ren := {
  mixed := by kernel_rfl
  f311 := Tryd.func129.trans (congrArg some (by kernel_rfl))
  t0 := Tryd.underlying0
  a0 := Tryd.isAgg0
  z0 := Tryd.sizeOf0
  v0 := Tryd.zeroValue0
  t3 := Tryd.underlying3
  a3 := Tryd.isAgg3
  z3 := Tryd.sizeOf3
  v3 := Tryd.zeroValue3
  t4 := Tryd.underlying4
  a4 := Tryd.isAgg4
  z4 := Tryd.sizeOf4
  v4 := Tryd.zeroValue4
  t46 := Tryd.underlying112
  a46 := Tryd.isAgg112
  z46 := Tryd.sizeOf112
  v46 := Tryd.zeroValue112
  t49 := Tryd.underlying182
  a49 := Tryd.isAgg182
  z49 := Tryd.sizeOf182
  v49 := Tryd.zeroValue182
  t193 := Tryd.underlying178
  a193 := Tryd.isAgg178
  z193 := Tryd.sizeOf178
  v193 := Tryd.zeroValue178
  t198 := Tryd.underlying184
  a198 := Tryd.isAgg184
  z198 := Tryd.sizeOf184
  v198 := Tryd.zeroValue184
  t226 := Tryd.underlying191
  a226 := Tryd.isAgg191
  z226 := Tryd.sizeOf191
  v226 := Tryd.zeroValue191 }
open Go.RowKit Go.Lib in
theorem Tryd.unicode_is16_white (R oR : Nat) (z : Nat) (w : World) (hz : z < 65536) (hz0 : 255 < z) (c6 : w.cell? ⟨R, oR + 6, none⟩ = some (.int .u16 160)) (c7 : w.cell? ⟨R, oR + 7, none⟩ = some (.int .u16 5760)) (c8 : w.cell? ⟨R, oR + 8, none⟩ = some (.int .u16 5600)) (c9 : w.cell? ⟨R, oR + 9, none⟩ = some (.int .u16 8192)) (c10 : w.cell? ⟨R, oR + 10, none⟩ = some (.int .u16 8202)) (c11 : w.cell? ⟨R, oR + 11, none⟩ = some (.int .u16 1)) (c12 : w.cell? ⟨R, oR + 12, none⟩ = some (.int .u16 8232)) (c13 : w.cell? ⟨R, oR + 13, none⟩ = some (.int .u16 8233)) (c14 : w.cell? ⟨R, oR + 14, none⟩ = some (.int .u16 1)) (c15 : w.cell? ⟨R, oR + 15, none⟩ = some (.int .u16 8239)) (c16 : w.cell? ⟨R, oR + 16, none⟩ = some (.int .u16 8287)) (c17 : w.cell? ⟨R, oR + 17, none⟩ = some (.int .u16 48)) (c18 : w.cell? ⟨R, oR + 18, none⟩ = some (.int .u16 12288)) (c19 : w.cell? ⟨R, oR + 19, none⟩ = some (.int .u16 12288)) (c20 : w.cell? ⟨R, oR + 20, none⟩ = some (.int .u16 1)) :
    Calls Tryd.prog 129 #[.slice (some ⟨R, oR + 6, none⟩) 5 5, .int .u16 z] w fun e w' => e = .returned (.bool (Lib.isSpaceR z)) ∧ Below w.heap.size w w' := Any.unicode_is16_white Tryd.lays311 R oR z w hz hz0 c6 c7 c8 c9 c10 c11 c12 c13 c14 c15 c16 c17 c18 c19 c20
def Tryd.lays261_ren : Go.Shelf.Ren := ⟨fun | 261 => 117 | 311 => 129 | 312 => 130 | n => n, fun | 141 => 168 | 21 => 21 | 4 => 4 | 0 => 0 | 196 => 181 | 193 => 178 | 3 => 3 | 51 => 166 | 198 => 184 | 49 => 182 | 194 => 179 | 201 => 187 | 226 => 191 | 46 => 112 | 227 => 192 | n => n, fun | n => n⟩
theorem Tryd.lays261 : Go.Proofs.Lays.n261 Tryd.prog Tryd.lays261_ren := {
  mixed := by kernel_rfl
  f261 := Tryd.func117.trans (congrArg some (by kernel_rfl))
  f311 := Tryd.func129.trans (congrArg some (by kernel_rfl))
  f312 := Tryd.func130.trans (congrArg some (by kernel_rfl))
  t0 := Tryd.underlying0
  a0 := Tryd.isAgg0
  z0 := Tryd.sizeOf0
  v0 := Tryd.zeroValue0
  t3 := Tryd.underlying3
  a3 := Tryd.isAgg3
  z3 := Tryd.sizeOf3
  v3 := Tryd.zeroValue3
  t4 := Tryd.underlying4
  a4 := Tryd.isAgg4
  z4 := Tryd.sizeOf4
  v4 := Tryd.zeroValue4
  t21 := Tryd.underlying21
  a21 := Tryd.isAgg21
  z21 := Tryd.sizeOf21
  v21 := Tryd.zeroValue21
  t46 := Tryd.underlying112
  a46 := Tryd.isAgg112
  z46 := Tryd.sizeOf112
  v46 := Tryd.zeroValue112
  t49 := Tryd.underlying182
  a49 := Tryd.isAgg182
  z49 := Tryd.sizeOf182
  v49 := Tryd.zeroValue182
  t51 := Tryd.underlying166
  a51 := Tryd.isAgg166
  z51 := Tryd.sizeOf166
  v51 := Tryd.zeroValue166
  t141 := Tryd.underlying168
  a141 := Tryd.isAgg168
  z141 := Tryd.sizeOf168
  v141 := Tryd.zeroValue168
  t193 := Tryd.underlying178
  a193 := Tryd.isAgg178
  z193 := Tryd.sizeOf178
  v193 := Tryd.zeroValue178
  t194 := Tryd.underlying179
  a194 := Tryd.isAgg179
  z194 := Tryd.sizeOf179
  v194 := Tryd.zeroValue179
  t196 := Tryd.underlying181
  a196 := Tryd.isAgg181
  z196 := Tryd.sizeOf181
  v196 := Tryd.zeroValue181
  t198 := Tryd.underlying184
  a198 := Tryd.isAgg184
  z198 := Tryd.sizeOf184
  v198 := Tryd.zeroValue184
  t201 := Tryd.underlying187
  a201 := Tryd.isAgg187
  z201 := Tryd.sizeOf187
  v201 := Tryd.zeroValue187
  t226 := Tryd.underlying191
  a226 := Tryd.isAgg191
  z226 := Tryd.sizeOf191
  v226 := Tryd.zeroValue191
  t227 := Tryd.underlying192
  a227 := Tryd.isAgg192
  z227 := Tryd.sizeOf192
  v227 := Tryd.zeroValue192 }
open Go.RowKit Go.Lib in
/-- unicode.isExcludingLatin(White_Space, r), r beyond U+00FF or negative. (LAID: no walk: one application.) -/
theorem Tryd.unicode_isExcludingLatin_white (T oT R oR : Nat) (r : Int) (w : World) (hlo : -2147483648 ≤ r) (hhi : r ≤ 2147483647) (hr : r < 0 ∨ 255 < r) (h2 : w.cell? ⟨T, oT, none⟩ = some (.slice (some ⟨R, oR, none⟩) 7 7)) (h3 : w.cell? ⟨T, oT + 1, none⟩ = some (.slice none 0 0)) (h4 : w.cell? ⟨T, oT + 2, none⟩ = some (.int .i64 2)) (h5 : ∀ i, i < 21 → w.cell? ⟨R, oR + i, none⟩ = some (.int .u16 (whiteT.getD i 0))) :
    Calls Tryd.prog 117 #[.pointer (some ⟨T, oT, none⟩), .int .i32 r] w fun e w' => e = .returned (.bool (Lib.isSpaceZ r)) ∧ Below w.heap.size w w' := Any.unicode_isExcludingLatin_white Tryd.lays261 T oT R oR r w hlo hhi hr h2 h3 h4 h5
open Go.RowKit Go.Lib in
/-- **unicode.IsSpace AT EVERY int32.** (LAID: no walk: one application.) -/
theorem Tryd.unicode_IsSpace_any (r : Int) (w : World) (hlo : -2147483648 ≤ r) (hhi : r ≤ 2147483647) (hW : Lib.WhiteTab 6 w) :
    Calls Tryd.prog 106 #[.int .i32 r] w fun e w' => e = .returned (.bool (Lib.isSpaceZ r)) ∧ Below w.heap.size w w' := Any.unicode_IsSpace_any Tryd.lays199 r w hlo hhi hW
open Go.RowKit Go.Lib in
theorem Tryd.unicode_is16_any (T : Array Rg) (R oR cap : Nat) (z : Nat) (w : World) (hz : z < 65536) (hT : RgTab .u16 R oR T w) (hok : RgOk 65536 T) (hn : T.size ≤ 1000000000) :
    Calls Tryd.prog 129 #[.slice (some ⟨R, oR, none⟩) T.size cap, .int .u16 z] w fun e w' => e = .returned (.bool (is16Go T z)) ∧ ∃ q, w' = w.drewN q := Any.unicode_is16_any Tryd.lays311 T R oR cap z w hz hT hok hn
def Tryd.lays312_ren : Go.Shelf.Ren := ⟨fun | 312 => 130 | n => n, fun | 194 => 179 | 51 => 166 | 4 => 4 | 3 => 3 | 0 => 0 | 227 => 192 | 201 => 187 | 46 => 112 | n => n, fun | n => n⟩
theorem Tryd.lays312 : Go.Proofs.Lays.n312 Tryd.prog Tryd.lays312_ren := {
  mixed := by kernel_rfl
  f312 := Tryd.func130.trans (congrArg some (by kernel_rfl))
  t0 := Tryd.underlying0
  a0 := Tryd.isAgg0
  z0 := Tryd.sizeOf0
  v0 := Tryd.zeroValue0
  t3 := Tryd.underlying3
  a3 := Tryd.isAgg3
  z3 := Tryd.sizeOf3
  v3 := Tryd.zeroValue3
  t4 := Tryd.underlying4
  a4 := Tryd.isAgg4
  z4 := Tryd.sizeOf4
  v4 := Tryd.zeroValue4
  t46 := Tryd.underlying112
  a46 := Tryd.isAgg112
  z46 := Tryd.sizeOf112
  v46 := Tryd.zeroValue112
  t51 := Tryd.underlying166
  a51 := Tryd.isAgg166
  z51 := Tryd.sizeOf166
  v51 := Tryd.zeroValue166
  t194 := Tryd.underlying179
  a194 := Tryd.isAgg179
  z194 := Tryd.sizeOf179
  v194 := Tryd.zeroValue179
  t201 := Tryd.underlying187
  a201 := Tryd.isAgg187
  z201 := Tryd.sizeOf187
  v201 := Tryd.zeroValue187
  t227 := Tryd.underlying192
  a227 := Tryd.isAgg192
  z227 := Tryd.sizeOf192
  v227 := Tryd.zeroValue192 }
open Go.RowKit Go.Lib in
theorem Tryd.unicode_is32_any (T : Array Rg) (R oR cap : Nat) (z : Nat) (w : World) (hz : z < 4294967296) (hT : RgTab .u32 R oR T w) (hok : RgOk 4294967296 T) (hn : T.size ≤ 1000000000) :
    Calls Tryd.prog 130 #[.slice (some ⟨R, oR, none⟩) T.size cap, .int .u32 z] w fun e w' => e = .returned (.bool (is32Go T z)) ∧ Below w.heap.size w w' := Any.unicode_is32_any Tryd.lays312 T R oR cap z w hz hT hok hn
open Go.RowKit Go.Lib in
theorem Tryd.unicode_isExcludingLatin_any (Tb oT : Nat) (T : RTab) (r : Int) (w : World) (hlo : -2147483648 ≤ r) (hhi : r ≤ 2147483647) (hA : RTabAt Tb oT T w) (hok : RTabOk T) :
    Calls Tryd.prog 117 #[.pointer (some ⟨Tb, oT, none⟩), .int .i32 r] w fun e w' => e = .returned (.bool (exclGo T r)) ∧ Below w.heap.size w w' := Any.unicode_isExcludingLatin_any Tryd.lays261 Tb oT T r w hlo hhi hA hok
end Go.Proofs
