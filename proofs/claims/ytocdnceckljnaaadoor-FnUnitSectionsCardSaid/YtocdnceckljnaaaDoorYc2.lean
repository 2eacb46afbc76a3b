/- The texts Shelf, Ua, Ub, Uc, Ud, Ue, Uf, Ug, Uh, Ui, Uo, Ur, without what the claims do not use, laid together by a program of this session (wip/tools/bundle.py). Conditions: those of each theorem. -/
import Derived.Test.YtocdnceckljnaaaDoorYc1
import Derived.Shelf.Strings.TrimSpace
import Derived.Shelf.Small.Utf8
import Derived.Shelf.Small.Strs
import Derived.Shelf.Strings.Search1
import Derived.Shelf.Strings.Prefix
import Derived.Shelf.Unicode.DecodeSlow
import Derived.Shelf.Bytes.SlSmallAll
import Derived.Shelf.Bytes.Small
import Derived.Shelf.Bytes.TrimSpace
import Derived.Test.YtocdnceckljnaaaDoorProg
import Derived.Below
import Derived.Deep.Draws
import Derived.Deep.AppendLies
import Derived.Maps.AppendAt
import Derived.OwnWalk
import Derived.Laws.BytesArg
import Derived.Laws.MakeOwn
import Derived.Laws.OwnMore
import Derived.Deep.OwnRows
import Derived.Tactics
import Derived.Lib.ConvBytes
import Derived.Laws.Slices
import Derived.WalkKit
import Derived.KernelRfl
import Derived.RowKit3
import Derived.Deep.LoopGhost
import Derived.Deep.QuietTactic
import Derived.BigQuiet
import Derived.BigRegion
import Derived.WideLaws
import Derived.Deep.DeepCutAuto
import Derived.Deep.CutBlock
import Derived.Deep.RegionHeld3
import Derived.Laws.Rows
import Derived.Lib.AppendStr
import Derived.ArgAppend
import Derived.Laws.IdiomCopy
import Derived.OrdersHeld
import Derived.Laws.BitsLemmas
import Derived.RowKit
import Derived.Lib.SlBytesConst
import Derived.Lib.Strings
import Derived.Defers
import Derived.RegionTactic
namespace Go.Proofs
open Go.Shelf
def Tryd.lays163_ren : Go.Shelf.Ren := ⟨fun | 163 => 119 | 237 => 131 | 199 => 106 | 238 => 132 | 272 => 139 | 261 => 117 | 273 => 140 | 197 => 91 | 315 => 143 | 311 => 129 | 312 => 130 | 271 => 144 | 260 => 99 | 120 => 142 | n => n, fun | 9 => 9 | 37 => 33 | 3 => 3 | 0 => 0 | 5 => 5 | 4 => 4 | 40 => 136 | 119 => 154 | 21 => 21 | 51 => 166 | 141 => 168 | 105 => 144 | 196 => 181 | 193 => 178 | 198 => 184 | 49 => 182 | 194 => 179 | 201 => 187 | 226 => 191 | 46 => 112 | 227 => 192 | 139 => 157 | 138 => 156 | n => n, fun | 0 => 8 | 6 => 6 | 3 => 3 | 4 => 4 | n => n⟩
theorem Tryd.lays163 : Go.Proofs.Lays.n163 Tryd.prog Tryd.lays163_ren := {
  mixed := by kernel_rfl
  f120 := Tryd.func142.trans (congrArg some (by kernel_rfl))
  f163 := Tryd.func119.trans (congrArg some (by kernel_rfl))
  f197 := Tryd.func91.trans (congrArg some (by kernel_rfl))
  f199 := Tryd.func106.trans (congrArg some (by kernel_rfl))
  f237 := Tryd.func131.trans (congrArg some (by kernel_rfl))
  f238 := Tryd.func132.trans (congrArg some (by kernel_rfl))
  f260 := Tryd.func99.trans (congrArg some (by kernel_rfl))
  f261 := Tryd.func117.trans (congrArg some (by kernel_rfl))
  f271 := Tryd.func144.trans (congrArg some (by kernel_rfl))
  f272 := Tryd.func139.trans (congrArg some (by kernel_rfl))
  f273 := Tryd.func140.trans (congrArg some (by kernel_rfl))
  f311 := Tryd.func129.trans (congrArg some (by kernel_rfl))
  f312 := Tryd.func130.trans (congrArg some (by kernel_rfl))
  f315 := Tryd.func143.trans (congrArg some (by kernel_rfl))
  t0 := Tryd.underlying0
  a0 := Tryd.isAgg0
  z0 := Tryd.sizeOf0
  v0 := Tryd.zeroValue0
  t3 := Tryd.underlying3
  a3 := Tryd.isAgg3
  z3 := Tryd.sizeOf3
  v3 := Tryd.zeroValue3
  t4 := Tryd.underlying4
  a4 := Tryd.isAgg4
  z4 := Tryd.sizeOf4
  v4 := Tryd.zeroValue4
  t5 := Tryd.underlying5
  a5 := Tryd.isAgg5
  z5 := Tryd.sizeOf5
  v5 := Tryd.zeroValue5
  t9 := Tryd.underlying9
  a9 := Tryd.isAgg9
  z9 := Tryd.sizeOf9
  v9 := Tryd.zeroValue9
  t21 := Tryd.underlying21
  a21 := Tryd.isAgg21
  z21 := Tryd.sizeOf21
  v21 := Tryd.zeroValue21
  t37 := Tryd.underlying33
  a37 := Tryd.isAgg33
  z37 := Tryd.sizeOf33
  v37 := Tryd.zeroValue33
  t40 := Tryd.underlying136
  a40 := Tryd.isAgg136
  z40 := Tryd.sizeOf136
  v40 := Tryd.zeroValue136
  t46 := Tryd.underlying112
  a46 := Tryd.isAgg112
  z46 := Tryd.sizeOf112
  v46 := Tryd.zeroValue112
  t49 := Tryd.underlying182
  a49 := Tryd.isAgg182
  z49 := Tryd.sizeOf182
  v49 := Tryd.zeroValue182
  t51 := Tryd.underlying166
  a51 := Tryd.isAgg166
  z51 := Tryd.sizeOf166
  v51 := Tryd.zeroValue166
  t105 := Tryd.underlying144
  a105 := Tryd.isAgg144
  z105 := Tryd.sizeOf144
  v105 := Tryd.zeroValue144
  t119 := Tryd.underlying154
  a119 := Tryd.isAgg154
  z119 := Tryd.sizeOf154
  t138 := Tryd.underlying156
  a138 := Tryd.isAgg156
  z138 := Tryd.sizeOf156
  v138 := Tryd.zeroValue156
  t139 := Tryd.underlying157
  a139 := Tryd.isAgg157
  z139 := Tryd.sizeOf157
  v139 := Tryd.zeroValue157
  t141 := Tryd.underlying168
  a141 := Tryd.isAgg168
  z141 := Tryd.sizeOf168
  v141 := Tryd.zeroValue168
  t193 := Tryd.underlying178
  a193 := Tryd.isAgg178
  z193 := Tryd.sizeOf178
  v193 := Tryd.zeroValue178
  t194 := Tryd.underlying179
  a194 := Tryd.isAgg179
  z194 := Tryd.sizeOf179
  v194 := Tryd.zeroValue179
  t196 := Tryd.underlying181
  a196 := Tryd.isAgg181
  z196 := Tryd.sizeOf181
  v196 := Tryd.zeroValue181
  t198 := Tryd.underlying184
  a198 := Tryd.isAgg184
  z198 := Tryd.sizeOf184
  v198 := Tryd.zeroValue184
  t201 := Tryd.underlying187
  a201 := Tryd.isAgg187
  z201 := Tryd.sizeOf187
  v201 := Tryd.zeroValue187
  t226 := Tryd.underlying191
  a226 := Tryd.isAgg191
  z226 := Tryd.sizeOf191
  v226 := Tryd.zeroValue191
  t227 := Tryd.underlying192
  a227 := Tryd.isAgg192
  z227 := Tryd.sizeOf192
  v227 := Tryd.zeroValue192
  g0 := by kernel_rfl
  g3 := by kernel_rfl
  g4 := by kernel_rfl
  g6 := by kernel_rfl }
theorem Tryd.Space_Extra_163 : Space.Extra Tryd.prog Tryd.lays163_ren := {
  gNamed := by kernel_rfl }
open Go.RowKit in
theorem Tryd.strings_TrimSpace (s : ByteArray) (w : World) (hs : s.size ≤ 9223372036854775807) (hascii : ∀ (j : Nat) b, s.data.toList[j]? = some b → b.toNat < 128) (htab : Lib.TabIs Tryd.prog w "strings.asciiSpace" .u8 Lib.asciiSpaceTab) :
    Calls Tryd.prog 119 #[.string s] w fun e w' => e = .returned (.string ⟨(Lib.trimSpace s.data.toList).toArray⟩) ∧ w' = Lib.bytesWorld w 5 s := Any.strings_TrimSpace Tryd.lays163 Tryd.Space_Extra_163 s w hs hascii htab
def Tryd.lays100_ren : Go.Shelf.Ren := ⟨fun | 100 => 134 | 207 => 141 | n => n, fun | 9 => 9 | 4 => 4 | 3 => 3 | n => n, fun | n => n⟩
theorem Tryd.lays100 : Go.Proofs.Lays.n100 Tryd.prog Tryd.lays100_ren := {
  mixed := by kernel_rfl
  f100 := Tryd.func134.trans (congrArg some (by kernel_rfl))
  f207 := Tryd.func141.trans (congrArg some (by kernel_rfl))
  t3 := Tryd.underlying3
  a3 := Tryd.isAgg3
  z3 := Tryd.sizeOf3
  v3 := Tryd.zeroValue3
  t4 := Tryd.underlying4
  a4 := Tryd.isAgg4
  z4 := Tryd.sizeOf4
  v4 := Tryd.zeroValue4
  t9 := Tryd.underlying9
  a9 := Tryd.isAgg9
  z9 := Tryd.sizeOf9
  v9 := Tryd.zeroValue9 }
open Go.RowKit Go.Lib in
theorem Tryd.strings_HasSuffix (s p : ByteArray) (w : World) (hs : s.size ≤ 9223372036854775807) :
    Calls Tryd.prog 134 #[.string s, .string p] w fun e w' => e = .returned (.bool (Lib.hasSuffix s.data.toList p.data.toList)) ∧ w' = w := Any.strings_HasSuffix Tryd.lays100 s p w hs
def Tryd.laysnb117_ren : Go.Shelf.Ren := ⟨fun | 117 => 97 | 115 => 103 | n => n, fun | 37 => 33 | 4 => 4 | 3 => 3 | 9 => 9 | 5 => 5 | n => n, fun | n => n⟩
theorem Tryd.laysnb117 : Go.Proofs.Lays.nb117 Tryd.prog Tryd.laysnb117_ren := {
  mixed := by kernel_rfl
  f115 := Tryd.func103.trans (congrArg some (by kernel_rfl))
  f117 := Tryd.func97.trans (congrArg some (by kernel_rfl))
  t3 := Tryd.underlying3
  a3 := Tryd.isAgg3
  z3 := Tryd.sizeOf3
  v3 := Tryd.zeroValue3
  t4 := Tryd.underlying4
  a4 := Tryd.isAgg4
  z4 := Tryd.sizeOf4
  v4 := Tryd.zeroValue4
  t9 := Tryd.underlying9
  a9 := Tryd.isAgg9
  z9 := Tryd.sizeOf9
  v9 := Tryd.zeroValue9
  t37 := Tryd.underlying33
  a37 := Tryd.isAgg33
  z37 := Tryd.sizeOf33
  v37 := Tryd.zeroValue33
  t5 := Tryd.underlying5
  a5 := Tryd.isAgg5
  z5 := Tryd.sizeOf5
  v5 := Tryd.zeroValue5 }
def Tryd.laysnb140_ren : Go.Shelf.Ren := ⟨fun | 140 => 96 | 117 => 97 | 115 => 103 | n => n, fun | 37 => 33 | 4 => 4 | 3 => 3 | 9 => 9 | 5 => 5 | n => n, fun | n => n⟩
theorem Tryd.laysnb140 : Go.Proofs.Lays.nb140 Tryd.prog Tryd.laysnb140_ren := {
  mixed := by kernel_rfl
  f115 := Tryd.func103.trans (congrArg some (by kernel_rfl))
  f117 := Tryd.func97.trans (congrArg some (by kernel_rfl))
  f140 := Tryd.func96.trans (congrArg some (by kernel_rfl))
  t3 := Tryd.underlying3
  a3 := Tryd.isAgg3
  z3 := Tryd.sizeOf3
  v3 := Tryd.zeroValue3
  t4 := Tryd.underlying4
  a4 := Tryd.isAgg4
  z4 := Tryd.sizeOf4
  v4 := Tryd.zeroValue4
  t9 := Tryd.underlying9
  a9 := Tryd.isAgg9
  z9 := Tryd.sizeOf9
  v9 := Tryd.zeroValue9
  t37 := Tryd.underlying33
  a37 := Tryd.isAgg33
  z37 := Tryd.sizeOf33
  v37 := Tryd.zeroValue33
  t5 := Tryd.underlying5
  a5 := Tryd.isAgg5
  z5 := Tryd.sizeOf5
  v5 := Tryd.zeroValue5 }
theorem Tryd.bytes_HasSuffix_all (p1 p2 : Option Addr) (n c m d : Nat) (xs ys : List Int) (w : World) (hx : xs.length = n) (hy : ys.length = m) (hnc : n ≤ c) (hbig : n ≤ 9223372036854775807) (h1 : Lib.BytesIn w p1 n xs) (h2 : Lib.BytesIn w p2 m ys) :
    Calls Tryd.prog 97 #[.slice p1 n c, .slice p2 m d] w fun e w' => e = .returned (.bool (Lib.hasSuffix (Lib.bytesOf xs) (Lib.bytesOf ys))) ∧ w' = w := Any.bytes_HasSuffix_all Tryd.laysnb117 p1 p2 n c m d xs ys w hx hy hnc hbig h1 h2
theorem Tryd.bytes_TrimSuffix_all (p1 p2 : Option Addr) (n c m d : Nat) (xs ys : List Int) (w : World) (hx : xs.length = n) (hy : ys.length = m) (hnc : n ≤ c) (hbig : n ≤ 9223372036854775807) (h1 : Lib.BytesIn w p1 n xs) (h2 : Lib.BytesIn w p2 m ys) :
    Calls Tryd.prog 96 #[.slice p1 n c, .slice p2 m d] w fun e w' => e = .returned (Lib.trimSuffixV p1 n c xs ys) ∧ w' = w := Any.bytes_TrimSuffix_all Tryd.laysnb140 p1 p2 n c m d xs ys w hx hy hnc hbig h1 h2
def Tryd.laysbs188_ren : Go.Shelf.Ren := ⟨fun | 188 => 101 | 256 => 105 | 199 => 106 | 293 => 116 | 292 => 115 | 261 => 117 | 327 => 128 | 325 => 126 | 326 => 127 | 311 => 129 | 312 => 130 | 341 => 137 | 342 => 138 | 120 => 142 | n => n, fun | 37 => 33 | 3 => 3 | 0 => 0 | 5 => 5 | 4 => 4 | 40 => 136 | 119 => 154 | 21 => 21 | 51 => 166 | 141 => 168 | 105 => 144 | 196 => 181 | 193 => 178 | 198 => 184 | 49 => 182 | 194 => 179 | 201 => 187 | 226 => 191 | 46 => 112 | 227 => 192 | 139 => 157 | 138 => 156 | n => n, fun | 2 => 5 | 6 => 6 | 3 => 3 | 4 => 4 | n => n⟩
theorem Tryd.laysbs188 : Go.Proofs.Lays.nbs188 Tryd.prog Tryd.laysbs188_ren := {
  mixed := by kernel_rfl
  f120 := Tryd.func142.trans (congrArg some (by kernel_rfl))
  f188 := Tryd.func101.trans (congrArg some (by kernel_rfl))
  f199 := Tryd.func106.trans (congrArg some (by kernel_rfl))
  f256 := Tryd.func105.trans (congrArg some (by kernel_rfl))
  f261 := Tryd.func117.trans (congrArg some (by kernel_rfl))
  f292 := Tryd.func115.trans (congrArg some (by kernel_rfl))
  f293 := Tryd.func116.trans (congrArg some (by kernel_rfl))
  f311 := Tryd.func129.trans (congrArg some (by kernel_rfl))
  f312 := Tryd.func130.trans (congrArg some (by kernel_rfl))
  f325 := Tryd.func126.trans (congrArg some (by kernel_rfl))
  f326 := Tryd.func127.trans (congrArg some (by kernel_rfl))
  f327 := Tryd.func128.trans (congrArg some (by kernel_rfl))
  f341 := Tryd.func137.trans (congrArg some (by kernel_rfl))
  f342 := Tryd.func138.trans (congrArg some (by kernel_rfl))
  t0 := Tryd.underlying0
  a0 := Tryd.isAgg0
  z0 := Tryd.sizeOf0
  v0 := Tryd.zeroValue0
  t3 := Tryd.underlying3
  a3 := Tryd.isAgg3
  z3 := Tryd.sizeOf3
  v3 := Tryd.zeroValue3
  t4 := Tryd.underlying4
  a4 := Tryd.isAgg4
  z4 := Tryd.sizeOf4
  v4 := Tryd.zeroValue4
  t5 := Tryd.underlying5
  a5 := Tryd.isAgg5
  z5 := Tryd.sizeOf5
  v5 := Tryd.zeroValue5
  t21 := Tryd.underlying21
  a21 := Tryd.isAgg21
  z21 := Tryd.sizeOf21
  v21 := Tryd.zeroValue21
  t37 := Tryd.underlying33
  a37 := Tryd.isAgg33
  z37 := Tryd.sizeOf33
  v37 := Tryd.zeroValue33
  t40 := Tryd.underlying136
  a40 := Tryd.isAgg136
  z40 := Tryd.sizeOf136
  v40 := Tryd.zeroValue136
  t46 := Tryd.underlying112
  a46 := Tryd.isAgg112
  z46 := Tryd.sizeOf112
  v46 := Tryd.zeroValue112
  t49 := Tryd.underlying182
  a49 := Tryd.isAgg182
  z49 := Tryd.sizeOf182
  v49 := Tryd.zeroValue182
  t51 := Tryd.underlying166
  a51 := Tryd.isAgg166
  z51 := Tryd.sizeOf166
  v51 := Tryd.zeroValue166
  t105 := Tryd.underlying144
  a105 := Tryd.isAgg144
  z105 := Tryd.sizeOf144
  v105 := Tryd.zeroValue144
  t119 := Tryd.underlying154
  a119 := Tryd.isAgg154
  z119 := Tryd.sizeOf154
  t138 := Tryd.underlying156
  a138 := Tryd.isAgg156
  z138 := Tryd.sizeOf156
  v138 := Tryd.zeroValue156
  t139 := Tryd.underlying157
  a139 := Tryd.isAgg157
  z139 := Tryd.sizeOf157
  v139 := Tryd.zeroValue157
  t141 := Tryd.underlying168
  a141 := Tryd.isAgg168
  z141 := Tryd.sizeOf168
  v141 := Tryd.zeroValue168
  t193 := Tryd.underlying178
  a193 := Tryd.isAgg178
  z193 := Tryd.sizeOf178
  v193 := Tryd.zeroValue178
  t194 := Tryd.underlying179
  a194 := Tryd.isAgg179
  z194 := Tryd.sizeOf179
  v194 := Tryd.zeroValue179
  t196 := Tryd.underlying181
  a196 := Tryd.isAgg181
  z196 := Tryd.sizeOf181
  v196 := Tryd.zeroValue181
  t198 := Tryd.underlying184
  a198 := Tryd.isAgg184
  z198 := Tryd.sizeOf184
  v198 := Tryd.zeroValue184
  t201 := Tryd.underlying187
  a201 := Tryd.isAgg187
  z201 := Tryd.sizeOf187
  v201 := Tryd.zeroValue187
  t226 := Tryd.underlying191
  a226 := Tryd.isAgg191
  z226 := Tryd.sizeOf191
  v226 := Tryd.zeroValue191
  t227 := Tryd.underlying192
  a227 := Tryd.isAgg192
  z227 := Tryd.sizeOf192
  v227 := Tryd.zeroValue192
  g2 := by kernel_rfl
  g3 := by kernel_rfl
  g4 := by kernel_rfl
  g6 := by kernel_rfl
  gNamed := by kernel_rfl }
open Go.RowKit in
theorem Tryd.bytes_TrimSpace (b o n c : Nat) (xs : List Int) (w : World) (hx : xs.length = n) (hnc : n ≤ c) (hbig : n ≤ 9223372036854775807) (hc : ∀ i, i < n → w.cell? ⟨b, o + i, none⟩ = some (.int .u8 (xs.getD i 0))) (hascii : ∀ i, i < n → 0 ≤ xs.getD i 0 ∧ xs.getD i 0 < 128) (htab : Lib.TabIs Tryd.prog w "bytes.asciiSpace" .u8 Lib.asciiSpaceTab) :
    Calls Tryd.prog 101 #[.slice (some ⟨b, o, none⟩) n c] w fun e w' => e = .returned (Lib.bytesTrimSpace b o c (Lib.bytesOf xs)) ∧ w' = w := Any.bytes_TrimSpace Tryd.laysbs188 b o n c xs w hx hnc hbig hc hascii htab
end Go.Proofs
namespace Go.Proofs.YtocdnceckljnaaaDoor.U
open Go.RowKit Go.Proofs.YtocdnceckljnaaaDoorW.PrintWords Go.Proofs.YtocdnceckljnaaaDoorW.PrintLast Go.Proofs.YtocdnceckljnaaaDoorW.PrintMore
attribute [local go_sem] min2_int min_two
set_option linter.unusedVariables false
set_option linter.unusedSimpArgs false
structure Turned (W W' : World) (S : Nat → Prop) : Prop where
  os : W'.os = W.os
  tape : W'.tape = W.tape
  output : W'.output = W.output
  kept : Kept W W' S
namespace Turned
variable {W W1 W2 : World} {S S2 : Nat → Prop}
theorem refl (W : World) (S : Nat → Prop) : Turned W W S := ⟨rfl, rfl, rfl, Kept.refl W S⟩
theorem trans (h : Turned W W1 S) (k : Turned W1 W2 S) : Turned W W2 S := ⟨k.os.trans h.os, k.tape.trans h.tape, k.output.trans h.output, h.kept.then_ k.kept (fun _ h => .inl h)⟩
theorem then_ (h : Turned W W1 S) (k : Turned W1 W2 S2) (hs : ∀ k, S2 k → S k ∨ W.heap.size ≤ k) : Turned W W2 S := ⟨k.os.trans h.os, k.tape.trans h.tape, k.output.trans h.output, h.kept.then_ k.kept hs⟩
theorem mono (h : Turned W W1 S) (hs : ∀ k, S k → S2 k) : Turned W W1 S2 := ⟨h.os, h.tape, h.output, h.kept.mono hs⟩
theorem of_below (h : Below W.heap.size W W1) (S : Nat → Prop) : Turned W W1 S := ⟨h.os, h.tape, h.output, Kept.of_below h S⟩
theorem below (h : Turned W W1 S) (hb : Below W1.heap.size W1 W2) : Turned W W2 S := h.then_ (of_below hb (fun _ => False)) (fun _ hk => hk.elim)
theorem alloc (h : Turned W W1 S) (o : Obj) : Turned W (W1.alloc o) S := h.below (below_alloc (Below.refl _ _) o)
theorem drew (h : Turned W W1 S) : Turned W W1.drew S := ⟨h.os, h.tape, h.output, h.kept⟩
theorem drewN (h : Turned W W1 S) (m : Nat) : Turned W (W1.drewN m) S := ⟨h.os, h.tape, h.output, h.kept⟩
theorem setCell (h : Turned W W1 S) {p : Addr} (hp : S p.block ∨ W.heap.size ≤ p.block) (u : Value) : Turned W (W1.setCell p u) S := ⟨h.os, h.tape, h.output, h.kept.setCell hp u⟩
theorem size (h : Turned W W1 S) : W.heap.size ≤ W1.heap.size := h.kept.1
theorem blk (h : Turned W W1 S) {g : Nat} {o : Obj} (hb : W.heap[g]? = some o) (hn : ¬ S g) : W1.heap[g]? = some o := blk_kept hb h.kept hn
theorem cell (h : Turned W W1 S) {a : Addr} {v : Value} (hb : W.cell? a = some v) (hn : ¬ S a.block) : W1.cell? a = some v := cell_kept hb h.kept hn
theorem over {w0 : World} (h : Turned W W1 S) (hb : Below w0.heap.size w0 W) (hs : ∀ k, S k → w0.heap.size ≤ k) : Below w0.heap.size w0 W1 :=
  ⟨h.os.trans hb.os, h.tape.trans hb.tape, h.output.trans hb.output, Nat.le_trans hb.size h.size, fun i hi => (h.kept.2 i (Nat.lt_of_lt_of_le hi hb.size) (fun hk => by have := hs i hk; omega)).trans (hb.block i hi)⟩
end Turned
structure BufAt (W : World) (g : Nat) (T : ByteArray) (r wd : Nat) (last : Int) (done : Bool) : Prop where
  blk : W.heap[g]? = some (.cells #[.string T, .int .i64 r, .int .i64 wd, .int .i64 last, .bool done] 114 (0, 0))
  le : r ≤ wd
  lew : wd ≤ T.size
  big : T.size ≤ 4611686018427387904
namespace BufAt
variable {W W1 : World} {g : Nat} {T : ByteArray} {r wd : Nat} {last : Int} {done : Bool}
theorem c0 (h : BufAt W g T r wd last done) : W.cell? ⟨g, 0, none⟩ = some (.string T) := by rw [blk_cell h.blk]; rfl
theorem c1 (h : BufAt W g T r wd last done) : W.cell? ⟨g, 1, none⟩ = some (.int .i64 r) := by rw [blk_cell h.blk]; rfl
theorem c2 (h : BufAt W g T r wd last done) : W.cell? ⟨g, 2, none⟩ = some (.int .i64 wd) := by rw [blk_cell h.blk]; rfl
theorem c3 (h : BufAt W g T r wd last done) : W.cell? ⟨g, 3, none⟩ = some (.int .i64 last) := by rw [blk_cell h.blk]; rfl
theorem c4 (h : BufAt W g T r wd last done) : W.cell? ⟨g, 4, none⟩ = some (.bool done) := by rw [blk_cell h.blk]; rfl
theorem drewN (h : BufAt W g T r wd last done) (m : Nat) : BufAt (W.drewN m) g T r wd last done := ⟨h.blk, h.le, h.lew, h.big⟩
theorem drew (h : BufAt W g T r wd last done) : BufAt W.drew g T r wd last done := ⟨h.blk, h.le, h.lew, h.big⟩
theorem set1 (h : BufAt W g T r wd last done) (k : Nat) (hk : k ≤ wd) : BufAt (W.setCell ⟨g, 1, none⟩ (.int .i64 k)) g T k wd last done := ⟨by rw [blk_set h.blk]; rfl, hk, h.lew, h.big⟩
theorem set2 (h : BufAt W g T r wd last done) (k : Nat) (hk : r ≤ k) (hl : k ≤ T.size) : BufAt (W.setCell ⟨g, 2, none⟩ (.int .i64 k)) g T r k last done := ⟨by rw [blk_set h.blk]; rfl, hk, hl, h.big⟩
theorem set3 (h : BufAt W g T r wd last done) (k : Int) : BufAt (W.setCell ⟨g, 3, none⟩ (.int .i64 k)) g T r wd k done := ⟨by rw [blk_set h.blk]; rfl, h.le, h.lew, h.big⟩
theorem set4 (h : BufAt W g T r wd last done) (b : Bool) : BufAt (W.setCell ⟨g, 4, none⟩ (.bool b)) g T r wd last b := ⟨by rw [blk_set h.blk]; rfl, h.le, h.lew, h.big⟩
theorem below (h : BufAt W g T r wd last done) (hb : Below W.heap.size W W1) : BufAt W1 g T r wd last done := ⟨(hb.block g (blk_lt h.blk)).trans h.blk, h.le, h.lew, h.big⟩
theorem turned {S : Nat → Prop} (h : BufAt W g T r wd last done) (ht : Turned W W1 S) (hn : ¬ S g) : BufAt W1 g T r wd last done := ⟨ht.blk h.blk hn, h.le, h.lew, h.big⟩
end BufAt
abbrev at_ (g : Nat) : Nat → Prop := fun k => k = g
set_option maxHeartbeats 4000000 in
set_option maxRecDepth 100000 in
theorem fill_end (g : Nat) (T : ByteArray) (r : Nat) (last : Int) (w : World) (hB : BufAt w g T r T.size last false) :
    Calls Tryd.prog 85 #[.pointer (some ⟨g, 0, none⟩)] w fun e w' => e = .returned (.tuple #[]) ∧ BufAt w' g T r T.size last true ∧ Turned w w' (at_ g) := by
  have HB := Aside0.mk hB
  have HT := Aside0.mk (Turned.refl w (at_ g))
  have h0 := hB.c0
  have h2 := hB.c2
  have h4 := hB.c4
  have hf2 := blk_frozen hB.blk 4
  clear hB
  have q1 : ((T.size : Int) == (T.size : Int)) = true := by simp
  go_enter Tryd.func85, Tryd.ntmps85
  go_wp2
  go_quiet (fail)
  go_wp2
  refine bodyPost_ret (results_none rfl _ _ _) rfl ?_
  exact ⟨rfl, (HB.out.drewN _).set4 true, (HT.out.drewN _).setCell (.inl rfl) _⟩
set_option maxHeartbeats 4000000 in
set_option maxRecDepth 100000 in
theorem fill_more (g : Nat) (T : ByteArray) (r wd : Nat) (last : Int) (dn : Bool) (w : World) (hB : BufAt w g T r wd last dn) (hlt : wd < T.size) (m : Nat) (hm : min T.size (r + 4096) = m) :
    Calls Tryd.prog 85 #[.pointer (some ⟨g, 0, none⟩)] w fun e w' => e = .returned (.tuple #[]) ∧ BufAt w' g T r m last dn ∧ Turned w w' (at_ g) := by
  have HB := Aside0.mk hB
  have HT := Aside0.mk (Turned.refl w (at_ g))
  have h0 := hB.c0
  have h1 := hB.c1
  have h2 := hB.c2
  have hf2 := blk_frozen hB.blk 2
  have hbig := hB.big
  have hle := hB.le
  have q1 : ((wd : Int) == (T.size : Int)) = false := by rw [beq_eq_false_iff_ne]; omega
  have hr1 : r ≤ m := by omega
  have hr2 : m ≤ T.size := by omega
  have v1 : IntKind.i64.wrap ((r : Int) + 4096) = (r : Int) + 4096 := by unfold IntKind.wrap; simp [IntKind.bits, IntKind.signed]; omega
  have v2 : min (T.size : Int) ((r : Int) + 4096) = (m : Int) := by omega
  clear hB hbig hle hlt hm
  go_enter Tryd.func85, Tryd.ntmps85
  go_wp2
  go_quiet (fail)
  go_wp2
  go_region
  go_wp2
  · have e : (r : Int) + 4096 = (m : Int) := by omega
    rw [e]
    go_end0
    exact ⟨rfl, (HB.out.drewN _).set2 m hr1 hr2, (HT.out.drewN _).setCell (.inl rfl) _⟩
  · have e : (T.size : Int) = (m : Int) := by omega
    rw [e]
    go_end0
    exact ⟨rfl, (HB.out.drewN _).set2 m hr1 hr2, (HT.out.drewN _).setCell (.inl rfl) _⟩
set_option maxHeartbeats 4000000 in
set_option maxRecDepth 100000 in
theorem full_nil (w : World) : Calls Tryd.prog 90 #[.string ⟨#[]⟩] w fun e w' => e = .returned (.bool false) ∧ w' = w := by
  go_enter Tryd.func90, Tryd.ntmps90
  go_wp2
  go_ret
  exact ⟨rfl, rfl⟩
set_option maxHeartbeats 4000000 in
set_option maxRecDepth 100000 in
theorem full_ascii (s : ByteArray) (c : Nat) (w : World) (h0 : 0 < s.size) (hc : bt s 0 = (c : Int)) (hT : w.cell? ⟨3, c, none⟩ = some (.int .u8 240)) (hc1 : c < 128) :
    Calls Tryd.prog 90 #[.string s] w fun e w' => e = .returned (.bool true) ∧ w' = w := by
  have hx : ∀ h : 0 < s.size, ((s[0]'h).toNat : Int) = (c : Int) := fun h => by rw [← hc]; simp [bt, h]
  have q1 : ((s.size : Int) == 0) = false := by rw [beq_eq_false_iff_ne]; omega
  have q3 : ¬ s.size = 0 := by omega
  have q2 : (c : Int) < 256 := by omega
  clear hc hc1
  go_enter Tryd.func90, Tryd.ntmps90
  go_wp2
  go_ret
  exact ⟨rfl, rfl⟩
set_option maxHeartbeats 4000000 in
set_option maxRecDepth 100000 in
theorem decode_ascii (s : ByteArray) (c : Nat) (w : World) (h0 : 0 < s.size) (hc : bt s 0 = (c : Int)) (hc1 : c < 128) :
    Calls Tryd.prog 91 #[.string s] w fun e w' => e = .returned (.tuple #[.int .i32 c, .int .i64 1]) ∧ w' = w := by
  have hx : ∀ h : 0 < s.size, ((s[0]'h).toNat : Int) = (c : Int) := fun h => by rw [← hc]; simp [bt, h]
  have qn : s.toList.isEmpty = false := by
    rw [Lib.toList_data]
    rw [Lib.size_eq] at h0
    cases h : s.data.toList with
    | nil => rw [h] at h0; simp at h0
    | cons a l => rfl
  have q3 : ¬ s.size = 0 := by omega
  have q2 : (c : Int) < 128 := by omega
  clear hc
  go_enter Tryd.func91, Tryd.ntmps91
  go_wp2
  go_ret2
  exact ⟨rfl, rfl⟩
end Go.Proofs.YtocdnceckljnaaaDoor.U
namespace Go.Proofs.YtocdnceckljnaaaDoor.U
open Go.RowKit Go.Proofs.YtocdnceckljnaaaDoorW.PrintWords Go.Proofs.YtocdnceckljnaaaDoorW.PrintLast Go.Proofs.YtocdnceckljnaaaDoorW.PrintMore
set_option linter.unusedVariables false
set_option linter.unusedSimpArgs false
abbrev eof : Value := .iface 139 (.agg #[])
theorem extract_nil (T : ByteArray) (n : Nat) : T.extract n n = ⟨#[]⟩ := by
  apply ByteArray.ext
  simp
theorem fill_endN (g : Nat) (T : ByteArray) (n : Nat) (last : Int) (w : World) (hn : T.size = n) (hB : BufAt w g T n n last false) :
    Calls Tryd.prog 85 #[.pointer (some ⟨g, 0, none⟩)] w fun e w' => e = .returned (.tuple #[]) ∧ BufAt w' g T n n last true ∧ Turned w w' (at_ g) := by
  subst hn
  exact fill_end g T T.size last w hB
set_option maxHeartbeats 4000000 in
set_option maxRecDepth 100000 in
theorem rune_end (g : Nat) (T : ByteArray) (last : Int) (w : World) (hB : BufAt w g T T.size T.size last false) :
    Calls Tryd.prog 80 #[.pointer (some ⟨g, 0, none⟩)] w fun e w' => e = .returned (.tuple #[.int .i32 0, .int .i64 0, eof]) ∧ BufAt w' g T T.size T.size T.size false ∧ Turned w w' (at_ g) := by
  have HB := Aside0.mk hB
  have HT := Aside0.mk (Turned.refl w (at_ g))
  have hbig := hB.big
  clear hB
  generalize hn : T.size = n at *
  have e0 : T.extract n n = ⟨#[]⟩ := extract_nil T n
  have q1 : decide ((n : Int) < (n : Int) + 4) = true := by simp; omega
  have v1 : IntKind.i64.wrap ((n : Int) + 4) = (n : Int) + 4 := by unfold IntKind.wrap; simp [IntKind.bits, IntKind.signed]; omega
  have hnr : ¬ n < 0 := by omega
  go_enter Tryd.func80, Tryd.ntmps80
  go_wp2
  go_loopg [52] 2 (fun kq v52 w' => ∃ b : Bool, Aside0 (BufAt w' g T n n last b) ∧ Aside0 (Turned w w' (at_ g)) ∧ (b = false ∧ kq = 2 ∨ b = true ∧ kq = 1))
  case atStart => exact ⟨false, HB, HT, .inl ⟨rfl, rfl⟩⟩
  case round =>
    clear HB HT
    obtain ⟨b, HB, HT, hb⟩ := hrel
    have h0 := HB.out.c0
    have h1 := HB.out.c1
    have h2 := HB.out.c2
    have h4 := HB.out.c4
    rcases hb with ⟨rfl, rfl⟩ | ⟨rfl, rfl⟩
    · go_wp2
      go_quiet ((go_at_call 90; exact Calls.quiet_of_same (full_nil _)))
      go_wp2_with (go_at_call 85; refine (fill_endN g T n last _ hn (HB.out.drewN _)).mono ?_; rintro e w2 ⟨rfl, HB2, HT2⟩)
      go_roundg 1
      case measure => omega
      case rel => exact ⟨true, ⟨HB2⟩, ⟨(HT.out.drewN _).trans HT2⟩, .inr ⟨rfl, rfl⟩⟩
    · have h3 := HB.out.c3
      have hf3 := blk_frozen HB.out.blk 3
      have hf4 := blk_frozen HB.out.blk 4
      go_wp2
      go_quiet ((go_at_call 90; exact Calls.quiet_of_same (full_nil _)))
      go_wp2
      go_quiet (fail)
      go_wp2
      go_ret3
      exact ⟨rfl, (((HB.out.drewN _).set3 _).drewN _).set4 _, ((((HT.out.drewN _).setCell (.inl rfl) _).drewN _).setCell (.inl rfl) _)⟩
theorem quiet_same2 {P : Program} {f : FuncId} {args : Array Value} {w : World} {a n : Nat} {v : Value}
    (h : Calls P f args (w.drewN (a + n)) fun e w' => e = .returned v ∧ w' = w.drewN (a + n)) : Calls P f args (w.drewN (a + n)) fun e w'' => e = .returned v ∧ ∃ m, w'' = w.drewN (a + m) :=
  h.mono fun _ _ ⟨he, hm⟩ => ⟨he, n, hm⟩
theorem set1' {W : World} {g : Nat} {T : ByteArray} {r wd : Nat} {last : Int} {done : Bool} (h : BufAt W g T r wd last done) (k : Nat) (v : Int) (hv : v = (k : Int)) (hk : k ≤ wd) : BufAt (W.setCell ⟨g, 1, none⟩ (.int .i64 v)) g T k wd last done := hv ▸ h.set1 k hk
theorem bt_extract (T : ByteArray) (r m : Nat) (hr : r < m) (hm : m ≤ T.size) : bt (T.extract r m) 0 = bt T (r : Int) := by
  have h1 : 0 < (T.extract r m).size := by rw [ByteArray.size_extract]; omega
  have h2 : r < T.size := by omega
  unfold bt
  rw [dif_pos (by simpa using h1), dif_pos (by simpa using h2)]
  simp only [Int.toNat_natCast, ByteArray.getElem_extract]
  rfl
set_option maxHeartbeats 4000000 in
set_option maxRecDepth 100000 in
theorem rune_at (g : Nat) (T : ByteArray) (r wd : Nat) (last : Int) (c k : Nat) (w : World) (hB : BufAt w g T r wd last false) (hr : r < T.size) (hc : bt T (r : Int) = (c : Int)) (hc1 : c < 128)
    (hT3 : w.cell? ⟨3, c, none⟩ = some (.int .u8 240)) (hg : g ≠ 3) (hk : k = 2 ∧ wd = r ∨ k = 1 ∧ r < wd) :
    Calls Tryd.prog 80 #[.pointer (some ⟨g, 0, none⟩)] w fun e w' => e = .returned (.tuple #[.int .i32 c, .int .i64 1, .nilIface]) ∧ (∃ wd', BufAt w' g T (r + 1) wd' r false) ∧ Turned w w' (at_ g) := by
  have HB := Aside0.mk hB
  have HT := Aside0.mk (Turned.refl w (at_ g))
  have hbig := hB.big
  have v1 : IntKind.i64.wrap ((r : Int) + 4) = (r : Int) + 4 := by unfold IntKind.wrap; simp [IntKind.bits, IntKind.signed]; omega
  have v3 : IntKind.i64.wrap ((r : Int) + 1) = (r : Int) + 1 := by unfold IntKind.wrap; simp [IntKind.bits, IntKind.signed]; omega
  have q1 : decide ((r : Int) < (r : Int) + 4) = true := by simp; omega
  have HC := Aside0.mk hc
  have HR := Aside0.mk hr
  have HC1 := Aside0.mk hc1
  have H3 := Aside0.mk hT3
  have HG := Aside0.mk hg
  have hnr : ¬ r < 0 := by omega
  clear hB hc hr hc1 hT3 hg
  go_enter Tryd.func80, Tryd.ntmps80
  go_wp2
  go_loopg [52] k (fun kq v52 w' => ∃ wd : Nat, Aside0 (BufAt w' g T r wd last false) ∧ Aside0 (Turned w w' (at_ g)) ∧ (kq = 2 ∧ wd = r ∨ kq = 1 ∧ r < wd))
  case atStart => exact ⟨wd, HB, HT, hk⟩
  case round =>
    clear HB HT hk
    obtain ⟨wq, HB, HT, hb⟩ := hrel
    have h0 := HB.out.c0
    have h1 := HB.out.c1
    have h2 := HB.out.c2
    have h3 := HB.out.c3
    have h4 := HB.out.c4
    have hf1 := blk_frozen HB.out.blk 1
    have hf3 := blk_frozen HB.out.blk 3
    have hf4 := blk_frozen HB.out.blk 4
    have hle := HB.out.le
    have hlew := HB.out.lew
    rcases hb with ⟨rfl, rfl⟩ | ⟨rfl, hlt⟩
    · go_wp2
      go_quiet ((go_at_call 90; exact Calls.quiet_of_same (full_nil _)))
      go_wp2_with (go_at_call 85; refine (fill_more g T _ _ last false _ (HB.out.drewN _) HR.out _ rfl).mono ?_; rintro e w2 ⟨rfl, HB2, HT2⟩)
      go_roundg 1
      case measure => omega
      case rel => exact ⟨_, ⟨HB2⟩, ⟨(HT.out.drewN _).trans HT2⟩, .inr ⟨rfl, by have := HR.out; omega⟩⟩
    · have E0 := Aside0.mk (show 0 < (T.extract r wq).size by rw [ByteArray.size_extract]; omega)
      have E1 := Aside0.mk (show bt (T.extract r wq) 0 = (c : Int) from (bt_extract T r wq hlt hlew).trans HC.out)
      have E2 := Aside0.mk (show wr.cell? ⟨3, c, none⟩ = some (.int .u8 240) from HT.out.cell H3.out (fun e => HG.out e.symm))
      have ne : ¬ wq = r := by omega
      have q5 : ((r : Int) == (wq : Int)) = false := by rw [beq_eq_false_iff_ne]; omega
      have hlt' : r ≤ wq := by omega
      by_cases h4q : (wq : Int) < (r : Int) + 4
      · have q2 : decide ((wq : Int) < (r : Int) + 4) = true := decide_eq_true h4q
        go_wp2
        go_quiet ((go_at_call 90; exact Calls.quiet_of_same (full_ascii _ c _ E0.out E1.out E2.out HC1.out)))
        go_wp2
        go_quiet (fail)
        go_wp2
        go_quiet ((go_at_call 91; exact quiet_same2 (decode_ascii _ c _ E0.out E1.out HC1.out)))
        go_wp2
        go_ret3
        exact ⟨rfl, ⟨wq, set1' (((HB.out.drewN _).set3 _).drewN _) (r + 1) _ (by omega) (by omega)⟩, (((HT.out.drewN _).setCell (.inl rfl) _).drewN _).setCell (.inl rfl) _⟩
      · have q2 : decide ((wq : Int) < (r : Int) + 4) = false := decide_eq_false h4q
        go_wp2
        go_quiet (fail)
        go_wp2
        go_quiet (fail)
        go_wp2
        go_quiet ((go_at_call 91; exact quiet_same2 (decode_ascii _ c _ E0.out E1.out HC1.out)))
        go_wp2
        go_ret3
        exact ⟨rfl, ⟨wq, set1' (((HB.out.drewN _).set3 _).drewN _) (r + 1) _ (by omega) (by omega)⟩, (((HT.out.drewN _).setCell (.inl rfl) _).drewN _).setCell (.inl rfl) _⟩
set_option maxHeartbeats 4000000 in
theorem unread (g : Nat) (T : ByteArray) (r wd p : Nat) (w : World) (hB : BufAt w g T r wd p false) (hp : p ≤ r) :
    Calls Tryd.prog 109 #[.pointer (some ⟨g, 0, none⟩)] w fun e w' => e = .returned .nilIface ∧ BufAt w' g T p wd p false ∧ Turned w w' (at_ g) := by
  have HB := Aside0.mk hB
  have hle := Aside0.mk (Nat.le_trans hp hB.le)
  have HT := Aside0.mk (Turned.refl w (at_ g))
  have h1 := hB.c1
  have h3 := hB.c3
  have hf1 := blk_frozen hB.blk 1
  clear hB hp
  go_enter Tryd.func109, Tryd.ntmps109
  go_wp2
  go_ret
  exact ⟨rfl, HB.out.set1 p hle.out, HT.out.setCell (.inl rfl) _⟩
end Go.Proofs.YtocdnceckljnaaaDoor.U
namespace Go.Proofs.YtocdnceckljnaaaDoor.U
open Go.RowKit Go.Proofs.YtocdnceckljnaaaDoorW.PrintWords Go.Proofs.YtocdnceckljnaaaDoorW.PrintLast Go.Proofs.YtocdnceckljnaaaDoorW.PrintMore
set_option linter.unusedVariables false
set_option linter.unusedSimpArgs false
structure Sl (W : World) (base : Nat) (v : Value) (l : List UInt8) : Prop where
  has : ∃ b o c, v = .slice (some ⟨b, o, none⟩) l.length c ∧ l.length ≤ c ∧ base ≤ b ∧ b < W.heap.size ∧ ∀ i u, l[i]? = some u → W.cell? ⟨b, o + i, none⟩ = some (.int .u8 u.toNat)
theorem keepcell {w1 w2 : World} (h : Below w1.heap.size w1 w2) {a : Addr} {v : Value} (hc : w1.cell? a = some v) : w2.cell? a = some v := by
  have hlt := World.block_lt_of_cell? w1 _ hc
  have hb := h.block _ hlt
  unfold World.cell? at hc ⊢
  rw [hb]
  exact hc
theorem below_bytes (w : World) (e : TypeId) (s : ByteArray) : Below w.heap.size w (Lib.bytesWorld w e s) := ⟨rfl, rfl, rfl, by rw [Lib.bytesWorld_size]; omega, fun j hj => Lib.bytesWorld_at_old w e s j hj⟩
theorem Sl_bytes (W : World) (L : ByteArray) (base : Nat) (hb : base ≤ W.heap.size) : Sl (Lib.bytesWorld W.drew 5 L) base (.slice (some ⟨W.heap.size, 0, none⟩) L.size (grownCap W.drew L.size 0 5)) L.data.toList := by
  have hl : L.data.toList.length = L.size := (Lib.size_eq L).symm
  refine ⟨W.heap.size, 0, grownCap W.drew L.size 0 5, by rw [hl], by rw [hl]; exact grownCap_ge _ _ _ _, hb, by rw [Lib.bytesWorld_size]; exact Nat.lt_succ_self _, fun i u hu => ?_⟩
  have hi : i < L.size := by rw [← hl]; exact (List.getElem?_eq_some_iff.1 hu).1
  have := Lib.bytesWorld_cell W.drew 5 L i hi
  rw [List.getD_eq_getElem?_getD, hu] at this
  rw [Nat.zero_add]
  exact this
theorem fill_endQ (g : Nat) (T : ByteArray) (r q : Nat) (last : Int) (w : World) (hq : q = T.size) (hB : BufAt w g T r q last false) :
    Calls Tryd.prog 85 #[.pointer (some ⟨g, 0, none⟩)] w fun e w' => e = .returned (.tuple #[]) ∧ BufAt w' g T r q last true ∧ Turned w w' (at_ g) := by
  subst hq
  exact fill_end g T r last w hB
set_option maxHeartbeats 4000000 in
set_option maxRecDepth 100000 in
theorem read_bytes (g : Nat) (T : ByteArray) (r wd : Nat) (last d : Int) (n : Nat) (w : World) (hB : BufAt w g T r wd last false) (hrn : r ≤ n) (hn : n ≤ T.size)
    (hno : ∀ i : Nat, r ≤ i → i < n → bt T (i : Int) ≠ d) (hd : n < T.size → bt T (n : Int) = d) :
    Calls Tryd.prog 92 #[.pointer (some ⟨g, 0, none⟩), .int .u8 d] w fun e w' => Turned w w' (at_ g) ∧
      ((n < T.size ∧ ∃ v, e = .returned (.tuple #[v, .nilIface]) ∧ Sl w' w.heap.size v (T.extract r (n + 1)).data.toList ∧ ∃ wd', BufAt w' g T (n + 1) wd' last false) ∨
       (n = T.size ∧ ∃ v, e = .returned (.tuple #[v, eof]) ∧ Sl w' w.heap.size v (T.extract r n).data.toList ∧ BufAt w' g T T.size T.size last false)) := by
  have HB := Aside0.mk hB
  have HT := Aside0.mk (Turned.refl w (at_ g))
  have HNO := Aside0.mk hno
  have HD := Aside0.mk hd
  have HN := Aside0.mk hn
  have hbig := hB.big
  have h1 := hB.c1
  clear hB hno hd
  go_enter Tryd.func92, Tryd.ntmps92
  go_wp2
  clear h1
  go_loopg [93] (2 * (T.size - wd) + 1) (fun kq v93 w' => ∃ (p q : Nat) (b : Bool), Aside0 (BufAt w' g T p q last b) ∧ Aside0 (Turned w w' (at_ g)) ∧ r ≤ p ∧ p ≤ n ∧ (b = true → q = T.size ∧ n = T.size) ∧ kq = 2 * (T.size - q) + (if b = true then 0 else 1))
  case atStart => exact ⟨r, wd, false, HB, HT, Nat.le_refl _, hrn, by simp, by simp⟩
  case round =>
    clear HB HT
    obtain ⟨p, q, b, HB, HT, hp, hpn, hbq, hkq⟩ := hrel
    have h0 := HB.out.c0
    have h1 := HB.out.c1
    have h2 := HB.out.c2
    have h4 := HB.out.c4
    have hle := HB.out.le
    have hlew := HB.out.lew
    go_wp2
    go_loop [7] (fun v => ∃ i : Nat, v = .int .i64 i ∧ p ≤ i ∧ i ≤ q ∧ i ≤ n) (fun v => q - (intOf v).toNat)
    case atStart => exact ⟨p, rfl, Nat.le_refl _, hle, hpn⟩
    case round =>
      obtain ⟨i, rfl, hpi, hiq, hin⟩ := hrel
      have hx : ∀ h : i < T.size, ((T[i]'h).toNat : Int) = bt T (i : Int) := fun h => by simp [bt, h]
      by_cases hlt : i < q
      · have q1 : decide ((i : Int) < (q : Int)) = true := by simp; omega
        have hiT : i < T.size := by omega
        by_cases hin' : i < n
        · have t1 : (bt T (i : Int) == d) = false := by rw [beq_eq_false_iff_ne]; exact HNO.out i (by omega) hin'
          go_wp2
          go_round
          case rel => exact ⟨i + 1, by go_num, by omega, by omega, by omega⟩
          case measure => simp [intOf]; omega
        · obtain rfl : i = n := by omega
          have t1 : (bt T (i : Int) == d) = true := by rw [beq_iff_eq]; exact HD.out hiT
          have hf1 := blk_frozen HB.out.blk 1
          go_wp2
          have hbf : b = false := by
            cases b with
            | false => rfl
            | true => have := (hbq rfl).2; omega
          subst hbf
          obtain ⟨m, hm⟩ : ∃ m : Nat, m = i + 1 := ⟨_, rfl⟩
          have hmi : (i : Int) + 1 = (m : Int) := by omega
          rw [hmi]
          have HB1 := Aside0.mk (show BufAt (wr.setCell ⟨g, 1, none⟩ (.int .i64 m)) g T m q last false from HB.out.set1 m (by omega))
          have HT1 := Aside0.mk (show Turned w (wr.setCell ⟨g, 1, none⟩ (.int .i64 m)) (at_ g) from HT.out.setCell (.inl rfl) _)
          generalize (wr.setCell ⟨g, 1, none⟩ (.int .i64 m)) = W at HB1 HT1 ⊢
          clear h0 h1 h2 h4 hx t1 q1 hlt hiT hf1 hpi hiq hle hlew hbig hp hpn hmi HB HT
          have h0 := HB1.out.c0
          have h1 := HB1.out.c1
          have z1 : (r : Int) ≤ (m : Int) := by omega
          have z2 : (m : Int) ≤ (T.size : Int) := by have := HB1.out.le; have := HB1.out.lew; omega
          have HM := Aside0.mk hm
          clear hm
          have z3 : r ≤ m := by omega
          have z4 : m ≤ T.size := by omega
          have hcv : ∀ w : World, (convert 9 33 (.string (T.extract r m))).run Tryd.prog w = .ok (.slice (some ⟨w.heap.size, 0, none⟩) (T.extract r m).size (grownCap w (T.extract r m).size 0 5)) (Lib.bytesWorld w 5 (T.extract r m)) := fun w => Lib.run_convert_string_bytes w 9 33 5 (T.extract r m) Tryd.underlying9 Tryd.underlying33 Tryd.underlying5
          go_region_held (fun w' => w'.cell? ⟨g, 0, none⟩ = some (.string T) ∧ w'.cell? ⟨g, 1, none⟩ = some (.int .i64 m)) (first | (go_split_ands; exact ⟨by assumption, by assumption⟩) | (go_split_ands; exact ⟨keepcell (below_bytes _ _ _) (by assumption), keepcell (below_bytes _ _ _) (by assumption)⟩) | go_keep) (first | fail)
          have hsl := Aside0.mk (Sl_bytes W (T.extract r m) w.heap.size HT1.out.size)
          have hszm : (T.extract r m).size = m - r := by rw [ByteArray.size_extract]; omega
          rw [hszm] at hsl
          have hms := HM.out
          go_wp2
          go_ret2
          exact ⟨HT1.out.drew.below (below_bytes _ _ _), .inl ⟨by omega, _, rfl, hms ▸ hsl.out, q, hms ▸ HB1.out.drew.below (below_bytes _ _ _)⟩⟩
      · obtain rfl : i = q := by omega
        have q1 : decide ((i : Int) < (i : Int)) = false := by simp
        have hf1 := blk_frozen HB.out.blk 1
        have hf4 := blk_frozen HB.out.blk 4
        cases b with
        | true =>
          obtain ⟨hb1, hb2⟩ := hbq rfl
          subst hb1
          clear hx hkq hbq
          go_wp2
          have HB1 := Aside0.mk (show BufAt ((wr.setCell ⟨g, 1, none⟩ (.int .i64 T.size)).setCell ⟨g, 4, none⟩ (.bool false)) g T T.size T.size last false from (HB.out.set1 T.size (Nat.le_refl _)).set4 false)
          have HT1 := Aside0.mk (show Turned w ((wr.setCell ⟨g, 1, none⟩ (.int .i64 T.size)).setCell ⟨g, 4, none⟩ (.bool false)) (at_ g) from (HT.out.setCell (.inl rfl) _).setCell (.inl rfl) _)
          generalize ((wr.setCell ⟨g, 1, none⟩ (.int .i64 T.size)).setCell ⟨g, 4, none⟩ (.bool false)) = W at HB1 HT1 ⊢
          have z3 : r ≤ T.size := by omega
          have HN2 := Aside0.mk hb2
          clear h0 h1 h2 h4 q1 hf1 hf4 hpi hiq hle hlew hbig hp hpn HB HT hb2 hin hn hrn
          have h0 := HB1.out.c0
          have h1 := HB1.out.c1
          have z1 : (r : Int) ≤ (T.size : Int) := by omega
          have hcv : ∀ w : World, (convert 9 33 (.string (T.extract r T.size))).run Tryd.prog w = .ok (.slice (some ⟨w.heap.size, 0, none⟩) (T.extract r T.size).size (grownCap w (T.extract r T.size).size 0 5)) (Lib.bytesWorld w 5 (T.extract r T.size)) := fun w => Lib.run_convert_string_bytes w 9 33 5 (T.extract r T.size) Tryd.underlying9 Tryd.underlying33 Tryd.underlying5
          go_region_held (fun w' => w'.cell? ⟨g, 0, none⟩ = some (.string T) ∧ w'.cell? ⟨g, 1, none⟩ = some (.int .i64 T.size)) (first | (go_split_ands; exact ⟨by assumption, by assumption⟩) | (go_split_ands; exact ⟨keepcell (below_bytes _ _ _) (by assumption), keepcell (below_bytes _ _ _) (by assumption)⟩) | go_keep) (first | fail)
          have hsl := Aside0.mk (Sl_bytes W (T.extract r T.size) w.heap.size HT1.out.size)
          have hszm : (T.extract r T.size).size = T.size - r := by rw [ByteArray.size_extract]; omega
          rw [hszm] at hsl
          go_wp2
          go_ret2
          exact ⟨HT1.out.drew.below (below_bytes _ _ _), .inr ⟨HN2.out, _, rfl, HN2.out ▸ hsl.out, HB1.out.drew.below (below_bytes _ _ _)⟩⟩
        | false =>
          clear hx hbq
          have v1 : IntKind.i64.wrap ((i : Int) - (p : Int)) = (i : Int) - (p : Int) := by unfold IntKind.wrap; simp [IntKind.bits, IntKind.signed]; omega
          by_cases h4 : (4096 : Int) ≤ (i : Int) - (p : Int)
          · have q2 : decide ((4096 : Int) ≤ (i : Int) - (p : Int)) = true := decide_eq_true h4
            by_cases hs : i = T.size
            · have HS := Aside0.mk hs
              clear hs
              go_wp2
              go_quiet (fail)
              go_wp2_with (go_at_call 85; refine (fill_endQ g T i i last _ HS.out ((HB.out.drewN _).set1 i (Nat.le_refl _))).mono ?_; rintro e w2 ⟨rfl, HB2, HT2⟩)
              go_roundg 0
              case measure => simp only [Bool.false_eq_true, if_false] at hkq; omega
              case rel => exact ⟨i, i, true, ⟨HB2⟩, ⟨((HT.out.drewN _).setCell (.inl rfl) _).trans HT2⟩, by omega, by omega, fun _ => ⟨HS.out, by have := HS.out; omega⟩, by simp [HS.out]⟩
            · go_wp2
              go_quiet (fail)
              go_wp2_with (go_at_call 85; refine (fill_more g T i i last false _ ((HB.out.drewN _).set1 i (Nat.le_refl _)) (by omega) _ rfl).mono ?_; rintro e w2 ⟨rfl, HB2, HT2⟩)
              go_roundg (2 * (T.size - min T.size (i + 4096)) + 1)
              case measure => simp only [Bool.false_eq_true, if_false] at hkq; omega
              case rel => exact ⟨i, _, false, ⟨HB2⟩, ⟨((HT.out.drewN _).setCell (.inl rfl) _).trans HT2⟩, by omega, by omega, fun e => by simp at e, by simp⟩
          · have H4 := Aside0.mk (show i < p + 4096 by omega)
            have q2 : decide ((4096 : Int) ≤ (i : Int) - (p : Int)) = false := decide_eq_false h4
            by_cases hs : i = T.size
            · have HS := Aside0.mk hs
              clear hs
              go_wp2
              go_quiet (fail)
              go_wp2_with (go_at_call 85; refine (fill_endQ g T p i last _ HS.out (HB.out.drewN _)).mono ?_; rintro e w2 ⟨rfl, HB2, HT2⟩)
              go_roundg 0
              case measure => simp only [Bool.false_eq_true, if_false] at hkq; omega
              case rel => exact ⟨p, i, true, ⟨HB2⟩, ⟨(HT.out.drewN _).trans HT2⟩, by omega, by omega, fun _ => ⟨HS.out, by have := HS.out; omega⟩, by simp [HS.out]⟩
            · go_wp2
              go_quiet (fail)
              go_wp2_with (go_at_call 85; refine (fill_more g T p i last false _ (HB.out.drewN _) (by omega) _ rfl).mono ?_; rintro e w2 ⟨rfl, HB2, HT2⟩)
              have h4' : i < p + 4096 := H4.out
              clear v1 h4
              go_roundg (2 * (T.size - min T.size (p + 4096)) + 1)
              case measure => simp only [Bool.false_eq_true, if_false] at hkq; omega
              case rel => exact ⟨p, _, false, ⟨HB2⟩, ⟨(HT.out.drewN _).trans HT2⟩, by omega, by omega, fun e => by simp at e, by simp⟩
end Go.Proofs.YtocdnceckljnaaaDoor.U
namespace Go.Proofs.YtocdnceckljnaaaDoor.U
open Go.RowKit Go.Proofs.YtocdnceckljnaaaDoorW.PrintWords Go.Proofs.YtocdnceckljnaaaDoorW.PrintLast Go.Proofs.YtocdnceckljnaaaDoorW.PrintMore
set_option linter.unusedVariables false
set_option linter.unusedSimpArgs false
set_option maxHeartbeats 4000000 in
set_option maxRecDepth 100000 in
theorem eof_nil (w : World) : Calls Tryd.prog 81 #[.nilIface] w fun e w' => e = .returned (.bool false) ∧ Below w.heap.size w w' := by
  have HB := Aside0.mk (Below.refl w.heap.size w)
  have hta : ∀ w : World, (Instr.typeAssert .nilIface 61 139 true).run Tryd.prog w = .ok (.tuple #[.agg #[], .bool false]) w := fun _ => rfl
  go_enter Tryd.func81, Tryd.ntmps81
  go_wp2
  go_ret
  exact ⟨rfl, below_alloc HB.out _⟩
set_option maxHeartbeats 4000000 in
set_option maxRecDepth 100000 in
theorem eof_is (w : World) : Calls Tryd.prog 81 #[eof] w fun e w' => e = .returned (.bool true) ∧ Below w.heap.size w w' := by
  have HB := Aside0.mk (Below.refl w.heap.size w)
  have hta : ∀ w : World, (Instr.typeAssert eof 61 139 true).run Tryd.prog w = .ok (.tuple #[.agg #[], .bool true]) w := fun _ => rfl
  go_enter Tryd.func81, Tryd.ntmps81
  go_wp2
  go_ret
  exact ⟨rfl, below_alloc HB.out _⟩
set_option maxHeartbeats 4000000 in
set_option maxRecDepth 100000 in
theorem comment_ (c : Nat) (w : World) : Calls Tryd.prog 83 #[.int .i32 c] w fun e w' => e = .returned (.bool (c == 35 || c == 59)) ∧ w' = w := by
  by_cases h1 : c = 35
  · subst h1
    go_enter Tryd.func83, Tryd.ntmps83
    go_wp2
    go_ret
    exact ⟨rfl, rfl⟩
  · have q1 : ((c : Int) == 35) = false := by rw [beq_eq_false_iff_ne]; omega
    have e1 : (c == 35) = false := by rw [beq_eq_false_iff_ne]; exact h1
    have hi : ((c : Int) == 59) = (c == 59) := by
      rw [Bool.eq_iff_iff, beq_iff_eq, beq_iff_eq]; omega
    clear h1
    go_enter Tryd.func83, Tryd.ntmps83
    go_wp2
    go_ret
    exact ⟨by rw [e1]; rfl, rfl⟩
def spN (c : Nat) : Bool := c == 9 || c == 10 || c == 11 || c == 12 || c == 13 || c == 32
set_option maxHeartbeats 4000000 in
set_option maxRecDepth 100000 in
theorem space_ (c : Nat) (hc : c < 128) (w : World) : Calls Tryd.prog 108 #[.int .i32 c] w fun e w' => e = .returned (.bool (spN c)) ∧ w' = w := by
  by_cases h9 : c = 9
  · subst h9
    go_enter Tryd.func108, Tryd.ntmps108
    go_wp2
    go_ret
    exact ⟨rfl, rfl⟩
  by_cases h10 : c = 10
  · subst h10
    go_enter Tryd.func108, Tryd.ntmps108
    go_wp2
    go_ret
    exact ⟨rfl, rfl⟩
  by_cases h11 : c = 11
  · subst h11
    go_enter Tryd.func108, Tryd.ntmps108
    go_wp2
    go_ret
    exact ⟨rfl, rfl⟩
  by_cases h12 : c = 12
  · subst h12
    go_enter Tryd.func108, Tryd.ntmps108
    go_wp2
    go_ret
    exact ⟨rfl, rfl⟩
  by_cases h13 : c = 13
  · subst h13
    go_enter Tryd.func108, Tryd.ntmps108
    go_wp2
    go_ret
    exact ⟨rfl, rfl⟩
  by_cases h32 : c = 32
  · subst h32
    go_enter Tryd.func108, Tryd.ntmps108
    go_wp2
    go_ret
    exact ⟨rfl, rfl⟩
  have q9 : ((c : Int) == 9) = false := by rw [beq_eq_false_iff_ne]; omega
  have q10 : ((c : Int) == 10) = false := by rw [beq_eq_false_iff_ne]; omega
  have q11 : ((c : Int) == 11) = false := by rw [beq_eq_false_iff_ne]; omega
  have q12 : ((c : Int) == 12) = false := by rw [beq_eq_false_iff_ne]; omega
  have q13 : ((c : Int) == 13) = false := by rw [beq_eq_false_iff_ne]; omega
  have q32 : ((c : Int) == 32) = false := by rw [beq_eq_false_iff_ne]; omega
  have q133 : ((c : Int) == 133) = false := by rw [beq_eq_false_iff_ne]; omega
  have q160 : ((c : Int) == 160) = false := by rw [beq_eq_false_iff_ne]; omega
  have q5760 : ((c : Int) == 5760) = false := by rw [beq_eq_false_iff_ne]; omega
  have q8232 : ((c : Int) == 8232) = false := by rw [beq_eq_false_iff_ne]; omega
  have q8233 : ((c : Int) == 8233) = false := by rw [beq_eq_false_iff_ne]; omega
  have q8239 : ((c : Int) == 8239) = false := by rw [beq_eq_false_iff_ne]; omega
  have q8287 : ((c : Int) == 8287) = false := by rw [beq_eq_false_iff_ne]; omega
  have q12288 : ((c : Int) == 12288) = false := by rw [beq_eq_false_iff_ne]; omega
  have r1 : decide ((8192 : Int) ≤ (c : Int)) = false := decide_eq_false (by omega)
  have e : spN c = false := by
    unfold spN
    simp only [Bool.or_eq_false_iff, beq_eq_false_iff_ne]
    exact ⟨⟨⟨⟨⟨h9, h10⟩, h11⟩, h12⟩, h13⟩, h32⟩
  clear hc h9 h10 h11 h12 h13 h32
  go_enter Tryd.func108, Tryd.ntmps108
  go_wp2
  go_ret
  exact ⟨by rw [e]; rfl, rfl⟩
set_option maxHeartbeats 4000000 in
set_option maxRecDepth 100000 in
theorem newline_ (W : World) (base : Nat) (v : Value) (l : List UInt8) (h : Sl W base v l) (hl : l.length ≤ 4611686018427387904) (hm : (10 : UInt8) ∈ l) :
    Calls Tryd.prog 71 #[v] W fun e w' => e = .returned (.bool true) ∧ w' = W := by
  obtain ⟨b, o, c, rfl, hc, _, _, hcell⟩ := h.has
  have HC := Aside0.mk hcell
  have HM := Aside0.mk hm
  clear h hcell hm
  go_enter Tryd.func71, Tryd.ntmps71
  go_wp2
  go_loop [7] (fun v => ∃ k : Nat, k ≤ l.length ∧ v = .int .i64 k ∧ Aside0 (∀ i, i < k → l[i]? ≠ some 10)) (fun v => l.length - (intOf v).toNat)
  case atStart => exact ⟨0, Nat.zero_le _, rfl, ⟨fun i hi => absurd hi (Nat.not_lt_zero i)⟩⟩
  case round =>
    obtain ⟨k, hk, rfl, HN⟩ := hrel
    by_cases hlt : k < l.length
    · have hu : l[k]? = some l[k] := List.getElem?_eq_getElem hlt
      have hcell := HC.out k _ hu
      have HU := Aside0.mk hu
      clear hu
      generalize l[k] = u at hcell HU
      have q1 : decide ((k : Int) < (l.length : Int)) = true := by simp; omega
      by_cases h10 : (u.toNat : Int) = 10
      · have q2 : ((u.toNat : Int) == 10) = true := beq_iff_eq.2 h10
        clear h10
        go_wp2
        go_ret
        exact ⟨rfl, rfl⟩
      · have q2 : ((u.toNat : Int) == 10) = false := by rw [beq_eq_false_iff_ne]; exact h10
        have HN2 := Aside0.mk h10
        clear h10
        by_cases h13 : (u.toNat : Int) = 13
        · have q3 : ((u.toNat : Int) == 13) = true := beq_iff_eq.2 h13
          clear h13
          go_wp2
          go_ret
          exact ⟨rfl, rfl⟩
        · have q3 : ((u.toNat : Int) == 13) = false := by rw [beq_eq_false_iff_ne]; exact h13
          clear h13
          go_wp2
          go_round
          case rel =>
            refine ⟨k + 1, by omega, by go_num, ⟨fun i hi e => ?_⟩⟩
            rcases Nat.lt_or_ge i k with h | h
            · exact HN.out i h e
            · obtain rfl : i = k := by omega
              rw [HU.out] at e
              exact HN2.out (by rw [Option.some.inj e]; rfl)
          case measure => simp [intOf]; omega
    · exfalso
      obtain ⟨i, hi⟩ := List.getElem?_of_mem HM.out
      have := (List.getElem?_eq_some_iff.1 hi).1
      exact HN.out i (by omega) hi
set_option maxHeartbeats 4000000 in
set_option maxRecDepth 100000 in
theorem buffered (g : Nat) (T : ByteArray) (r wd : Nat) (last : Int) (dn : Bool) (w : World) (hB : BufAt w g T r wd last dn) :
    Calls Tryd.prog 69 #[.pointer (some ⟨g, 0, none⟩)] w fun e w' => e = .returned (.int .i64 ((wd - r : Nat) : Int)) ∧ Drawn0 w w' := by
  have h1 := hB.c1
  have h2 := hB.c2
  have hle := hB.le
  have hlew := hB.lew
  have hbig := hB.big
  have v1 : IntKind.i64.wrap ((wd : Int) - (r : Int)) = ((wd - r : Nat) : Int) := by unfold IntKind.wrap; simp [IntKind.bits, IntKind.signed]; omega
  clear hB hlew hbig hle
  go_enter Tryd.func69, Tryd.ntmps69
  go_wp2
  go_quiet (fail)
  go_wp2
  go_ret
  exact ⟨rfl, (Drawn0.refl _).step _⟩
theorem Sl_bytes0 (W : World) (L : ByteArray) (base : Nat) (hb : base ≤ W.heap.size) : Sl (Lib.bytesWorld W 5 L) base (.slice (some ⟨W.heap.size, 0, none⟩) L.size (grownCap W L.size 0 5)) L.data.toList := by
  have hl : L.data.toList.length = L.size := (Lib.size_eq L).symm
  refine ⟨W.heap.size, 0, grownCap W L.size 0 5, by rw [hl], by rw [hl]; exact grownCap_ge _ _ _ _, hb, by rw [Lib.bytesWorld_size]; exact Nat.lt_succ_self _, fun i u hu => ?_⟩
  have hi : i < L.size := by rw [← hl]; exact (List.getElem?_eq_some_iff.1 hu).1
  have := Lib.bytesWorld_cell W 5 L i hi
  rw [List.getD_eq_getElem?_getD, hu] at this
  rw [Nat.zero_add]
  exact this
theorem below_over {w W W1 : World} (h : Below w.heap.size w W) (h1 : Below W.heap.size W W1) : Below w.heap.size w W1 :=
  ⟨h1.os.trans h.os, h1.tape.trans h.tape, h1.output.trans h.output, Nat.le_trans h.size h1.size, fun i hi => (h1.block i (Nat.lt_of_lt_of_le hi h.size)).trans (h.block i hi)⟩
theorem below_drewN' (w : World) (n : Nat) : Below w.heap.size w (w.drewN n) := ((Drawn0.refl w).step n).below
set_option maxHeartbeats 4000000 in
set_option maxRecDepth 100000 in
theorem peek (g : Nat) (T : ByteArray) (r wd : Nat) (last : Int) (dn : Bool) (w : World) (hB : BufAt w g T r wd last dn) (h2048 : 2048 ≤ wd - r) :
    Calls Tryd.prog 70 #[.pointer (some ⟨g, 0, none⟩), .int .i64 2048] w fun e w' => ∃ v, e = .returned (.tuple #[v, .nilIface]) ∧ Sl w' w.heap.size v (T.extract r (r + 2048)).data.toList ∧ Below w.heap.size w w' := by
  have h0 := hB.c0
  have h1 := hB.c1
  have h2 := hB.c2
  have hle := hB.le
  have hlew := hB.lew
  have hbig := hB.big
  have v1 : IntKind.i64.wrap ((wd : Int) - (r : Int)) = (wd : Int) - (r : Int) := by unfold IntKind.wrap; simp [IntKind.bits, IntKind.signed]; omega
  obtain ⟨m, hm⟩ : ∃ m : Nat, m = r + 2048 := ⟨_, rfl⟩
  have v2 : IntKind.i64.wrap ((r : Int) + 2048) = (m : Int) := by unfold IntKind.wrap; simp [IntKind.bits, IntKind.signed]; omega
  have q1 : decide ((wd : Int) - (r : Int) < 2048) = false := decide_eq_false (by omega)
  have z1 : (r : Int) ≤ (m : Int) := by omega
  have z2 : (m : Int) ≤ (T.size : Int) := by omega
  have z3 : r ≤ m := by omega
  have z4 : m ≤ T.size := by omega
  have hszm : (T.extract r m).size = m - r := by rw [ByteArray.size_extract]; omega
  have HSZ := Aside0.mk hszm
  rw [← hm]
  have hcv : ∀ w : World, (convert 9 33 (.string (T.extract r m))).run Tryd.prog w = .ok (.slice (some ⟨w.heap.size, 0, none⟩) (T.extract r m).size (grownCap w (T.extract r m).size 0 5)) (Lib.bytesWorld w 5 (T.extract r m)) := fun w => Lib.run_convert_string_bytes w 9 33 5 (T.extract r m) Tryd.underlying9 Tryd.underlying33 Tryd.underlying5
  clear hB hlew hbig hle h2048 hm hszm
  go_enter Tryd.func70, Tryd.ntmps70
  go_wp2
  go_loop [35] (fun v => True) (fun _ => 0)
  case atStart => trivial
  case round =>
    go_wp2
    go_quiet (fail)
    have HQ := Aside0.mk (rfl : nq = nq)
    generalize nq = nq1 at HQ ⊢
    go_wp2
    go_quiet (fail)
    go_wp2
    go_region_held (fun w' => w'.cell? ⟨g, 0, none⟩ = some (.string T) ∧ w'.cell? ⟨g, 1, none⟩ = some (.int .i64 r)) (first | (go_split_ands; exact ⟨by assumption, by assumption⟩) | (go_split_ands; exact ⟨keepcell (below_bytes _ _ _) (by assumption), keepcell (below_bytes _ _ _) (by assumption)⟩) | go_keep) (first | fail)
    have HBW := Aside0.mk (fun n => below_over (below_drewN' w n) (below_bytes (w.drewN n) 5 (T.extract r m)))
    have hsl := Aside0.mk (Sl_bytes0 (w.drewN (nq1 + nq + 1)) (T.extract r m) w.heap.size (Nat.le_refl _))
    rw [HSZ.out] at hsl
    go_wp2
    go_ret2
    exact ⟨_, rfl, hsl.out, HBW.out _⟩
end Go.Proofs.YtocdnceckljnaaaDoor.U
namespace Go.Proofs.YtocdnceckljnaaaDoor.U
open Go.RowKit Go.Proofs.YtocdnceckljnaaaDoorW.PrintWords Go.Proofs.YtocdnceckljnaaaDoorW.PrintLast Go.Proofs.YtocdnceckljnaaaDoorW.PrintMore
set_option linter.unusedVariables false
set_option linter.unusedSimpArgs false
abbrev Bs := List UInt8
def nums (l : Bs) : List Int := l.map fun c => ((c.toNat : Nat) : Int)
theorem nums_len (l : Bs) : (nums l).length = l.length := by simp [nums]
theorem bytesOf_nums (l : Bs) : Lib.bytesOf (nums l) = l := by
  unfold Lib.bytesOf nums
  rw [List.map_map]
  conv => rhs; rw [← List.map_id l]
  apply List.map_congr_left
  intro c _
  simp
theorem nums_get (l : Bs) (i : Nat) (h : i < l.length) : (nums l).getD i 0 = ((l[i].toNat : Nat) : Int) := by
  unfold nums
  rw [List.getD_eq_getElem?_getD, List.getElem?_map, List.getElem?_eq_getElem h]
  rfl
namespace Sl
variable {W W1 : World} {base : Nat} {v : Value} {l : Bs}
theorem below (h : Sl W base v l) (hb : Below W.heap.size W W1) : Sl W1 base v l := by
  obtain ⟨b, o, c, rfl, h1, h2, h3, h4⟩ := h.has
  exact ⟨b, o, c, rfl, h1, h2, Nat.lt_of_lt_of_le h3 hb.size, fun i u hu => keepcell hb (h4 i u hu)⟩
theorem turned {S : Nat → Prop} (h : Sl W base v l) (ht : Turned W W1 S) (hs : ∀ k, S k → k < base) : Sl W1 base v l := by
  obtain ⟨b, o, c, rfl, h1, h2, h3, h4⟩ := h.has
  exact ⟨b, o, c, rfl, h1, h2, Nat.lt_of_lt_of_le h3 ht.size, fun i u hu => ht.cell (h4 i u hu) (fun hk => by have := hs b hk; omega)⟩
theorem bytes (h : Sl W base v l) : ∃ b o c, v = .slice (some ⟨b, o, none⟩) l.length c ∧ l.length ≤ c ∧ base ≤ b ∧ b < W.heap.size ∧ (∀ i, i < l.length → W.cell? ⟨b, o + i, none⟩ = some (.int .u8 ((nums l).getD i 0))) := by
  obtain ⟨b, o, c, rfl, h1, h2, h3, h4⟩ := h.has
  exact ⟨b, o, c, rfl, h1, h2, h3, fun i hi => by rw [nums_get l i hi]; exact h4 i _ (List.getElem?_eq_getElem hi)⟩
end Sl
def cutEnd (d : UInt8) (l : Bs) : Bs := if Lib.hasSuffix l [d] = true then l.dropLast else l
theorem trim1 (W : World) (base : Nat) (v : Value) (l : Bs) (d : UInt8) (b2 c2 : Nat) (h : Sl W base v l) (hl : l.length ≤ 4611686018427387904) (h2 : W.cell? ⟨b2, 0, none⟩ = some (.int .u8 d.toNat)) :
    Calls Tryd.prog 96 #[v, .slice (some ⟨b2, 0, none⟩) 1 c2] W fun e w' => (∃ v', e = .returned v' ∧ Sl W base v' (cutEnd d l)) ∧ w' = W := by
  obtain ⟨b, o, c, rfl, h1, hb, hlt, h4⟩ := h.bytes
  have := Tryd.bytes_TrimSuffix_all (some ⟨b, o, none⟩) (some ⟨b2, 0, none⟩) l.length c 1 c2 (nums l) (nums [d]) W (nums_len l) rfl h1 (by omega)
    (fun _ => ⟨b, o, rfl, h4⟩) (fun _ => ⟨b2, 0, rfl, fun i hi => by obtain rfl : i = 0 := by omega
                                                                     exact h2⟩)
  refine this.mono fun e w' ⟨he, hw⟩ => ⟨⟨_, he, ?_⟩, hw⟩
  have e1 : Lib.trimSuffixV (some ⟨b, o, none⟩) l.length c (nums l) (nums [d]) = Lib.bytesTrimSuffix b o l.length c (nums l) (nums [d]) := rfl
  rw [e1]
  unfold Lib.bytesTrimSuffix cutEnd
  rw [bytesOf_nums, bytesOf_nums]
  split
  · have hdl : l.dropLast.length = l.length - 1 := List.length_dropLast
    refine ⟨b, o, c, ?_, by omega, hb, hlt, fun i u hu => ?_⟩
    · rw [hdl]; rfl
    · have hi : i < l.dropLast.length := (List.getElem?_eq_some_iff.1 hu).1
      rw [List.getElem?_dropLast] at hu
      split at hu
      · rename_i hi2
        have := h4 i (by omega)
        rw [nums_get l i (by omega)] at this
        rw [List.getElem?_eq_getElem (by omega)] at hu
        rw [← Option.some.inj hu]
        exact this
      · simp at hu
  · exact ⟨b, o, c, rfl, h1, hb, hlt, fun i u hu => by
      have hi : i < l.length := (List.getElem?_eq_some_iff.1 hu).1
      have := h4 i hi
      rw [nums_get l i hi] at this
      rw [List.getElem?_eq_getElem hi] at hu
      rw [← Option.some.inj hu]
      exact this⟩
theorem suffix_iff (l : Bs) (d : UInt8) : Lib.hasSuffix l [d] = true ↔ ∃ t, l = t ++ [d] := by
  unfold Lib.hasSuffix
  rw [List.isSuffixOf_iff_suffix]
  exact ⟨fun ⟨t, h⟩ => ⟨t, h.symm⟩, fun ⟨t, h⟩ => ⟨t, h.symm⟩⟩
theorem cutEnd_yes (d : UInt8) (a : Bs) : cutEnd d (a ++ [d]) = a := by
  unfold cutEnd
  rw [if_pos ((suffix_iff _ _).2 ⟨a, rfl⟩)]
  simp
theorem cutEnd_other (d e : UInt8) (h : e ≠ d) (a : Bs) : cutEnd d (a ++ [e]) = a ++ [e] := by
  unfold cutEnd
  rw [if_neg]
  intro hh
  obtain ⟨t, ht⟩ := (suffix_iff _ _).1 hh
  have := congrArg List.getLast? ht
  simp at this
  exact h this
theorem cutEnd_no (d : UInt8) (a : Bs) (h : d ∉ a) : cutEnd d a = a := by
  unfold cutEnd
  rw [if_neg]
  intro hh
  obtain ⟨t, ht⟩ := (suffix_iff _ _).1 hh
  exact h (by rw [ht]; simp)
def eolL (r : Bs) : Bs := r.takeWhile (fun c => c != 10)
def eolR (r : Bs) : Bs := (r.dropWhile (fun c => c != 10)).drop 1
structure Tabs (w : World) : Prop where
  first : ∀ c : Nat, c < 128 → w.cell? ⟨3, c, none⟩ = some (.int .u8 240)
  bsp : Lib.TabIs Tryd.prog w "bytes.asciiSpace" .u8 Lib.asciiSpaceTab
  ssp : Lib.TabIs Tryd.prog w "strings.asciiSpace" .u8 Lib.asciiSpaceTab
theorem tab_below {w W : World} {n : String} {zs : List Int} (hb : Below w.heap.size w W) (h : Lib.TabIs Tryd.prog w n .u8 zs) : Lib.TabIs Tryd.prog W n .u8 zs := by
  unfold Lib.TabIs at h ⊢
  unfold World.var? at h ⊢
  cases hg : Tryd.prog.globalNamed n with
  | none => simp [hg] at h
  | some g =>
    simp only [hg, Option.bind_some] at h ⊢
    have hlt : g < w.heap.size := by
      rcases Nat.lt_or_ge g w.heap.size with h' | h'
      · exact h'
      · simp [Array.getElem?_eq_none h'] at h
    rw [hb.block g hlt]
    exact h
theorem Tabs.below {w W : World} (h : Tabs w) (hb : Below w.heap.size w W) : Tabs W := ⟨fun c hc => keepcell hb (h.first c hc), tab_below hb h.bsp, tab_below hb h.ssp⟩
structure Lx (w0 : World) (gl gb : Nat) (T : ByteArray) (W : World) (rest : Bs) (vd : Value) : Prop where
  below : Below w0.heap.size w0 W
  hgl : w0.heap.size ≤ gl
  hgb : w0.heap.size ≤ gb
  ne : gl ≠ gb
  lex : W.heap[gl]? = some (.cells #[.pointer (some ⟨gb, 0, none⟩), vd, .nilIface, .string ⟨#[]⟩] 105 (0, 0))
  buf : ∃ r wd last, BufAt W gb T r wd last false ∧ T.data.toList.drop r = rest
  tabs : Tabs w0
  asc : ∀ c ∈ T.data.toList, c.toNat < 128
namespace Lx
variable {w0 W W1 : World} {gl gb : Nat} {T : ByteArray} {rest : Bs} {vd : Value}
theorem c0 (h : Lx w0 gl gb T W rest vd) : W.cell? ⟨gl, 0, none⟩ = some (.pointer (some ⟨gb, 0, none⟩)) := by rw [blk_cell h.lex]; rfl
theorem c1 (h : Lx w0 gl gb T W rest vd) : W.cell? ⟨gl, 1, none⟩ = some vd := by rw [blk_cell h.lex]; rfl
theorem c2 (h : Lx w0 gl gb T W rest vd) : W.cell? ⟨gl, 2, none⟩ = some .nilIface := by rw [blk_cell h.lex]; rfl
theorem more (h : Lx w0 gl gb T W rest vd) (hb : Below W.heap.size W W1) : Lx w0 gl gb T W1 rest vd := by
  obtain ⟨r, wd, last, h1, h2⟩ := h.buf
  exact ⟨(Turned.of_below hb (fun _ => False)).over h.below (fun _ h => h.elim), h.hgl, h.hgb, h.ne, (hb.block gl (blk_lt h.lex)).trans h.lex, ⟨r, wd, last, h1.below hb, h2⟩, h.tabs, h.asc⟩
theorem on (h : Lx w0 gl gb T W rest vd) (ht : Turned W W1 (at_ gb)) {rest' : Bs} (hb : ∃ r wd last, BufAt W1 gb T r wd last false ∧ T.data.toList.drop r = rest') : Lx w0 gl gb T W1 rest' vd :=
  ⟨ht.over h.below (fun k hk => by rw [hk]; exact h.hgb), h.hgl, h.hgb, h.ne, ht.blk h.lex h.ne, hb, h.tabs, h.asc⟩
theorem tabW (h : Lx w0 gl gb T W rest vd) : Tabs W := h.tabs.below h.below
end Lx
theorem bt_drop (T : ByteArray) (r : Nat) (c : UInt8) (rest : Bs) (h : T.data.toList.drop r = c :: rest) : r < T.size ∧ bt T (r : Int) = (c.toNat : Int) ∧ T.data.toList.drop (r + 1) = rest ∧ c ∈ T.data.toList := by
  have hl : r < T.data.toList.length := by
    rcases Nat.lt_or_ge r T.data.toList.length with h' | h'
    · exact h'
    · rw [List.drop_eq_nil_of_le h'] at h; simp at h
  have hs : r < T.size := by rw [Lib.size_eq]; exact hl
  have hd := List.drop_eq_getElem_cons hl
  rw [h] at hd
  obtain ⟨h1, h2⟩ := List.cons.inj hd
  refine ⟨hs, ?_, h2.symm, h1 ▸ List.getElem_mem hl⟩
  unfold bt
  rw [dif_pos (by simpa using hs)]
  simp only [Int.toNat_natCast]
  rw [h1]
  rfl
theorem drop_nil (T : ByteArray) (r : Nat) (hr : r ≤ T.size) (h : T.data.toList.drop r = []) : r = T.size := by
  have := List.drop_eq_nil_iff.1 h
  rw [Lib.size_eq] at hr ⊢
  omega
theorem bt_get (T : ByteArray) (i : Nat) (c : UInt8) (h : T.data.toList[i]? = some c) : bt T (i : Int) = (c.toNat : Int) := by
  obtain ⟨hl, he⟩ := List.getElem?_eq_some_iff.1 h
  have hs : i < T.size := by rw [Lib.size_eq]; exact hl
  unfold bt
  rw [dif_pos (by simpa using hs)]
  simp only [Int.toNat_natCast]
  rw [← he]
  rfl
theorem ne_read (T : ByteArray) (r : Nat) (a : Bs) (rest : Bs) (d : UInt8) (h : T.data.toList.drop r = a ++ rest) (hd : d ∉ a) (i : Nat) (h1 : r ≤ i) (h2 : i < r + a.length) : bt T (i : Int) ≠ (d.toNat : Int) := by
  have hi : i - r < a.length := by omega
  have hg : T.data.toList[i]? = some a[i - r] := by
    have := List.getElem?_drop (xs := T.data.toList) (i := r) (j := i - r)
    rw [h, List.getElem?_append_left hi, List.getElem?_eq_getElem hi] at this
    rw [show r + (i - r) = i by omega] at this
    exact this.symm
  rw [bt_get T i _ hg]
  intro e
  have : a[i - r] = d := UInt8.toNat_inj.1 (by omega)
  exact hd (this ▸ List.getElem_mem hi)
theorem read_lx {w0 W : World} {gl gb : Nat} {T : ByteArray} {vd : Value} (d : UInt8) (a rest : Bs) (h : Lx w0 gl gb T W (a ++ d :: rest) vd) (hd : d ∉ a) :
    Calls Tryd.prog 92 #[.pointer (some ⟨gb, 0, none⟩), .int .u8 d.toNat] W fun e w' => ∃ v, e = .returned (.tuple #[v, .nilIface]) ∧ Sl w' W.heap.size v (a ++ [d]) ∧ Lx w0 gl gb T w' rest vd ∧ Turned W w' (at_ gb) := by
  obtain ⟨r, wd, last, hB, hr⟩ := h.buf
  have hlen : r + (a.length + 1) + rest.length ≤ T.size := by
    have := congrArg List.length hr
    rw [List.length_drop, ← Lib.size_eq] at this
    simp only [List.length_append, List.length_cons] at this
    omega
  have hgd : T.data.toList[r + a.length]? = some d := by
    have := List.getElem?_drop (xs := T.data.toList) (i := r) (j := a.length)
    rw [hr] at this
    rw [← this]
    simp
  refine (read_bytes gb T r wd last d.toNat (r + a.length) W hB (by omega) (by omega) (fun i h1 h2 => ne_read T r a _ d hr hd i h1 h2) (fun _ => bt_get T _ d hgd)).mono ?_
  rintro e w' ⟨ht, ⟨hlt, v, he, hs, wd', hB'⟩ | ⟨hn, _⟩⟩
  · refine ⟨v, he, ?_, h.on ht ⟨_, _, _, hB', ?_⟩, ht⟩
    · have e1 : (T.extract r (r + a.length + 1)).data.toList = a ++ [d] := by
        rw [Lib.extract_data, hr, show r + a.length + 1 - r = a.length + 1 by omega]
        rw [List.take_append, List.take_of_length_le (Nat.le_succ _)]
        simp
      rw [e1] at hs
      exact hs
    · rw [show r + a.length + 1 = r + (a.length + 1) by omega, ← List.drop_drop, hr, List.drop_append]
      simp
  · omega
theorem read_lx_end {w0 W : World} {gl gb : Nat} {T : ByteArray} {vd : Value} (d : UInt8) (a : Bs) (h : Lx w0 gl gb T W a vd) (hd : d ∉ a) :
    Calls Tryd.prog 92 #[.pointer (some ⟨gb, 0, none⟩), .int .u8 d.toNat] W fun e w' => ∃ v, e = .returned (.tuple #[v, eof]) ∧ Sl w' W.heap.size v a ∧ Lx w0 gl gb T w' [] vd ∧ Turned W w' (at_ gb) := by
  obtain ⟨r, wd, last, hB, hr⟩ := h.buf
  have hlen : r + a.length = T.size := by
    have := congrArg List.length hr
    rw [List.length_drop, ← Lib.size_eq] at this
    have := hB.le
    have := hB.lew
    omega
  refine (read_bytes gb T r wd last d.toNat T.size W hB (by omega) (by omega) (fun i h1 h2 => ne_read T r a [] d (by rw [List.append_nil]; exact hr) hd i h1 (by omega)) (fun h => absurd h (by omega))).mono ?_
  rintro e w' ⟨ht, ⟨hlt, _⟩ | ⟨_, v, he, hs, hB'⟩⟩
  · omega
  · refine ⟨v, he, ?_, h.on ht ⟨_, _, _, hB', ?_⟩, ht⟩
    · have e1 : (T.extract r T.size).data.toList = a := by
        rw [Lib.extract_data, hr, show T.size - r = a.length by omega, List.take_length]
      rw [e1] at hs
      exact hs
    · rw [Lib.size_eq, List.drop_length]
theorem rune_lx {w0 W : World} {gl gb : Nat} {T : ByteArray} {vd : Value} (c : UInt8) (rest : Bs) (h : Lx w0 gl gb T W (c :: rest) vd) :
    Calls Tryd.prog 80 #[.pointer (some ⟨gb, 0, none⟩)] W fun e w' => e = .returned (.tuple #[.int .i32 (c.toNat : Int), .int .i64 1, .nilIface]) ∧ Lx w0 gl gb T w' rest vd ∧ Turned W w' (at_ gb) ∧
      (∃ r wd, BufAt w' gb T (r + 1) wd r false ∧ T.data.toList.drop r = c :: rest) := by
  obtain ⟨r, wd, last, hB, hr⟩ := h.buf
  obtain ⟨h1, h2, h3, h4⟩ := bt_drop T r c rest hr
  have hc := h.asc c h4
  have hk : ∃ k, k = 2 ∧ wd = r ∨ k = 1 ∧ r < wd := by
    have := hB.le
    rcases Nat.lt_or_ge r wd with hh | hh
    · exact ⟨1, .inr ⟨rfl, hh⟩⟩
    · exact ⟨2, .inl ⟨rfl, by omega⟩⟩
  obtain ⟨k, hk⟩ := hk
  have h3b : (3 : Nat) < w0.heap.size := by
    have := World.block_lt_of_cell? w0 _ (h.tabs.first 0 (by omega))
    exact this
  refine (rune_at gb T r wd last c.toNat k W hB h1 h2 hc (h.tabW.first _ hc) (by have := h.hgb; omega) hk).mono ?_
  rintro e w' ⟨he, ⟨wd', hB'⟩, ht⟩
  exact ⟨he, h.on ht ⟨_, _, _, hB', h3⟩, ht, r, wd', hB', hr⟩
theorem rune_lx_end {w0 W : World} {gl gb : Nat} {T : ByteArray} {vd : Value} (h : Lx w0 gl gb T W [] vd) :
    Calls Tryd.prog 80 #[.pointer (some ⟨gb, 0, none⟩)] W fun e w' => e = .returned (.tuple #[.int .i32 0, .int .i64 0, eof]) ∧ Lx w0 gl gb T w' [] vd ∧ Turned W w' (at_ gb) := by
  obtain ⟨r, wd, last, hB, hr⟩ := h.buf
  have := hB.le
  have := hB.lew
  obtain rfl := drop_nil T r (by omega) hr
  obtain rfl : wd = T.size := by omega
  refine (rune_end gb T last W hB).mono ?_
  rintro e w' ⟨he, hB', ht⟩
  exact ⟨he, h.on ht ⟨_, _, _, hB', hr⟩, ht⟩
theorem unread_lx {w0 W : World} {gl gb : Nat} {T : ByteArray} {vd : Value} (c : UInt8) (rest : Bs) (h : Lx w0 gl gb T W rest vd) (hb : ∃ r wd, BufAt W gb T (r + 1) wd r false ∧ T.data.toList.drop r = c :: rest) :
    Calls Tryd.prog 109 #[.pointer (some ⟨gb, 0, none⟩)] W fun e w' => e = .returned .nilIface ∧ Lx w0 gl gb T w' (c :: rest) vd ∧ Turned W w' (at_ gb) := by
  obtain ⟨r, wd, hB, hr⟩ := hb
  refine (unread gb T (r + 1) wd r W hB (Nat.le_succ r)).mono ?_
  rintro e w' ⟨he, hB', ht⟩
  exact ⟨he, h.on ht ⟨_, _, _, hB', hr⟩, ht⟩
theorem trim1' (W : World) (base : Nat) (v : Value) (l : Bs) (d : UInt8) (x : Int) (hx : x = ((d.toNat : Nat) : Int)) (b2 c2 : Nat) (h : Sl W base v l) (hl : l.length ≤ 4611686018427387904) (h2 : W.cell? ⟨b2, 0, none⟩ = some (.int .u8 x)) :
    Calls Tryd.prog 96 #[v, .slice (some ⟨b2, 0, none⟩) 1 c2] W fun e w' => (∃ v', e = .returned v' ∧ Sl w' base v' (cutEnd d l)) ∧ w' = W := (trim1 W base v l d b2 c2 h hl (hx ▸ h2)).mono fun e w' ⟨⟨v', he, hs⟩, hw⟩ => ⟨⟨v', he, by rw [hw]; exact hs⟩, hw⟩
theorem cell_new (w : World) (v : Value) (t : TypeId) : (w.alloc (.cells #[v] t)).cell? ⟨w.heap.size, 0, none⟩ = some v := by
  rw [World.cell?_alloc_at _ _ _ _ rfl]
  rfl
theorem below_new (w : World) (o : Obj) : Below w.heap.size w (w.alloc o) := below_alloc (Below.refl _ _) o
theorem eol_split (r : Bs) : r = eolL r ++ r.dropWhile (fun c => c != 10) := (List.takeWhile_append_dropWhile).symm
theorem eol_no (r : Bs) : (10 : UInt8) ∉ eolL r := fun h => by
  have := List.all_eq_true.1 (List.all_takeWhile (p := fun c : UInt8 => c != 10) (l := r)) _ h
  simp at this
theorem eol_cases (r : Bs) : (r = eolL r ++ 10 :: eolR r ∧ (10 : UInt8) ∈ r) ∨ (r = eolL r ∧ eolR r = [] ∧ (10 : UInt8) ∉ r) := by
  unfold eolR
  cases hd : r.dropWhile (fun c => c != 10) with
  | nil =>
    right
    have := eol_split r
    rw [hd, List.append_nil] at this
    exact ⟨this, rfl, this ▸ eol_no r⟩
  | cons x t =>
    left
    have hx : x = 10 := by
      have hne : r.dropWhile (fun c => c != 10) ≠ [] := by rw [hd]; simp
      have h2 := List.head_dropWhile_not (fun c : UInt8 => c != 10) (l := r) hne
      simp only [hd, List.head_cons] at h2
      simpa using h2
    have := eol_split r
    rw [hd, hx] at this
    exact ⟨by simpa using this, by rw [this]; simp⟩
set_option maxHeartbeats 4000000 in
set_option maxRecDepth 100000 in
theorem to_eol {w0 W : World} {gl gb : Nat} {T : ByteArray} {vd : Value} (rest : Bs) (h : Lx w0 gl gb T W rest vd) (h13 : (13 : UInt8) ∉ eolL rest) (hl : (eolL rest).length ≤ 4611686018427387000) :
    Calls Tryd.prog 95 #[.pointer (some ⟨gl, 0, none⟩)] W fun e w' => ∃ v, e = .returned (.tuple #[v, .bool (!decide ((10 : UInt8) ∈ rest)), .nilIface]) ∧ Sl w' W.heap.size v (eolL rest) ∧ Lx w0 gl gb T w' (eolR rest) vd ∧ Turned W w' (at_ gb) := by
  have H13 := Aside0.mk h13
  have HL := Aside0.mk hl
  have HX := Aside0.mk h
  have hc0 := h.c0
  clear h13 hl
  have N10 := Aside0.mk (eol_no rest)
  have hnn : ∀ (w : World), (binOp .neq 61 .nilIface .nilIface).run Tryd.prog w = .ok (.bool false) w := fun _ => rfl
  have hen : ∀ (w : World), (binOp .neq 61 eof .nilIface).run Tryd.prog w = .ok (.bool true) w := fun _ => rfl
  rcases eol_cases rest with ⟨hr, hm⟩ | ⟨hr, hR, hm⟩
  · have hdm : decide ((10 : UInt8) ∈ rest) = true := decide_eq_true hm
    rw [hdm]
    have HX1 := Aside0.mk (show Lx w0 gl gb T W (eolL rest ++ 10 :: eolR rest) vd from hr ▸ HX.out)
    generalize eolL rest = a at *
    generalize eolR rest = b at *
    have HL2 := Aside0.mk (show (a ++ [10]).length ≤ 4611686018427387904 by rw [List.length_append]; have := HL.out; simp only [List.length_singleton]; omega)
    clear hr hm hdm h HX
    go_enter Tryd.func95, Tryd.ntmps95
    go_wp2_with (first
      | (go_at_call 92; refine (read_lx 10 a b HX1.out N10.out).mono ?_; rintro e w1 ⟨v1, rfl, hs1, hx1, ht1⟩; replace hs1 := Aside0.mk hs1; replace hx1 := Aside0.mk hx1; replace ht1 := Aside0.mk ht1)
      | (go_at_call 96; refine (trim1' _ W.heap.size v1 (a ++ [10]) 13 13 rfl _ _ (hs1.out.below (below_new _ _)) HL2.out (cell_new _ _ _)).mono ?_; rintro e w2 ⟨⟨v2, rfl, hs2⟩, hw⟩; rw [cutEnd_other 13 10 (by decide)] at hs2; replace hs2 := Aside0.mk hs2; have hx2 := Aside0.mk (show Lx w0 gl gb T w2 b vd by rw [hw]; exact hx1.out.more (below_new _ _)); have ht2 := Aside0.mk (show Turned W w2 (at_ gb) by rw [hw]; exact ht1.out.alloc _); clear hw hx1 ht1 hs1)
      | (go_at_call 96; refine (trim1' _ W.heap.size v2 (a ++ [10]) 10 10 rfl _ _ (hs2.out.below (below_new _ _)) HL2.out (cell_new _ _ _)).mono ?_; rintro e w3 ⟨⟨v3, rfl, hs3⟩, hw⟩; rw [cutEnd_yes] at hs3; replace hs3 := Aside0.mk hs3; have hx3 := Aside0.mk (show Lx w0 gl gb T w3 b vd by rw [hw]; exact hx2.out.more (below_new _ _)); have ht3 := Aside0.mk (show Turned W w3 (at_ gb) by rw [hw]; exact ht2.out.alloc _); clear hw hx2 ht2 hs2)
      | (go_at_call 81; refine (eof_nil _).mono ?_; rintro e w4 ⟨rfl, hb4⟩; replace hb4 := Aside0.mk hb4))
    refine bodyPost_ret (results_tmp3 rfl _ _ _) rfl ?_
    exact ⟨v3, rfl, hs3.out.below hb4.out, hx3.out.more hb4.out, ht3.out.below hb4.out⟩
  · have hdm : decide ((10 : UInt8) ∈ rest) = false := decide_eq_false hm
    rw [hdm, hR]
    have HX1 := Aside0.mk (show Lx w0 gl gb T W (eolL rest) vd from hr ▸ HX.out)
    generalize eolL rest = a at *
    have HL2 := Aside0.mk (show a.length ≤ 4611686018427387904 by have := HL.out; omega)
    clear hr hm hdm h HX hR
    go_enter Tryd.func95, Tryd.ntmps95
    go_wp2_with (first
      | (go_at_call 92; refine (read_lx_end 10 a HX1.out N10.out).mono ?_; rintro e w1 ⟨v1, rfl, hs1, hx1, ht1⟩; replace hs1 := Aside0.mk hs1; replace hx1 := Aside0.mk hx1; replace ht1 := Aside0.mk ht1)
      | (go_at_call 81; refine (eof_is w1).mono ?_; rintro e w5 ⟨rfl, hb5⟩; have hs5 := Aside0.mk (hs1.out.below hb5); have hx5 := Aside0.mk (hx1.out.more hb5); have ht5 := Aside0.mk (ht1.out.below hb5); clear hb5 hs1 hx1 ht1)
      | (go_at_call 96; refine (trim1' _ W.heap.size v1 a 13 13 rfl _ _ (hs5.out.below (below_new _ _)) HL2.out (cell_new _ _ _)).mono ?_; rintro e w2 ⟨⟨v2, rfl, hs2⟩, hw⟩; rw [cutEnd_no 13 a H13.out] at hs2; replace hs2 := Aside0.mk hs2; have hx2 := Aside0.mk (show Lx w0 gl gb T w2 [] vd by rw [hw]; exact hx5.out.more (below_new _ _)); have ht2 := Aside0.mk (show Turned W w2 (at_ gb) by rw [hw]; exact ht5.out.alloc _); clear hw hx5 ht5 hs5)
      | (go_at_call 96; refine (trim1' _ W.heap.size v2 a 10 10 rfl _ _ (hs2.out.below (below_new _ _)) HL2.out (cell_new _ _ _)).mono ?_; rintro e w3 ⟨⟨v3, rfl, hs3⟩, hw⟩; rw [cutEnd_no 10 a N10.out] at hs3; replace hs3 := Aside0.mk hs3; have hx3 := Aside0.mk (show Lx w0 gl gb T w3 [] vd by rw [hw]; exact hx2.out.more (below_new _ _)); have ht3 := Aside0.mk (show Turned W w3 (at_ gb) by rw [hw]; exact ht2.out.alloc _); clear hw hx2 ht2 hs2)
      | (go_at_call 81; refine (eof_is _).mono ?_; rintro e w4 ⟨rfl, hb4⟩; replace hb4 := Aside0.mk hb4))
    refine bodyPost_ret (results_tmp3 rfl _ _ _) rfl ?_
    exact ⟨v3, rfl, hs3.out.below hb4.out, hx3.out.more hb4.out, ht3.out.below hb4.out⟩
end Go.Proofs.YtocdnceckljnaaaDoor.U
namespace Go.Proofs.YtocdnceckljnaaaDoor.U
open Go.RowKit Go.Proofs.YtocdnceckljnaaaDoorW.PrintWords Go.Proofs.YtocdnceckljnaaaDoorW.PrintLast Go.Proofs.YtocdnceckljnaaaDoorW.PrintMore
set_option linter.unusedVariables false
set_option linter.unusedSimpArgs false
def B (l : Bs) : ByteArray := ⟨l.toArray⟩
theorem B_data (l : Bs) : (B l).data.toList = l := rfl
theorem B_size (l : Bs) : (B l).size = l.length := by simp [B, ByteArray.size]
structure Dat where
  isSec : Bool
  s : Bs
  n : Bs
  v : Bs
  p : Nat
  b : Nat
  be : Nat
def Dat.blks (x : Dat) : List (Nat × Obj) :=
  if x.isSec = true then [(x.p, .cells #[.int .i64 0, .pointer none, .pointer (some ⟨x.b, 0, none⟩)] 109 (0, 0)), (x.b, .cells #[.string (B x.s), .slice (some ⟨x.be, 0, none⟩) 0 0] 79 (0, 0)), (x.be, .cells #[] 80 (0, 0))]
  else [(x.p, .cells #[.int .i64 1, .pointer (some ⟨x.b, 0, none⟩), .pointer none] 109 (0, 0)), (x.b, .cells #[.string (B x.s), .string (B x.n), .string (B x.v)] 64 (0, 0))]
theorem Dat.typed (x : Dat) : ∀ p ∈ x.blks, ∃ c t, p.2 = .cells c t (0, 0) ∧ (t = 109 ∨ t = 79 ∨ t = 80 ∨ t = 64) := by
  intro p hp
  unfold Dat.blks at hp
  split at hp
  · simp only [List.mem_cons, List.mem_nil_iff, or_false] at hp
    rcases hp with rfl | rfl | rfl
    · exact ⟨_, _, rfl, by decide⟩
    · exact ⟨_, _, rfl, by decide⟩
    · exact ⟨_, _, rfl, by decide⟩
  · simp only [List.mem_cons, List.mem_nil_iff, or_false] at hp
    rcases hp with rfl | rfl
    · exact ⟨_, _, rfl, by decide⟩
    · exact ⟨_, _, rfl, by decide⟩
def DataAt (W : World) (D : List Dat) : Prop := ∀ x ∈ D, ∀ p ∈ x.blks, W.heap[p.1]? = some p.2
theorem DataAt.move {W W1 : World} {D : List Dat} (h : DataAt W D) (hm : ∀ (k : Nat) (c : Array Value) (t : Nat), W.heap[k]? = some (Obj.cells c t (0, 0)) → (t = 109 ∨ t = 79 ∨ t = 80 ∨ t = 64) → W1.heap[k]? = W.heap[k]?) : DataAt W1 D := by
  intro x hx p hp
  have h1 := h x hx p hp
  obtain ⟨c, t, h2, h3⟩ := x.typed p hp
  rw [hm p.1 c t (by rw [h1, h2]) h3]
  exact h1
def kPtr : Kd Nat := Kd.scalar (fun b => .pointer (some ⟨b, 0, none⟩)) (fun _ => rfl)
structure LS (w0 : World) (gl gb : Nat) (T : ByteArray) (W : World) (rest : Bs) (D : List Dat) (vd : Value) : Prop where
  lx : Lx w0 gl gb T W rest vd
  row : kPtr.R 106 W w0.heap.size (fun _ => True) vd (D.map (·.p))
  data : DataAt W D
  new : ∀ x ∈ D, x.isSec = true → (w0.heap.size ≤ x.b ∧ x.b < W.heap.size) ∧ (w0.heap.size ≤ x.be ∧ x.be < W.heap.size)
  apart : (D.filter (·.isSec)).Pairwise (fun x y => x.b ≠ y.b ∧ x.be ≠ y.be)
theorem new_le {a b be n m : Nat} (h : (a ≤ b ∧ b < n) ∧ (a ≤ be ∧ be < n)) (hl : n ≤ m) : (a ≤ b ∧ b < m) ∧ (a ≤ be ∧ be < m) := by omega
theorem kE (q : Nat) (h : q ∈ 106 :: kPtr.E) : q = 106 := by simpa [kPtr, Kd.scalar] using h
namespace LS
variable {w0 W W1 : World} {gl gb : Nat} {T : ByteArray} {rest : Bs} {D : List Dat} {vd : Value}
theorem more (h : LS w0 gl gb T W rest D vd) (hb : Below W.heap.size W W1) : LS w0 gl gb T W1 rest D vd :=
  ⟨h.lx.more hb, Kd.R_below h.row hb, DataAt.move h.data (fun k c t hk _ => hb.block k (blk_lt hk)), fun x hx hs => new_le (h.new x hx hs) hb.size, h.apart⟩
theorem on (h : LS w0 gl gb T W rest D vd) (ht : Turned W W1 (at_ gb)) {rest' : Bs} (hl : Lx w0 gl gb T W1 rest' vd) : LS w0 gl gb T W1 rest' D vd := by
  obtain ⟨r, wd, last, hB, _⟩ := h.lx.buf
  refine ⟨hl, ?_, DataAt.move h.data (fun k c t hk hq => ?_), fun x hx hs => new_le (h.new x hx hs) ht.size, h.apart⟩
  · exact Kd.R_mono (Kd.R_kept (Kd.R_types h.row hB.blk (fun q hq => by rw [kE q hq]; decide)) ht.kept (fun k hk e => hk.2 e)) (fun _ _ => trivial)
  · refine ht.kept.2 k (blk_lt hk) (fun e => ?_)
    have hne : k ≠ gb := blk_ne hk hB.blk (by rcases hq with rfl | rfl | rfl | rfl <;> decide)
    exact hne e
end LS
inductive St where
  | next
  | secName
  | suffix (s : Bs)
  | ign (s : Option Bs)
  | secOpt (s : Bs)
  | optName (s : Bs)
  | optVal (s n : Bs)
def Box (W : World) (b : Nat) (v : Value) (t : TypeId) : Prop := W.heap[b]? = some (.cells #[v] t (0, 0))
def pt (b : Nat) : Value := .pointer (some ⟨b, 0, none⟩)
def NextIs (gl : Nat) (fv : Value) : Prop := fv = .func (.func 68) #[pt gl] #[]
def SecOptIs (W : World) (gl : Nat) (s : Bs) (fv : Value) : Prop := ∃ b1 b2, fv = .func (.func 107) #[] #[pt b1, pt b2] ∧ Box W b1 (pt gl) 100 ∧ Box W b2 (.string (B s)) 9
def StepIs (n0 : Nat) (W : World) (gl : Nat) : St → Value → Prop
  | .next, fv => NextIs gl fv
  | .secName, fv => fv = .func (.func 82) #[pt gl] #[]
  | .suffix s, fv => ∃ b1 b2, fv = .func (.func 100) #[] #[pt b1, pt b2] ∧ Box W b1 (pt gl) 100 ∧ Box W b2 (.string (B s)) 9
  | .ign o, fv => ∃ b1 b2 v, fv = .func (.func 94) #[] #[pt b1, pt b2] ∧ Box W b1 (pt gl) 100 ∧ Box W b2 v 121 ∧ (match o with | none => NextIs gl v | some s => SecOptIs W gl s v)
  | .secOpt s, fv => SecOptIs W gl s fv
  | .optName s, fv => ∃ b1 b2, fv = .func (.func 118) #[] #[pt b1, pt b2] ∧ Box W b1 (pt gl) 100 ∧ Box W b2 (.string (B s)) 9
  | .optVal s n, fv => ∃ b1 b2 b3 b4, fv = .func (.func 133) #[] #[pt b1, pt b2, pt b3, pt b4] ∧ Box W b1 (pt gl) 100 ∧ Box W b2 (.string ⟨#[]⟩) 9 ∧ Box W b3 (.string (B s)) 9 ∧ Box W b4 (.string (B n)) 9 ∧ n0 ≤ b2 ∧ b3 ≠ b2 ∧ b4 ≠ b2
theorem Box.more {W W1 : World} {b : Nat} {v : Value} {t : TypeId} (h : Box W b v t) (hb : Below W.heap.size W W1) : Box W1 b v t := (hb.block b (blk_lt h)).trans h
theorem Box.turned {W W1 : World} {b : Nat} {v : Value} {t : TypeId} {S : Nat → Prop} (h : Box W b v t) (ht : Turned W W1 S) (hn : ¬ S b) : Box W1 b v t := ht.blk h hn
theorem Box.cell {W : World} {b : Nat} {v : Value} {t : TypeId} (h : Box W b v t) : W.cell? ⟨b, 0, none⟩ = some v := by rw [blk_cell h]; rfl
theorem Box.new (W : World) (v : Value) (t : TypeId) : Box (W.alloc (.cells #[v] t)) W.heap.size v t := blk_new W _
theorem SecOptIs.more {W W1 : World} {gl : Nat} {s : Bs} {fv : Value} (h : SecOptIs W gl s fv) (hb : Below W.heap.size W W1) : SecOptIs W1 gl s fv := by
  obtain ⟨b1, b2, rfl, h1, h2⟩ := h
  exact ⟨b1, b2, rfl, h1.more hb, h2.more hb⟩
end Go.Proofs.YtocdnceckljnaaaDoor.U
namespace Go.Proofs.YtocdnceckljnaaaDoor.U
open Go.RowKit Go.Proofs.YtocdnceckljnaaaDoorW.PrintWords Go.Proofs.YtocdnceckljnaaaDoorW.PrintLast Go.Proofs.YtocdnceckljnaaaDoorW.PrintMore
set_option linter.unusedVariables false
set_option linter.unusedSimpArgs false
theorem hmf : ∀ (fn : Fn) (first cap : Array Value) (w : World), (Instr.makeFunc fn first cap).run Tryd.prog w = .ok (.func fn first cap) w := fun _ _ _ _ => rfl
theorem alloc_size' (w : World) (o : Obj) : (w.alloc o).heap.size = w.heap.size + 1 := by show (w.heap.push o).size = _; rw [Array.size_push]
theorem two_boxes (W : World) (v1 v2 : Value) (t1 t2 : TypeId) : Box ((W.alloc (.cells #[v1] t1)).alloc (.cells #[v2] t2)) W.heap.size v1 t1 ∧ Box ((W.alloc (.cells #[v1] t1)).alloc (.cells #[v2] t2)) (W.heap.size + 1) v2 t2 ∧ Below W.heap.size W ((W.alloc (.cells #[v1] t1)).alloc (.cells #[v2] t2)) := by
  refine ⟨(Box.new W v1 t1).more (below_new _ _), ?_, below_over (below_new _ _) (below_new _ _)⟩
  have := Box.new (W.alloc (.cells #[v1] t1)) v2 t2
  rw [alloc_size'] at this
  exact this
set_option maxHeartbeats 4000000 in
set_option maxRecDepth 100000 in
theorem secopt_mk (gl : Nat) (s : Bs) (W : World) : Calls Tryd.prog 102 #[pt gl, .string (B s)] W fun e w' => ∃ fv, e = .returned fv ∧ SecOptIs w' gl s fv ∧ Below W.heap.size W w' := by
  have hmf := hmf
  have H2 := Aside0.mk (two_boxes W (pt gl) (.string (B s)) 100 9)
  go_enter Tryd.func102, Tryd.ntmps102
  go_wp2
  go_ret
  exact ⟨_, rfl, ⟨_, _, rfl, H2.out.1, H2.out.2.1⟩, H2.out.2.2⟩
set_option maxHeartbeats 4000000 in
set_option maxRecDepth 100000 in
theorem suffix_mk (n0 : Nat) (gl : Nat) (s : Bs) (S : ByteArray) (hS : S = B s) (W : World) : Calls Tryd.prog 93 #[pt gl, .string S] W fun e w' => ∃ fv, e = .returned fv ∧ StepIs n0 w' gl (.suffix s) fv ∧ Below W.heap.size W w' := by
  subst hS
  have hmf := hmf
  have H2 := Aside0.mk (two_boxes W (pt gl) (.string (B s)) 100 9)
  go_enter Tryd.func93, Tryd.ntmps93
  go_wp2
  go_ret
  exact ⟨_, rfl, ⟨_, _, rfl, H2.out.1, H2.out.2.1⟩, H2.out.2.2⟩
set_option maxHeartbeats 4000000 in
set_option maxRecDepth 100000 in
theorem optname_mk (n0 : Nat) (gl : Nat) (s : Bs) (W : World) : Calls Tryd.prog 110 #[pt gl, .string (B s)] W fun e w' => ∃ fv, e = .returned fv ∧ StepIs n0 w' gl (.optName s) fv ∧ Below W.heap.size W w' := by
  have hmf := hmf
  have H2 := Aside0.mk (two_boxes W (pt gl) (.string (B s)) 100 9)
  go_enter Tryd.func110, Tryd.ntmps110
  go_wp2
  go_ret
  exact ⟨_, rfl, ⟨_, _, rfl, H2.out.1, H2.out.2.1⟩, H2.out.2.2⟩
set_option maxHeartbeats 4000000 in
set_option maxRecDepth 100000 in
theorem ign_mk (gl : Nat) (fn : Fn) (fi ca : Array Value) (W : World) : Calls Tryd.prog 84 #[pt gl, .func fn fi ca] W fun e w' => ∃ b1 b2, e = .returned (.func (.func 94) #[] #[pt b1, pt b2]) ∧ Box w' b1 (pt gl) 100 ∧ Box w' b2 (.func fn fi ca) 121 ∧ Below W.heap.size W w' := by
  have hmf := hmf
  have H2 := Aside0.mk (two_boxes W (pt gl) (.func fn fi ca) 100 121)
  go_enter Tryd.func84, Tryd.ntmps84
  go_wp2
  go_ret
  exact ⟨_, _, rfl, H2.out.1, H2.out.2.1, H2.out.2.2⟩
theorem four_boxes (W : World) (v1 v2 v3 v4 : Value) (t1 t2 t3 t4 : TypeId) : ∃ b1 b2 b3 b4, b1 = W.heap.size ∧ b2 = W.heap.size + 1 ∧ b3 = W.heap.size + 2 ∧ b4 = W.heap.size + 3 ∧
    Box ((((W.alloc (.cells #[v1] t1)).alloc (.cells #[v2] t2)).alloc (.cells #[v3] t3)).alloc (.cells #[v4] t4)) b1 v1 t1 ∧ Box ((((W.alloc (.cells #[v1] t1)).alloc (.cells #[v2] t2)).alloc (.cells #[v3] t3)).alloc (.cells #[v4] t4)) b2 v2 t2 ∧
    Box ((((W.alloc (.cells #[v1] t1)).alloc (.cells #[v2] t2)).alloc (.cells #[v3] t3)).alloc (.cells #[v4] t4)) b3 v3 t3 ∧ Box ((((W.alloc (.cells #[v1] t1)).alloc (.cells #[v2] t2)).alloc (.cells #[v3] t3)).alloc (.cells #[v4] t4)) b4 v4 t4 ∧
    Below W.heap.size W ((((W.alloc (.cells #[v1] t1)).alloc (.cells #[v2] t2)).alloc (.cells #[v3] t3)).alloc (.cells #[v4] t4)) := by
  obtain ⟨h1, h2, h3⟩ := two_boxes W v1 v2 t1 t2
  obtain ⟨k1, k2, k3⟩ := two_boxes ((W.alloc (.cells #[v1] t1)).alloc (.cells #[v2] t2)) v3 v4 t3 t4
  rw [alloc_size', alloc_size'] at k1 k2
  exact ⟨_, _, _, _, rfl, rfl, rfl, rfl, h1.more k3, h2.more k3, k1, k2, below_over h3 k3⟩
set_option maxHeartbeats 4000000 in
set_option maxRecDepth 100000 in
theorem optval_mk (n0 : Nat) (gl : Nat) (s n : Bs) (N : ByteArray) (hN : N = B n) (W : World) (hn0 : n0 ≤ W.heap.size) : Calls Tryd.prog 120 #[pt gl, .string (B s), .string N, .string ⟨#[]⟩] W fun e w' => ∃ fv, e = .returned fv ∧ StepIs n0 w' gl (.optVal s n) fv ∧ Below W.heap.size W w' := by
  subst hN
  have hmf := hmf
  obtain ⟨b1, b2, b3, b4, e1, e2, e3, e4, h1, h2, h3, h4, h5⟩ := four_boxes W (pt gl) (.string (B s)) (.string (B n)) (.string ⟨#[]⟩) 100 9 9 9
  have H1 := Aside0.mk h1
  have H2 := Aside0.mk h2
  have H3 := Aside0.mk h3
  have H4 := Aside0.mk h4
  have H5 := Aside0.mk h5
  have E := Aside0.mk (And.intro e1 (And.intro e2 (And.intro e3 e4)))
  clear h1 h2 h3 h4 h5 e1 e2 e3 e4
  go_enter Tryd.func120, Tryd.ntmps120
  go_wp2
  go_ret
  obtain ⟨e1, e2, e3, e4⟩ := E.out
  exact ⟨_, rfl, ⟨b1, b4, b2, b3, by rw [e1, e2, e3, e4]; rfl, H1.out, H4.out, H2.out, H3.out, by omega, by omega, by omega⟩, H5.out⟩
def ret (fv : Value) : Ending := .returned (.tuple #[fv, .nilIface])
set_option maxHeartbeats 4000000 in
set_option maxRecDepth 100000 in
theorem next_end {w0 W : World} {gl gb : Nat} {T : ByteArray} {D : List Dat} {vd : Value} (h : LS w0 gl gb T W [] D vd) :
    Calls Tryd.prog 68 #[pt gl] W fun e w' => e = ret .nilFunc ∧ LS w0 gl gb T w' [] D vd := by
  have H := Aside0.mk h
  have hc0 := h.lx.c0
  have hen : ∀ (w : World), (binOp .neq 61 eof .nilIface).run Tryd.prog w = .ok (.bool true) w := fun _ => rfl
  clear h
  unfold pt
  go_enter Tryd.func68, Tryd.ntmps68
  go_wp2_with (first
    | (go_at_call 80; refine (rune_lx_end H.out.lx).mono ?_; rintro e w1 ⟨rfl, hx, ht⟩; have H1 := Aside0.mk (H.out.on ht hx); clear hx ht)
    | (go_at_call 81; refine (eof_is _).mono ?_; rintro e w2 ⟨rfl, hb⟩; have H2 := Aside0.mk (H1.out.more hb); clear hb))
  go_ret2
  exact ⟨rfl, H2.out⟩
set_option maxHeartbeats 4000000 in
set_option maxRecDepth 100000 in
theorem next_go {w0 W : World} {gl gb : Nat} {T : ByteArray} {D : List Dat} {vd : Value} (c : UInt8) (r : Bs) (h : LS w0 gl gb T W (c :: r) D vd) :
    Calls Tryd.prog 68 #[pt gl] W fun e w' => ∃ fv, e = ret fv ∧ LS w0 gl gb T w' r D vd ∧ StepIs w0.heap.size w' gl (if c.toNat = 91 then .secName else if c.toNat = 35 ∨ c.toNat = 59 then .ign none else .next) fv := by
  have H := Aside0.mk h
  have hc0 := h.lx.c0
  have hnn : ∀ (w : World), (binOp .neq 61 .nilIface .nilIface).run Tryd.prog w = .ok (.bool false) w := fun _ => rfl
  have hmf := hmf
  clear h
  unfold pt
  by_cases h1 : c.toNat = 91
  · rw [if_pos h1]
    have q1 : ((c.toNat : Int) == 91) = true := by rw [beq_iff_eq]; omega
    clear h1
    go_enter Tryd.func68, Tryd.ntmps68
    go_wp2_with (go_at_call 80; refine (rune_lx c r H.out.lx).mono ?_; rintro e w1 ⟨rfl, hx, ht, _⟩; have H1 := Aside0.mk (H.out.on ht hx); clear hx ht)
    go_ret2
    exact ⟨_, rfl, H1.out, rfl⟩
  · rw [if_neg h1]
    have q1 : ((c.toNat : Int) == 91) = false := by rw [beq_eq_false_iff_ne]; omega
    clear h1
    by_cases h2 : c.toNat = 35 ∨ c.toNat = 59
    · rw [if_pos h2]
      have q2 : (c.toNat == 35 || c.toNat == 59) = true := by simpa using h2
      clear h2
      go_enter Tryd.func68, Tryd.ntmps68
      go_wp2_with (first
        | (go_at_call 80; refine (rune_lx c r H.out.lx).mono ?_; rintro e w1 ⟨rfl, hx, ht, _⟩; have H1 := Aside0.mk (H.out.on ht hx); clear hx ht)
        | (go_at_call 83; refine (comment_ c.toNat _).mono ?_; rintro e w2 ⟨rfl, rfl⟩; rw [q2])
        | (go_at_call 84; refine (ign_mk gl _ _ _ _).mono ?_; rintro e w3 ⟨b1, b2, rfl, k1, k2, hb⟩; have H3 := Aside0.mk (H1.out.more hb); have K1 := Aside0.mk k1; have K2 := Aside0.mk k2; clear k1 k2 hb))
      go_ret2
      exact ⟨_, rfl, H3.out, b1, b2, _, rfl, K1.out, K2.out, rfl⟩
    · rw [if_neg h2]
      have q2 : (c.toNat == 35 || c.toNat == 59) = false := by simpa using h2
      clear h2
      go_enter Tryd.func68, Tryd.ntmps68
      go_wp2_with (first
        | (go_at_call 80; refine (rune_lx c r H.out.lx).mono ?_; rintro e w1 ⟨rfl, hx, ht, _⟩; have H1 := Aside0.mk (H.out.on ht hx); clear hx ht)
        | (go_at_call 83; refine (comment_ c.toNat _).mono ?_; rintro e w2 ⟨rfl, rfl⟩; rw [q2]))
      go_ret2
      exact ⟨_, rfl, H1.out, rfl⟩
theorem wr0 (n : Nat) (h : n ≤ 4611686018427387904) : wrap64 (n : Int) = (n : Int) := by unfold wrap64; omega
theorem son_B (l : Bs) : strOfNums (nums l) = B l := by
  apply ByteArray.ext
  apply Array.toList_inj.1
  rw [strOfNums_data]
  unfold nums
  rw [List.map_map]
  show _ = l
  conv => rhs; rw [← List.map_id l]
  apply List.map_congr_left
  intro c _
  simp
theorem Sl.str {W : World} {base : Nat} {v : Value} {l : Bs} (h : Sl W base v l) : (convert 33 9 v).run Tryd.prog W = .ok (.string (B l)) W := by
  obtain ⟨b, o, c, rfl, h1, h2, h3, h4⟩ := h.bytes
  rw [run_convert_bytes_arg W 33 5 Tryd.underlying33 Tryd.underlying5 b o l.length c (nums l) (nums_len l) h4 9 Tryd.underlying9, son_B]
theorem Sl.cut {W : World} {base : Nat} {v : Value} {a : Bs} {d : UInt8} (h : Sl W base v (a ++ [d])) : ∃ b o c, v = .slice (some ⟨b, o, none⟩) (a.length + 1) c ∧ a.length + 1 ≤ c ∧ (convert 33 9 (.slice (some ⟨b, o, none⟩) a.length c)).run Tryd.prog W = .ok (.string (B a)) W := by
  obtain ⟨b, o, c, rfl, h1, h2, h3, h4⟩ := h.has
  rw [List.length_append] at h1
  simp only [List.length_singleton] at h1
  refine ⟨b, o, c, by rw [List.length_append]; rfl, h1, Sl.str (base := base) ⟨b, o, c, rfl, by omega, h2, h3, fun i u hu => h4 i u ?_⟩⟩
  rw [List.getElem?_append_left (List.getElem?_eq_some_iff.1 hu).1]
  exact hu
set_option maxHeartbeats 4000000 in
set_option maxRecDepth 100000 in
theorem secname_go {w0 W : World} {gl gb : Nat} {T : ByteArray} {D : List Dat} {vd : Value} (a r : Bs) (h : LS w0 gl gb T W (a ++ 93 :: r) D vd) (ha : (93 : UInt8) ∉ a) (hl : a.length ≤ 4611686018427387000) :
    Calls Tryd.prog 82 #[pt gl] W fun e w' => ∃ fv, e = ret fv ∧ LS w0 gl gb T w' r D vd ∧ StepIs w0.heap.size w' gl (.suffix a) fv := by
  have H := Aside0.mk h
  have hc0 := h.lx.c0
  have hnn : ∀ (w : World), (binOp .neq 61 .nilIface .nilIface).run Tryd.prog w = .ok (.bool false) w := fun _ => rfl
  have HA := Aside0.mk ha
  have HL := Aside0.mk hl
  clear h ha hl
  generalize hm : a.length = m at HL
  have v1 : wrap64 (m : Int) = (m : Int) := wr0 m (Nat.le_trans HL.out (by decide))
  unfold pt
  go_enter Tryd.func82, Tryd.ntmps82
  go_wp2_with (first
    | (go_at_call 92; refine (read_lx 93 a r H.out.lx HA.out).mono ?_; rintro e w1 ⟨v1, rfl, hs, hx, ht⟩; have H1 := Aside0.mk (H.out.on ht hx); obtain ⟨b, o, c, rfl, hc, hcv⟩ := hs.cut; rw [hm] at hc hcv ⊢; clear hx ht hs; have hc2 : (m : Int) ≤ (c : Int) := Int.ofNat_le.2 (Nat.le_of_succ_le hc))
    | (go_at_call 93; refine (suffix_mk w0.heap.size gl a _ rfl _).mono ?_; rintro e w2 ⟨fv, rfl, hst, hb⟩; have H2 := Aside0.mk (H1.out.more hb); have HS := Aside0.mk hst; clear hst hb))
  go_ret2
  exact ⟨_, rfl, H2.out, HS.out⟩
end Go.Proofs.YtocdnceckljnaaaDoor.U
namespace Go.Proofs.YtocdnceckljnaaaDoor.U
open Go.RowKit Go.Proofs.YtocdnceckljnaaaDoorW.PrintWords Go.Proofs.YtocdnceckljnaaaDoorW.PrintLast Go.Proofs.YtocdnceckljnaaaDoorW.PrintMore
set_option linter.unusedVariables false
set_option linter.unusedSimpArgs false
theorem LS.box {w0 W W1 : World} {gl gb : Nat} {T : ByteArray} {rest : Bs} {D : List Dat} {vd : Value} (h : LS w0 gl gb T W rest D vd) (ht : Turned W W1 (at_ gb)) {b : Nat} {v : Value} {t : TypeId} (hb : Box W b v t) (hne : t ≠ 114) : Box W1 b v t := by
  obtain ⟨r, wd, last, hB, _⟩ := h.lx.buf
  exact hb.turned ht (blk_ne hb hB.blk hne)
theorem LS.secopt {w0 W W1 : World} {gl gb : Nat} {T : ByteArray} {rest : Bs} {D : List Dat} {vd : Value} (h : LS w0 gl gb T W rest D vd) (ht : Turned W W1 (at_ gb)) {s : Bs} {fv : Value} (hf : SecOptIs W gl s fv) : SecOptIs W1 gl s fv := by
  obtain ⟨b1, b2, rfl, h1, h2⟩ := hf
  exact ⟨b1, b2, rfl, h.box ht h1 (by decide), h.box ht h2 (by decide)⟩
theorem has1 (W : World) (base : Nat) (v : Value) (l : Bs) (d : UInt8) (x : Int) (hx : x = ((d.toNat : Nat) : Int)) (b2 c2 : Nat) (h : Sl W base v l) (hl : l.length ≤ 4611686018427387904) (h2 : W.cell? ⟨b2, 0, none⟩ = some (.int .u8 x)) :
    Calls Tryd.prog 97 #[v, .slice (some ⟨b2, 0, none⟩) 1 c2] W fun e w' => e = .returned (.bool (Lib.hasSuffix l [d])) ∧ w' = W := by
  subst hx
  obtain ⟨b, o, c, rfl, h1, hb, hlt, h4⟩ := h.bytes
  have := Tryd.bytes_HasSuffix_all (some ⟨b, o, none⟩) (some ⟨b2, 0, none⟩) l.length c 1 c2 (nums l) (nums [d]) W (nums_len l) rfl h1 (by omega)
    (fun _ => ⟨b, o, rfl, h4⟩) (fun _ => ⟨b2, 0, rfl, fun i hi => by obtain rfl : i = 0 := by omega
                                                                     exact h2⟩)
  rw [bytesOf_nums, bytesOf_nums] at this
  exact this
theorem cutEnd_len (d : UInt8) (l : Bs) : (cutEnd d l).length ≤ l.length := by
  unfold cutEnd
  split
  · rw [List.length_dropLast]; omega
  · exact Nat.le_refl _
set_option maxHeartbeats 4000000 in
set_option maxRecDepth 100000 in
theorem ign_go {w0 W : World} {gl gb : Nat} {T : ByteArray} {D : List Dat} {vd : Value} (rest : Bs) (b1 b2 : Nat) (v : Value) (h : LS w0 gl gb T W rest D vd) (k1 : Box W b1 (pt gl) 100) (k2 : Box W b2 v 121)
    (h13 : (13 : UInt8) ∉ eolL rest) (hl : (eolL rest).length ≤ 4611686018427387000) (hb : Lib.hasSuffix (cutEnd 32 (eolL rest)) [92] = false) :
    Calls Tryd.prog 94 #[pt b1, pt b2] W fun e w' => e = ret v ∧ LS w0 gl gb T w' (eolR rest) D vd ∧ (∀ s, SecOptIs W gl s v → SecOptIs w' gl s v) := by
  have H := Aside0.mk h
  have hc1 := k1.cell
  have K2 := Aside0.mk k2
  have H13 := Aside0.mk h13
  have HL := Aside0.mk hl
  have HB := Aside0.mk hb
  have HS := Aside0.mk (fun (s : Bs) (hs : SecOptIs W gl s v) => hs)
  have hnn : ∀ (w : World), (binOp .neq 61 .nilIface .nilIface).run Tryd.prog w = .ok (.bool false) w := fun _ => rfl
  clear h k1 k2 h13 hl hb
  unfold pt at hc1 ⊢
  go_enter Tryd.func94, Tryd.ntmps94
  go_wp2
  go_loop [4] (fun _ => True) (fun _ => 0)
  case atStart => trivial
  case round =>
    go_wp2_with (first
      | (go_at_call 95; refine (to_eol rest H.out.lx H13.out HL.out).mono ?_; rintro e w1 ⟨v1, rfl, hs, hx, ht⟩; have HS1 := Aside0.mk hs; have H1 := Aside0.mk (H.out.on ht hx); have K21 := Aside0.mk (H.out.box ht K2.out (by decide)); have HO1 := Aside0.mk (fun s hs => H.out.secopt ht (HS.out s hs)); clear hs hx ht)
      | (go_at_call 96; refine (trim1' _ W.heap.size v1 (eolL rest) 32 32 rfl _ _ (HS1.out.below (below_new _ _)) (Nat.le_trans HL.out (by decide)) (cell_new _ _ _)).mono ?_; rintro e w2 ⟨⟨v2, rfl, hs2⟩, hw⟩; have HS2 := Aside0.mk hs2; have H2 := Aside0.mk (show LS w0 gl gb T w2 (eolR rest) D vd by rw [hw]; exact H1.out.more (below_new _ _)); have K22 := Aside0.mk (show Box w2 b2 v 121 by rw [hw]; exact K21.out.more (below_new _ _)); have HO2 := Aside0.mk (fun s hs => show SecOptIs w2 gl s v by rw [hw]; exact (HO1.out s hs).more (below_new _ _)); clear hs2 hw)
      | (go_at_call 97; refine (has1 _ W.heap.size v2 (cutEnd 32 (eolL rest)) 92 92 rfl _ _ (HS2.out.below (below_new _ _)) (Nat.le_trans (cutEnd_len _ _) (Nat.le_trans HL.out (by decide))) (cell_new _ _ _)).mono ?_; rintro e w3 ⟨rfl, hw⟩; rw [HB.out]; have H3 := Aside0.mk (show LS w0 gl gb T w3 (eolR rest) D vd by rw [hw]; exact H2.out.more (below_new _ _)); have hk := (show Box w3 b2 v 121 by rw [hw]; exact K22.out.more (below_new _ _)).cell; have HO3 := Aside0.mk (fun s hs => show SecOptIs w3 gl s v by rw [hw]; exact (HO2.out s hs).more (below_new _ _)); clear hw))
    go_ret2
    exact ⟨rfl, H3.out, HO3.out⟩
set_option maxHeartbeats 4000000 in
set_option maxRecDepth 100000 in
theorem secopt_end {w0 W : World} {gl gb : Nat} {T : ByteArray} {D : List Dat} {vd : Value} (b1 b2 : Nat) (s : Bs) (h : LS w0 gl gb T W [] D vd) (k1 : Box W b1 (pt gl) 100) (k2 : Box W b2 (.string (B s)) 9) :
    Calls Tryd.prog 107 #[pt b1, pt b2] W fun e w' => e = ret .nilFunc ∧ LS w0 gl gb T w' [] D vd := by
  have H := Aside0.mk h
  have hc0 := h.lx.c0
  have hc1 := k1.cell
  have hen : ∀ (w : World), (binOp .neq 61 eof .nilIface).run Tryd.prog w = .ok (.bool true) w := fun _ => rfl
  clear h k1 k2
  unfold pt at hc1 ⊢
  go_enter Tryd.func107, Tryd.ntmps107
  go_wp2_with (first
    | (go_at_call 80; refine (rune_lx_end H.out.lx).mono ?_; rintro e w1 ⟨rfl, hx, ht⟩; have H1 := Aside0.mk (H.out.on ht hx); clear hx ht)
    | (go_at_call 81; refine (eof_is _).mono ?_; rintro e w2 ⟨rfl, hb⟩; have H2 := Aside0.mk (H1.out.more hb); clear hb))
  go_ret2
  exact ⟨rfl, H2.out⟩
def soStep (s : Bs) (c : UInt8) (r : Bs) : St × Bs := if spN c.toNat = true then (.secOpt s, r) else if c.toNat = 91 then (.secName, r) else if c.toNat = 35 ∨ c.toNat = 59 then (.ign (some s), r) else (.optName s, c :: r)
set_option maxHeartbeats 4000000 in
set_option maxRecDepth 100000 in
theorem secopt_go {w0 W : World} {gl gb : Nat} {T : ByteArray} {D : List Dat} {vd : Value} (b1 b2 : Nat) (s : Bs) (c : UInt8) (r : Bs) (h : LS w0 gl gb T W (c :: r) D vd) (k1 : Box W b1 (pt gl) 100) (k2 : Box W b2 (.string (B s)) 9) (hc128 : c.toNat < 128) :
    Calls Tryd.prog 107 #[pt b1, pt b2] W fun e w' => ∃ fv, e = ret fv ∧ LS w0 gl gb T w' (soStep s c r).2 D vd ∧ StepIs w0.heap.size w' gl (soStep s c r).1 fv := by
  have H := Aside0.mk h
  have hc0 := h.lx.c0
  have hc1 := k1.cell
  have K1 := Aside0.mk k1
  have K2 := Aside0.mk k2
  have HC := Aside0.mk hc128
  have hnn : ∀ (w : World), (binOp .neq 61 .nilIface .nilIface).run Tryd.prog w = .ok (.bool false) w := fun _ => rfl
  have hmf := hmf
  clear h k1 k2 hc128
  unfold pt at hc1 ⊢
  by_cases h0 : spN c.toNat = true
  · rw [show soStep s c r = (.secOpt s, r) by unfold soStep; rw [if_pos h0]]
    go_enter Tryd.func107, Tryd.ntmps107
    go_wp2_with (first
      | (go_at_call 80; refine (rune_lx c r H.out.lx).mono ?_; rintro e w1 ⟨rfl, hx, ht, _⟩; have H1 := Aside0.mk (H.out.on ht hx); have hk1 := (H.out.box ht K1.out (by decide)).cell; have hk2 := (H.out.box ht K2.out (by decide)).cell; clear hx ht; unfold pt at hk1)
      | (go_at_call 108; refine (space_ c.toNat HC.out _).mono ?_; rintro e w2 ⟨rfl, rfl⟩; rw [h0])
      | (go_at_call 102; refine (secopt_mk gl s _).mono ?_; rintro e w3 ⟨fv, rfl, hso, hb⟩; have H3 := Aside0.mk (H1.out.more hb); have HO := Aside0.mk hso; clear hso hb))
    go_ret2
    exact ⟨_, rfl, H3.out, HO.out⟩
  · have hs0 : soStep s c r = if c.toNat = 91 then (.secName, r) else if c.toNat = 35 ∨ c.toNat = 59 then (.ign (some s), r) else (.optName s, c :: r) := by unfold soStep; rw [if_neg h0]
    rw [hs0]
    have h0' : spN c.toNat = false := by simpa using h0
    clear h0 hs0
    by_cases h1 : c.toNat = 91
    · rw [if_pos h1]
      have q1 : ((c.toNat : Int) == 91) = true := by rw [beq_iff_eq]; omega
      clear h1
      go_enter Tryd.func107, Tryd.ntmps107
      go_wp2_with (first
        | (go_at_call 80; refine (rune_lx c r H.out.lx).mono ?_; rintro e w1 ⟨rfl, hx, ht, _⟩; have H1 := Aside0.mk (H.out.on ht hx); have hk1 := (H.out.box ht K1.out (by decide)).cell; have hk2 := (H.out.box ht K2.out (by decide)).cell; clear hx ht; unfold pt at hk1)
        | (go_at_call 108; refine (space_ c.toNat HC.out _).mono ?_; rintro e w2 ⟨rfl, rfl⟩; rw [h0']))
      go_ret2
      exact ⟨_, rfl, H1.out, rfl⟩
    · rw [if_neg h1]
      have q1 : ((c.toNat : Int) == 91) = false := by rw [beq_eq_false_iff_ne]; omega
      clear h1
      by_cases h2 : c.toNat = 35 ∨ c.toNat = 59
      · rw [if_pos h2]
        have q2 : (c.toNat == 35 || c.toNat == 59) = true := by simpa using h2
        clear h2
        go_enter Tryd.func107, Tryd.ntmps107
        go_wp2_with (first
          | (go_at_call 80; refine (rune_lx c r H.out.lx).mono ?_; rintro e w1 ⟨rfl, hx, ht, _⟩; have H1 := Aside0.mk (H.out.on ht hx); have hk1 := (H.out.box ht K1.out (by decide)).cell; have hk2 := (H.out.box ht K2.out (by decide)).cell; clear hx ht; unfold pt at hk1)
          | (go_at_call 108; refine (space_ c.toNat HC.out _).mono ?_; rintro e w2 ⟨rfl, hw2⟩; subst hw2; rw [h0'])
          | (go_at_call 83; refine (comment_ c.toNat _).mono ?_; rintro e w4 ⟨rfl, hw4⟩; subst hw4; rw [q2]))
        have hb0 : Below w4.heap.size w4 w4.drew := below_drew (Below.refl _ _)
        go_region_held (fun w' => Below w4.heap.size w4 w' ∧ w'.cell? ⟨b1, 0, none⟩ = some (.pointer (some ⟨gl, 0, none⟩)) ∧ w'.cell? ⟨b2, 0, none⟩ = some (.string (B s)))
          (first
            | (go_split_ands; exact ⟨by assumption, by assumption, by assumption⟩)
            | (go_split_ands; exact ⟨below_over (by assumption) (by assumption), keepcell (by assumption) (by assumption), keepcell (by assumption) (by assumption)⟩)
            | go_keep)
          (first
            | (go_at_call 102; refine (secopt_mk gl s _).mono ?_; rintro e w5 ⟨fv, rfl, hso, hb5⟩; have HO5 := Aside0.mk hso; obtain ⟨d1, d2, rfl, _, _⟩ := hso)
            | (go_at_call 84; refine (ign_mk gl _ _ _ _).mono ?_; rintro e w6 ⟨e1, e2, rfl, k1, k2, hb6⟩; have HO6 := Aside0.mk (HO5.out.more hb6); have K61 := Aside0.mk k1; have K62 := Aside0.mk k2; clear k1 k2))
        rename_i hHeld
        have HH := Aside0.mk hHeld.1
        clear hHeld
        go_wp2
        go_ret2
        exact ⟨_, rfl, H1.out.more HH.out, e1, e2, _, rfl, K61.out, K62.out, HO6.out⟩
      · rw [if_neg h2]
        have q2 : (c.toNat == 35 || c.toNat == 59) = false := by simpa using h2
        clear h2
        go_enter Tryd.func107, Tryd.ntmps107
        go_wp2_with (first
          | (go_at_call 80; refine (rune_lx c r H.out.lx).mono ?_; rintro e w1 ⟨rfl, hx, ht, hun⟩; have H1 := Aside0.mk (H.out.on ht hx); have KK1 := Aside0.mk (H.out.box ht K1.out (by decide)); have KK2 := Aside0.mk (H.out.box ht K2.out (by decide)); have hk1 := KK1.out.cell; have hg := Aside0.mk (hun); have hcx := H1.out.lx.c0; clear hx ht hun; unfold pt at hk1)
          | (go_at_call 108; refine (space_ c.toNat HC.out _).mono ?_; rintro e w2 ⟨rfl, hw2⟩; subst hw2; rw [h0'])
          | (go_at_call 83; refine (comment_ c.toNat _).mono ?_; rintro e w4 ⟨rfl, hw4⟩; subst hw4; rw [q2])
          | (go_at_call 109; refine (unread_lx c r H1.out.lx hg.out).mono ?_; rintro e w5 ⟨rfl, hx, ht⟩; have H5 := Aside0.mk (H1.out.on ht hx); have hk51 := (H1.out.box ht KK1.out (by decide)).cell; have hk52 := (H1.out.box ht KK2.out (by decide)).cell; clear hx ht; unfold pt at hk51)
          | (go_at_call 110; refine (optname_mk w0.heap.size gl s _).mono ?_; rintro e w6 ⟨fv, rfl, hso, hb⟩; have H6 := Aside0.mk (H5.out.more hb); have HO := Aside0.mk hso; clear hso hb))
        go_ret2
        exact ⟨_, rfl, H6.out, HO.out⟩
end Go.Proofs.YtocdnceckljnaaaDoor.U
namespace Go.Proofs.YtocdnceckljnaaaDoor.U
open Go.RowKit Go.Proofs.YtocdnceckljnaaaDoorW.PrintWords Go.Proofs.YtocdnceckljnaaaDoorW.PrintLast Go.Proofs.YtocdnceckljnaaaDoorW.PrintMore
set_option linter.unusedVariables false
set_option linter.unusedSimpArgs false
theorem encode_ascii (c : UInt8) (h : c.toNat < 128) : Utf8.encode (c.toNat : Int) = B [c] := by
  have hv : Utf8.valid (c.toNat : Int) = true := by
    unfold Utf8.valid
    simp
    omega
  unfold Utf8.encode
  simp only [hv, if_true, Int.toNat_natCast]
  rw [if_pos (by omega)]
  simp [B]
theorem B_append (a b : Bs) : B a ++ B b = B (a ++ b) := by
  apply ByteArray.ext
  simp [ByteArray.data_append, B]
theorem trim_ascii (a : Bs) (W : World) (hl : a.length ≤ 4611686018427387000) (ha : ∀ c ∈ a, c.toNat < 128) (ht : Lib.TabIs Tryd.prog W "strings.asciiSpace" .u8 Lib.asciiSpaceTab) :
    Calls Tryd.prog 119 #[.string (B a)] W fun e w' => e = .returned (.string (B (Lib.trimSpace a))) ∧ Below W.heap.size W w' := by
  refine (Tryd.strings_TrimSpace (B a) W (by rw [B_size]; omega) (fun j b hj => ha b (List.mem_of_getElem? hj)) ht).mono ?_
  rintro e w' ⟨he, hw⟩
  exact ⟨he, hw ▸ below_bytes _ _ _⟩
set_option maxHeartbeats 4000000 in
set_option maxRecDepth 100000 in
theorem optname_go {w0 W : World} {gl gb : Nat} {T : ByteArray} {D : List Dat} {vd : Value} (b1 b2 : Nat) (s a r : Bs) (h : LS w0 gl gb T W (a ++ 61 :: r) D vd) (k1 : Box W b1 (pt gl) 100) (k2 : Box W b2 (.string (B s)) 9)
    (ha : ∀ c ∈ a, c.toNat < 128) (hn : (61 : UInt8) ∉ a) (h10 : (10 : UInt8) ∉ a) (h13 : (13 : UInt8) ∉ a) (hl : a.length ≤ 4611686018427387000) :
    Calls Tryd.prog 118 #[pt b1, pt b2] W fun e w' => ∃ fv, e = ret fv ∧ LS w0 gl gb T w' r D vd ∧ StepIs w0.heap.size w' gl (.optVal s (Lib.trimSpace a)) fv := by
  have H := Aside0.mk h
  have K1 := Aside0.mk k1
  have K2 := Aside0.mk k2
  have HA := Aside0.mk ha
  have HN := Aside0.mk hn
  have H10 := Aside0.mk h10
  have H13 := Aside0.mk h13
  have HL := Aside0.mk hl
  have hnn : ∀ (w : World), (binOp .neq 61 .nilIface .nilIface).run Tryd.prog w = .ok (.bool false) w := fun _ => rfl
  clear h k1 k2 ha hn h10 h13 hl
  unfold pt
  go_enter Tryd.func118, Tryd.ntmps118
  go_wp2
  go_loopg [4] a.length (fun kq v4 w' => ∃ a1 a2, Aside0 (a = a1 ++ a2) ∧ v4 = .string (B a1) ∧ Aside0 (kq = a2.length) ∧ Aside0 (LS w0 gl gb T w' (a2 ++ 61 :: r) D vd) ∧ Aside0 (Box w' b1 (pt gl) 100) ∧ Aside0 (Box w' b2 (.string (B s)) 9))
  case atStart => exact ⟨[], a, ⟨rfl⟩, rfl, ⟨rfl⟩, H, K1, K2⟩
  case round =>
    clear H K1 K2
    obtain ⟨a1, a2, HE, rfl, HK, H, K1, K2⟩ := hrel
    have hk1 := K1.out.cell
    have hc0 := H.out.lx.c0
    unfold pt at hk1
    cases a2 with
    | nil =>
      have HX := Aside0.mk (show LS w0 gl gb T wr (61 :: r) D vd from H.out)
      have hA : B a1 = B a := by rw [HE.out, List.append_nil]
      rw [hA]
      clear hA
      go_wp2_with (first
        | (go_at_call 80; refine (rune_lx 61 r HX.out.lx).mono ?_; rintro e w1 ⟨rfl, hx, ht, _⟩; have H1 := Aside0.mk (HX.out.on ht hx); have KK1 := Aside0.mk (HX.out.box ht K1.out (by decide)); have KK2 := Aside0.mk (HX.out.box ht K2.out (by decide)); clear hx ht)
        | (go_at_call 119; refine (trim_ascii a _ HL.out HA.out H1.out.lx.tabW.ssp).mono ?_; rintro e w2 ⟨rfl, hb⟩; have H2 := Aside0.mk (H1.out.more hb); have hk21 := (KK1.out.more hb).cell; have hk22 := (KK2.out.more hb).cell; clear hb; unfold pt at hk21)
        | (go_at_call 120; refine (optval_mk w0.heap.size gl s _ _ rfl _ H2.out.lx.below.size).mono ?_; rintro e w3 ⟨fv, rfl, hso, hb⟩; have H3 := Aside0.mk (H2.out.more hb); have HO := Aside0.mk hso; clear hso hb))
      go_ret2
      exact ⟨_, rfl, H3.out, HO.out⟩
    | cons c a3 =>
      have HX := Aside0.mk (show LS w0 gl gb T wr (c :: (a3 ++ 61 :: r)) D vd from H.out)
      have hm : c ∈ a := by rw [HE.out]; simp
      have q1 : ((c.toNat : Int) == 10) = false := by rw [beq_eq_false_iff_ne]; intro e; exact H10.out ((UInt8.toNat_inj.1 (show c.toNat = (10 : UInt8).toNat by have : (10 : UInt8).toNat = 10 := rfl; omega)) ▸ hm)
      have q2 : ((c.toNat : Int) == 13) = false := by rw [beq_eq_false_iff_ne]; intro e; exact H13.out ((UInt8.toNat_inj.1 (show c.toNat = (13 : UInt8).toNat by have : (13 : UInt8).toNat = 13 := rfl; omega)) ▸ hm)
      have q3 : ((c.toNat : Int) == 61) = false := by rw [beq_eq_false_iff_ne]; intro e; exact HN.out ((UInt8.toNat_inj.1 (show c.toNat = (61 : UInt8).toNat by have : (61 : UInt8).toNat = 61 := rfl; omega)) ▸ hm)
      have hcv : Utf8.encode (c.toNat : Int) = B [c] := encode_ascii c (HA.out c hm)
      have hsz : ¬ 9223372036854775807 < a1.length + 1 := by
        have := HL.out
        have h2 := congrArg List.length HE.out
        rw [List.length_append] at h2
        omega
      have hs1 : (B a1).size = a1.length := B_size a1
      have hs2 : (B [c]).size = 1 := B_size [c]
      clear hm
      go_wp2_with (go_at_call 80; refine (rune_lx c _ HX.out.lx).mono ?_; rintro e w1 ⟨rfl, hx, ht, _⟩; have H1 := Aside0.mk (HX.out.on ht hx); have KK1 := Aside0.mk (HX.out.box ht K1.out (by decide)); have KK2 := Aside0.mk (HX.out.box ht K2.out (by decide)); clear hx ht)
      go_roundg a3.length
      case measure => rw [HK.out]; simp
      case rel => exact ⟨a1 ++ [c], a3, ⟨by rw [HE.out]; simp⟩, by rw [← B_append], ⟨rfl⟩, H1, KK1, KK2⟩
end Go.Proofs.YtocdnceckljnaaaDoor.U
namespace Go.Last
open Go
section
variable {P : Program} {ops : Array Oper} {Q : Exit → Act → World → Prop} {md : Region.Mode} {S : World → Prop} {n : Nat}
def wpAnyX (P : Program) (md : Region.Mode) (ops : Array Oper) (Q : Exit → Act → World → Prop) (S : World → Prop) (n : Nat) : Nat → Array Bool → Act → World → Prop
  | 0, listed, a, w => Region.ready md ops listed = [] ∧ Q .normal a w
  | fuel + 1, listed, a, w =>
    (Region.ready md ops listed = [] → Q .normal a w) ∧
    ∀ i ∈ Region.ready md ops listed, wpOp P ops Q i (fun a' w' => (i ≠ n → S w') ∧ wpAnyX P md ops Q S n fuel (listed.setIfInBounds i true) a' w') a w
theorem wpAny_of_x : ∀ (fuel : Nat) (listed : Array Bool) (a : Act) (w : World), wpAnyX P md ops Q S n fuel listed a w → wpAny P md ops Q fuel listed a w
  | 0, _, _, _, h => h
  | fuel + 1, _, _, _, h => ⟨h.1, fun i hi => wpOp_mono (fun a' w' h' => wpAny_of_x fuel _ a' w' h'.2) (h.2 i hi)⟩
def waits (md : Region.Mode) (ops : Array Oper) (n i : Nat) : Bool := match ops[n]? with | some o => o.after.any (fun e => Region.binds md e && e.on == i) | none => true
theorem not_ready {i : Nat} (h : waits md ops n i = true) {listed : Array Bool} (hl : listed.getD i false = false) : n ∉ Region.ready md ops listed := by
  intro hn
  obtain ⟨_, o, ho, hall⟩ := mem_ready.1 hn
  unfold waits at h
  rw [ho] at h
  simp only at h
  obtain ⟨e, he, hb⟩ := Array.any_eq_true'.1 h
  rw [Bool.and_eq_true, beq_iff_eq] at hb
  have := hall e he hb.1
  rw [hb.2, hl] at this
  cases this
theorem wpAnyX_first {i : Nat} {oi : Oper} {v : Value} (hi : ops[i]? = some oi) (hwt : waits md ops n i = true) (hin : i ≠ n) (hsel : ∀ (j : Nat) (o : Oper) cs b, ops[j]? = some o → o.op ≠ .select cs b)
    (hQ : ∀ c a w, Q (.panic c) (a.put oi.dst v) w → Q (.panic c) a w) :
    ∀ (fuel : Nat) (listed : Array Bool) (a : Act) (w : World),
      (∀ j oj, ops[j]? = some oj → j ≠ i → listed.getD j true = false → (∀ e ∈ oj.after, Region.binds md e = true → e.on ≠ i) → oi.apart ops oj = true) →
      i ∈ Region.ready md ops listed → YieldsIf P ops S oi v a → S w →
      wpAnyX P md ops Q S n fuel (listed.setIfInBounds i true) (a.put oi.dst v) w → wpAnyX P md ops Q S n (fuel + 1) listed a w := by
  intro fuel
  induction fuel with
  | zero =>
    intro listed a w _ hr hy hS H
    refine ⟨fun h => (by rw [h] at hr; cases hr), fun j hj => ?_⟩
    by_cases hji : j = i
    · subst hji; exact hy.wpOp hi hS ⟨fun _ => hS, H⟩
    · have := ready_mono hj hji
      rw [H.1] at this
      cases this
  | succ fuel ih =>
    intro listed a w hfree hr hy hS H
    refine ⟨fun h => (by rw [h] at hr; cases hr), fun j hj => ?_⟩
    by_cases hji : j = i
    · subst hji; exact hy.wpOp hi hS ⟨fun _ => hS, H⟩
    · have h1 := H.2 j (ready_mono hj hji)
      have h0 := (mem_ready.1 hr).1
      have hil : i < listed.size := by
        rcases Nat.lt_or_ge i listed.size with h' | h'
        · exact h'
        · simp [Array.getElem?_eq_none h'] at h0
      have h0' : listed.getD i false = false := by
        simp [hil] at h0 ⊢
        exact h0
      have hjn : j ≠ n := fun e => not_ready hwt h0' (e ▸ hj)
      obtain ⟨hjun, oj, hoj, hall⟩ := mem_ready.1 hj
      have hnot : ∀ e ∈ oj.after, Region.binds md e = true → e.on ≠ i := fun e he hb heq => by
        have h1 := hall e he hb
        rw [heq, h0'] at h1
        cases h1
      have h2 := wpOp_putIf hoj (hfree j oj hoj hji hjun hnot) (fun cs b => hsel i oi cs b hi) (fun cs b => hsel j oj cs b hoj) hQ hy h1
      have hfree' : ∀ k ok, ops[k]? = some ok → k ≠ i → (listed.setIfInBounds j true).getD k true = false →
          (∀ e ∈ ok.after, Region.binds md e = true → e.on ≠ i) → oi.apart ops ok = true := fun k ok hk hki hun hno => by
        refine hfree k ok hk hki ?_ hno
        by_cases hjk : j = k
        · subst hjk; exact hjun
        · rw [getD_set_ne true hjk] at hun; exact hun
      refine wpOp_mono (fun a' w' h3 => ⟨h3.2.1, ih (listed.setIfInBounds j true) a' w' hfree' (ready_mono hr (Ne.symm hji)) h3.1 (h3.2.1 hjn) ?_⟩) h2
      rw [Array.setIfInBounds_comm _ _ hji]
      exact h3.2.2
theorem wpAnyX_take {i : Nat} {oi : Oper} {v : Value} {fuel : Nat} {listed : Array Bool} {a : Act} {w : World} (hi : ops[i]? = some oi)
    (hs : Region.noSelect ops = true) (hf : Region.free md ops listed i = true) (hr : (Region.ready md ops listed).contains i = true) (hwt : (waits md ops n i && i != n) = true)
    (hQ : ∀ c a w, Q (.panic c) (a.put oi.dst v) w → Q (.panic c) a w) (hy : YieldsIf P ops S oi v a) (hS : S w)
    (h : wpAnyX P md ops Q S n fuel (listed.setIfInBounds i true) (a.put oi.dst v) w) : wpAnyX P md ops Q S n (fuel + 1) listed a w :=
  wpAnyX_first hi (Bool.and_eq_true _ _ |>.mp hwt).1 (bne_iff_ne.1 (Bool.and_eq_true _ _ |>.mp hwt).2) (Region.noSelect_spec hs) hQ fuel listed a w (Region.free_spec hi hf) (by simpa using hr) hy hS h
theorem wpAnyX_at (N : Nat) {oi : Oper} {v : Value} {fuel : Nat} {listed : Array Bool} {a : Act} {w : World} (hi : ops[N - (fuel + 1)]? = some oi)
    (hs : Region.noSelect ops = true) (hf : Region.free md ops listed (N - (fuel + 1)) = true) (hr : (Region.ready md ops listed).contains (N - (fuel + 1)) = true) (hwt : (waits md ops n (N - (fuel + 1)) && (N - (fuel + 1)) != n) = true)
    (hQ : ∀ c a w, Q (.panic c) (a.put oi.dst v) w → Q (.panic c) a w) (hy : YieldsIf P ops S oi v a) (hS : S w)
    (h : wpAnyX P md ops Q S n fuel (listed.setIfInBounds (N - (fuel + 1)) true) (a.put oi.dst v) w) : wpAnyX P md ops Q S n (fuel + 1) listed a w :=
  wpAnyX_take hi hs hf hr hwt hQ hy hS h
theorem wpAnyX_one {i : Nat} {o : Oper} {fuel : Nat} {listed : Array Bool} {a : Act} {w : World} (hr : Region.ready md ops listed = [i]) (ho : ops[i]? = some o)
    (h : ∀ K' : Act → World → Prop, (∀ a w, (i ≠ n → S w) → wpAnyX P md ops Q S n fuel (listed.setIfInBounds i true) a w → K' a w) → if Region.wanted o (yielded ops a.tmps) = true then Oper.wp P o a w K' Q else K' (a.put o.dst undef) w) :
    wpAnyX P md ops Q S n (fuel + 1) listed a w :=
  ⟨fun h0 => (by rw [hr] at h0; cases h0), fun j hj => by
    rw [hr] at hj
    obtain rfl := List.mem_singleton.1 hj
    exact wpOp_step ho (fun K' hK => h K' (fun a w hS hW => hK a w ⟨hS, hW⟩))⟩
theorem wpAnyX_done {listed : Array Bool} {a : Act} {w : World} (hr : Region.ready md ops listed = []) (h : Q .normal a w) :
    ∀ fuel, wpAnyX P md ops Q S n fuel listed a w
  | 0 => ⟨hr, h⟩
  | _ + 1 => ⟨fun _ => h, by rw [hr]; simp⟩
theorem wp_region_x {id : Nat} {a : Act} {w : World} (hm : P.follows .mixedOrders = true)
    (h : wpAnyX P .any ops Q S n ops.size (Array.replicate ops.size false) a { w with drawn := w.drawn + 1 }) : (Code.region id ops true).wp P Q a w :=
  wp_region_any hm (wpAny_of_x _ _ _ _ h)
end
end Go.Last
namespace Go.Last
open Go Go.RowKit
def Region.monoB (ops : Array Oper) (n : Nat) : Bool :=
  (List.range ops.size).all fun i => match ops[i]? with
    | some o => (match o.dst with | some t => decide (t < n) | none => false) && o.guard.isNone && o.after.all (fun e => decide (e.on < i)) &&
        (List.range ops.size).all fun j => j == i || (match ops[j]? with | some o' => o'.dst != o.dst | none => true)
    | none => false
section
variable {P : Program} {ops : Array Oper} {Q : Exit → Act → World → Prop} {md : Region.Mode} {PV : Nat → Value → World → Prop} {I : World → Prop} {a0 : Act}
def Outside (ops : Array Oper) (t : Nat) : Prop := ∀ (i : Nat) (o : Oper), ops[i]? = some o → o.dst ≠ some t
structure MI (PV : Nat → Value → World → Prop) (I : World → Prop) (ops : Array Oper) (a0 : Act) (listed : Array Bool) (a : Act) (w : World) : Prop where
  size : a.tmps.size = a0.tmps.size
  defers : a.defers = a0.defers
  lsize : listed.size = ops.size
  old : ∀ t, Outside ops t → a.tmps.getD t undef = a0.tmps.getD t undef
  inv : I w
  post : ∀ (i : Nat) o t, ops[i]? = some o → o.dst = some t → listed.getD i false = true → PV t (a.tmps.getD t undef) w
theorem monoB_spec {n : Nat} (h : Region.monoB ops n = true) {i : Nat} {o : Oper} (ho : ops[i]? = some o) : (∃ t, o.dst = some t ∧ t < n) ∧ o.guard = none ∧ (∀ e ∈ o.after, e.on < i) ∧ ∀ (j : Nat) o', j ≠ i → ops[j]? = some o' → o'.dst ≠ o.dst := by
  have hlt : i < ops.size := (Array.getElem?_eq_some_iff.1 ho).1
  have h1 := List.all_eq_true.1 h i (List.mem_range.2 hlt)
  simp only [ho] at h1
  rw [Bool.and_eq_true, Bool.and_eq_true, Bool.and_eq_true] at h1
  obtain ⟨⟨⟨h2, h3⟩, h4⟩, h5⟩ := h1
  refine ⟨?_, by simpa using h3, fun e he => by simpa using Array.all_eq_true_iff_forall_mem.1 h4 e he, fun j o' hj hoj => ?_⟩
  · cases hd : o.dst with
    | none => rw [hd] at h2; simp at h2
    | some t => rw [hd] at h2; exact ⟨t, rfl, by simpa using h2⟩
  · have hjl : j < ops.size := (Array.getElem?_eq_some_iff.1 hoj).1
    have h6 := List.all_eq_true.1 h5 j (List.mem_range.2 hjl)
    simp only [hoj, Bool.or_eq_true, beq_iff_eq, bne_iff_ne] at h6
    exact h6.resolve_left hj
theorem getD_put {a : Act} {t s : Nat} {v : Value} : (a.put (some t) v).tmps.getD s undef = if t = s ∧ t < a.tmps.size then v else a.tmps.getD s undef := by
  show (a.tmps.setIfInBounds t v).getD s undef = _
  simp only [Array.getD_eq_getD_getElem?, Array.getElem?_setIfInBounds]
  by_cases h : t = s
  · subst h
    by_cases h2 : t < a.tmps.size
    · simp [h2]
    · simp [h2]
  · simp [h]
theorem MI.more {listed : Array Bool} {a : Act} {w w' : World} {i : Nat} {o : Oper} {t : Nat} {v : Value} (h : MI PV I ops a0 listed a w) (hok : Region.monoB ops a0.tmps.size = true) (hI : ∀ w w', I w → Below w.heap.size w w' → I w')
    (hPV : ∀ t v w w', PV t v w → Below w.heap.size w w' → PV t v w') (ho : ops[i]? = some o) (hd : o.dst = some t) (hb : Below w.heap.size w w') (hv : PV t v w') : MI PV I ops a0 (listed.setIfInBounds i true) (a.put (some t) v) w' := by
  obtain ⟨⟨t', ht', htn⟩, _, _, hne⟩ := monoB_spec hok ho
  obtain rfl : t' = t := Option.some.inj (ht'.symm.trans hd)
  refine ⟨?_, h.defers, by rw [Array.size_setIfInBounds]; exact h.lsize, fun s hs => ?_, hI _ _ h.inv hb, fun j oj s hj hs hl => ?_⟩
  · show (a.tmps.setIfInBounds t' v).size = _
    rw [Array.size_setIfInBounds]; exact h.size
  · rw [getD_put, if_neg (fun e => hs i o ho (by rw [hd, e.1]))]
    exact h.old s hs
  · rw [getD_put]
    by_cases hji : j = i
    · subst hji
      obtain rfl : oj = o := Option.some.inj (hj.symm.trans ho)
      obtain rfl : s = t' := Option.some.inj (hs.symm.trans hd)
      rw [if_pos ⟨rfl, by rw [h.size]; exact htn⟩]
      exact hv
    · have hst : t' ≠ s := fun e => hne j oj hji hj (by rw [hs, hd, e])
      rw [if_neg (fun e => hst e.1)]
      have hl' : listed.getD j false = true := by
        rw [Array.getD_eq_getD_getElem?, Array.getElem?_setIfInBounds, if_neg (fun e => hji e.symm)] at hl
        rw [Array.getD_eq_getD_getElem?]
        exact hl
      exact hPV _ _ _ _ (h.post j oj s hj hs hl') hb
end
end Go.Last
