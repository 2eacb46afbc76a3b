/- The texts Shelf, QT0x0, QT0x3, Ma, QT0x1, QT0x2, without what the claims do not use, laid together by a program of this session (wip/tools/bundle.py). Conditions: those of each theorem. -/
import Derived.Test.YtcpldcndhijecaaDoorZc1
import Derived.Shelf.Strings.Builder1
import Derived.Shelf.Strings.Builder2
import Derived.Shelf.Strings.OnBuilder
import Derived.Shelf.Small.Strs
import Derived.Shelf.Strconv.Atoi
import Derived.Shelf.Strconv.AtoiErrFast
import Derived.Shelf.Strconv.ParseIntEmpty
import Derived.Shelf.Strconv.AtoiFail
import Derived.Shelf.LaysM
import Derived.Shelf.Strconv.Clone
import Derived.Shelf.Strconv.SyntaxError
import Derived.Shelf.LaysC
import Derived.Shelf.Strconv.ToError
import Derived.Shelf.Strconv.AtoiErr
import Derived.Shelf.Strconv.ErrVar
import Derived.Shelf.Strconv.Lower
import Derived.Shelf.Strconv.ParseUint10
import Derived.Shelf.Strconv.ParseUint10Empty
import Derived.Shelf.Strconv.ParseUint10Any
import Derived.Shelf.Strconv.ParseInt10
import Derived.Shelf.Strconv.AtoiLong
import Derived.Shelf.Strconv.AtoiInnerAll
import Derived.Shelf.Strconv.RangeError
import Derived.Shelf.Strconv.ToErrorRange
import Derived.Shelf.Strconv.AtoiAll
import Derived.Shelf.Strconv.ErrVarAll
import Derived.Shelf.Strconv.ParseUintEmpty
import Derived.Shelf.Strconv.ParseUint10b64
import Derived.Shelf.Strconv.ParseUint10b32
import Derived.Shelf.Strconv.ParseUint10b16
import Derived.Shelf.Strconv.ParseUint10b8
import Derived.Shelf.Strconv.ParseUint10At
import Derived.Shelf.Strconv.ParseInt10At64
import Derived.Shelf.Strconv.ParseInt10At32
import Derived.Shelf.Strconv.ParseInt10At16
import Derived.Shelf.Strconv.ParseInt10At8
import Derived.Shelf.Strconv.ParseInt10All
import Derived.Shelf.Strings.Search1
import Derived.Shelf.Strings.Prefix
import Derived.Test.YtcpldcndhijecaaDoorProg
import Derived.Below
import Derived.Deep.Draws
import Derived.Deep.AppendLies
import Derived.Maps.AppendAt
import Derived.OwnWalk
import Derived.Laws.BytesArg
import Derived.Laws.MakeOwn
import Derived.Laws.OwnMore
import Derived.Deep.OwnRows
import Derived.Tactics
import Derived.Lib.ConvBytes
import Derived.Laws.Slices
import Derived.WalkKit
import Derived.KernelRfl
import Derived.RowKit3
import Derived.Deep.LoopGhost
import Derived.Deep.QuietTactic
import Derived.BigQuiet
import Derived.WideLaws
import Derived.Deep.DeepCutAuto
import Derived.Deep.CutBlock
import Derived.Deep.RegionHeld3
import Derived.Laws.Rows
import Derived.Lib.AppendStr
import Derived.ArgAppend
import Derived.Laws.IdiomCopy
import Derived.OrdersHeld
import Derived.Laws.BitsLemmas
import Derived.RowKit
import Derived.BigRegion
namespace Go.Proofs
open Go.Shelf
def Tryd.lays156_ren : Go.Shelf.Ren := ⟨fun | 156 => 47 | 165 => 58 | 166 => 59 | 169 => 60 | 240 => 64 | 241 => 65 | 276 => 72 | 277 => 73 | n => n, fun | 31 => 28 | 9 => 9 | 3 => 3 | 4 => 4 | 0 => 0 | 20 => 20 | 72 => 96 | 76 => 91 | 70 => 94 | 37 => 83 | 75 => 56 | 127 => 99 | 164 => 106 | 5 => 5 | 80 => 71 | n => n, fun | n => n⟩
theorem Tryd.lays156 : Go.Proofs.Lays.n156 Tryd.prog Tryd.lays156_ren := {
  mixed := by kernel_rfl
  f156 := Tryd.func47.trans (congrArg some (by kernel_rfl))
  f165 := Tryd.func58.trans (congrArg some (by kernel_rfl))
  f166 := Tryd.func59.trans (congrArg some (by kernel_rfl))
  f169 := Tryd.func60.trans (congrArg some (by kernel_rfl))
  f240 := Tryd.func64.trans (congrArg some (by kernel_rfl))
  f241 := Tryd.func65.trans (congrArg some (by kernel_rfl))
  f276 := Tryd.func72.trans (congrArg some (by kernel_rfl))
  f277 := Tryd.func73.trans (congrArg some (by kernel_rfl))
  t0 := Tryd.underlying0
  a0 := Tryd.isAgg0
  z0 := Tryd.sizeOf0
  v0 := Tryd.zeroValue0
  t3 := Tryd.underlying3
  a3 := Tryd.isAgg3
  z3 := Tryd.sizeOf3
  v3 := Tryd.zeroValue3
  t4 := Tryd.underlying4
  a4 := Tryd.isAgg4
  z4 := Tryd.sizeOf4
  v4 := Tryd.zeroValue4
  t9 := Tryd.underlying9
  a9 := Tryd.isAgg9
  z9 := Tryd.sizeOf9
  v9 := Tryd.zeroValue9
  t20 := Tryd.underlying20
  a20 := Tryd.isAgg20
  z20 := Tryd.sizeOf20
  v20 := Tryd.zeroValue20
  t31 := Tryd.underlying28
  a31 := Tryd.isAgg28
  z31 := Tryd.sizeOf28
  v31 := Tryd.zeroValue28
  t37 := Tryd.underlying83
  a37 := Tryd.isAgg83
  z37 := Tryd.sizeOf83
  v37 := Tryd.zeroValue83
  t70 := Tryd.underlying94
  a70 := Tryd.isAgg94
  z70 := Tryd.sizeOf94
  v70 := Tryd.zeroValue94
  t72 := Tryd.underlying96
  a72 := Tryd.isAgg96
  z72 := Tryd.sizeOf96
  v72 := Tryd.zeroValue96
  t75 := Tryd.underlying56
  a75 := Tryd.isAgg56
  z75 := Tryd.sizeOf56
  v75 := Tryd.zeroValue56
  t76 := Tryd.underlying91
  a76 := Tryd.isAgg91
  z76 := Tryd.sizeOf91
  v76 := Tryd.zeroValue91
  t127 := Tryd.underlying99
  a127 := Tryd.isAgg99
  z127 := Tryd.sizeOf99
  v127 := Tryd.zeroValue99
  t164 := Tryd.underlying106
  a164 := Tryd.isAgg106
  z164 := Tryd.sizeOf106
  v164 := Tryd.zeroValue106 }
theorem Tryd.Builder_Extra_156 : Builder.Extra Tryd.prog Tryd.lays156_ren := {
  sizeBuilder := by kernel_rfl
  liesBuilder := by kernel_rfl
  t5 := Tryd.underlying5
  a5 := Tryd.isAgg5
  z5 := Tryd.sizeOf5
  v5 := Tryd.zeroValue5
  infoByte := by kernel_rfl
  cellsByte := by kernel_rfl
  sizeByte := by kernel_rfl
  neB5 := by decide }
open Go.RowKit in
theorem Tryd.strings_Join_none (a : Option Addr) (c : Nat) (sep : ByteArray) (w : World) :
    Calls Tryd.prog 47 #[.slice a 0 c, .string sep] w fun e w' => e = .returned (.string ⟨#[]⟩) ∧ w' = w := Any.strings_Join_none Tryd.lays156 Tryd.Builder_Extra_156 a c sep w
open Go.RowKit in
theorem Tryd.strings_Join (bk o c : Nat) (xs : List ByteArray) (sep : ByteArray) (w : World) (hcells : ∀ (j : Nat) x, xs[j]? = some x → w.cell? ⟨bk, o + j, none⟩ = some (.string x)) (hbk : bk < w.heap.size) (hN : xs.length ≤ 140737488355328) (hcap : xs.length ≤ c) (hlen : (Lib.join (xs.map (·.data.toList)) sep.data.toList).length ≤ 140737488355328) :
    Calls Tryd.prog 47 #[.slice (some ⟨bk, o, none⟩) xs.length c, .string sep] w fun e w' => e = .returned (.string ⟨(Lib.join (xs.map (·.data.toList)) sep.data.toList).toArray⟩) ∧ Below w.heap.size w w' := Any.strings_Join Tryd.lays156 Tryd.Builder_Extra_156 bk o c xs sep w hcells hbk hN hcap hlen
def Tryd.lays137_ren : Go.Shelf.Ren := ⟨fun | 137 => 57 | 217 => 63 | 266 => 71 | n => n, fun | 9 => 9 | 5 => 5 | 3 => 3 | n => n, fun | n => n⟩
theorem Tryd.lays137 : Go.Proofs.Lays.n137 Tryd.prog Tryd.lays137_ren := {
  mixed := by kernel_rfl
  f137 := Tryd.func57.trans (congrArg some (by kernel_rfl))
  f217 := Tryd.func63.trans (congrArg some (by kernel_rfl))
  f266 := Tryd.func71.trans (congrArg some (by kernel_rfl))
  t3 := Tryd.underlying3
  a3 := Tryd.isAgg3
  z3 := Tryd.sizeOf3
  v3 := Tryd.zeroValue3
  t5 := Tryd.underlying5
  a5 := Tryd.isAgg5
  z5 := Tryd.sizeOf5
  v5 := Tryd.zeroValue5
  t9 := Tryd.underlying9
  a9 := Tryd.isAgg9
  z9 := Tryd.sizeOf9
  v9 := Tryd.zeroValue9 }
open Go.RowKit in
theorem Tryd.strings_IndexByte (s : ByteArray) (c : Int) (w : World) :
    Calls Tryd.prog 57 #[.string s, .int .u8 c] w fun e w' => e = .returned (.int .i64 (Lib.indexByte s.data.toList c.toNat.toUInt8)) ∧ w' = w := Any.strings_IndexByte Tryd.lays137 s c w
def Tryd.lays172_ren : Go.Shelf.Ren := ⟨fun | 172 => 56 | 244 => 61 | 245 => 62 | 247 => 66 | 279 => 67 | 280 => 68 | 281 => 69 | 282 => 70 | 287 => 74 | 316 => 75 | 171 => 76 | 205 => 43 | 321 => 77 | 322 => 78 | 243 => 79 | 246 => 80 | 283 => 81 | 284 => 82 | 285 => 83 | 286 => 84 | 129 => 86 | 317 => 85 | 318 => 87 | 319 => 88 | 320 => 89 | 337 => 90 | 338 => 91 | n => n, fun | 9 => 9 | 3 => 3 | 75 => 56 | 76 => 91 | 4 => 4 | 5 => 5 | 167 => 100 | 37 => 83 | 0 => 0 | 85 => 101 | 2 => 2 | 168 => 103 | 53 => 109 | 175 => 110 | 46 => 84 | 210 => 113 | 127 => 99 | 145 => 90 | 143 => 88 | 21 => 21 | 171 => 116 | 173 => 119 | 212 => 123 | 51 => 124 | 20 => 20 | 213 => 125 | 232 => 129 | 233 => 130 | 80 => 71 | n => n, fun | 15 => 0 | 16 => 1 | 17 => 3 | 18 => 4 | 19 => 5 | n => n⟩
theorem Tryd.lays172 : Go.Proofs.Lays.n172 Tryd.prog Tryd.lays172_ren := {
  mixed := by kernel_rfl
  f129 := Tryd.func86.trans (congrArg some (by kernel_rfl))
  f171 := Tryd.func76.trans (congrArg some (by kernel_rfl))
  f172 := Tryd.func56.trans (congrArg some (by kernel_rfl))
  f205 := Tryd.func43.trans (congrArg some (by kernel_rfl))
  f243 := Tryd.func79.trans (congrArg some (by kernel_rfl))
  f244 := Tryd.func61.trans (congrArg some (by kernel_rfl))
  f245 := Tryd.func62.trans (congrArg some (by kernel_rfl))
  f246 := Tryd.func80.trans (congrArg some (by kernel_rfl))
  f247 := Tryd.func66.trans (congrArg some (by kernel_rfl))
  f279 := Tryd.func67.trans (congrArg some (by kernel_rfl))
  f280 := Tryd.func68.trans (congrArg some (by kernel_rfl))
  f281 := Tryd.func69.trans (congrArg some (by kernel_rfl))
  f282 := Tryd.func70.trans (congrArg some (by kernel_rfl))
  f283 := Tryd.func81.trans (congrArg some (by kernel_rfl))
  f284 := Tryd.func82.trans (congrArg some (by kernel_rfl))
  f285 := Tryd.func83.trans (congrArg some (by kernel_rfl))
  f286 := Tryd.func84.trans (congrArg some (by kernel_rfl))
  f287 := Tryd.func74.trans (congrArg some (by kernel_rfl))
  f316 := Tryd.func75.trans (congrArg some (by kernel_rfl))
  f317 := Tryd.func85.trans (congrArg some (by kernel_rfl))
  f318 := Tryd.func87.trans (congrArg some (by kernel_rfl))
  f319 := Tryd.func88.trans (congrArg some (by kernel_rfl))
  f320 := Tryd.func89.trans (congrArg some (by kernel_rfl))
  f321 := Tryd.func77.trans (congrArg some (by kernel_rfl))
  f322 := Tryd.func78.trans (congrArg some (by kernel_rfl))
  f337 := Tryd.func90.trans (congrArg some (by kernel_rfl))
  f338 := Tryd.func91.trans (congrArg some (by kernel_rfl))
  t0 := Tryd.underlying0
  a0 := Tryd.isAgg0
  z0 := Tryd.sizeOf0
  v0 := Tryd.zeroValue0
  t2 := Tryd.underlying2
  a2 := Tryd.isAgg2
  z2 := Tryd.sizeOf2
  v2 := Tryd.zeroValue2
  t3 := Tryd.underlying3
  a3 := Tryd.isAgg3
  z3 := Tryd.sizeOf3
  v3 := Tryd.zeroValue3
  t4 := Tryd.underlying4
  a4 := Tryd.isAgg4
  z4 := Tryd.sizeOf4
  v4 := Tryd.zeroValue4
  t5 := Tryd.underlying5
  a5 := Tryd.isAgg5
  z5 := Tryd.sizeOf5
  v5 := Tryd.zeroValue5
  t9 := Tryd.underlying9
  a9 := Tryd.isAgg9
  z9 := Tryd.sizeOf9
  v9 := Tryd.zeroValue9
  t20 := Tryd.underlying20
  a20 := Tryd.isAgg20
  z20 := Tryd.sizeOf20
  v20 := Tryd.zeroValue20
  t21 := Tryd.underlying21
  a21 := Tryd.isAgg21
  z21 := Tryd.sizeOf21
  v21 := Tryd.zeroValue21
  t37 := Tryd.underlying83
  a37 := Tryd.isAgg83
  z37 := Tryd.sizeOf83
  v37 := Tryd.zeroValue83
  t46 := Tryd.underlying84
  a46 := Tryd.isAgg84
  z46 := Tryd.sizeOf84
  v46 := Tryd.zeroValue84
  t51 := Tryd.underlying124
  a51 := Tryd.isAgg124
  z51 := Tryd.sizeOf124
  v51 := Tryd.zeroValue124
  t53 := Tryd.underlying109
  a53 := Tryd.isAgg109
  z53 := Tryd.sizeOf109
  v53 := Tryd.zeroValue109
  t75 := Tryd.underlying56
  a75 := Tryd.isAgg56
  z75 := Tryd.sizeOf56
  v75 := Tryd.zeroValue56
  t76 := Tryd.underlying91
  a76 := Tryd.isAgg91
  z76 := Tryd.sizeOf91
  v76 := Tryd.zeroValue91
  t85 := Tryd.underlying101
  a85 := Tryd.isAgg101
  z85 := Tryd.sizeOf101
  v85 := Tryd.zeroValue101
  t127 := Tryd.underlying99
  a127 := Tryd.isAgg99
  z127 := Tryd.sizeOf99
  v127 := Tryd.zeroValue99
  t143 := Tryd.underlying88
  a143 := Tryd.isAgg88
  z143 := Tryd.sizeOf88
  v143 := Tryd.zeroValue88
  t145 := Tryd.underlying90
  a145 := Tryd.isAgg90
  z145 := Tryd.sizeOf90
  v145 := Tryd.zeroValue90
  t167 := Tryd.underlying100
  a167 := Tryd.isAgg100
  z167 := Tryd.sizeOf100
  v167 := Tryd.zeroValue100
  t168 := Tryd.underlying103
  a168 := Tryd.isAgg103
  z168 := Tryd.sizeOf103
  v168 := Tryd.zeroValue103
  t171 := Tryd.underlying116
  a171 := Tryd.isAgg116
  z171 := Tryd.sizeOf116
  v171 := Tryd.zeroValue116
  t173 := Tryd.underlying119
  a173 := Tryd.isAgg119
  z173 := Tryd.sizeOf119
  v173 := Tryd.zeroValue119
  t175 := Tryd.underlying110
  a175 := Tryd.isAgg110
  z175 := Tryd.sizeOf110
  v175 := Tryd.zeroValue110
  t210 := Tryd.underlying113
  a210 := Tryd.isAgg113
  z210 := Tryd.sizeOf113
  v210 := Tryd.zeroValue113
  t212 := Tryd.underlying123
  a212 := Tryd.isAgg123
  z212 := Tryd.sizeOf123
  v212 := Tryd.zeroValue123
  t213 := Tryd.underlying125
  a213 := Tryd.isAgg125
  z213 := Tryd.sizeOf125
  t232 := Tryd.underlying129
  a232 := Tryd.isAgg129
  z232 := Tryd.sizeOf129
  v232 := Tryd.zeroValue129
  t233 := Tryd.underlying130
  a233 := Tryd.isAgg130
  z233 := Tryd.sizeOf130
  v233 := Tryd.zeroValue130
  g15 := by kernel_rfl
  g16 := by kernel_rfl
  g17 := by kernel_rfl
  g18 := by kernel_rfl
  g19 := by kernel_rfl }
open Go.RowKit in
theorem Tryd.strconv_Atoi (s : ByteArray) (n : Int) (hl : s.size ≤ 18) (h : Lib.atoi s.data.toList = some n) (w : World) :
    Calls Tryd.prog 56 #[.string s] w fun e w' => e = .returned (.tuple #[.int .i64 n, .nilIface]) ∧ ∃ t, w' = Lib.bytesWorld w 5 t := Any.strconv_Atoi Tryd.lays172 s n hl h w
def Tryd.lays99_ren : Go.Shelf.Ren := ⟨fun | 99 => 36 | 206 => 54 | n => n, fun | 9 => 9 | 4 => 4 | 3 => 3 | n => n, fun | n => n⟩
theorem Tryd.lays99 : Go.Proofs.Lays.n99 Tryd.prog Tryd.lays99_ren := {
  mixed := by kernel_rfl
  f99 := Tryd.func36.trans (congrArg some (by kernel_rfl))
  f206 := Tryd.func54.trans (congrArg some (by kernel_rfl))
  t3 := Tryd.underlying3
  a3 := Tryd.isAgg3
  z3 := Tryd.sizeOf3
  v3 := Tryd.zeroValue3
  t4 := Tryd.underlying4
  a4 := Tryd.isAgg4
  z4 := Tryd.sizeOf4
  v4 := Tryd.zeroValue4
  t9 := Tryd.underlying9
  a9 := Tryd.isAgg9
  z9 := Tryd.sizeOf9
  v9 := Tryd.zeroValue9 }
open Go.RowKit Go.Lib in
theorem Tryd.strings_HasPrefix (s p : ByteArray) (w : World) :
    Calls Tryd.prog 36 #[.string s, .string p] w fun e w' => e = .returned (.bool (Lib.hasPrefix s.data.toList p.data.toList)) ∧ w' = w := Any.strings_HasPrefix Tryd.lays99 s p w
end Go.Proofs
namespace Go.Proofs.YtcpldcndhijecaaDoor.QT0
open Go.RowKit Go.Proofs.YtcpldcndhijecaaDoorW.PrintWords Go.Proofs.YtcpldcndhijecaaDoorW.PrintLast Go.Proofs.YtcpldcndhijecaaDoorW.PrintMore
attribute [local go_sem] max2_int min2_int max_two min_two max_three min_three max_four min_four
set_option linter.unusedVariables false
set_option linter.unusedSimpArgs false
def errW : Option Int → Value
 | none => .nilIface
 | some c => .iface 0 (.int .i64 c)
theorem errW_none : errW none = .nilIface := rfl
theorem errW_some (c : Int) : errW (some c) = .iface 0 (.int .i64 c) := rfl
theorem info5 : (Tryd.prog.info? 5).map (fun i => (i.zero, i.size, i.bytes)) = some (some (.int .u8 0), 1, 1) := by kernel_rfl
theorem info9 : (Tryd.prog.info? 9).map (fun i => (i.zero, i.size, i.bytes)) = some (some (.string ⟨#[]⟩), 1, 16) := by kernel_rfl
end Go.Proofs.YtcpldcndhijecaaDoor.QT0
namespace Go.Proofs.YtcpldcndhijecaaDoor.QT0
open Go.RowKit Go.Proofs.YtcpldcndhijecaaDoorW.PrintWords Go.Proofs.YtcpldcndhijecaaDoorW.PrintLast Go.Proofs.YtcpldcndhijecaaDoorW.PrintMore
attribute [local go_sem] max2_int min2_int max_two min_two max_three min_three max_four min_four
set_option linter.unusedVariables false
set_option linter.unusedSimpArgs false
def strconv_Atoi.f (a0 : ByteArray) : Option (Int × Option Int) :=
 if a0.size ≤ 18 then (Lib.atoi a0.data.toList).map fun n => (n, none) else none
theorem strconv_Atoi.calls (a0 : ByteArray) (r1 : Int) (r2 : Option Int) (w : World) (h : strconv_Atoi.f a0 = some (r1, r2)) :
 Calls Tryd.prog 56 #[.string a0] w fun e w' => e = .returned (.tuple #[.int .i64 r1, errW r2]) ∧ Below w.heap.size w w' := by
 unfold strconv_Atoi.f at h
 split at h
 · rename_i hs
   cases ha : Lib.atoi a0.data.toList with
   | none => rw [ha] at h; simp at h
   | some n =>
    rw [ha] at h
    simp only [Option.map_some, Option.some.injEq, Prod.mk.injEq] at h
    obtain ⟨rfl, rfl⟩ := h
    exact (Tryd.strconv_Atoi a0 n hs ha w).mono fun e w' ⟨he, t, hw⟩ => ⟨by rw [he, errW_none], hw ▸ bytes_below (Below.refl _ w) (Nat.le_refl _) 5 t⟩
 · simp at h
def mountinfo_toInt.f (a0 : ByteArray) : Option (Int) := (strconv_Atoi.f a0).bind fun bt130 => (some bt130.1)
set_option maxHeartbeats 8000000 in
set_option maxRecDepth 100000 in
theorem mountinfo_toInt.calls (a0 : ByteArray) (r : Int) (w : World) (h : mountinfo_toInt.f a0 = some r) :
 Calls Tryd.prog 45 #[.string a0] w fun e w' => e = .returned (.int .i64 r) ∧ Below w.heap.size w w' := by
 have HB := Aside0.mk (Below.refl w.heap.size w)
 have H : ((strconv_Atoi.f a0).bind fun bt130 => (some bt130.1)) = some r := h
 clear h
 replace H := Option.bind_eq_some_iff.mp H
 obtain ⟨⟨t130, t131⟩, A20, H⟩ := H
 replace H : (some t130) = some r := H
 have A2 := Aside0.mk A20
 clear A20
 obtain rfl := Option.some.inj H
 go_enter Tryd.func45, Tryd.ntmps45
 go_wp2_with (first | ((with_reducible refine gate_callee (f := 56) rfl ?_); refine goesL_ (some 7) rfl rfl Tryd.func56 (by kernel_rfl) rfl #[.string a0] rfl (by (try simp only [List.map_toArray, List.map_cons, List.map_nil]); first | done | rfl | (simp only [List.length_drop, List.length_take]; rfl)) ?_; (with_reducible refine (strconv_Atoi.calls a0 t130 t131 _ A2.out).mono ?_); rintro e w3 ⟨rfl, hb⟩; refine ⟨_, rfl, ?_⟩; have n0_ := Aside0.mk (below_step (by repeat (first | (with_reducible first | exact HB.out | apply below_alloc | apply pw_below_drewN | apply below_drew1) | exact HB.out)) hb); clear HB; have HB := n0_; clear n0_; (try clear hb); (try clear hb2); (try clear hk); (try clear hi); (try simp only [errW_none, errW_some])))
 go_ret
 exact ⟨by first | rfl | (simp [errW_none, errW_some] <;> rfl) | (simp [*, errW_none, errW_some] <;> rfl), by repeat (first | (with_reducible first | exact HB.out | apply below_alloc | apply pw_below_drewN | apply below_drew1) | exact HB.out)⟩
def IsS86 (w0 W : World) (g : Nat) (f0 : ByteArray) (f1 : ByteArray) (f2 : Int) (f3 : Option Int) : Prop := W.heap[g]? = some (.cells #[.string f0, .string f1, .int .i64 f2, errW f3] 86 (0, 0)) ∧ w0.heap.size ≤ g
theorem IsS86.grown {w0 W : World} {g : Nat} {f0 : ByteArray} {f1 : ByteArray} {f2 : Int} {f3 : Option Int} {W1 : World} {row : Option Nat} (h : IsS86 w0 W g f0 f1 f2 f3) (hw : W.grownBy W1 row) (hne : some g ≠ row) : IsS86 w0 W1 g f0 f1 f2 f3 := by
 obtain ⟨hb, hg⟩ := h
 exact ⟨blk_grown hb hw hne, hg⟩
theorem IsS86.kept {w0 W : World} {g : Nat} {f0 : ByteArray} {f1 : ByteArray} {f2 : Int} {f3 : Option Int} {W1 : World} {S : Nat → Prop} (h : IsS86 w0 W g f0 f1 f2 f3) (hk : Kept W W1 S) (hne : ¬ S g) : IsS86 w0 W1 g f0 f1 f2 f3 := by
 obtain ⟨hb, hg⟩ := h
 exact ⟨blk_kept hb hk hne, hg⟩
theorem IsS86.below {w0 W : World} {g : Nat} {f0 : ByteArray} {f1 : ByteArray} {f2 : Int} {f3 : Option Int} {W1 : World} (h : IsS86 w0 W g f0 f1 f2 f3) (hw : Below W.heap.size W W1) : IsS86 w0 W1 g f0 f1 f2 f3 := h.grown (grown_of_below hw none) (by simp)
theorem IsS86.alloc {w0 W : World} {g : Nat} {f0 : ByteArray} {f1 : ByteArray} {f2 : Int} {f3 : Option Int} (h : IsS86 w0 W g f0 f1 f2 f3) (o : Obj) : IsS86 w0 (W.alloc o) g f0 f1 f2 f3 := h.below (below_alloc (Below.refl _ _) o)
theorem IsS86.drewN {w0 W : World} {g : Nat} {f0 : ByteArray} {f1 : ByteArray} {f2 : Int} {f3 : Option Int} (h : IsS86 w0 W g f0 f1 f2 f3) (m : Nat) : IsS86 w0 (W.drewN m) g f0 f1 f2 f3 := h
theorem IsS86.drew {w0 W : World} {g : Nat} {f0 : ByteArray} {f1 : ByteArray} {f2 : Int} {f3 : Option Int} (h : IsS86 w0 W g f0 f1 f2 f3) : IsS86 w0 W.drew g f0 f1 f2 f3 := h
theorem IsS86.at_ {w0 W : World} {g : Nat} {f0 : ByteArray} {f1 : ByteArray} {f2 : Int} {f3 : Option Int} {w' : World} {m : Nat} (hq : W.drewN m = w') (h : IsS86 w0 W g f0 f1 f2 f3) : IsS86 w0 w' g f0 f1 f2 f3 := by subst hq; exact IsS86.drewN h m
theorem IsS86.apart {w0 W : World} {g : Nat} {f0 : ByteArray} {f1 : ByteArray} {f2 : Int} {f3 : Option Int} {α : Type} {d : Kd α} {e : Nat} {base : Nat} {ok : Nat → Prop} {v : Value} {xs : List α} (h : IsS86 w0 W g f0 f1 f2 f3) (ho : d.R e W base ok v xs) (ht : ∀ q, q ∈ e :: d.E → q ≠ 86) : d.R e W base (fun k => ok k ∧ k ≠ g) v xs := by
 obtain ⟨hb, hg⟩ := h
 exact Kd.R_types ho hb ht
theorem IsS86.own_ne {w0 W : World} {g : Nat} {f0 : ByteArray} {f1 : ByteArray} {f2 : Int} {f3 : Option Int} {α : Type} {d : Kd α} {e : Nat} {base : Nat} {ok : Nat → Prop} {v : Value} {xs : List α} (h : IsS86 w0 W g f0 f1 f2 f3) (ho : d.R e W base ok v xs) (ht : e ≠ 86) : some g ≠ v.ownBlock := by
 obtain ⟨hb, hg⟩ := h
 exact Kd.R_ne ho hb ht
theorem IsS86.lt {w0 W : World} {g : Nat} {f0 : ByteArray} {f1 : ByteArray} {f2 : Int} {f3 : Option Int} (h : IsS86 w0 W g f0 f1 f2 f3) : g < W.heap.size := by
 obtain ⟨hb, hg⟩ := h
 exact blk_lt hb
theorem IsS86.ge {w0 W : World} {g : Nat} {f0 : ByteArray} {f1 : ByteArray} {f2 : Int} {f3 : Option Int} (h : IsS86 w0 W g f0 f1 f2 f3) : w0.heap.size ≤ g := by
 obtain ⟨hb, hg⟩ := h
 exact hg
theorem cellS86_0 {W : World} {g : Nat} {f0 : ByteArray} {f1 : ByteArray} {f2 : Int} {f3 : Option Int} (h : W.heap[g]? = some (.cells #[.string f0, .string f1, .int .i64 f2, errW f3] 86 (0, 0))) : W.cell? ⟨g, 0, none⟩ = some (.string f0) := (blk_cell h 0).trans rfl
theorem IsS86.set_0 {w0 W : World} {g : Nat} {f0 : ByteArray} {f1 : ByteArray} {f2 : Int} {f3 : Option Int} (h : IsS86 w0 W g f0 f1 f2 f3) (x : ByteArray) : IsS86 w0 (W.setCell ⟨g, 0, none⟩ (.string x)) g x f1 f2 f3 := by
 obtain ⟨hb, hg⟩ := h
 exact ⟨by simpa using blk_set hb 0 (.string x), hg⟩
theorem cellS86_1 {W : World} {g : Nat} {f0 : ByteArray} {f1 : ByteArray} {f2 : Int} {f3 : Option Int} (h : W.heap[g]? = some (.cells #[.string f0, .string f1, .int .i64 f2, errW f3] 86 (0, 0))) : W.cell? ⟨g, 1, none⟩ = some (.string f1) := (blk_cell h 1).trans rfl
theorem IsS86.set_1 {w0 W : World} {g : Nat} {f0 : ByteArray} {f1 : ByteArray} {f2 : Int} {f3 : Option Int} (h : IsS86 w0 W g f0 f1 f2 f3) (x : ByteArray) : IsS86 w0 (W.setCell ⟨g, 1, none⟩ (.string x)) g f0 x f2 f3 := by
 obtain ⟨hb, hg⟩ := h
 exact ⟨by simpa using blk_set hb 1 (.string x), hg⟩
theorem cellS86_2 {W : World} {g : Nat} {f0 : ByteArray} {f1 : ByteArray} {f2 : Int} {f3 : Option Int} (h : W.heap[g]? = some (.cells #[.string f0, .string f1, .int .i64 f2, errW f3] 86 (0, 0))) : W.cell? ⟨g, 2, none⟩ = some (.int .i64 f2) := (blk_cell h 2).trans rfl
theorem IsS86.set_2 {w0 W : World} {g : Nat} {f0 : ByteArray} {f1 : ByteArray} {f2 : Int} {f3 : Option Int} (h : IsS86 w0 W g f0 f1 f2 f3) (x : Int) : IsS86 w0 (W.setCell ⟨g, 2, none⟩ (.int .i64 x)) g f0 f1 x f3 := by
 obtain ⟨hb, hg⟩ := h
 exact ⟨by simpa using blk_set hb 2 (.int .i64 x), hg⟩
theorem cellS86_3 {W : World} {g : Nat} {f0 : ByteArray} {f1 : ByteArray} {f2 : Int} {f3 : Option Int} (h : W.heap[g]? = some (.cells #[.string f0, .string f1, .int .i64 f2, errW f3] 86 (0, 0))) : W.cell? ⟨g, 3, none⟩ = some (errW f3) := (blk_cell h 3).trans rfl
theorem IsS86.set_3 {w0 W : World} {g : Nat} {f0 : ByteArray} {f1 : ByteArray} {f2 : Int} {f3 : Option Int} (h : IsS86 w0 W g f0 f1 f2 f3) (x : Option Int) : IsS86 w0 (W.setCell ⟨g, 3, none⟩ (errW x)) g f0 f1 f2 x := by
 obtain ⟨hb, hg⟩ := h
 exact ⟨by simpa using blk_set hb 3 (errW x), hg⟩
theorem IsS86.new (w0 W : World) (f0 : ByteArray) (f1 : ByteArray) (f2 : Int) (f3 : Option Int) (hB : Below w0.heap.size w0 W) : IsS86 w0 (W.alloc (.cells #[.string f0, .string f1, .int .i64 f2, errW f3] 86)) W.heap.size f0 f1 f2 f3 := ⟨by simpa using heap_alloc_new W _, hB.size⟩
def texts_Lines_Text.f (s0_0 : ByteArray) (s0_1 : ByteArray) (s0_2 : Int) (s0_3 : Option Int) : Option (ByteArray × ByteArray × ByteArray × Int × Option Int) := some (s0_1, s0_0, s0_1, s0_2, s0_3)
set_option maxHeartbeats 8000000 in
set_option maxRecDepth 100000 in
theorem texts_Lines_Text.calls (g : Nat) (s0_0 : ByteArray) (s0_1 : ByteArray) (s0_2 : Int) (s0_3 : Option Int) (r1 : ByteArray) (r2 : ByteArray) (r3 : ByteArray) (r4 : Int) (r5 : Option Int) (w0 w : World) (hI : IsS86 w0 w g s0_0 s0_1 s0_2 s0_3) (hB : Below w0.heap.size w0 w) (h : texts_Lines_Text.f s0_0 s0_1 s0_2 s0_3 = some (r1, r2, r3, r4, r5)) :
 Calls Tryd.prog 41 #[.pointer (some ⟨g, 0, none⟩)] w fun e w' => e = .returned (.string r1) ∧ IsS86 w0 w' g r2 r3 r4 r5 ∧ Below w0.heap.size w0 w' ∧ KeepBut w w' g none := by
 have HI0 := Aside0.mk hI
 have HK := Aside0.mk (KeepBut.refl w g none)
 have HL := Aside0.mk hB.size
 clear hI
 have HW0 := Aside0.mk hB.size
 have HB := Aside0.mk hB
 clear hB
 have H : (some (s0_1, s0_0, s0_1, s0_2, s0_3)) = some (r1, r2, r3, r4, r5) := h
 clear h
 simp only [Option.some.injEq, Prod.mk.injEq] at H
 obtain ⟨rfl, rfl, rfl, rfl, rfl⟩ := H
 obtain ⟨HGz2, hgz2⟩ := HI0.out
 have hcz2_0 := cellS86_0 HGz2
 have hcz2_1 := cellS86_1 HGz2
 have hcz2_2 := cellS86_2 HGz2
 have hcz2_3 := cellS86_3 HGz2
 have hfz2_0 := blk_frozen HGz2 0
 have hfz2_1 := blk_frozen HGz2 1
 have hfz2_2 := blk_frozen HGz2 2
 have hfz2_3 := blk_frozen HGz2 3
 clear HGz2 hgz2
 go_enter Tryd.func41, Tryd.ntmps41
 go_wp2
 go_ret
 exact ⟨by first | rfl | (simp [errW_none, errW_some] <;> rfl) | (simp [*, errW_none, errW_some] <;> rfl), by repeat (first | (with_reducible first | exact HI0.out | apply IsS86.alloc | apply IsS86.drewN | apply IsS86.drew | apply IsS86.set_0 | apply IsS86.set_1 | apply IsS86.set_2 | apply IsS86.set_3) | exact HI0.out), by repeat (first | (with_reducible first | exact HB.out | apply below_alloc | apply pw_below_drewN | apply below_drew1 | refine below_set ?_ (IsS86.ge HI0.out)) | exact HB.out), by repeat (first | (with_reducible first | exact HK.out | apply KeepBut.set_ | apply keep_drewN | apply keep_drew | apply keep_alloc) | exact HK.out)⟩
def texts_Lines_Err.f (s0_0 : ByteArray) (s0_1 : ByteArray) (s0_2 : Int) (s0_3 : Option Int) : Option (Option Int × ByteArray × ByteArray × Int × Option Int) := some (s0_3, s0_0, s0_1, s0_2, s0_3)
set_option maxHeartbeats 8000000 in
set_option maxRecDepth 100000 in
theorem texts_Lines_Err.calls (g : Nat) (s0_0 : ByteArray) (s0_1 : ByteArray) (s0_2 : Int) (s0_3 : Option Int) (r1 : Option Int) (r2 : ByteArray) (r3 : ByteArray) (r4 : Int) (r5 : Option Int) (w0 w : World) (hI : IsS86 w0 w g s0_0 s0_1 s0_2 s0_3) (hB : Below w0.heap.size w0 w) (h : texts_Lines_Err.f s0_0 s0_1 s0_2 s0_3 = some (r1, r2, r3, r4, r5)) :
 Calls Tryd.prog 48 #[.pointer (some ⟨g, 0, none⟩)] w fun e w' => e = .returned (errW r1) ∧ IsS86 w0 w' g r2 r3 r4 r5 ∧ Below w0.heap.size w0 w' ∧ KeepBut w w' g none := by
 have HI0 := Aside0.mk hI
 have HK := Aside0.mk (KeepBut.refl w g none)
 have HL := Aside0.mk hB.size
 clear hI
 have HW0 := Aside0.mk hB.size
 have HB := Aside0.mk hB
 clear hB
 have H : (some (s0_3, s0_0, s0_1, s0_2, s0_3)) = some (r1, r2, r3, r4, r5) := h
 clear h
 simp only [Option.some.injEq, Prod.mk.injEq] at H
 obtain ⟨rfl, rfl, rfl, rfl, rfl⟩ := H
 obtain ⟨HGz2, hgz2⟩ := HI0.out
 have hcz2_0 := cellS86_0 HGz2
 have hcz2_1 := cellS86_1 HGz2
 have hcz2_2 := cellS86_2 HGz2
 have hcz2_3 := cellS86_3 HGz2
 have hfz2_0 := blk_frozen HGz2 0
 have hfz2_1 := blk_frozen HGz2 1
 have hfz2_2 := blk_frozen HGz2 2
 have hfz2_3 := blk_frozen HGz2 3
 clear HGz2 hgz2
 go_enter Tryd.func48, Tryd.ntmps48
 go_wp2
 go_ret
 exact ⟨by first | rfl | (simp [errW_none, errW_some] <;> rfl) | (simp [*, errW_none, errW_some] <;> rfl), by repeat (first | (with_reducible first | exact HI0.out | apply IsS86.alloc | apply IsS86.drewN | apply IsS86.drew | apply IsS86.set_0 | apply IsS86.set_1 | apply IsS86.set_2 | apply IsS86.set_3) | exact HI0.out), by repeat (first | (with_reducible first | exact HB.out | apply below_alloc | apply pw_below_drewN | apply below_drew1 | refine below_set ?_ (IsS86.ge HI0.out)) | exact HB.out), by repeat (first | (with_reducible first | exact HK.out | apply KeepBut.set_ | apply keep_drewN | apply keep_drew | apply keep_alloc) | exact HK.out)⟩
end Go.Proofs.YtcpldcndhijecaaDoor.QT0
namespace Go.Proofs.YtcpldcndhijecaaDoor.QT0
open Go.RowKit Go.Proofs.YtcpldcndhijecaaDoorW.PrintWords Go.Proofs.YtcpldcndhijecaaDoorW.PrintLast Go.Proofs.YtcpldcndhijecaaDoorW.PrintMore
set_option linter.unusedVariables false
set_option linter.unusedSimpArgs false
def kptr {α : Type} (e : Nat) (d : Kd α) : Kd α where
  sz := 1
  E := e :: d.E
  K := fun w x cs => ∃ b inner, cs = [.pointer (some ⟨b, 0, none⟩)] ∧ w.heap[b]? = some (.cells inner e (0, 0)) ∧ d.K w x inner.toList
  M := fun w base ok x cs => ∃ b inner, cs = [.pointer (some ⟨b, 0, none⟩)] ∧ base ≤ b ∧ ok b ∧ w.heap[b]? = some (.cells inner e (0, 0)) ∧ d.M w base (fun k => ok k) x inner.toList
  K_len := by
    rintro w x cs ⟨b, inner, rfl, _⟩
    rfl
  K_one := by
    rintro w x cs ⟨b, inner, rfl, _⟩ u hu
    rw [List.mem_singleton.1 hu]
    rfl
  K_below := by
    rintro w w1 x cs hb ⟨b, inner, rfl, hh, hr⟩
    have hlt : b < w.heap.size := by
      rcases Nat.lt_or_ge b w.heap.size with h | h
      · exact h
      · rw [Array.getElem?_eq_none h] at hh; simp at hh
    exact ⟨b, inner, rfl, (hb.block b hlt).trans hh, d.K_below hb hr⟩
  K_of_M := by
    rintro w base ok x cs ⟨b, inner, rfl, _, _, hh, h⟩
    exact ⟨b, inner, rfl, hh, d.K_of_M h⟩
  M_mono := by
    rintro w base ok ok' x cs hok ⟨b, inner, rfl, h0, h1, hh, h⟩
    exact ⟨b, inner, rfl, h0, hok b h1, hh, d.M_mono hok h⟩
  M_bound := by
    rintro w base ok x cs ⟨b, inner, rfl, h0, h1, hh, h⟩
    have hlt : b < w.heap.size := by
      rcases Nat.lt_or_ge b w.heap.size with h | h
      · exact h
      · rw [Array.getElem?_eq_none h] at hh; simp at hh
    refine ⟨b, inner, rfl, h0, ⟨h1, h0, hlt, e, List.mem_cons_self, inner, hh⟩, hh, d.M_mono ?_ (d.M_bound h)⟩
    rintro k ⟨h2, h3, h4, q, hq, hc⟩
    exact ⟨h2, h3, h4, q, List.mem_cons_of_mem _ hq, hc⟩
  M_move := by
    rintro w w1 base ok x cs hm ⟨b, inner, rfl, h0, h1, hh, h⟩
    exact ⟨b, inner, rfl, h0, h1, (hm b h1).trans hh, d.M_move hm h⟩
  M_lower := by
    rintro w base base' ok x cs hb ⟨b, inner, rfl, h0, h1, hh, h⟩
    exact ⟨b, inner, rfl, Nat.le_trans hb h0, h1, hh, d.M_lower hb h⟩
structure Inf where
  f0 : Int
  f1 : Int
  f2 : Int
  f3 : Int
  f4 : ByteArray
  f5 : ByteArray
  f6 : ByteArray
  f7 : ByteArray
  f8 : ByteArray
  f9 : ByteArray
  f10 : ByteArray
def zInf : Inf := ⟨0, 0, 0, 0, ⟨#[]⟩, ⟨#[]⟩, ⟨#[]⟩, ⟨#[]⟩, ⟨#[]⟩, ⟨#[]⟩, ⟨#[]⟩⟩
def kInf : Kd Inf := Kd.iso (Kd.pair (Kd.int .i64) (Kd.pair (Kd.int .i64) (Kd.pair (Kd.int .i64) (Kd.pair (Kd.int .i64) (Kd.pair Kd.string (Kd.pair Kd.string (Kd.pair Kd.string (Kd.pair Kd.string (Kd.pair Kd.string (Kd.pair Kd.string Kd.string)))))))))) (fun x : Inf => (x.f0, x.f1, x.f2, x.f3, x.f4, x.f5, x.f6, x.f7, x.f8, x.f9, x.f10))
def Inf.cs (x : Inf) : List Value := [.int .i64 x.f0, .int .i64 x.f1, .int .i64 x.f2, .int .i64 x.f3, .string x.f4, .string x.f5, .string x.f6, .string x.f7, .string x.f8, .string x.f9, .string x.f10]
theorem kInf_open {w : World} {x : Inf} {cs : List Value} (h : kInf.K w x cs) : cs = x.cs := by
  obtain ⟨_, _, rfl, rfl, ⟨_, _, rfl, rfl, ⟨_, _, rfl, rfl, ⟨_, _, rfl, rfl, ⟨_, _, rfl, rfl, ⟨_, _, rfl, rfl, ⟨_, _, rfl, rfl, ⟨_, _, rfl, rfl, ⟨_, _, rfl, rfl, ⟨_, _, rfl, rfl, rfl⟩⟩⟩⟩⟩⟩⟩⟩⟩⟩ := h
  rfl
theorem kInf_mkM (w : World) (base : Nat) (ok : Nat → Prop) (x : Inf) : kInf.M w base ok x x.cs :=
  ⟨[.int .i64 x.f0], _, rfl, rfl, [.int .i64 x.f1], _, rfl, rfl, [.int .i64 x.f2], _, rfl, rfl, [.int .i64 x.f3], _, rfl, rfl, [.string x.f4], _, rfl, rfl, [.string x.f5], _, rfl, rfl, [.string x.f6], _, rfl, rfl, [.string x.f7], _, rfl, rfl, [.string x.f8], _, rfl, rfl, [.string x.f9], [.string x.f10], rfl, rfl, rfl⟩
theorem ptr_mkM {w : World} {base b : Nat} {ok : Nat → Prop} {x : Inf} (hb : base ≤ b) (hok : ok b) (h : w.heap[b]? = some (.cells x.cs.toArray 61 (0, 0))) : (kptr 61 kInf).M w base ok x [.pointer (some ⟨b, 0, none⟩)] :=
  ⟨b, _, rfl, hb, hok, h, kInf_mkM _ _ _ _⟩
theorem ptr_open {w : World} {x : Inf} {cs : List Value} (h : (kptr 61 kInf).K w x cs) : ∃ b, cs = [.pointer (some ⟨b, 0, none⟩)] ∧ w.heap[b]? = some (.cells x.cs.toArray 61 (0, 0)) := by
  obtain ⟨b, inner, rfl, hh, hr⟩ := h
  have := kInf_open hr
  have e : inner = x.cs.toArray := by rw [← this]
  exact ⟨b, rfl, e ▸ hh⟩
set_option maxHeartbeats 4000000 in
set_option maxRecDepth 100000 in
theorem scan_line (g : Nat) (T L R l0 : ByteArray) (n : Nat) (m : Int) (w0 w : World) (hI : IsS86 w0 w g T l0 m none) (hB : Below w0.heap.size w0 w)
    (hT0 : 0 < T.size) (hn : n ≤ T.size) (hn2 : (n : Int) < m) (h10 : n < T.size → bt T (n : Int) = 10) (hno : ∀ i : Nat, i < n → bt T (i : Int) ≠ 10)
    (hL : T.extract 0 n = L) (hR : T.extract (n + 1) T.size = R) (hTs : T.size ≤ 4611686018427387904) :
    Calls Tryd.prog 40 #[.pointer (some ⟨g, 0, none⟩)] w fun e w' => e = .returned (.bool true) ∧ IsS86 w0 w' g R (if 0 < n ∧ bt L ((n : Int) - 1) = 13 then L.extract 0 (n - 1) else L) m none ∧ Below w0.heap.size w0 w' ∧ KeepBut w w' g none := by
  have HI0 := Aside0.mk hI
  have HK := Aside0.mk (KeepBut.refl w g none)
  have HL := Aside0.mk hB.size
  have HB := Aside0.mk hB
  have HNO := Aside0.mk hno
  have H10 := Aside0.mk h10
  have hLz : L.size = n := by rw [← hL, ByteArray.size_extract]; omega
  have HLe := Aside0.mk hL
  have HRe := Aside0.mk hR
  have HLs := Aside0.mk hLz
  have he : T.toList.isEmpty = false := by
    rw [Lib.toList_data]
    rw [Lib.size_eq] at hT0
    cases h : T.data.toList with
    | nil => rw [h] at hT0; simp at hT0
    | cons a l => rfl
  clear hI hB hno h10 hL hR hLz
  obtain ⟨HGz2, hgz2⟩ := HI0.out
  have hcz2_0 := cellS86_0 HGz2
  have hcz2_1 := cellS86_1 HGz2
  have hcz2_2 := cellS86_2 HGz2
  have hcz2_3 := cellS86_3 HGz2
  have hfz2_0 := blk_frozen HGz2 0
  have hfz2_1 := blk_frozen HGz2 1
  rw [errW_none] at hcz2_3
  clear HGz2 hgz2
  go_enter Tryd.func40, Tryd.ntmps40
  go_wp2
  go_loop [3] (fun v => ∃ k : Nat, k ≤ n ∧ v = .int .i64 k) (fun v => n - (intOf v).toNat)
  case atStart => exact ⟨0, Nat.zero_le _, rfl⟩
  case round =>
    obtain ⟨k, hk, rfl⟩ := hrel
    have hx : ∀ h : k < T.size, ((T[k]'h).toNat : Int) = bt T (k : Int) := fun h => by simp [bt, h]
    by_cases hlt : k < n
    · have q1 : decide ((k : Int) < (T.size : Int)) = true := by simp; omega
      have t1 : (bt T (k : Int) != 10) = true := by rw [bne_iff_ne]; exact HNO.out k hlt
      go_wp2
      go_round
      case rel => exact ⟨k + 1, by omega, by go_num⟩
      case measure => simp [intOf]; omega
    · obtain rfl : k = n := by omega
      have q2 : decide (m ≤ (k : Int)) = false := by simp; omega
      clear hlt hk
      by_cases hend : k < T.size
      · have q1 : decide ((k : Int) < (T.size : Int)) = true := by simp; omega
        have t1 : (bt T (k : Int) != 10) = false := by rw [bne_eq_false_iff_eq]; exact H10.out hend
        go_wp2
        rw [HLe.out, HRe.out]
        have HI1 := Aside0.mk (show IsS86 w0 (((w.setCell { block := g, off := 1 } (Value.string { data := #[] })).setCell { block := g, off := 1 } (Value.string L)).setCell { block := g, off := 0 } (Value.string R)) g R L m none from IsS86.set_0 (IsS86.set_1 (IsS86.set_1 HI0.out _) _) _)
        have HB1 := Aside0.mk (show Below w0.heap.size w0 (((w.setCell { block := g, off := 1 } (Value.string { data := #[] })).setCell { block := g, off := 1 } (Value.string L)).setCell { block := g, off := 0 } (Value.string R)) from below_set (below_set (below_set HB.out (IsS86.ge HI0.out)) (IsS86.ge HI0.out)) (IsS86.ge HI0.out))
        have HK1 := Aside0.mk (show KeepBut w (((w.setCell { block := g, off := 1 } (Value.string { data := #[] })).setCell { block := g, off := 1 } (Value.string L)).setCell { block := g, off := 0 } (Value.string R)) g none from KeepBut.set_ (KeepBut.set_ (KeepBut.set_ HK.out _ _) _ _) _ _)
        generalize (((w.setCell { block := g, off := 1 } (Value.string { data := #[] })).setCell { block := g, off := 1 } (Value.string L)).setCell { block := g, off := 0 } (Value.string R)) = W at HI1 HB1 HK1 ⊢
        clear hcz2_0 hcz2_1 hcz2_2 hcz2_3 hfz2_0 hfz2_1
        obtain ⟨HGz2, hgz2⟩ := HI1.out
        have hcz2_1 := cellS86_1 HGz2
        have hfz2_1 := blk_frozen HGz2 1
        clear HGz2 hgz2
        have hsz := HLs.out
        by_cases hp : 0 < k
        · have hd : decide ((0 : Int) < (L.size : Int)) = true := decide_eq_true (by omega)
          have hz1 : (1 : Int) ≤ (k : Int) := by omega
          have hz2 : (k : Int) - 1 < (k : Int) := by omega
          have hx2 : ∀ h : k - 1 < L.size, ((L[k - 1]'h).toNat : Int) = bt L ((k : Int) - 1) := fun h => by
            have e : ((k : Int) - 1).toNat = k - 1 := by omega
            have h' : ((k : Int) - 1).toNat < L.size := by omega
            have := bt_at L ((k : Int) - 1) h'
            simp only [e] at this
            exact this
          have HLz := Aside0.mk hsz
          by_cases h13 : bt L ((k : Int) - 1) = 13
          · have t13 : (bt L ((k : Int) - 1) == 13) = true := by rw [beq_iff_eq]; exact h13
            go_big_quiet (fail)
            go_wp2
            go_region
            go_wp2
            go_ret
            exact ⟨rfl, IsS86.set_1 (IsS86.drewN HI1.out _) _, below_set (pw_below_drewN HB1.out _) (IsS86.ge HI0.out), KeepBut.set_ (keep_drewN HK1.out _) _ _⟩
          · have t13 : (bt L ((k : Int) - 1) == 13) = false := by rw [beq_eq_false_iff_ne]; exact h13
            go_big_quiet (fail)
            go_wp2
            go_ret
            exact ⟨rfl, IsS86.drewN HI1.out _, pw_below_drewN HB1.out _, keep_drewN HK1.out _⟩
        · have hd : decide ((0 : Int) < (L.size : Int)) = false := decide_eq_false (by omega)
          go_big_quiet (fail)
          go_wp2
          go_ret
          exact ⟨rfl, IsS86.drewN HI1.out _, pw_below_drewN HB1.out _, keep_drewN HK1.out _⟩
      · have q1 : decide ((k : Int) < (T.size : Int)) = false := by simp; omega
        go_wp2
        have HR0 : T.extract k T.size = R := by
          rw [← HRe.out]
          have hkk : k = T.size := by omega
          subst hkk
          apply ByteArray.ext; simp
        rw [HLe.out, HR0]
        have HI1 := Aside0.mk (show IsS86 w0 (((w.setCell { block := g, off := 1 } (Value.string { data := #[] })).setCell { block := g, off := 1 } (Value.string L)).setCell { block := g, off := 0 } (Value.string R)) g R L m none from IsS86.set_0 (IsS86.set_1 (IsS86.set_1 HI0.out _) _) _)
        have HB1 := Aside0.mk (show Below w0.heap.size w0 (((w.setCell { block := g, off := 1 } (Value.string { data := #[] })).setCell { block := g, off := 1 } (Value.string L)).setCell { block := g, off := 0 } (Value.string R)) from below_set (below_set (below_set HB.out (IsS86.ge HI0.out)) (IsS86.ge HI0.out)) (IsS86.ge HI0.out))
        have HK1 := Aside0.mk (show KeepBut w (((w.setCell { block := g, off := 1 } (Value.string { data := #[] })).setCell { block := g, off := 1 } (Value.string L)).setCell { block := g, off := 0 } (Value.string R)) g none from KeepBut.set_ (KeepBut.set_ (KeepBut.set_ HK.out _ _) _ _) _ _)
        generalize (((w.setCell { block := g, off := 1 } (Value.string { data := #[] })).setCell { block := g, off := 1 } (Value.string L)).setCell { block := g, off := 0 } (Value.string R)) = W at HI1 HB1 HK1 ⊢
        clear hcz2_0 hcz2_1 hcz2_2 hcz2_3 hfz2_0 hfz2_1
        obtain ⟨HGz2, hgz2⟩ := HI1.out
        have hcz2_1 := cellS86_1 HGz2
        have hfz2_1 := blk_frozen HGz2 1
        clear HGz2 hgz2
        have hsz := HLs.out
        by_cases hp : 0 < k
        · have hd : decide ((0 : Int) < (L.size : Int)) = true := decide_eq_true (by omega)
          have hz1 : (1 : Int) ≤ (k : Int) := by omega
          have hz2 : (k : Int) - 1 < (k : Int) := by omega
          have hx2 : ∀ h : k - 1 < L.size, ((L[k - 1]'h).toNat : Int) = bt L ((k : Int) - 1) := fun h => by
            have e : ((k : Int) - 1).toNat = k - 1 := by omega
            have h' : ((k : Int) - 1).toNat < L.size := by omega
            have := bt_at L ((k : Int) - 1) h'
            simp only [e] at this
            exact this
          have HLz := Aside0.mk hsz
          by_cases h13 : bt L ((k : Int) - 1) = 13
          · have t13 : (bt L ((k : Int) - 1) == 13) = true := by rw [beq_iff_eq]; exact h13
            go_big_quiet (fail)
            go_wp2
            go_region
            go_wp2
            go_ret
            exact ⟨rfl, IsS86.set_1 (IsS86.drewN HI1.out _) _, below_set (pw_below_drewN HB1.out _) (IsS86.ge HI0.out), KeepBut.set_ (keep_drewN HK1.out _) _ _⟩
          · have t13 : (bt L ((k : Int) - 1) == 13) = false := by rw [beq_eq_false_iff_ne]; exact h13
            go_big_quiet (fail)
            go_wp2
            go_ret
            exact ⟨rfl, IsS86.drewN HI1.out _, pw_below_drewN HB1.out _, keep_drewN HK1.out _⟩
        · omega
set_option maxHeartbeats 4000000 in
set_option maxRecDepth 100000 in
theorem scan_end (g : Nat) (T l0 : ByteArray) (m : Int) (w0 w : World) (hI : IsS86 w0 w g T l0 m none) (hB : Below w0.heap.size w0 w) (hT : T.size = 0) :
    Calls Tryd.prog 40 #[.pointer (some ⟨g, 0, none⟩)] w fun e w' => e = .returned (.bool false) ∧ IsS86 w0 w' g T ⟨#[]⟩ m none ∧ Below w0.heap.size w0 w' ∧ KeepBut w w' g none := by
  have HI0 := Aside0.mk hI
  have HK := Aside0.mk (KeepBut.refl w g none)
  have HL := Aside0.mk hB.size
  have HB := Aside0.mk hB
  have he : T.toList.isEmpty = true := by
    rw [Lib.toList_data]
    rw [Lib.size_eq] at hT
    rw [List.eq_nil_of_length_eq_zero hT]; rfl
  clear hI hB hT
  obtain ⟨HGz2, hgz2⟩ := HI0.out
  have hcz2_0 := cellS86_0 HGz2
  have hcz2_1 := cellS86_1 HGz2
  have hcz2_2 := cellS86_2 HGz2
  have hcz2_3 := cellS86_3 HGz2
  have hfz2_1 := blk_frozen HGz2 1
  rw [errW_none] at hcz2_3
  clear HGz2 hgz2
  go_enter Tryd.func40, Tryd.ntmps40
  go_wp2
  go_ret
  exact ⟨rfl, IsS86.set_1 HI0.out _, below_set HB.out (IsS86.ge HI0.out), KeepBut.set_ HK.out _ _⟩
def nl (T : ByteArray) : Nat := (T.data.toList.takeWhile (fun c => c != 10)).length
theorem bt_list (T : ByteArray) (i : Nat) (h : i < T.size) : bt T (i : Int) = ((T.data.toList[i]'(by simpa using h)).toNat : Int) := by
  unfold bt
  rw [dif_pos (by simpa using h)]
  simp only [Int.toNat_natCast, Array.getElem_toList]
  rfl
theorem nl_le (T : ByteArray) : nl T ≤ T.size := by
  unfold nl
  have := (List.takeWhile_sublist (fun c : UInt8 => c != 10) (l := T.data.toList)).length_le
  simpa using this
theorem nl_ne (T : ByteArray) (i : Nat) (h : i < nl T) : bt T (i : Int) ≠ 10 := by
  have hs : i < T.size := Nat.lt_of_lt_of_le h (nl_le T)
  rw [bt_list T i hs]
  have hl : i < (T.data.toList.takeWhile (fun c : UInt8 => c != 10)).length := h
  have hm := List.getElem_mem hl
  have hp := List.all_eq_true.1 (List.all_takeWhile (p := fun c : UInt8 => c != 10) (l := T.data.toList)) _ hm
  have he : (T.data.toList.takeWhile (fun c : UInt8 => c != 10))[i] = T.data.toList[i]'(by simpa using hs) := (List.takeWhile_prefix _).getElem hl
  rw [he] at hp
  intro e
  have : (T.data.toList[i]'(by simpa using hs)) = 10 := by
    apply UInt8.toNat_inj.1
    have : ((T.data.toList[i]'(by simpa using hs)).toNat : Int) = 10 := e
    have h10 : (10 : UInt8).toNat = 10 := rfl
    omega
  rw [this] at hp
  simp at hp
theorem nl_at (T : ByteArray) (h : nl T < T.size) : bt T ((nl T : Nat) : Int) = 10 := by
  rw [bt_list T _ h]
  have hd := List.takeWhile_append_dropWhile (p := fun c : UInt8 => c != 10) (l := T.data.toList)
  have hl : nl T < T.data.toList.length := by simpa using h
  have hne : T.data.toList.dropWhile (fun c : UInt8 => c != 10) ≠ [] := by
    intro e
    rw [e, List.append_nil] at hd
    have := congrArg List.length hd
    unfold nl at hl
    omega
  have hh := List.head_dropWhile_not (fun c : UInt8 => c != 10) (l := T.data.toList) hne
  have e2 : T.data.toList[nl T]'hl = (T.data.toList.dropWhile (fun c : UInt8 => c != 10)).head hne := by
    have h3 : T.data.toList[nl T]? = some ((T.data.toList.dropWhile (fun c : UInt8 => c != 10)).head hne) := by
      conv => lhs; rw [← hd]
      unfold nl
      rw [List.getElem?_append_right (Nat.le_refl _), Nat.sub_self, ← List.head?_eq_getElem?, List.head?_eq_some_head hne]
    rw [List.getElem?_eq_getElem hl] at h3
    exact Option.some.inj h3
  rw [e2]
  have : (T.data.toList.dropWhile (fun c : UInt8 => c != 10)).head hne = 10 := by simpa using hh
  rw [this]
  rfl
def chomp (L : ByteArray) : ByteArray := if 0 < L.size ∧ bt L ((L.size : Int) - 1) = 13 then L.extract 0 (L.size - 1) else L
theorem scan_next (g : Nat) (T l0 : ByteArray) (m : Int) (w0 w : World) (hI : IsS86 w0 w g T l0 m none) (hB : Below w0.heap.size w0 w)
    (hT0 : 0 < T.size) (hn2 : (nl T : Int) < m) (hTs : T.size ≤ 4611686018427387904) :
    Calls Tryd.prog 40 #[.pointer (some ⟨g, 0, none⟩)] w fun e w' => e = .returned (.bool true) ∧ IsS86 w0 w' g (T.extract (nl T + 1) T.size) (chomp (T.extract 0 (nl T))) m none ∧ Below w0.heap.size w0 w' ∧ KeepBut w w' g none := by
  have hz : (T.extract 0 (nl T)).size = nl T := by rw [ByteArray.size_extract]; have := nl_le T; omega
  have := scan_line g T (T.extract 0 (nl T)) (T.extract (nl T + 1) T.size) l0 (nl T) m w0 w hI hB hT0 (nl_le T) hn2 (nl_at T) (nl_ne T) rfl rfl hTs
  unfold chomp
  rw [hz]
  exact this
set_option maxHeartbeats 4000000 in
set_option maxRecDepth 100000 in
theorem new_lines (T : ByteArray) (w0 w : World) (hB : Below w0.heap.size w0 w) :
    Calls Tryd.prog 39 #[.string T] w fun e w' => e = .returned (.pointer (some ⟨w.heap.size, 0, none⟩)) ∧ IsS86 w0 w' w.heap.size T ⟨#[]⟩ 65536 none ∧ Below w0.heap.size w0 w' ∧ Below w.heap.size w w' := by
  have HB := Aside0.mk hB
  have HB' := Aside0.mk (Below.refl w.heap.size w)
  clear hB
  go_enter Tryd.func39, Tryd.ntmps39
  go_wp2
  go_ret
  exact ⟨rfl, IsS86.new w0 w T ⟨#[]⟩ 65536 none HB.out, below_alloc HB.out _, below_alloc HB'.out _⟩
end Go.Proofs.YtcpldcndhijecaaDoor.QT0
namespace Go.Proofs.YtcpldcndhijecaaDoor.QT0
open Go.RowKit Go.Proofs.YtcpldcndhijecaaDoorW.PrintWords Go.Proofs.YtcpldcndhijecaaDoorW.PrintLast Go.Proofs.YtcpldcndhijecaaDoorW.PrintMore
attribute [local go_sem] max2_int min2_int max_two min_two max_three min_three max_four min_four
set_option linter.unusedVariables false
set_option linter.unusedSimpArgs false
def mountinfo_zzIndex.l0 : Nat → ByteArray → ByteArray → Int → Option (Int)
 | 0, _, _, _ => none
 | k + 1, x0, x1, x5 => if (wrap64 (x5 + (x1.size : Int))) ≤ (x0.size : Int) then (if 0 ≤ x5 then (if x5 ≤ (wrap64 (x5 + (x1.size : Int))) then (if (x0.extract (x5 : Int).toNat ((wrap64 (x5 + (x1.size : Int))) : Int).toNat).toList = x1.toList then (some x5) else (mountinfo_zzIndex.l0 k x0 x1 (wrap64 (x5 + 1)))) else (none)) else (none)) else (some (-1))
def mountinfo_zzIndex.f (k : Nat) (a0 : ByteArray) (a1 : ByteArray) : Option (Int) := mountinfo_zzIndex.l0 k a0 a1 0
set_option maxHeartbeats 8000000 in
set_option maxRecDepth 100000 in
theorem mountinfo_zzIndex.calls (k : Nat) (a0 : ByteArray) (a1 : ByteArray) (r : Int) (w : World) (h : mountinfo_zzIndex.f k a0 a1 = some r) :
 Calls Tryd.prog 55 #[.string a0, .string a1] w fun e w' => e = .returned (.int .i64 r) ∧ Drawn0 w w' := by
 have H : (mountinfo_zzIndex.l0 k a0 a1 0) = some r := h
 clear h
 have H' := Aside0.mk H
 clear H
 go_enter Tryd.func55, Tryd.ntmps55
 go_wp2
 go_loopg [5] k (fun kq v5 w' => ∃ (x5_1 : Int), v5 = .int .i64 x5_1 ∧ Aside0 (mountinfo_zzIndex.l0 kq a0 a1 x5_1 = some r) ∧ Aside0 (kq ≤ k) ∧ Drawn0 w w')
 case atStart => exact ⟨(0), (by first | rfl | (simp; done) | (simp [*]; done)), H', ⟨Nat.le_refl _⟩, by repeat (first | exact Drawn0.refl _ | apply Drawn0.step)⟩
 case round =>
  clear H'
  try clear p2
  obtain ⟨x5_1, rfl, HA, HK1, ⟨m1, rfl⟩⟩ := hrel
  cases gk with
  | zero => exact absurd HA.out (by simp [mountinfo_zzIndex.l0])
  | succ k1 =>
   have H := HA.out
   clear HA
   simp only [mountinfo_zzIndex.l0] at H
   by_cases c3 : (wrap64 (x5_1 + (a1.size : Int))) ≤ (a0.size : Int)
   · rw [if_pos c3] at H
     have c3b0 : decide ((wrap64 (x5_1 + (a1.size : Int))) ≤ (a0.size : Int)) = true := decide_eq_true c3
     clear c3
     by_cases c4 : 0 ≤ x5_1
     · rw [if_pos c4] at H
       have c4b0 := eq_true c4
       have c4b1 : decide (0 ≤ x5_1) = true := decide_eq_true c4
       clear c4
       by_cases c5 : x5_1 ≤ (wrap64 (x5_1 + (a1.size : Int)))
       · rw [if_pos c5] at H
         have c5b0 := eq_true c5
         have c5b1 : decide (x5_1 ≤ (wrap64 (x5_1 + (a1.size : Int)))) = true := decide_eq_true c5
         have c6b0 := eq_true (of_decide_eq_true (by first | (with_reducible assumption) | assumption) : (wrap64 (x5_1 + (a1.size : Int))) ≤ (a0.size : Int))
         by_cases c7 : (a0.extract (x5_1 : Int).toNat ((wrap64 (x5_1 + (a1.size : Int))) : Int).toNat).toList = a1.toList
         · rw [if_pos c7] at H
           have c7b0 : ((a0.extract (x5_1 : Int).toNat ((wrap64 (x5_1 + (a1.size : Int))) : Int).toNat).toList == a1.toList) = true := beq_iff_eq.mpr c7
           have c7b1 : ((a0.extract (x5_1 : Int).toNat ((wrap64 (x5_1 + (a1.size : Int))) : Int).toNat).toList != a1.toList) = false := bne_eq_false_iff_eq.mpr c7
           clear c7
           obtain rfl := Option.some.inj H
           go_wp2
           go_ret
           exact ⟨by first | rfl | (simp; done) | (simp [*]; done), by repeat (first | exact Drawn0.refl _ | apply Drawn0.step)⟩
         · rw [if_neg c7] at H
           have c7b0 : ((a0.extract (x5_1 : Int).toNat ((wrap64 (x5_1 + (a1.size : Int))) : Int).toNat).toList == a1.toList) = false := beq_eq_false_iff_ne.mpr c7
           have c7b1 : ((a0.extract (x5_1 : Int).toNat ((wrap64 (x5_1 + (a1.size : Int))) : Int).toNat).toList != a1.toList) = true := bne_iff_ne.mpr c7
           have H' := Aside0.mk H
           clear H
           go_wp2
           go_roundg k1
           case measure => have := HK1.out; omega
           case rel => exact ⟨(wrap64 (x5_1 + 1)), (by first | rfl | (simp; done) | (simp [*]; done)), H', ⟨by have := HK1.out; omega⟩, by repeat (first | exact Drawn0.refl _ | apply Drawn0.step)⟩
       · rw [if_neg c5] at H
         exact absurd H (by simp)
     · rw [if_neg c4] at H
       exact absurd H (by simp)
   · rw [if_neg c3] at H
     have c3b0 : decide ((wrap64 (x5_1 + (a1.size : Int))) ≤ (a0.size : Int)) = false := decide_eq_false c3
     clear c3
     obtain rfl := Option.some.inj H
     go_wp2
     go_ret
     exact ⟨by first | rfl | (simp; done) | (simp [*]; done), by repeat (first | exact Drawn0.refl _ | apply Drawn0.step)⟩
def mountinfo_zzSplit.l0 : Nat → ByteArray → ByteArray → List ByteArray → Option (List ByteArray)
 | 0, _, _, _ => none
 | k + 1, x0, x1, x5 => (mountinfo_zzIndex.f k x0 x1).bind fun t101 => (if t101 < 0 then (if x5.length < 8796093022208 then (some (x5 ++ [x0])) else (none)) else (if 0 ≤ t101 then (if t101 ≤ (x0.size : Int) then (if x5.length < 8796093022208 then (if 0 ≤ (wrap64 (t101 + (x1.size : Int))) then (if (wrap64 (t101 + (x1.size : Int))) ≤ (x0.size : Int) then (mountinfo_zzSplit.l0 k (x0.extract ((wrap64 (t101 + (x1.size : Int))) : Int).toNat x0.size) x1 (x5 ++ [x0.extract 0 (t101 : Int).toNat])) else (none)) else (none)) else (none)) else (none)) else (none)))
def mountinfo_zzSplit.f (k : Nat) (a0 : ByteArray) (a1 : ByteArray) : Option (List ByteArray) := if (a1.size : Int) = 0 then (none) else (mountinfo_zzSplit.l0 k a0 a1 ([] : List ByteArray))
set_option maxHeartbeats 8000000 in
set_option maxRecDepth 100000 in
theorem mountinfo_zzSplit.calls (k : Nat) (a0 : ByteArray) (a1 : ByteArray) (r : List ByteArray) (w : World) (h : mountinfo_zzSplit.f k a0 a1 = some r) :
 Calls Tryd.prog 42 #[.string a0, .string a1] w fun e w' => ∃ v0_ : Value, e = .returned (v0_) ∧ Kd.R Kd.string 9 w' w.heap.size (fun _ => True) v0_ r ∧ Below w.heap.size w w' := by
 have HB := Aside0.mk (Below.refl w.heap.size w)
 have H : (if (a1.size : Int) = 0 then (none) else (mountinfo_zzSplit.l0 k a0 a1 ([] : List ByteArray))) = some r := h
 clear h
 by_cases c3 : (a1.size : Int) = 0
 · rw [if_pos c3] at H
   exact absurd H (by simp)
 · rw [if_neg c3] at H
   have c3b0 : ((a1.size : Int) == 0) = false := beq_eq_false_iff_ne.mpr c3
   have c3b1 : ((a1.size : Int) != 0) = true := bne_iff_ne.mpr c3
   have H' := Aside0.mk H
   clear H
   go_enter Tryd.func42, Tryd.ntmps42
   go_wp2
   go_loopg [0, 5] k (fun kq v0 v5 w' => ∃ (x0_1 : ByteArray) (x5_1 : List ByteArray), v0 = .string x0_1 ∧ Aside0 (mountinfo_zzSplit.l0 kq x0_1 a1 x5_1 = some r) ∧ Aside0 (kq ≤ k) ∧ Aside0 (Kd.R Kd.string 9 w' w.heap.size (fun _ => True) v5 x5_1) ∧ Aside0 (Below w.heap.size w w'))
   case atStart => exact ⟨(a0), (([] : List ByteArray)), (by first | rfl | (simp; done) | (simp [*]; done)), H', ⟨Nat.le_refl _⟩, ⟨by first | exact Kd.R_nil _ _ _ _ _ | exact Kd.N_nil _ _ _ _ _ | exact Kd.V_nil _ _ _ _ _ | exact Kd.Q_nil _ _ _ _ _ | exact Kd.S_nil _ _ _ _ _⟩, ⟨by repeat (first | (with_reducible first | exact HB.out | apply below_alloc | apply pw_below_drewN | apply below_drew1) | exact HB.out)⟩⟩
   case round =>
    clear H'
    try clear p2
    try clear c3
    try clear c3b0
    try clear c3b1
    obtain ⟨x0_1, x5_1, rfl, HA, HK1, HO_5, HB⟩ := hrel
    cases gk with
    | zero => exact absurd HA.out (by simp [mountinfo_zzSplit.l0])
    | succ k1 =>
     have H := HA.out
     clear HA
     simp only [mountinfo_zzSplit.l0] at H
     replace H := Option.bind_eq_some_iff.mp H
     obtain ⟨t101, A40, H⟩ := H
     replace H : (if t101 < 0 then (if x5_1.length < 8796093022208 then (some (x5_1 ++ [x0_1])) else (none)) else (if 0 ≤ t101 then (if t101 ≤ (x0_1.size : Int) then (if x5_1.length < 8796093022208 then (if 0 ≤ (wrap64 (t101 + (a1.size : Int))) then (if (wrap64 (t101 + (a1.size : Int))) ≤ (x0_1.size : Int) then (mountinfo_zzSplit.l0 k1 (x0_1.extract ((wrap64 (t101 + (a1.size : Int))) : Int).toNat x0_1.size) a1 (x5_1 ++ [x0_1.extract 0 (t101 : Int).toNat])) else (none)) else (none)) else (none)) else (none)) else (none))) = some r := H
     have A4 := Aside0.mk A40
     clear A40
     by_cases c5 : t101 < 0
     · rw [if_pos c5] at H
       have c5b0 : decide (t101 < 0) = true := decide_eq_true c5
       clear c5
       by_cases c6 : x5_1.length < 8796093022208
       · rw [if_pos c6] at H
         have LMc6 := Aside0.mk c6
         clear c6
         obtain ⟨y102, hy102⟩ : ∃ y_ : List ByteArray, y_ = (x5_1 ++ [x0_1]) := ⟨_, rfl⟩
         replace H : (some y102) = some r := by first | (rw [hy102]; with_reducible exact H) | (have H2_ := (Option.bind_some _ _).symm.trans H; rw [hy102]; with_reducible exact H2_) | (have H2_ := (Option.bind_some _ _).symm.trans H; with_reducible exact H2_) | with_reducible exact H | (rw [hy102]; exact H) | exact H
         have Ny102 := Aside0.mk hy102
         clear hy102
         obtain rfl := Option.some.inj H
         go_wp2_with (first | ((with_reducible refine gate_callee (f := 55) rfl ?_); refine goesL_ (some 39) rfl rfl Tryd.func55 (by kernel_rfl) rfl #[.string x0_1, .string a1] rfl (by (try simp only [List.map_toArray, List.map_cons, List.map_nil]); first | done | rfl | (simp only [List.length_drop, List.length_take]; rfl)) ?_; (with_reducible refine (mountinfo_zzIndex.calls k1 x0_1 a1 t101 _ A4.out).mono ?_); rintro e w' ⟨rfl, ⟨nd, rfl⟩⟩; refine ⟨_, rfl, ?_⟩) | ((with_reducible refine gate_builtin (b := .append) (xs := #[.tmp 42, .tmp 44]) rfl ?_); at_builtin; refine Kd.R_append Kd.string (w0 := w) w.heap.size rfl (.tmp 42) (.tmp 44) 28 9 (.string ⟨#[]⟩) 16 rfl Tryd.underlying28 info9 rfl (by decide) (by omega) u5 x5_1 x0_1 [.string x0_1] (fun _ => True) (fun _ => False) rfl rfl ?aP (fun _ hk => hk.elim) ?aF ?aO ?aB ?aS ?aL ?_; (case aP => exact rfl); (case aB => exact (by repeat (first | (with_reducible first | exact HB.out | apply below_alloc | apply pw_below_drewN | apply below_drew1) | exact HB.out))); (case aF => exact (fun _ _ => trivial)); (case aO => exact (by (with_reducible repeat (first | apply Kd.R_alloc | apply Kd.R_drewN | apply Kd.R_drew)); exact HO_5.out)); (case aS => exact (below_size (by repeat (first | (with_reducible first | exact HB.out | apply below_alloc | apply pw_below_drewN | apply below_drew1) | exact HB.out)))); (case aL => have := LMc6.out; omega); intro v103 w7 ho hb hg hat; rw [← Ny102.out] at ho; have n0_ := Aside0.mk (hb); have n1_ := Aside0.mk (ho); clear HB; clear HO_5; have HB := n0_; have HO104 := n1_; clear n0_ n1_; clear ho hb hg hat))
         go_ret
         exact ⟨_, by first | rfl | (simp [errW_none, errW_some] <;> rfl) | (simp [*, errW_none, errW_some] <;> rfl), by (with_reducible repeat (first | apply Kd.R_alloc | apply Kd.R_drewN | apply Kd.R_drew)); exact HO104.out, by repeat (first | (with_reducible first | exact HB.out | apply below_alloc | apply pw_below_drewN | apply below_drew1) | exact HB.out)⟩
       · rw [if_neg c6] at H
         exact absurd H (by simp)
     · rw [if_neg c5] at H
       have c5b0 : decide (t101 < 0) = false := decide_eq_false c5
       clear c5
       by_cases c8 : 0 ≤ t101
       · rw [if_pos c8] at H
         have c8b0 := eq_true c8
         have c8b1 : decide (0 ≤ t101) = true := decide_eq_true c8
         clear c8
         by_cases c9 : t101 ≤ (x0_1.size : Int)
         · rw [if_pos c9] at H
           have c9b0 := eq_true c9
           have c9b1 : decide (t101 ≤ (x0_1.size : Int)) = true := decide_eq_true c9
           clear c9
           by_cases c10 : x5_1.length < 8796093022208
           · rw [if_pos c10] at H
             have LMc10 := Aside0.mk c10
             clear c10
             obtain ⟨y105, hy105⟩ : ∃ y_ : List ByteArray, y_ = (x5_1 ++ [x0_1.extract 0 (t101 : Int).toNat]) := ⟨_, rfl⟩
             replace H : (if 0 ≤ (wrap64 (t101 + (a1.size : Int))) then (if (wrap64 (t101 + (a1.size : Int))) ≤ (x0_1.size : Int) then (mountinfo_zzSplit.l0 k1 (x0_1.extract ((wrap64 (t101 + (a1.size : Int))) : Int).toNat x0_1.size) a1 y105) else (none)) else (none)) = some r := by first | (rw [hy105]; with_reducible exact H) | (have H2_ := (Option.bind_some _ _).symm.trans H; rw [hy105]; with_reducible exact H2_) | (have H2_ := (Option.bind_some _ _).symm.trans H; with_reducible exact H2_) | with_reducible exact H | (rw [hy105]; exact H) | exact H
             have Ny105 := Aside0.mk hy105
             clear hy105
             obtain ⟨ji11, hji11⟩ : ∃ j_ : Int, (wrap64 (t101 + (a1.size : Int))) = j_ := ⟨_, rfl⟩
             replace H : (if 0 ≤ (ji11) then (if (ji11) ≤ (x0_1.size : Int) then (mountinfo_zzSplit.l0 k1 (x0_1.extract ((ji11) : Int).toNat x0_1.size) a1 y105) else (none)) else (none)) = some r := by first | (rw [hji11] at H; exact H) | (simp only [hji11] at H ⊢; exact H)
             (try rw [hji11] at A4)
             have hji11w : (IntKind.i64.wrap (t101 + (a1.size : Int))) = ji11 := (i64_w _).trans hji11
             by_cases c12 : 0 ≤ (ji11)
             · rw [if_pos c12] at H
               have c12b0 := eq_true c12
               have c12b1 : decide (0 ≤ (ji11)) = true := decide_eq_true c12
               clear c12
               by_cases c13 : (ji11) ≤ (x0_1.size : Int)
               · rw [if_pos c13] at H
                 have c13b0 := eq_true c13
                 have c13b1 : decide ((ji11) ≤ (x0_1.size : Int)) = true := decide_eq_true c13
                 clear c13
                 have H' := Aside0.mk H
                 clear H
                 go_wp2_with (first | ((with_reducible refine gate_callee (f := 55) rfl ?_); refine goesL_ (some 39) rfl rfl Tryd.func55 (by kernel_rfl) rfl #[.string x0_1, .string a1] rfl (by (try simp only [List.map_toArray, List.map_cons, List.map_nil]); first | done | rfl | (simp only [List.length_drop, List.length_take]; rfl)) ?_; (with_reducible refine (mountinfo_zzIndex.calls k1 x0_1 a1 t101 _ A4.out).mono ?_); rintro e w' ⟨rfl, ⟨nd, rfl⟩⟩; refine ⟨_, rfl, ?_⟩) | ((with_reducible refine gate_builtin (b := .append) (xs := #[.tmp 46, .tmp 50]) rfl ?_); at_builtin; refine Kd.R_append Kd.string (w0 := w) w.heap.size rfl (.tmp 46) (.tmp 50) 28 9 (.string ⟨#[]⟩) 16 rfl Tryd.underlying28 info9 rfl (by decide) (by omega) u5 x5_1 (x0_1.extract 0 (t101 : Int).toNat) [.string (x0_1.extract 0 (t101 : Int).toNat)] (fun _ => True) (fun _ => False) rfl rfl ?aP (fun _ hk => hk.elim) ?aF ?aO ?aB ?aS ?aL ?_; (case aP => exact rfl); (case aB => exact (by repeat (first | (with_reducible first | exact HB.out | apply below_alloc | apply pw_below_drewN | apply below_drew1) | exact HB.out))); (case aF => exact (fun _ _ => trivial)); (case aO => exact (by (with_reducible repeat (first | apply Kd.R_alloc | apply Kd.R_drewN | apply Kd.R_drew)); exact HO_5.out)); (case aS => exact (below_size (by repeat (first | (with_reducible first | exact HB.out | apply below_alloc | apply pw_below_drewN | apply below_drew1) | exact HB.out)))); (case aL => have := LMc10.out; omega); intro v106 w14 ho hb hg hat; rw [← Ny105.out] at ho; have n0_ := Aside0.mk (hb); have n1_ := Aside0.mk (ho); clear HB; clear HO_5; have HB := n0_; have HO107 := n1_; clear n0_ n1_; clear ho hb hg hat))
                 go_roundg k1
                 case measure => have := HK1.out; omega
                 case rel => exact ⟨(x0_1.extract ((ji11) : Int).toNat x0_1.size), (y105), (by first | rfl | (simp; done) | (simp only [← hji11] <;> (first | rfl | simp)) | (simp [*]; done)), H', ⟨by have := HK1.out; omega⟩, ⟨by (with_reducible repeat (first | apply Kd.R_alloc | apply Kd.R_drewN | apply Kd.R_drew)); exact HO107.out⟩, ⟨by repeat (first | (with_reducible first | exact HB.out | apply below_alloc | apply pw_below_drewN | apply below_drew1) | exact HB.out)⟩⟩
               · rw [if_neg c13] at H
                 exact absurd H (by simp)
             · rw [if_neg c12] at H
               exact absurd H (by simp)
           · rw [if_neg c10] at H
             exact absurd H (by simp)
         · rw [if_neg c9] at H
           exact absurd H (by simp)
       · rw [if_neg c8] at H
         exact absurd H (by simp)
def mountinfo_zzCut.f (k : Nat) (a0 : ByteArray) (a1 : ByteArray) : Option (ByteArray × ByteArray × Bool) := (mountinfo_zzIndex.f k a0 a1).bind fun t108 => (if t108 ≥ 0 then (if 0 ≤ t108 then (if t108 ≤ (a0.size : Int) then (if 0 ≤ (wrap64 (t108 + (a1.size : Int))) then (if (wrap64 (t108 + (a1.size : Int))) ≤ (a0.size : Int) then (some (a0.extract 0 (t108 : Int).toNat, a0.extract ((wrap64 (t108 + (a1.size : Int))) : Int).toNat a0.size, true)) else (none)) else (none)) else (none)) else (none)) else (some (a0, (⟨#[]⟩ : ByteArray), false)))
set_option maxHeartbeats 8000000 in
set_option maxRecDepth 100000 in
theorem mountinfo_zzCut.calls (k : Nat) (a0 : ByteArray) (a1 : ByteArray) (r1 : ByteArray) (r2 : ByteArray) (r3 : Bool) (w : World) (h : mountinfo_zzCut.f k a0 a1 = some (r1, r2, r3)) :
 Calls Tryd.prog 44 #[.string a0, .string a1] w fun e w' => e = .returned (.tuple #[.string r1, .string r2, .bool r3]) ∧ Drawn0 w w' := by
 have H : ((mountinfo_zzIndex.f k a0 a1).bind fun t108 => (if t108 ≥ 0 then (if 0 ≤ t108 then (if t108 ≤ (a0.size : Int) then (if 0 ≤ (wrap64 (t108 + (a1.size : Int))) then (if (wrap64 (t108 + (a1.size : Int))) ≤ (a0.size : Int) then (some (a0.extract 0 (t108 : Int).toNat, a0.extract ((wrap64 (t108 + (a1.size : Int))) : Int).toNat a0.size, true)) else (none)) else (none)) else (none)) else (none)) else (some (a0, (⟨#[]⟩ : ByteArray), false)))) = some (r1, r2, r3) := h
 clear h
 replace H := Option.bind_eq_some_iff.mp H
 obtain ⟨t108, A30, H⟩ := H
 replace H : (if t108 ≥ 0 then (if 0 ≤ t108 then (if t108 ≤ (a0.size : Int) then (if 0 ≤ (wrap64 (t108 + (a1.size : Int))) then (if (wrap64 (t108 + (a1.size : Int))) ≤ (a0.size : Int) then (some (a0.extract 0 (t108 : Int).toNat, a0.extract ((wrap64 (t108 + (a1.size : Int))) : Int).toNat a0.size, true)) else (none)) else (none)) else (none)) else (none)) else (some (a0, (⟨#[]⟩ : ByteArray), false))) = some (r1, r2, r3) := H
 have A3 := Aside0.mk A30
 clear A30
 by_cases c4 : t108 ≥ 0
 · rw [if_pos c4] at H
   have c4b0 : decide (0 ≤ t108) = true := decide_eq_true c4
   clear c4
   by_cases c5 : 0 ≤ t108
   · rw [if_pos c5] at H
     have c5b0 := eq_true c5
     have c5b1 : decide (0 ≤ t108) = true := decide_eq_true c5
     clear c5
     by_cases c6 : t108 ≤ (a0.size : Int)
     · rw [if_pos c6] at H
       have c6b0 := eq_true c6
       have c6b1 : decide (t108 ≤ (a0.size : Int)) = true := decide_eq_true c6
       clear c6
       obtain ⟨ji7, hji7⟩ : ∃ j_ : Int, (wrap64 (t108 + (a1.size : Int))) = j_ := ⟨_, rfl⟩
       replace H : (if 0 ≤ (ji7) then (if (ji7) ≤ (a0.size : Int) then (some (a0.extract 0 (t108 : Int).toNat, a0.extract ((ji7) : Int).toNat a0.size, true)) else (none)) else (none)) = some (r1, r2, r3) := by first | (rw [hji7] at H; exact H) | (simp only [hji7] at H ⊢; exact H)
       (try rw [hji7] at A3)
       have hji7w : (IntKind.i64.wrap (t108 + (a1.size : Int))) = ji7 := (i64_w _).trans hji7
       by_cases c8 : 0 ≤ (ji7)
       · rw [if_pos c8] at H
         have c8b0 := eq_true c8
         have c8b1 : decide (0 ≤ (ji7)) = true := decide_eq_true c8
         clear c8
         by_cases c9 : (ji7) ≤ (a0.size : Int)
         · rw [if_pos c9] at H
           have c9b0 := eq_true c9
           have c9b1 : decide ((ji7) ≤ (a0.size : Int)) = true := decide_eq_true c9
           clear c9
           simp only [Option.some.injEq, Prod.mk.injEq] at H
           obtain ⟨rfl, rfl, rfl⟩ := H
           go_enter Tryd.func44, Tryd.ntmps44
           go_wp2_with (first | (go_at_call 55; (with_reducible refine (mountinfo_zzIndex.calls k a0 a1 t108 _ A3.out).mono ?_); rintro e w' ⟨rfl, ⟨nd, rfl⟩⟩; (try first | exact ⟨rfl, _, World.drewN_drewN _ _ _⟩ | exact ⟨rfl, _, Eq.trans (World.drewN_drewN _ _ _) (congrArg (World.drewN _) (Nat.add_assoc _ _ _))⟩)))
           repeat (go_quiet (first | (go_at_call 55; (with_reducible refine (mountinfo_zzIndex.calls k a0 a1 t108 _ A3.out).mono ?_); rintro e w' ⟨rfl, ⟨nd, rfl⟩⟩; (try first | exact ⟨rfl, _, World.drewN_drewN _ _ _⟩ | exact ⟨rfl, _, Eq.trans (World.drewN_drewN _ _ _) (congrArg (World.drewN _) (Nat.add_assoc _ _ _))⟩))); try go_wp2_with (first | (go_at_call 55; (with_reducible refine (mountinfo_zzIndex.calls k a0 a1 t108 _ A3.out).mono ?_); rintro e w' ⟨rfl, ⟨nd, rfl⟩⟩; (try first | exact ⟨rfl, _, World.drewN_drewN _ _ _⟩ | exact ⟨rfl, _, Eq.trans (World.drewN_drewN _ _ _) (congrArg (World.drewN _) (Nat.add_assoc _ _ _))⟩))))
           go_ret3
           exact ⟨by first | rfl | (simp; done) | (simp only [← hji7] <;> (first | rfl | simp)) | (simp [*]; done), by repeat (first | exact Drawn0.refl _ | apply Drawn0.step)⟩
         · rw [if_neg c9] at H
           exact absurd H (by simp)
       · rw [if_neg c8] at H
         exact absurd H (by simp)
     · rw [if_neg c6] at H
       exact absurd H (by simp)
   · rw [if_neg c5] at H
     exact absurd H (by simp)
 · rw [if_neg c4] at H
   have c4b0 : decide (0 ≤ t108) = false := decide_eq_false c4
   clear c4
   simp only [Option.some.injEq, Prod.mk.injEq] at H
   obtain ⟨rfl, rfl, rfl⟩ := H
   go_enter Tryd.func44, Tryd.ntmps44
   go_wp2_with (first | (go_at_call 55; (with_reducible refine (mountinfo_zzIndex.calls k a0 a1 t108 _ A3.out).mono ?_); rintro e w' ⟨rfl, ⟨nd, rfl⟩⟩; (try first | exact ⟨rfl, _, World.drewN_drewN _ _ _⟩ | exact ⟨rfl, _, Eq.trans (World.drewN_drewN _ _ _) (congrArg (World.drewN _) (Nat.add_assoc _ _ _))⟩)))
   repeat (go_quiet (first | (go_at_call 55; (with_reducible refine (mountinfo_zzIndex.calls k a0 a1 t108 _ A3.out).mono ?_); rintro e w' ⟨rfl, ⟨nd, rfl⟩⟩; (try first | exact ⟨rfl, _, World.drewN_drewN _ _ _⟩ | exact ⟨rfl, _, Eq.trans (World.drewN_drewN _ _ _) (congrArg (World.drewN _) (Nat.add_assoc _ _ _))⟩))); try go_wp2_with (first | (go_at_call 55; (with_reducible refine (mountinfo_zzIndex.calls k a0 a1 t108 _ A3.out).mono ?_); rintro e w' ⟨rfl, ⟨nd, rfl⟩⟩; (try first | exact ⟨rfl, _, World.drewN_drewN _ _ _⟩ | exact ⟨rfl, _, Eq.trans (World.drewN_drewN _ _ _) (congrArg (World.drewN _) (Nat.add_assoc _ _ _))⟩))))
   go_ret3
   exact ⟨by first | rfl | (simp; done) | (simp [*]; done), by repeat (first | exact Drawn0.refl _ | apply Drawn0.step)⟩
def strings_IndexByte.f (a0 : ByteArray) (a1 : Int) : Option (Int) := some (Lib.indexByte a0.data.toList a1.toNat.toUInt8)
theorem strings_IndexByte.calls (a0 : ByteArray) (a1 : Int) (r : Int) (w : World) (h : strings_IndexByte.f a0 a1 = some r) :
 Calls Tryd.prog 57 #[.string a0, .int .u8 a1] w fun e w' => e = .returned (.int .i64 r) ∧ Drawn0 w w' := by
 obtain rfl := Option.some.inj h
 exact (Tryd.strings_IndexByte a0 a1 w).mono fun e w' ⟨he, hw⟩ => ⟨he, hw ▸ Drawn0.refl w⟩
end Go.Proofs.YtcpldcndhijecaaDoor.QT0
namespace Go.Proofs.YtcpldcndhijecaaDoor.QT0
open Go.RowKit Go.Proofs.YtcpldcndhijecaaDoorW.PrintWords Go.Proofs.YtcpldcndhijecaaDoorW.PrintLast Go.Proofs.YtcpldcndhijecaaDoorW.PrintMore
attribute [local go_sem] max2_int min2_int max_two min_two max_three min_three max_four min_four
set_option linter.unusedVariables false
set_option linter.unusedSimpArgs false
def mountinfo_unescape.l0 : Nat → ByteArray → List Int → Int → Int → Option (ByteArray)
 | 0, _, _, _, _ => none
 | k + 1, x0, x3, x4, x5 => if x5 < (x0.size : Int) then (if 0 ≤ x5 then (if (bt x0 x5) = 92 then (if (wrap64 (x5 + 3)) < (x0.size : Int) then (if 0 ≤ (wrap64 (x5 + 1)) then (if (wrap64 (x5 + 1)) < (x0.size : Int) then (if (bt x0 (wrap64 (x5 + 1))) = 48 then (if 0 ≤ (wrap64 (x5 + 2)) then (if (wrap64 (x5 + 2)) < (x0.size : Int) then (if (bt x0 (wrap64 (x5 + 2))) ≥ 48 then (if (bt x0 (wrap64 (x5 + 2))) ≤ 55 then (if 0 ≤ (wrap64 (x5 + 3)) then (if (bt x0 (wrap64 (x5 + 3))) ≥ 48 then (if (bt x0 (wrap64 (x5 + 3))) ≤ 55 then (if 0 ≤ x4 then (if x4 < (x3.length : Int) then (mountinfo_unescape.l0 k x0 (x3.set (x4 : Int).toNat (Go.bits .or .u8 (Go.bits .or .u8 (((((bt x0 (wrap64 (x5 + 1))) - 48) % 256) * 64) % 256) (((((bt x0 (wrap64 (x5 + 2))) - 48) % 256) * 8) % 256)) (((bt x0 (wrap64 (x5 + 3))) - 48) % 256))) (wrap64 (x4 + 1)) (wrap64 ((wrap64 (x5 + 3)) + 1))) else (none)) else (none)) else (if 0 ≤ x4 then (if x4 < (x3.length : Int) then (mountinfo_unescape.l0 k x0 (x3.set (x4 : Int).toNat (bt x0 x5)) (wrap64 (x4 + 1)) (wrap64 (x5 + 1))) else (none)) else (none))) else (if 0 ≤ x4 then (if x4 < (x3.length : Int) then (mountinfo_unescape.l0 k x0 (x3.set (x4 : Int).toNat (bt x0 x5)) (wrap64 (x4 + 1)) (wrap64 (x5 + 1))) else (none)) else (none))) else (none)) else (if 0 ≤ x4 then (if x4 < (x3.length : Int) then (mountinfo_unescape.l0 k x0 (x3.set (x4 : Int).toNat (bt x0 x5)) (wrap64 (x4 + 1)) (wrap64 (x5 + 1))) else (none)) else (none))) else (if 0 ≤ x4 then (if x4 < (x3.length : Int) then (mountinfo_unescape.l0 k x0 (x3.set (x4 : Int).toNat (bt x0 x5)) (wrap64 (x4 + 1)) (wrap64 (x5 + 1))) else (none)) else (none))) else (none)) else (none)) else (if (bt x0 (wrap64 (x5 + 1))) = 49 then (if 0 ≤ (wrap64 (x5 + 2)) then (if (wrap64 (x5 + 2)) < (x0.size : Int) then (if (bt x0 (wrap64 (x5 + 2))) ≥ 48 then (if (bt x0 (wrap64 (x5 + 2))) ≤ 55 then (if 0 ≤ (wrap64 (x5 + 3)) then (if (bt x0 (wrap64 (x5 + 3))) ≥ 48 then (if (bt x0 (wrap64 (x5 + 3))) ≤ 55 then (if 0 ≤ x4 then (if x4 < (x3.length : Int) then (mountinfo_unescape.l0 k x0 (x3.set (x4 : Int).toNat (Go.bits .or .u8 (Go.bits .or .u8 (((((bt x0 (wrap64 (x5 + 1))) - 48) % 256) * 64) % 256) (((((bt x0 (wrap64 (x5 + 2))) - 48) % 256) * 8) % 256)) (((bt x0 (wrap64 (x5 + 3))) - 48) % 256))) (wrap64 (x4 + 1)) (wrap64 ((wrap64 (x5 + 3)) + 1))) else (none)) else (none)) else (if 0 ≤ x4 then (if x4 < (x3.length : Int) then (mountinfo_unescape.l0 k x0 (x3.set (x4 : Int).toNat (bt x0 x5)) (wrap64 (x4 + 1)) (wrap64 (x5 + 1))) else (none)) else (none))) else (if 0 ≤ x4 then (if x4 < (x3.length : Int) then (mountinfo_unescape.l0 k x0 (x3.set (x4 : Int).toNat (bt x0 x5)) (wrap64 (x4 + 1)) (wrap64 (x5 + 1))) else (none)) else (none))) else (none)) else (if 0 ≤ x4 then (if x4 < (x3.length : Int) then (mountinfo_unescape.l0 k x0 (x3.set (x4 : Int).toNat (bt x0 x5)) (wrap64 (x4 + 1)) (wrap64 (x5 + 1))) else (none)) else (none))) else (if 0 ≤ x4 then (if x4 < (x3.length : Int) then (mountinfo_unescape.l0 k x0 (x3.set (x4 : Int).toNat (bt x0 x5)) (wrap64 (x4 + 1)) (wrap64 (x5 + 1))) else (none)) else (none))) else (none)) else (none)) else (if 0 ≤ x4 then (if x4 < (x3.length : Int) then (mountinfo_unescape.l0 k x0 (x3.set (x4 : Int).toNat (bt x0 x5)) (wrap64 (x4 + 1)) (wrap64 (x5 + 1))) else (none)) else (none)))) else (none)) else (none)) else (if 0 ≤ x4 then (if x4 < (x3.length : Int) then (mountinfo_unescape.l0 k x0 (x3.set (x4 : Int).toNat (bt x0 x5)) (wrap64 (x4 + 1)) (wrap64 (x5 + 1))) else (none)) else (none))) else (if 0 ≤ x4 then (if x4 < (x3.length : Int) then (mountinfo_unescape.l0 k x0 (x3.set (x4 : Int).toNat (bt x0 x5)) (wrap64 (x4 + 1)) (wrap64 (x5 + 1))) else (none)) else (none))) else (none)) else (if 0 ≤ x4 then (if x4 ≤ (x3.length : Int) then (some (strOfNums (x3.take (x4 : Int).toNat))) else (none)) else (none))
def mountinfo_unescape.f (k : Nat) (a0 : ByteArray) : Option (ByteArray) := (strings_IndexByte.f a0 92).bind fun t109 => (if t109 = (-1) then (some a0) else (if 0 ≤ (a0.size : Int) then (if ((a0.size : Int) : Int).toNat ≤ 281474976710656 then (mountinfo_unescape.l0 k a0 (List.replicate ((a0.size : Int) : Int).toNat 0) 0 0) else (none)) else (none)))
set_option maxHeartbeats 8000000 in
set_option maxRecDepth 100000 in
theorem mountinfo_unescape.calls (k : Nat) (a0 : ByteArray) (r : ByteArray) (w : World) (h : mountinfo_unescape.f k a0 = some r) :
 Calls Tryd.prog 46 #[.string a0] w fun e w' => e = .returned (.string r) ∧ Below w.heap.size w w' := by
 have HB := Aside0.mk (Below.refl w.heap.size w)
 have H : ((strings_IndexByte.f a0 92).bind fun t109 => (if t109 = (-1) then (some a0) else (if 0 ≤ (a0.size : Int) then (if ((a0.size : Int) : Int).toNat ≤ 281474976710656 then (mountinfo_unescape.l0 k a0 (List.replicate ((a0.size : Int) : Int).toNat 0) 0 0) else (none)) else (none)))) = some r := h
 clear h
 replace H := Option.bind_eq_some_iff.mp H
 obtain ⟨t109, A20, H⟩ := H
 replace H : (if t109 = (-1) then (some a0) else (if 0 ≤ (a0.size : Int) then (if ((a0.size : Int) : Int).toNat ≤ 281474976710656 then (mountinfo_unescape.l0 k a0 (List.replicate ((a0.size : Int) : Int).toNat 0) 0 0) else (none)) else (none))) = some r := H
 have A2 := Aside0.mk A20
 clear A20
 by_cases c3 : t109 = (-1)
 · rw [if_pos c3] at H
   have c3b0 : (t109 == (-1)) = true := beq_iff_eq.mpr c3
   have c3b1 : (t109 != (-1)) = false := bne_eq_false_iff_eq.mpr c3
   clear c3
   obtain rfl := Option.some.inj H
   go_enter Tryd.func46, Tryd.ntmps46
   go_wp2_with (first | ((with_reducible refine gate_callee (f := 57) rfl ?_); refine goesL_ (some 11) rfl rfl Tryd.func57 (by kernel_rfl) rfl #[.string a0, .int .u8 92] rfl (by (try simp only [List.map_toArray, List.map_cons, List.map_nil]); first | done | rfl | (simp only [List.length_drop, List.length_take]; rfl)) ?_; (with_reducible refine (strings_IndexByte.calls a0 92 t109 _ A2.out).mono ?_); rintro e w' ⟨rfl, ⟨nd, rfl⟩⟩; refine ⟨_, rfl, ?_⟩))
   go_ret
   exact ⟨by first | rfl | (simp [errW_none, errW_some] <;> rfl) | (simp [*, errW_none, errW_some] <;> rfl), by repeat (first | (with_reducible first | exact HB.out | apply below_alloc | apply pw_below_drewN | apply below_drew1) | exact HB.out)⟩
 · rw [if_neg c3] at H
   have c3b0 : (t109 == (-1)) = false := beq_eq_false_iff_ne.mpr c3
   have c3b1 : (t109 != (-1)) = true := bne_iff_ne.mpr c3
   by_cases c4 : 0 ≤ (a0.size : Int)
   · rw [if_pos c4] at H
     have c4b0 := eq_true c4
     have c4b1 : decide (0 ≤ (a0.size : Int)) = true := decide_eq_true c4
     clear c4
     by_cases c5 : ((a0.size : Int) : Int).toNat ≤ 281474976710656
     · rw [if_pos c5] at H
       have c5b0 := eq_true c5
       have c5b1 : decide (((a0.size : Int) : Int).toNat ≤ 281474976710656) = true := decide_eq_true c5
       clear c5
       obtain ⟨y110, hy110⟩ : ∃ y_ : List Int, y_ = (List.replicate ((a0.size : Int) : Int).toNat 0) := ⟨_, rfl⟩
       replace H : (mountinfo_unescape.l0 k a0 y110 0 0) = some r := by first | (rw [hy110]; with_reducible exact H) | (have H2_ := (Option.bind_some _ _).symm.trans H; rw [hy110]; with_reducible exact H2_) | (have H2_ := (Option.bind_some _ _).symm.trans H; with_reducible exact H2_) | with_reducible exact H | (rw [hy110]; exact H) | exact H
       have Ny110 := Aside0.mk hy110
       clear hy110
       have H' := Aside0.mk H
       clear H
       go_enter Tryd.func46, Tryd.ntmps46
       go_wp2_with (first | ((with_reducible refine gate_callee (f := 57) rfl ?_); refine goesL_ (some 11) rfl rfl Tryd.func57 (by kernel_rfl) rfl #[.string a0, .int .u8 92] rfl (by (try simp only [List.map_toArray, List.map_cons, List.map_nil]); first | done | rfl | (simp only [List.length_drop, List.length_take]; rfl)) ?_; (with_reducible refine (strings_IndexByte.calls a0 92 t109 _ A2.out).mono ?_); rintro e w' ⟨rfl, ⟨nd, rfl⟩⟩; refine ⟨_, rfl, ?_⟩) | ((with_reducible refine gate_dst (N := 16) rfl ?_); (try (refine gate_guard (by rfl) ?_; dsimp only)); refine Kd.R_make (Kd.int .u8) _ 5 rfl (N := 16) rfl 83 _ _ rfl (a0.size : Int) rfl rfl Tryd.underlying83 (.int .u8 0) 1 info5 rfl (by decide) (by omega) 0 (ok := fun _ => True) (okp := fun _ => True) rfl (fun _ hk => hk) trivial (of_decide_eq_true (by first | (with_reducible assumption) | assumption)) (Nat.le_trans (Nat.mul_le_mul_right _ (of_decide_eq_true (by first | (with_reducible assumption) | assumption) : (a0.size : Int).toNat ≤ 281474976710656)) (by omega)) (Below.refl _ _) (Nat.le_refl _) ?_; intro v111 w6 ho7 hb hg_ hnew_; clear hg_ hnew_; (first | rw [← Ny110.out] at ho7 | (simp only [Int.reduceToNat] at ho7; rw [← Ny110.out] at ho7)); have n0_ := Aside0.mk (Kd.R_lower ho7 (below_size (by repeat (first | (with_reducible first | exact HB.out | apply below_alloc | apply pw_below_drewN | apply below_drew1) | exact HB.out)))); have n1_ := Aside0.mk (below_step (by repeat (first | (with_reducible first | exact HB.out | apply below_alloc | apply pw_below_drewN | apply below_drew1) | exact HB.out)) hb); clear HB; have HO112 := n0_; have HB := n1_; clear n0_ n1_; clear hb ho7))
       go_loopg [4, 5] k (fun kq v4 v5 w' => ∃ (x3_1 : List Int) (x4_1 : Int) (x5_1 : Int), v4 = .int .i64 x4_1 ∧ v5 = .int .i64 x5_1 ∧ Aside0 (mountinfo_unescape.l0 kq a0 x3_1 x4_1 x5_1 = some r) ∧ Aside0 (kq ≤ k) ∧ Aside0 (Kd.R (Kd.int .u8) 5 w' w.heap.size (fun _ => True) v111 x3_1) ∧ Aside0 (Below w.heap.size w w'))
       case atStart => exact ⟨(y110), (0), (0), (by first | rfl | (simp; done) | (simp [*]; done)), (by first | rfl | (simp; done) | (simp [*]; done)), H', ⟨Nat.le_refl _⟩, ⟨by (with_reducible repeat (first | apply Kd.R_alloc | apply Kd.R_drewN | apply Kd.R_drew)); exact HO112.out⟩, ⟨by repeat (first | (with_reducible first | exact HB.out | apply below_alloc | apply pw_below_drewN | apply below_drew1) | exact HB.out)⟩⟩
       case round =>
        clear H'
        try clear p2
        try clear c3
        try clear c3b0
        try clear c3b1
        try clear c4
        try clear c4b0
        try clear c4b1
        try clear c5
        try clear c5b0
        try clear c5b1
        obtain ⟨x3_1, x4_1, x5_1, rfl, rfl, HA, HK1, HO_3, HB⟩ := hrel
        cases gk with
        | zero => exact absurd HA.out (by simp [mountinfo_unescape.l0])
        | succ k1 =>
         have H := HA.out
         clear HA
         simp only [mountinfo_unescape.l0] at H
         by_cases c8 : x5_1 < (a0.size : Int)
         · rw [if_pos c8] at H
           have c8b0 : decide (x5_1 < (a0.size : Int)) = true := decide_eq_true c8
           clear c8
           by_cases c9 : 0 ≤ x5_1
           · rw [if_pos c9] at H
             have c9b0 : decide (0 ≤ x5_1) = true := decide_eq_true c9
             clear c9
             by_cases c11 : (bt a0 x5_1) = 92
             · rw [if_pos c11] at H
               have c11b0 : ((bt a0 x5_1) == 92) = true := beq_iff_eq.mpr c11
               have c11b1 : ((bt a0 x5_1) != 92) = false := bne_eq_false_iff_eq.mpr c11
               clear c11
               by_cases c12 : (wrap64 (x5_1 + 3)) < (a0.size : Int)
               · rw [if_pos c12] at H
                 have c12b0 : decide ((wrap64 (x5_1 + 3)) < (a0.size : Int)) = true := decide_eq_true c12
                 clear c12
                 obtain ⟨ji13, hji13⟩ : ∃ j_ : Int, (wrap64 (x5_1 + 1)) = j_ := ⟨_, rfl⟩
                 replace H : (if 0 ≤ (ji13) then (if (ji13) < (a0.size : Int) then (if (bt a0 (ji13)) = 48 then (if 0 ≤ (wrap64 (x5_1 + 2)) then (if (wrap64 (x5_1 + 2)) < (a0.size : Int) then (if (bt a0 (wrap64 (x5_1 + 2))) ≥ 48 then (if (bt a0 (wrap64 (x5_1 + 2))) ≤ 55 then (if 0 ≤ (wrap64 (x5_1 + 3)) then (if (bt a0 (wrap64 (x5_1 + 3))) ≥ 48 then (if (bt a0 (wrap64 (x5_1 + 3))) ≤ 55 then (if 0 ≤ x4_1 then (if x4_1 < (x3_1.length : Int) then (mountinfo_unescape.l0 k1 a0 (x3_1.set (x4_1 : Int).toNat (Go.bits .or .u8 (Go.bits .or .u8 (((((bt a0 (ji13)) - 48) % 256) * 64) % 256) (((((bt a0 (wrap64 (x5_1 + 2))) - 48) % 256) * 8) % 256)) (((bt a0 (wrap64 (x5_1 + 3))) - 48) % 256))) (wrap64 (x4_1 + 1)) (wrap64 ((wrap64 (x5_1 + 3)) + 1))) else (none)) else (none)) else (if 0 ≤ x4_1 then (if x4_1 < (x3_1.length : Int) then (mountinfo_unescape.l0 k1 a0 (x3_1.set (x4_1 : Int).toNat (bt a0 x5_1)) (wrap64 (x4_1 + 1)) ji13) else (none)) else (none))) else (if 0 ≤ x4_1 then (if x4_1 < (x3_1.length : Int) then (mountinfo_unescape.l0 k1 a0 (x3_1.set (x4_1 : Int).toNat (bt a0 x5_1)) (wrap64 (x4_1 + 1)) ji13) else (none)) else (none))) else (none)) else (if 0 ≤ x4_1 then (if x4_1 < (x3_1.length : Int) then (mountinfo_unescape.l0 k1 a0 (x3_1.set (x4_1 : Int).toNat (bt a0 x5_1)) (wrap64 (x4_1 + 1)) ji13) else (none)) else (none))) else (if 0 ≤ x4_1 then (if x4_1 < (x3_1.length : Int) then (mountinfo_unescape.l0 k1 a0 (x3_1.set (x4_1 : Int).toNat (bt a0 x5_1)) (wrap64 (x4_1 + 1)) ji13) else (none)) else (none))) else (none)) else (none)) else (if (bt a0 (ji13)) = 49 then (if 0 ≤ (wrap64 (x5_1 + 2)) then (if (wrap64 (x5_1 + 2)) < (a0.size : Int) then (if (bt a0 (wrap64 (x5_1 + 2))) ≥ 48 then (if (bt a0 (wrap64 (x5_1 + 2))) ≤ 55 then (if 0 ≤ (wrap64 (x5_1 + 3)) then (if (bt a0 (wrap64 (x5_1 + 3))) ≥ 48 then (if (bt a0 (wrap64 (x5_1 + 3))) ≤ 55 then (if 0 ≤ x4_1 then (if x4_1 < (x3_1.length : Int) then (mountinfo_unescape.l0 k1 a0 (x3_1.set (x4_1 : Int).toNat (Go.bits .or .u8 (Go.bits .or .u8 (((((bt a0 (ji13)) - 48) % 256) * 64) % 256) (((((bt a0 (wrap64 (x5_1 + 2))) - 48) % 256) * 8) % 256)) (((bt a0 (wrap64 (x5_1 + 3))) - 48) % 256))) (wrap64 (x4_1 + 1)) (wrap64 ((wrap64 (x5_1 + 3)) + 1))) else (none)) else (none)) else (if 0 ≤ x4_1 then (if x4_1 < (x3_1.length : Int) then (mountinfo_unescape.l0 k1 a0 (x3_1.set (x4_1 : Int).toNat (bt a0 x5_1)) (wrap64 (x4_1 + 1)) ji13) else (none)) else (none))) else (if 0 ≤ x4_1 then (if x4_1 < (x3_1.length : Int) then (mountinfo_unescape.l0 k1 a0 (x3_1.set (x4_1 : Int).toNat (bt a0 x5_1)) (wrap64 (x4_1 + 1)) ji13) else (none)) else (none))) else (none)) else (if 0 ≤ x4_1 then (if x4_1 < (x3_1.length : Int) then (mountinfo_unescape.l0 k1 a0 (x3_1.set (x4_1 : Int).toNat (bt a0 x5_1)) (wrap64 (x4_1 + 1)) ji13) else (none)) else (none))) else (if 0 ≤ x4_1 then (if x4_1 < (x3_1.length : Int) then (mountinfo_unescape.l0 k1 a0 (x3_1.set (x4_1 : Int).toNat (bt a0 x5_1)) (wrap64 (x4_1 + 1)) ji13) else (none)) else (none))) else (none)) else (none)) else (if 0 ≤ x4_1 then (if x4_1 < (x3_1.length : Int) then (mountinfo_unescape.l0 k1 a0 (x3_1.set (x4_1 : Int).toNat (bt a0 x5_1)) (wrap64 (x4_1 + 1)) ji13) else (none)) else (none)))) else (none)) else (none)) = some r := by first | (rw [hji13] at H; exact H) | (simp only [hji13] at H ⊢; exact H)
                 have hji13w : (IntKind.i64.wrap (x5_1 + 1)) = ji13 := (i64_w _).trans hji13
                 by_cases c14 : 0 ≤ (ji13)
                 · rw [if_pos c14] at H
                   have c14b0 : decide (0 ≤ (ji13)) = true := decide_eq_true c14
                   clear c14
                   by_cases c15 : (ji13) < (a0.size : Int)
                   · rw [if_pos c15] at H
                     have c15b0 : decide ((ji13) < (a0.size : Int)) = true := decide_eq_true c15
                     clear c15
                     by_cases c17 : (bt a0 (ji13)) = 48
                     · rw [if_pos c17] at H
                       have c17b0 : ((bt a0 (ji13)) == 48) = true := beq_iff_eq.mpr c17
                       have c17b1 : ((bt a0 (ji13)) != 48) = false := bne_eq_false_iff_eq.mpr c17
                       clear c17
                       obtain ⟨ji18, hji18⟩ : ∃ j_ : Int, (wrap64 (x5_1 + 2)) = j_ := ⟨_, rfl⟩
                       replace H : (if 0 ≤ (ji18) then (if (ji18) < (a0.size : Int) then (if (bt a0 (ji18)) ≥ 48 then (if (bt a0 (ji18)) ≤ 55 then (if 0 ≤ (wrap64 (x5_1 + 3)) then (if (bt a0 (wrap64 (x5_1 + 3))) ≥ 48 then (if (bt a0 (wrap64 (x5_1 + 3))) ≤ 55 then (if 0 ≤ x4_1 then (if x4_1 < (x3_1.length : Int) then (mountinfo_unescape.l0 k1 a0 (x3_1.set (x4_1 : Int).toNat (Go.bits .or .u8 (Go.bits .or .u8 (((((bt a0 (ji13)) - 48) % 256) * 64) % 256) (((((bt a0 (ji18)) - 48) % 256) * 8) % 256)) (((bt a0 (wrap64 (x5_1 + 3))) - 48) % 256))) (wrap64 (x4_1 + 1)) (wrap64 ((wrap64 (x5_1 + 3)) + 1))) else (none)) else (none)) else (if 0 ≤ x4_1 then (if x4_1 < (x3_1.length : Int) then (mountinfo_unescape.l0 k1 a0 (x3_1.set (x4_1 : Int).toNat (bt a0 x5_1)) (wrap64 (x4_1 + 1)) ji13) else (none)) else (none))) else (if 0 ≤ x4_1 then (if x4_1 < (x3_1.length : Int) then (mountinfo_unescape.l0 k1 a0 (x3_1.set (x4_1 : Int).toNat (bt a0 x5_1)) (wrap64 (x4_1 + 1)) ji13) else (none)) else (none))) else (none)) else (if 0 ≤ x4_1 then (if x4_1 < (x3_1.length : Int) then (mountinfo_unescape.l0 k1 a0 (x3_1.set (x4_1 : Int).toNat (bt a0 x5_1)) (wrap64 (x4_1 + 1)) ji13) else (none)) else (none))) else (if 0 ≤ x4_1 then (if x4_1 < (x3_1.length : Int) then (mountinfo_unescape.l0 k1 a0 (x3_1.set (x4_1 : Int).toNat (bt a0 x5_1)) (wrap64 (x4_1 + 1)) ji13) else (none)) else (none))) else (none)) else (none)) = some r := by first | (rw [hji18] at H; exact H) | (simp only [hji18] at H ⊢; exact H)
                       have hji18w : (IntKind.i64.wrap (x5_1 + 2)) = ji18 := (i64_w _).trans hji18
                       by_cases c19 : 0 ≤ (ji18)
                       · rw [if_pos c19] at H
                         have c19b0 : decide (0 ≤ (ji18)) = true := decide_eq_true c19
                         clear c19
                         by_cases c20 : (ji18) < (a0.size : Int)
                         · rw [if_pos c20] at H
                           have c20b0 : decide ((ji18) < (a0.size : Int)) = true := decide_eq_true c20
                           clear c20
                           by_cases c22 : (bt a0 (ji18)) ≥ 48
                           · rw [if_pos c22] at H
                             have c22b0 : decide (48 ≤ (bt a0 (ji18))) = true := decide_eq_true c22
                             clear c22
                             by_cases c24 : (bt a0 (ji18)) ≤ 55
                             · rw [if_pos c24] at H
                               have c24b0 : decide ((bt a0 (ji18)) ≤ 55) = true := decide_eq_true c24
                               clear c24
                               obtain ⟨ji25, hji25⟩ : ∃ j_ : Int, (wrap64 (x5_1 + 3)) = j_ := ⟨_, rfl⟩
                               replace H : (if 0 ≤ (ji25) then (if (bt a0 (ji25)) ≥ 48 then (if (bt a0 (ji25)) ≤ 55 then (if 0 ≤ x4_1 then (if x4_1 < (x3_1.length : Int) then (mountinfo_unescape.l0 k1 a0 (x3_1.set (x4_1 : Int).toNat (Go.bits .or .u8 (Go.bits .or .u8 (((((bt a0 (ji13)) - 48) % 256) * 64) % 256) (((((bt a0 (ji18)) - 48) % 256) * 8) % 256)) (((bt a0 (ji25)) - 48) % 256))) (wrap64 (x4_1 + 1)) (wrap64 ((ji25) + 1))) else (none)) else (none)) else (if 0 ≤ x4_1 then (if x4_1 < (x3_1.length : Int) then (mountinfo_unescape.l0 k1 a0 (x3_1.set (x4_1 : Int).toNat (bt a0 x5_1)) (wrap64 (x4_1 + 1)) ji13) else (none)) else (none))) else (if 0 ≤ x4_1 then (if x4_1 < (x3_1.length : Int) then (mountinfo_unescape.l0 k1 a0 (x3_1.set (x4_1 : Int).toNat (bt a0 x5_1)) (wrap64 (x4_1 + 1)) ji13) else (none)) else (none))) else (none)) = some r := by first | (rw [hji25] at H; exact H) | (simp only [hji25] at H ⊢; exact H)
                               (try rw [hji25] at c12b0)
                               have hji25w : (IntKind.i64.wrap (x5_1 + 3)) = ji25 := (i64_w _).trans hji25
                               by_cases c26 : 0 ≤ (ji25)
                               · rw [if_pos c26] at H
                                 have c26b0 : decide (0 ≤ (ji25)) = true := decide_eq_true c26
                                 clear c26
                                 by_cases c28 : (bt a0 (ji25)) ≥ 48
                                 · rw [if_pos c28] at H
                                   have c28b0 : decide (48 ≤ (bt a0 (ji25))) = true := decide_eq_true c28
                                   clear c28
                                   by_cases c30 : (bt a0 (ji25)) ≤ 55
                                   · rw [if_pos c30] at H
                                     have c30b0 : decide ((bt a0 (ji25)) ≤ 55) = true := decide_eq_true c30
                                     clear c30
                                     by_cases c34 : 0 ≤ x4_1
                                     · rw [if_pos c34] at H
                                       have c34b0 : decide (0 ≤ x4_1) = true := decide_eq_true c34
                                       clear c34
                                       by_cases c35 : x4_1 < (x3_1.length : Int)
                                       · rw [if_pos c35] at H
                                         have c35b0 : decide (x4_1 < (x3_1.length : Int)) = true := decide_eq_true c35
                                         clear c35
                                         obtain ⟨y113, hy113⟩ : ∃ y_ : List Int, y_ = (x3_1.set (x4_1 : Int).toNat (Go.bits .or .u8 (Go.bits .or .u8 (((((bt a0 (ji13)) - 48) % 256) * 64) % 256) (((((bt a0 (ji18)) - 48) % 256) * 8) % 256)) (((bt a0 (ji25)) - 48) % 256))) := ⟨_, rfl⟩
                                         replace H : (mountinfo_unescape.l0 k1 a0 y113 (wrap64 (x4_1 + 1)) (wrap64 ((ji25) + 1))) = some r := by first | (rw [hy113]; with_reducible exact H) | (have H2_ := (Option.bind_some _ _).symm.trans H; rw [hy113]; with_reducible exact H2_) | (have H2_ := (Option.bind_some _ _).symm.trans H; with_reducible exact H2_) | with_reducible exact H | (rw [hy113]; exact H) | exact H
                                         have Ny113 := Aside0.mk hy113
                                         clear hy113
                                         have H' := Aside0.mk H
                                         clear H
                                         have p10 : 0 ≤ (x5_1 : Int) := of_decide_eq_true (by first | (with_reducible assumption) | assumption)
                                         have q10 : x5_1 < (a0.size : Int) := of_decide_eq_true (by first | (with_reducible assumption) | assumption)
                                         have hx10 := bt_at a0 x5_1
                                         replace p10 := eq_true p10
                                         replace q10 := eq_true q10
                                         have p16 : 0 ≤ ((ji13) : Int) := of_decide_eq_true (by first | (with_reducible assumption) | assumption)
                                         have q16 : (ji13) < (a0.size : Int) := of_decide_eq_true (by first | (with_reducible assumption) | assumption)
                                         have hx16 := bt_at a0 (ji13)
                                         replace p16 := eq_true p16
                                         replace q16 := eq_true q16
                                         have p21 : 0 ≤ ((ji18) : Int) := of_decide_eq_true (by first | (with_reducible assumption) | assumption)
                                         have q21 : (ji18) < (a0.size : Int) := of_decide_eq_true (by first | (with_reducible assumption) | assumption)
                                         have hx21 := bt_at a0 (ji18)
                                         replace p21 := eq_true p21
                                         replace q21 := eq_true q21
                                         have p23 : 0 ≤ ((ji18) : Int) := of_decide_eq_true (by first | (with_reducible assumption) | assumption)
                                         have q23 : (ji18) < (a0.size : Int) := of_decide_eq_true (by first | (with_reducible assumption) | assumption)
                                         have hx23 := bt_at a0 (ji18)
                                         replace p23 := eq_true p23
                                         replace q23 := eq_true q23
                                         have p27 : 0 ≤ ((ji25) : Int) := of_decide_eq_true (by first | (with_reducible assumption) | assumption)
                                         have q27 : (ji25) < (a0.size : Int) := of_decide_eq_true (by first | (with_reducible assumption) | assumption)
                                         have hx27 := bt_at a0 (ji25)
                                         replace p27 := eq_true p27
                                         replace q27 := eq_true q27
                                         have p29 : 0 ≤ ((ji25) : Int) := of_decide_eq_true (by first | (with_reducible assumption) | assumption)
                                         have q29 : (ji25) < (a0.size : Int) := of_decide_eq_true (by first | (with_reducible assumption) | assumption)
                                         have hx29 := bt_at a0 (ji25)
                                         replace p29 := eq_true p29
                                         replace q29 := eq_true q29
                                         have p31 : 0 ≤ ((ji13) : Int) := of_decide_eq_true (by first | (with_reducible assumption) | assumption)
                                         have q31 : (ji13) < (a0.size : Int) := of_decide_eq_true (by first | (with_reducible assumption) | assumption)
                                         have hx31 := bt_at a0 (ji13)
                                         replace p31 := eq_true p31
                                         replace q31 := eq_true q31
                                         have p32 : 0 ≤ ((ji18) : Int) := of_decide_eq_true (by first | (with_reducible assumption) | assumption)
                                         have q32 : (ji18) < (a0.size : Int) := of_decide_eq_true (by first | (with_reducible assumption) | assumption)
                                         have hx32 := bt_at a0 (ji18)
                                         replace p32 := eq_true p32
                                         replace q32 := eq_true q32
                                         have p33 : 0 ≤ ((ji25) : Int) := of_decide_eq_true (by first | (with_reducible assumption) | assumption)
                                         have q33 : (ji25) < (a0.size : Int) := of_decide_eq_true (by first | (with_reducible assumption) | assumption)
                                         have hx33 := bt_at a0 (ji25)
                                         replace p33 := eq_true p33
                                         replace q33 := eq_true q33
                                         have p36 : 0 ≤ (x4_1 : Int) := of_decide_eq_true (by first | (with_reducible assumption) | assumption)
                                         have q36 : (x4_1 : Int) < ((x3_1.length : Int) : Int) := of_decide_eq_true (by first | (with_reducible assumption) | assumption)
                                         obtain ⟨go36, co36, eo36, gb36, gl36, cl36, HG36⟩ := Kd.R_form HO_3.out (by omega)
                                         (first | cases eo36 | (injection eo36 with ea_ en_ ec_; (first | subst ea_ | (injection ea_ with ea_; subst ea_)); subst ec_; clear en_))
                                         have GB36 := Aside0.mk gb36
                                         have GG36 := Aside0.mk HG36
                                         clear gb36 gl36 HG36
                                         obtain ⟨hx36_0, hf36_0⟩ := Kd.R_celln 0 HO_3.out (x4_1 : Int) p36 q36
                                         replace p36 := eq_true p36
                                         replace q36 := eq_true q36
                                         have HP37 := Kd.R_putg HO_3.out (x4_1 : Int) (Go.bits .or .u8 (Go.bits .or .u8 (((((bt a0 (ji13)) - 48) % 256) * 64) % 256) (((((bt a0 (ji18)) - 48) % 256) * 8) % 256)) (((bt a0 (ji25)) - 48) % 256))
                                         go_wp2_with (first | ((with_reducible refine gate_store (t := 5) (p := 104) rfl ?_); refine store_event (t := 5) (p := 104) (v := ?vo_w38) (w1 := (wr.setCell ⟨go36, (x4_1 : Int).toNat, none⟩ (.int .u8 (Go.bits .or .u8 (Go.bits .or .u8 (((((bt a0 (ji13)) - 48) % 256) * 64) % 256) (((((bt a0 (ji18)) - 48) % 256) * 8) % 256)) (((bt a0 (ji25)) - 48) % 256))))) ?hg ?ho ?hn ?hr ?_; (case ho => rfl); (case hg => rfl); (case hn => rfl); (case hr => first | (go_simp; done) | (go_simp; rfl)); intro w38 hw; have hg : wr.grownBy w38 (some go36) := (by rw [hw]; exact HP37.2); have hp_ : Kd.R (Kd.int .u8) 5 w38 w.heap.size (fun _ => True) (.slice (some ⟨go36, 0, none⟩) x3_1.length co36) y113 := (by rw [hw, Ny113.out]; exact HP37.1); clear HP37; have n0_ := Aside0.mk (hp_); have n1_ := Aside0.mk ((by rw [hw]; exact below_set (HB.out) GB36.out : Below w.heap.size w w38)); clear HO_3; clear HB; have HO_3 := n0_; have HB := n1_; clear n0_ n1_; clear hg hw hp_))
                                         go_roundg k1
                                         case measure => have := HK1.out; omega
                                         case rel => exact ⟨(y113), (wrap64 (x4_1 + 1)), (wrap64 ((ji25) + 1)), (by first | rfl | (simp; done) | (simp [*]; done)), (by first | rfl | (simp; done) | (simp only [← hji25] <;> (first | rfl | simp)) | (simp [*]; done)), H', ⟨by have := HK1.out; omega⟩, ⟨by (with_reducible repeat (first | apply Kd.R_alloc | apply Kd.R_drewN | apply Kd.R_drew)); exact HO_3.out⟩, ⟨by repeat (first | (with_reducible first | exact HB.out | apply below_alloc | apply pw_below_drewN | apply below_drew1) | exact HB.out)⟩⟩
                                       · rw [if_neg c35] at H
                                         exact absurd H (by simp)
                                     · rw [if_neg c34] at H
                                       exact absurd H (by simp)
                                   · rw [if_neg c30] at H
                                     have c30b0 : decide ((bt a0 (ji25)) ≤ 55) = false := decide_eq_false c30
                                     clear c30
                                     by_cases c39 : 0 ≤ x4_1
                                     · rw [if_pos c39] at H
                                       have c39b0 : decide (0 ≤ x4_1) = true := decide_eq_true c39
                                       clear c39
                                       by_cases c40 : x4_1 < (x3_1.length : Int)
                                       · rw [if_pos c40] at H
                                         have c40b0 : decide (x4_1 < (x3_1.length : Int)) = true := decide_eq_true c40
                                         clear c40
                                         obtain ⟨y114, hy114⟩ : ∃ y_ : List Int, y_ = (x3_1.set (x4_1 : Int).toNat (bt a0 x5_1)) := ⟨_, rfl⟩
                                         replace H : (mountinfo_unescape.l0 k1 a0 y114 (wrap64 (x4_1 + 1)) ji13) = some r := by first | (rw [hy114]; with_reducible exact H) | (have H2_ := (Option.bind_some _ _).symm.trans H; rw [hy114]; with_reducible exact H2_) | (have H2_ := (Option.bind_some _ _).symm.trans H; with_reducible exact H2_) | with_reducible exact H | (rw [hy114]; exact H) | exact H
                                         have Ny114 := Aside0.mk hy114
                                         clear hy114
                                         have H' := Aside0.mk H
                                         clear H
                                         have p10 : 0 ≤ (x5_1 : Int) := of_decide_eq_true (by first | (with_reducible assumption) | assumption)
                                         have q10 : x5_1 < (a0.size : Int) := of_decide_eq_true (by first | (with_reducible assumption) | assumption)
                                         have hx10 := bt_at a0 x5_1
                                         replace p10 := eq_true p10
                                         replace q10 := eq_true q10
                                         have p16 : 0 ≤ ((ji13) : Int) := of_decide_eq_true (by first | (with_reducible assumption) | assumption)
                                         have q16 : (ji13) < (a0.size : Int) := of_decide_eq_true (by first | (with_reducible assumption) | assumption)
                                         have hx16 := bt_at a0 (ji13)
                                         replace p16 := eq_true p16
                                         replace q16 := eq_true q16
                                         have p21 : 0 ≤ ((ji18) : Int) := of_decide_eq_true (by first | (with_reducible assumption) | assumption)
                                         have q21 : (ji18) < (a0.size : Int) := of_decide_eq_true (by first | (with_reducible assumption) | assumption)
                                         have hx21 := bt_at a0 (ji18)
                                         replace p21 := eq_true p21
                                         replace q21 := eq_true q21
                                         have p23 : 0 ≤ ((ji18) : Int) := of_decide_eq_true (by first | (with_reducible assumption) | assumption)
                                         have q23 : (ji18) < (a0.size : Int) := of_decide_eq_true (by first | (with_reducible assumption) | assumption)
                                         have hx23 := bt_at a0 (ji18)
                                         replace p23 := eq_true p23
                                         replace q23 := eq_true q23
                                         have p27 : 0 ≤ ((ji25) : Int) := of_decide_eq_true (by first | (with_reducible assumption) | assumption)
                                         have q27 : (ji25) < (a0.size : Int) := of_decide_eq_true (by first | (with_reducible assumption) | assumption)
                                         have hx27 := bt_at a0 (ji25)
                                         replace p27 := eq_true p27
                                         replace q27 := eq_true q27
                                         have p29 : 0 ≤ ((ji25) : Int) := of_decide_eq_true (by first | (with_reducible assumption) | assumption)
                                         have q29 : (ji25) < (a0.size : Int) := of_decide_eq_true (by first | (with_reducible assumption) | assumption)
                                         have hx29 := bt_at a0 (ji25)
                                         replace p29 := eq_true p29
                                         replace q29 := eq_true q29
                                         have p41 : 0 ≤ (x4_1 : Int) := of_decide_eq_true (by first | (with_reducible assumption) | assumption)
                                         have q41 : (x4_1 : Int) < ((x3_1.length : Int) : Int) := of_decide_eq_true (by first | (with_reducible assumption) | assumption)
                                         obtain ⟨go41, co41, eo41, gb41, gl41, cl41, HG41⟩ := Kd.R_form HO_3.out (by omega)
                                         (first | cases eo41 | (injection eo41 with ea_ en_ ec_; (first | subst ea_ | (injection ea_ with ea_; subst ea_)); subst ec_; clear en_))
                                         have GB41 := Aside0.mk gb41
                                         have GG41 := Aside0.mk HG41
                                         clear gb41 gl41 HG41
                                         obtain ⟨hx41_0, hf41_0⟩ := Kd.R_celln 0 HO_3.out (x4_1 : Int) p41 q41
                                         replace p41 := eq_true p41
                                         replace q41 := eq_true q41
                                         have HP42 := Kd.R_putg HO_3.out (x4_1 : Int) (bt a0 x5_1)
                                         go_wp2_with (first | ((with_reducible refine gate_store (t := 5) (p := 104) rfl ?_); refine store_event (t := 5) (p := 104) (v := ?vo_w43) (w1 := (wr.setCell ⟨go41, (x4_1 : Int).toNat, none⟩ (.int .u8 (bt a0 x5_1)))) ?hg ?ho ?hn ?hr ?_; (case ho => rfl); (case hg => rfl); (case hn => rfl); (case hr => first | (go_simp; done) | (go_simp; rfl)); intro w43 hw; have hg : wr.grownBy w43 (some go41) := (by rw [hw]; exact HP42.2); have hp_ : Kd.R (Kd.int .u8) 5 w43 w.heap.size (fun _ => True) (.slice (some ⟨go41, 0, none⟩) x3_1.length co41) y114 := (by rw [hw, Ny114.out]; exact HP42.1); clear HP42; have n0_ := Aside0.mk (hp_); have n1_ := Aside0.mk ((by rw [hw]; exact below_set (HB.out) GB41.out : Below w.heap.size w w43)); clear HO_3; clear HB; have HO_3 := n0_; have HB := n1_; clear n0_ n1_; clear hg hw hp_))
                                         go_roundg k1
                                         case measure => have := HK1.out; omega
                                         case rel => exact ⟨(y114), (wrap64 (x4_1 + 1)), (ji13), (by first | rfl | (simp; done) | (simp [*]; done)), (by first | rfl | (simp; done) | (simp only [← hji13] <;> (first | rfl | simp)) | (simp [*]; done)), H', ⟨by have := HK1.out; omega⟩, ⟨by (with_reducible repeat (first | apply Kd.R_alloc | apply Kd.R_drewN | apply Kd.R_drew)); exact HO_3.out⟩, ⟨by repeat (first | (with_reducible first | exact HB.out | apply below_alloc | apply pw_below_drewN | apply below_drew1) | exact HB.out)⟩⟩
                                       · rw [if_neg c40] at H
                                         exact absurd H (by simp)
                                     · rw [if_neg c39] at H
                                       exact absurd H (by simp)
                                 · rw [if_neg c28] at H
                                   have c28b0 : decide (48 ≤ (bt a0 (ji25))) = false := decide_eq_false c28
                                   clear c28
                                   by_cases c44 : 0 ≤ x4_1
                                   · rw [if_pos c44] at H
                                     have c44b0 : decide (0 ≤ x4_1) = true := decide_eq_true c44
                                     clear c44
                                     by_cases c45 : x4_1 < (x3_1.length : Int)
                                     · rw [if_pos c45] at H
                                       have c45b0 : decide (x4_1 < (x3_1.length : Int)) = true := decide_eq_true c45
                                       clear c45
                                       obtain ⟨y115, hy115⟩ : ∃ y_ : List Int, y_ = (x3_1.set (x4_1 : Int).toNat (bt a0 x5_1)) := ⟨_, rfl⟩
                                       replace H : (mountinfo_unescape.l0 k1 a0 y115 (wrap64 (x4_1 + 1)) ji13) = some r := by first | (rw [hy115]; with_reducible exact H) | (have H2_ := (Option.bind_some _ _).symm.trans H; rw [hy115]; with_reducible exact H2_) | (have H2_ := (Option.bind_some _ _).symm.trans H; with_reducible exact H2_) | with_reducible exact H | (rw [hy115]; exact H) | exact H
                                       have Ny115 := Aside0.mk hy115
                                       clear hy115
                                       have H' := Aside0.mk H
                                       clear H
                                       have p10 : 0 ≤ (x5_1 : Int) := of_decide_eq_true (by first | (with_reducible assumption) | assumption)
                                       have q10 : x5_1 < (a0.size : Int) := of_decide_eq_true (by first | (with_reducible assumption) | assumption)
                                       have hx10 := bt_at a0 x5_1
                                       replace p10 := eq_true p10
                                       replace q10 := eq_true q10
                                       have p16 : 0 ≤ ((ji13) : Int) := of_decide_eq_true (by first | (with_reducible assumption) | assumption)
                                       have q16 : (ji13) < (a0.size : Int) := of_decide_eq_true (by first | (with_reducible assumption) | assumption)
                                       have hx16 := bt_at a0 (ji13)
                                       replace p16 := eq_true p16
                                       replace q16 := eq_true q16
                                       have p21 : 0 ≤ ((ji18) : Int) := of_decide_eq_true (by first | (with_reducible assumption) | assumption)
                                       have q21 : (ji18) < (a0.size : Int) := of_decide_eq_true (by first | (with_reducible assumption) | assumption)
                                       have hx21 := bt_at a0 (ji18)
                                       replace p21 := eq_true p21
                                       replace q21 := eq_true q21
                                       have p23 : 0 ≤ ((ji18) : Int) := of_decide_eq_true (by first | (with_reducible assumption) | assumption)
                                       have q23 : (ji18) < (a0.size : Int) := of_decide_eq_true (by first | (with_reducible assumption) | assumption)
                                       have hx23 := bt_at a0 (ji18)
                                       replace p23 := eq_true p23
                                       replace q23 := eq_true q23
                                       have p27 : 0 ≤ ((ji25) : Int) := of_decide_eq_true (by first | (with_reducible assumption) | assumption)
                                       have q27 : (ji25) < (a0.size : Int) := of_decide_eq_true (by first | (with_reducible assumption) | assumption)
                                       have hx27 := bt_at a0 (ji25)
                                       replace p27 := eq_true p27
                                       replace q27 := eq_true q27
                                       have p46 : 0 ≤ (x4_1 : Int) := of_decide_eq_true (by first | (with_reducible assumption) | assumption)
                                       have q46 : (x4_1 : Int) < ((x3_1.length : Int) : Int) := of_decide_eq_true (by first | (with_reducible assumption) | assumption)
                                       obtain ⟨go46, co46, eo46, gb46, gl46, cl46, HG46⟩ := Kd.R_form HO_3.out (by omega)
                                       (first | cases eo46 | (injection eo46 with ea_ en_ ec_; (first | subst ea_ | (injection ea_ with ea_; subst ea_)); subst ec_; clear en_))
                                       have GB46 := Aside0.mk gb46
                                       have GG46 := Aside0.mk HG46
                                       clear gb46 gl46 HG46
                                       obtain ⟨hx46_0, hf46_0⟩ := Kd.R_celln 0 HO_3.out (x4_1 : Int) p46 q46
                                       replace p46 := eq_true p46
                                       replace q46 := eq_true q46
                                       have HP47 := Kd.R_putg HO_3.out (x4_1 : Int) (bt a0 x5_1)
                                       go_wp2_with (first | ((with_reducible refine gate_store (t := 5) (p := 104) rfl ?_); refine store_event (t := 5) (p := 104) (v := ?vo_w48) (w1 := (wr.setCell ⟨go46, (x4_1 : Int).toNat, none⟩ (.int .u8 (bt a0 x5_1)))) ?hg ?ho ?hn ?hr ?_; (case ho => rfl); (case hg => rfl); (case hn => rfl); (case hr => first | (go_simp; done) | (go_simp; rfl)); intro w48 hw; have hg : wr.grownBy w48 (some go46) := (by rw [hw]; exact HP47.2); have hp_ : Kd.R (Kd.int .u8) 5 w48 w.heap.size (fun _ => True) (.slice (some ⟨go46, 0, none⟩) x3_1.length co46) y115 := (by rw [hw, Ny115.out]; exact HP47.1); clear HP47; have n0_ := Aside0.mk (hp_); have n1_ := Aside0.mk ((by rw [hw]; exact below_set (HB.out) GB46.out : Below w.heap.size w w48)); clear HO_3; clear HB; have HO_3 := n0_; have HB := n1_; clear n0_ n1_; clear hg hw hp_))
                                       go_roundg k1
                                       case measure => have := HK1.out; omega
                                       case rel => exact ⟨(y115), (wrap64 (x4_1 + 1)), (ji13), (by first | rfl | (simp; done) | (simp [*]; done)), (by first | rfl | (simp; done) | (simp only [← hji13] <;> (first | rfl | simp)) | (simp [*]; done)), H', ⟨by have := HK1.out; omega⟩, ⟨by (with_reducible repeat (first | apply Kd.R_alloc | apply Kd.R_drewN | apply Kd.R_drew)); exact HO_3.out⟩, ⟨by repeat (first | (with_reducible first | exact HB.out | apply below_alloc | apply pw_below_drewN | apply below_drew1) | exact HB.out)⟩⟩
                                     · rw [if_neg c45] at H
                                       exact absurd H (by simp)
                                   · rw [if_neg c44] at H
                                     exact absurd H (by simp)
                               · rw [if_neg c26] at H
                                 exact absurd H (by simp)
                             · rw [if_neg c24] at H
                               have c24b0 : decide ((bt a0 (ji18)) ≤ 55) = false := decide_eq_false c24
                               clear c24
                               by_cases c49 : 0 ≤ x4_1
                               · rw [if_pos c49] at H
                                 have c49b0 : decide (0 ≤ x4_1) = true := decide_eq_true c49
                                 clear c49
                                 by_cases c50 : x4_1 < (x3_1.length : Int)
                                 · rw [if_pos c50] at H
                                   have c50b0 : decide (x4_1 < (x3_1.length : Int)) = true := decide_eq_true c50
                                   clear c50
                                   obtain ⟨y116, hy116⟩ : ∃ y_ : List Int, y_ = (x3_1.set (x4_1 : Int).toNat (bt a0 x5_1)) := ⟨_, rfl⟩
                                   replace H : (mountinfo_unescape.l0 k1 a0 y116 (wrap64 (x4_1 + 1)) ji13) = some r := by first | (rw [hy116]; with_reducible exact H) | (have H2_ := (Option.bind_some _ _).symm.trans H; rw [hy116]; with_reducible exact H2_) | (have H2_ := (Option.bind_some _ _).symm.trans H; with_reducible exact H2_) | with_reducible exact H | (rw [hy116]; exact H) | exact H
                                   have Ny116 := Aside0.mk hy116
                                   clear hy116
                                   have H' := Aside0.mk H
                                   clear H
                                   have p10 : 0 ≤ (x5_1 : Int) := of_decide_eq_true (by first | (with_reducible assumption) | assumption)
                                   have q10 : x5_1 < (a0.size : Int) := of_decide_eq_true (by first | (with_reducible assumption) | assumption)
                                   have hx10 := bt_at a0 x5_1
                                   replace p10 := eq_true p10
                                   replace q10 := eq_true q10
                                   have p16 : 0 ≤ ((ji13) : Int) := of_decide_eq_true (by first | (with_reducible assumption) | assumption)
                                   have q16 : (ji13) < (a0.size : Int) := of_decide_eq_true (by first | (with_reducible assumption) | assumption)
                                   have hx16 := bt_at a0 (ji13)
                                   replace p16 := eq_true p16
                                   replace q16 := eq_true q16
                                   have p21 : 0 ≤ ((ji18) : Int) := of_decide_eq_true (by first | (with_reducible assumption) | assumption)
                                   have q21 : (ji18) < (a0.size : Int) := of_decide_eq_true (by first | (with_reducible assumption) | assumption)
                                   have hx21 := bt_at a0 (ji18)
                                   replace p21 := eq_true p21
                                   replace q21 := eq_true q21
                                   have p23 : 0 ≤ ((ji18) : Int) := of_decide_eq_true (by first | (with_reducible assumption) | assumption)
                                   have q23 : (ji18) < (a0.size : Int) := of_decide_eq_true (by first | (with_reducible assumption) | assumption)
                                   have hx23 := bt_at a0 (ji18)
                                   replace p23 := eq_true p23
                                   replace q23 := eq_true q23
                                   have p51 : 0 ≤ (x4_1 : Int) := of_decide_eq_true (by first | (with_reducible assumption) | assumption)
                                   have q51 : (x4_1 : Int) < ((x3_1.length : Int) : Int) := of_decide_eq_true (by first | (with_reducible assumption) | assumption)
                                   obtain ⟨go51, co51, eo51, gb51, gl51, cl51, HG51⟩ := Kd.R_form HO_3.out (by omega)
                                   (first | cases eo51 | (injection eo51 with ea_ en_ ec_; (first | subst ea_ | (injection ea_ with ea_; subst ea_)); subst ec_; clear en_))
                                   have GB51 := Aside0.mk gb51
                                   have GG51 := Aside0.mk HG51
                                   clear gb51 gl51 HG51
                                   obtain ⟨hx51_0, hf51_0⟩ := Kd.R_celln 0 HO_3.out (x4_1 : Int) p51 q51
                                   replace p51 := eq_true p51
                                   replace q51 := eq_true q51
                                   have HP52 := Kd.R_putg HO_3.out (x4_1 : Int) (bt a0 x5_1)
                                   go_wp2_with (first | ((with_reducible refine gate_store (t := 5) (p := 104) rfl ?_); refine store_event (t := 5) (p := 104) (v := ?vo_w53) (w1 := (wr.setCell ⟨go51, (x4_1 : Int).toNat, none⟩ (.int .u8 (bt a0 x5_1)))) ?hg ?ho ?hn ?hr ?_; (case ho => rfl); (case hg => rfl); (case hn => rfl); (case hr => first | (go_simp; done) | (go_simp; rfl)); intro w53 hw; have hg : wr.grownBy w53 (some go51) := (by rw [hw]; exact HP52.2); have hp_ : Kd.R (Kd.int .u8) 5 w53 w.heap.size (fun _ => True) (.slice (some ⟨go51, 0, none⟩) x3_1.length co51) y116 := (by rw [hw, Ny116.out]; exact HP52.1); clear HP52; have n0_ := Aside0.mk (hp_); have n1_ := Aside0.mk ((by rw [hw]; exact below_set (HB.out) GB51.out : Below w.heap.size w w53)); clear HO_3; clear HB; have HO_3 := n0_; have HB := n1_; clear n0_ n1_; clear hg hw hp_))
                                   go_roundg k1
                                   case measure => have := HK1.out; omega
                                   case rel => exact ⟨(y116), (wrap64 (x4_1 + 1)), (ji13), (by first | rfl | (simp; done) | (simp [*]; done)), (by first | rfl | (simp; done) | (simp only [← hji13] <;> (first | rfl | simp)) | (simp [*]; done)), H', ⟨by have := HK1.out; omega⟩, ⟨by (with_reducible repeat (first | apply Kd.R_alloc | apply Kd.R_drewN | apply Kd.R_drew)); exact HO_3.out⟩, ⟨by repeat (first | (with_reducible first | exact HB.out | apply below_alloc | apply pw_below_drewN | apply below_drew1) | exact HB.out)⟩⟩
                                 · rw [if_neg c50] at H
                                   exact absurd H (by simp)
                               · rw [if_neg c49] at H
                                 exact absurd H (by simp)
                           · rw [if_neg c22] at H
                             have c22b0 : decide (48 ≤ (bt a0 (ji18))) = false := decide_eq_false c22
                             clear c22
                             by_cases c54 : 0 ≤ x4_1
                             · rw [if_pos c54] at H
                               have c54b0 : decide (0 ≤ x4_1) = true := decide_eq_true c54
                               clear c54
                               by_cases c55 : x4_1 < (x3_1.length : Int)
                               · rw [if_pos c55] at H
                                 have c55b0 : decide (x4_1 < (x3_1.length : Int)) = true := decide_eq_true c55
                                 clear c55
                                 obtain ⟨y117, hy117⟩ : ∃ y_ : List Int, y_ = (x3_1.set (x4_1 : Int).toNat (bt a0 x5_1)) := ⟨_, rfl⟩
                                 replace H : (mountinfo_unescape.l0 k1 a0 y117 (wrap64 (x4_1 + 1)) ji13) = some r := by first | (rw [hy117]; with_reducible exact H) | (have H2_ := (Option.bind_some _ _).symm.trans H; rw [hy117]; with_reducible exact H2_) | (have H2_ := (Option.bind_some _ _).symm.trans H; with_reducible exact H2_) | with_reducible exact H | (rw [hy117]; exact H) | exact H
                                 have Ny117 := Aside0.mk hy117
                                 clear hy117
                                 have H' := Aside0.mk H
                                 clear H
                                 have p10 : 0 ≤ (x5_1 : Int) := of_decide_eq_true (by first | (with_reducible assumption) | assumption)
                                 have q10 : x5_1 < (a0.size : Int) := of_decide_eq_true (by first | (with_reducible assumption) | assumption)
                                 have hx10 := bt_at a0 x5_1
                                 replace p10 := eq_true p10
                                 replace q10 := eq_true q10
                                 have p16 : 0 ≤ ((ji13) : Int) := of_decide_eq_true (by first | (with_reducible assumption) | assumption)
                                 have q16 : (ji13) < (a0.size : Int) := of_decide_eq_true (by first | (with_reducible assumption) | assumption)
                                 have hx16 := bt_at a0 (ji13)
                                 replace p16 := eq_true p16
                                 replace q16 := eq_true q16
                                 have p21 : 0 ≤ ((ji18) : Int) := of_decide_eq_true (by first | (with_reducible assumption) | assumption)
                                 have q21 : (ji18) < (a0.size : Int) := of_decide_eq_true (by first | (with_reducible assumption) | assumption)
                                 have hx21 := bt_at a0 (ji18)
                                 replace p21 := eq_true p21
                                 replace q21 := eq_true q21
                                 have p56 : 0 ≤ (x4_1 : Int) := of_decide_eq_true (by first | (with_reducible assumption) | assumption)
                                 have q56 : (x4_1 : Int) < ((x3_1.length : Int) : Int) := of_decide_eq_true (by first | (with_reducible assumption) | assumption)
                                 obtain ⟨go56, co56, eo56, gb56, gl56, cl56, HG56⟩ := Kd.R_form HO_3.out (by omega)
                                 (first | cases eo56 | (injection eo56 with ea_ en_ ec_; (first | subst ea_ | (injection ea_ with ea_; subst ea_)); subst ec_; clear en_))
                                 have GB56 := Aside0.mk gb56
                                 have GG56 := Aside0.mk HG56
                                 clear gb56 gl56 HG56
                                 obtain ⟨hx56_0, hf56_0⟩ := Kd.R_celln 0 HO_3.out (x4_1 : Int) p56 q56
                                 replace p56 := eq_true p56
                                 replace q56 := eq_true q56
                                 have HP57 := Kd.R_putg HO_3.out (x4_1 : Int) (bt a0 x5_1)
                                 go_wp2_with (first | ((with_reducible refine gate_store (t := 5) (p := 104) rfl ?_); refine store_event (t := 5) (p := 104) (v := ?vo_w58) (w1 := (wr.setCell ⟨go56, (x4_1 : Int).toNat, none⟩ (.int .u8 (bt a0 x5_1)))) ?hg ?ho ?hn ?hr ?_; (case ho => rfl); (case hg => rfl); (case hn => rfl); (case hr => first | (go_simp; done) | (go_simp; rfl)); intro w58 hw; have hg : wr.grownBy w58 (some go56) := (by rw [hw]; exact HP57.2); have hp_ : Kd.R (Kd.int .u8) 5 w58 w.heap.size (fun _ => True) (.slice (some ⟨go56, 0, none⟩) x3_1.length co56) y117 := (by rw [hw, Ny117.out]; exact HP57.1); clear HP57; have n0_ := Aside0.mk (hp_); have n1_ := Aside0.mk ((by rw [hw]; exact below_set (HB.out) GB56.out : Below w.heap.size w w58)); clear HO_3; clear HB; have HO_3 := n0_; have HB := n1_; clear n0_ n1_; clear hg hw hp_))
                                 go_roundg k1
                                 case measure => have := HK1.out; omega
                                 case rel => exact ⟨(y117), (wrap64 (x4_1 + 1)), (ji13), (by first | rfl | (simp; done) | (simp [*]; done)), (by first | rfl | (simp; done) | (simp only [← hji13] <;> (first | rfl | simp)) | (simp [*]; done)), H', ⟨by have := HK1.out; omega⟩, ⟨by (with_reducible repeat (first | apply Kd.R_alloc | apply Kd.R_drewN | apply Kd.R_drew)); exact HO_3.out⟩, ⟨by repeat (first | (with_reducible first | exact HB.out | apply below_alloc | apply pw_below_drewN | apply below_drew1) | exact HB.out)⟩⟩
                               · rw [if_neg c55] at H
                                 exact absurd H (by simp)
                             · rw [if_neg c54] at H
                               exact absurd H (by simp)
                         · rw [if_neg c20] at H
                           exact absurd H (by simp)
                       · rw [if_neg c19] at H
                         exact absurd H (by simp)
                     · rw [if_neg c17] at H
                       have c17b0 : ((bt a0 (ji13)) == 48) = false := beq_eq_false_iff_ne.mpr c17
                       have c17b1 : ((bt a0 (ji13)) != 48) = true := bne_iff_ne.mpr c17
                       by_cases c60 : (bt a0 (ji13)) = 49
                       · rw [if_pos c60] at H
                         have c60b0 : ((bt a0 (ji13)) == 49) = true := beq_iff_eq.mpr c60
                         have c60b1 : ((bt a0 (ji13)) != 49) = false := bne_eq_false_iff_eq.mpr c60
                         clear c60
                         obtain ⟨ji61, hji61⟩ : ∃ j_ : Int, (wrap64 (x5_1 + 2)) = j_ := ⟨_, rfl⟩
                         replace H : (if 0 ≤ (ji61) then (if (ji61) < (a0.size : Int) then (if (bt a0 (ji61)) ≥ 48 then (if (bt a0 (ji61)) ≤ 55 then (if 0 ≤ (wrap64 (x5_1 + 3)) then (if (bt a0 (wrap64 (x5_1 + 3))) ≥ 48 then (if (bt a0 (wrap64 (x5_1 + 3))) ≤ 55 then (if 0 ≤ x4_1 then (if x4_1 < (x3_1.length : Int) then (mountinfo_unescape.l0 k1 a0 (x3_1.set (x4_1 : Int).toNat (Go.bits .or .u8 (Go.bits .or .u8 (((((bt a0 (ji13)) - 48) % 256) * 64) % 256) (((((bt a0 (ji61)) - 48) % 256) * 8) % 256)) (((bt a0 (wrap64 (x5_1 + 3))) - 48) % 256))) (wrap64 (x4_1 + 1)) (wrap64 ((wrap64 (x5_1 + 3)) + 1))) else (none)) else (none)) else (if 0 ≤ x4_1 then (if x4_1 < (x3_1.length : Int) then (mountinfo_unescape.l0 k1 a0 (x3_1.set (x4_1 : Int).toNat (bt a0 x5_1)) (wrap64 (x4_1 + 1)) ji13) else (none)) else (none))) else (if 0 ≤ x4_1 then (if x4_1 < (x3_1.length : Int) then (mountinfo_unescape.l0 k1 a0 (x3_1.set (x4_1 : Int).toNat (bt a0 x5_1)) (wrap64 (x4_1 + 1)) ji13) else (none)) else (none))) else (none)) else (if 0 ≤ x4_1 then (if x4_1 < (x3_1.length : Int) then (mountinfo_unescape.l0 k1 a0 (x3_1.set (x4_1 : Int).toNat (bt a0 x5_1)) (wrap64 (x4_1 + 1)) ji13) else (none)) else (none))) else (if 0 ≤ x4_1 then (if x4_1 < (x3_1.length : Int) then (mountinfo_unescape.l0 k1 a0 (x3_1.set (x4_1 : Int).toNat (bt a0 x5_1)) (wrap64 (x4_1 + 1)) ji13) else (none)) else (none))) else (none)) else (none)) = some r := by first | (rw [hji61] at H; exact H) | (simp only [hji61] at H ⊢; exact H)
                         have hji61w : (IntKind.i64.wrap (x5_1 + 2)) = ji61 := (i64_w _).trans hji61
                         by_cases c62 : 0 ≤ (ji61)
                         · rw [if_pos c62] at H
                           have c62b0 : decide (0 ≤ (ji61)) = true := decide_eq_true c62
                           clear c62
                           by_cases c63 : (ji61) < (a0.size : Int)
                           · rw [if_pos c63] at H
                             have c63b0 : decide ((ji61) < (a0.size : Int)) = true := decide_eq_true c63
                             clear c63
                             by_cases c65 : (bt a0 (ji61)) ≥ 48
                             · rw [if_pos c65] at H
                               have c65b0 : decide (48 ≤ (bt a0 (ji61))) = true := decide_eq_true c65
                               clear c65
                               by_cases c67 : (bt a0 (ji61)) ≤ 55
                               · rw [if_pos c67] at H
                                 have c67b0 : decide ((bt a0 (ji61)) ≤ 55) = true := decide_eq_true c67
                                 clear c67
                                 obtain ⟨ji68, hji68⟩ : ∃ j_ : Int, (wrap64 (x5_1 + 3)) = j_ := ⟨_, rfl⟩
                                 replace H : (if 0 ≤ (ji68) then (if (bt a0 (ji68)) ≥ 48 then (if (bt a0 (ji68)) ≤ 55 then (if 0 ≤ x4_1 then (if x4_1 < (x3_1.length : Int) then (mountinfo_unescape.l0 k1 a0 (x3_1.set (x4_1 : Int).toNat (Go.bits .or .u8 (Go.bits .or .u8 (((((bt a0 (ji13)) - 48) % 256) * 64) % 256) (((((bt a0 (ji61)) - 48) % 256) * 8) % 256)) (((bt a0 (ji68)) - 48) % 256))) (wrap64 (x4_1 + 1)) (wrap64 ((ji68) + 1))) else (none)) else (none)) else (if 0 ≤ x4_1 then (if x4_1 < (x3_1.length : Int) then (mountinfo_unescape.l0 k1 a0 (x3_1.set (x4_1 : Int).toNat (bt a0 x5_1)) (wrap64 (x4_1 + 1)) ji13) else (none)) else (none))) else (if 0 ≤ x4_1 then (if x4_1 < (x3_1.length : Int) then (mountinfo_unescape.l0 k1 a0 (x3_1.set (x4_1 : Int).toNat (bt a0 x5_1)) (wrap64 (x4_1 + 1)) ji13) else (none)) else (none))) else (none)) = some r := by first | (rw [hji68] at H; exact H) | (simp only [hji68] at H ⊢; exact H)
                                 (try rw [hji68] at c12b0)
                                 have hji68w : (IntKind.i64.wrap (x5_1 + 3)) = ji68 := (i64_w _).trans hji68
                                 by_cases c69 : 0 ≤ (ji68)
                                 · rw [if_pos c69] at H
                                   have c69b0 : decide (0 ≤ (ji68)) = true := decide_eq_true c69
                                   clear c69
                                   by_cases c71 : (bt a0 (ji68)) ≥ 48
                                   · rw [if_pos c71] at H
                                     have c71b0 : decide (48 ≤ (bt a0 (ji68))) = true := decide_eq_true c71
                                     clear c71
                                     by_cases c73 : (bt a0 (ji68)) ≤ 55
                                     · rw [if_pos c73] at H
                                       have c73b0 : decide ((bt a0 (ji68)) ≤ 55) = true := decide_eq_true c73
                                       clear c73
                                       by_cases c77 : 0 ≤ x4_1
                                       · rw [if_pos c77] at H
                                         have c77b0 : decide (0 ≤ x4_1) = true := decide_eq_true c77
                                         clear c77
                                         by_cases c78 : x4_1 < (x3_1.length : Int)
                                         · rw [if_pos c78] at H
                                           have c78b0 : decide (x4_1 < (x3_1.length : Int)) = true := decide_eq_true c78
                                           clear c78
                                           obtain ⟨y118, hy118⟩ : ∃ y_ : List Int, y_ = (x3_1.set (x4_1 : Int).toNat (Go.bits .or .u8 (Go.bits .or .u8 (((((bt a0 (ji13)) - 48) % 256) * 64) % 256) (((((bt a0 (ji61)) - 48) % 256) * 8) % 256)) (((bt a0 (ji68)) - 48) % 256))) := ⟨_, rfl⟩
                                           replace H : (mountinfo_unescape.l0 k1 a0 y118 (wrap64 (x4_1 + 1)) (wrap64 ((ji68) + 1))) = some r := by first | (rw [hy118]; with_reducible exact H) | (have H2_ := (Option.bind_some _ _).symm.trans H; rw [hy118]; with_reducible exact H2_) | (have H2_ := (Option.bind_some _ _).symm.trans H; with_reducible exact H2_) | with_reducible exact H | (rw [hy118]; exact H) | exact H
                                           have Ny118 := Aside0.mk hy118
                                           clear hy118
                                           have H' := Aside0.mk H
                                           clear H
                                           have p10 : 0 ≤ (x5_1 : Int) := of_decide_eq_true (by first | (with_reducible assumption) | assumption)
                                           have q10 : x5_1 < (a0.size : Int) := of_decide_eq_true (by first | (with_reducible assumption) | assumption)
                                           have hx10 := bt_at a0 x5_1
                                           replace p10 := eq_true p10
                                           replace q10 := eq_true q10
                                           have p16 : 0 ≤ ((ji13) : Int) := of_decide_eq_true (by first | (with_reducible assumption) | assumption)
                                           have q16 : (ji13) < (a0.size : Int) := of_decide_eq_true (by first | (with_reducible assumption) | assumption)
                                           have hx16 := bt_at a0 (ji13)
                                           replace p16 := eq_true p16
                                           replace q16 := eq_true q16
                                           have p59 : 0 ≤ ((ji13) : Int) := of_decide_eq_true (by first | (with_reducible assumption) | assumption)
                                           have q59 : (ji13) < (a0.size : Int) := of_decide_eq_true (by first | (with_reducible assumption) | assumption)
                                           have hx59 := bt_at a0 (ji13)
                                           replace p59 := eq_true p59
                                           replace q59 := eq_true q59
                                           have p64 : 0 ≤ ((ji61) : Int) := of_decide_eq_true (by first | (with_reducible assumption) | assumption)
                                           have q64 : (ji61) < (a0.size : Int) := of_decide_eq_true (by first | (with_reducible assumption) | assumption)
                                           have hx64 := bt_at a0 (ji61)
                                           replace p64 := eq_true p64
                                           replace q64 := eq_true q64
                                           have p66 : 0 ≤ ((ji61) : Int) := of_decide_eq_true (by first | (with_reducible assumption) | assumption)
                                           have q66 : (ji61) < (a0.size : Int) := of_decide_eq_true (by first | (with_reducible assumption) | assumption)
                                           have hx66 := bt_at a0 (ji61)
                                           replace p66 := eq_true p66
                                           replace q66 := eq_true q66
                                           have p70 : 0 ≤ ((ji68) : Int) := of_decide_eq_true (by first | (with_reducible assumption) | assumption)
                                           have q70 : (ji68) < (a0.size : Int) := of_decide_eq_true (by first | (with_reducible assumption) | assumption)
                                           have hx70 := bt_at a0 (ji68)
                                           replace p70 := eq_true p70
                                           replace q70 := eq_true q70
                                           have p72 : 0 ≤ ((ji68) : Int) := of_decide_eq_true (by first | (with_reducible assumption) | assumption)
                                           have q72 : (ji68) < (a0.size : Int) := of_decide_eq_true (by first | (with_reducible assumption) | assumption)
                                           have hx72 := bt_at a0 (ji68)
                                           replace p72 := eq_true p72
                                           replace q72 := eq_true q72
                                           have p74 : 0 ≤ ((ji13) : Int) := of_decide_eq_true (by first | (with_reducible assumption) | assumption)
                                           have q74 : (ji13) < (a0.size : Int) := of_decide_eq_true (by first | (with_reducible assumption) | assumption)
                                           have hx74 := bt_at a0 (ji13)
                                           replace p74 := eq_true p74
                                           replace q74 := eq_true q74
                                           have p75 : 0 ≤ ((ji61) : Int) := of_decide_eq_true (by first | (with_reducible assumption) | assumption)
                                           have q75 : (ji61) < (a0.size : Int) := of_decide_eq_true (by first | (with_reducible assumption) | assumption)
                                           have hx75 := bt_at a0 (ji61)
                                           replace p75 := eq_true p75
                                           replace q75 := eq_true q75
                                           have p76 : 0 ≤ ((ji68) : Int) := of_decide_eq_true (by first | (with_reducible assumption) | assumption)
                                           have q76 : (ji68) < (a0.size : Int) := of_decide_eq_true (by first | (with_reducible assumption) | assumption)
                                           have hx76 := bt_at a0 (ji68)
                                           replace p76 := eq_true p76
                                           replace q76 := eq_true q76
                                           have p79 : 0 ≤ (x4_1 : Int) := of_decide_eq_true (by first | (with_reducible assumption) | assumption)
                                           have q79 : (x4_1 : Int) < ((x3_1.length : Int) : Int) := of_decide_eq_true (by first | (with_reducible assumption) | assumption)
                                           obtain ⟨go79, co79, eo79, gb79, gl79, cl79, HG79⟩ := Kd.R_form HO_3.out (by omega)
                                           (first | cases eo79 | (injection eo79 with ea_ en_ ec_; (first | subst ea_ | (injection ea_ with ea_; subst ea_)); subst ec_; clear en_))
                                           have GB79 := Aside0.mk gb79
                                           have GG79 := Aside0.mk HG79
                                           clear gb79 gl79 HG79
                                           obtain ⟨hx79_0, hf79_0⟩ := Kd.R_celln 0 HO_3.out (x4_1 : Int) p79 q79
                                           replace p79 := eq_true p79
                                           replace q79 := eq_true q79
                                           have HP80 := Kd.R_putg HO_3.out (x4_1 : Int) (Go.bits .or .u8 (Go.bits .or .u8 (((((bt a0 (ji13)) - 48) % 256) * 64) % 256) (((((bt a0 (ji61)) - 48) % 256) * 8) % 256)) (((bt a0 (ji68)) - 48) % 256))
                                           go_wp2_with (first | ((with_reducible refine gate_store (t := 5) (p := 104) rfl ?_); refine store_event (t := 5) (p := 104) (v := ?vo_w81) (w1 := (wr.setCell ⟨go79, (x4_1 : Int).toNat, none⟩ (.int .u8 (Go.bits .or .u8 (Go.bits .or .u8 (((((bt a0 (ji13)) - 48) % 256) * 64) % 256) (((((bt a0 (ji61)) - 48) % 256) * 8) % 256)) (((bt a0 (ji68)) - 48) % 256))))) ?hg ?ho ?hn ?hr ?_; (case ho => rfl); (case hg => rfl); (case hn => rfl); (case hr => first | (go_simp; done) | (go_simp; rfl)); intro w81 hw; have hg : wr.grownBy w81 (some go79) := (by rw [hw]; exact HP80.2); have hp_ : Kd.R (Kd.int .u8) 5 w81 w.heap.size (fun _ => True) (.slice (some ⟨go79, 0, none⟩) x3_1.length co79) y118 := (by rw [hw, Ny118.out]; exact HP80.1); clear HP80; have n0_ := Aside0.mk (hp_); have n1_ := Aside0.mk ((by rw [hw]; exact below_set (HB.out) GB79.out : Below w.heap.size w w81)); clear HO_3; clear HB; have HO_3 := n0_; have HB := n1_; clear n0_ n1_; clear hg hw hp_))
                                           go_roundg k1
                                           case measure => have := HK1.out; omega
                                           case rel => exact ⟨(y118), (wrap64 (x4_1 + 1)), (wrap64 ((ji68) + 1)), (by first | rfl | (simp; done) | (simp [*]; done)), (by first | rfl | (simp; done) | (simp only [← hji68] <;> (first | rfl | simp)) | (simp [*]; done)), H', ⟨by have := HK1.out; omega⟩, ⟨by (with_reducible repeat (first | apply Kd.R_alloc | apply Kd.R_drewN | apply Kd.R_drew)); exact HO_3.out⟩, ⟨by repeat (first | (with_reducible first | exact HB.out | apply below_alloc | apply pw_below_drewN | apply below_drew1) | exact HB.out)⟩⟩
                                         · rw [if_neg c78] at H
                                           exact absurd H (by simp)
                                       · rw [if_neg c77] at H
                                         exact absurd H (by simp)
                                     · rw [if_neg c73] at H
                                       have c73b0 : decide ((bt a0 (ji68)) ≤ 55) = false := decide_eq_false c73
                                       clear c73
                                       by_cases c82 : 0 ≤ x4_1
                                       · rw [if_pos c82] at H
                                         have c82b0 : decide (0 ≤ x4_1) = true := decide_eq_true c82
                                         clear c82
                                         by_cases c83 : x4_1 < (x3_1.length : Int)
                                         · rw [if_pos c83] at H
                                           have c83b0 : decide (x4_1 < (x3_1.length : Int)) = true := decide_eq_true c83
                                           clear c83
                                           obtain ⟨y119, hy119⟩ : ∃ y_ : List Int, y_ = (x3_1.set (x4_1 : Int).toNat (bt a0 x5_1)) := ⟨_, rfl⟩
                                           replace H : (mountinfo_unescape.l0 k1 a0 y119 (wrap64 (x4_1 + 1)) ji13) = some r := by first | (rw [hy119]; with_reducible exact H) | (have H2_ := (Option.bind_some _ _).symm.trans H; rw [hy119]; with_reducible exact H2_) | (have H2_ := (Option.bind_some _ _).symm.trans H; with_reducible exact H2_) | with_reducible exact H | (rw [hy119]; exact H) | exact H
                                           have Ny119 := Aside0.mk hy119
                                           clear hy119
                                           have H' := Aside0.mk H
                                           clear H
                                           have p10 : 0 ≤ (x5_1 : Int) := of_decide_eq_true (by first | (with_reducible assumption) | assumption)
                                           have q10 : x5_1 < (a0.size : Int) := of_decide_eq_true (by first | (with_reducible assumption) | assumption)
                                           have hx10 := bt_at a0 x5_1
                                           replace p10 := eq_true p10
                                           replace q10 := eq_true q10
                                           have p16 : 0 ≤ ((ji13) : Int) := of_decide_eq_true (by first | (with_reducible assumption) | assumption)
                                           have q16 : (ji13) < (a0.size : Int) := of_decide_eq_true (by first | (with_reducible assumption) | assumption)
                                           have hx16 := bt_at a0 (ji13)
                                           replace p16 := eq_true p16
                                           replace q16 := eq_true q16
                                           have p59 : 0 ≤ ((ji13) : Int) := of_decide_eq_true (by first | (with_reducible assumption) | assumption)
                                           have q59 : (ji13) < (a0.size : Int) := of_decide_eq_true (by first | (with_reducible assumption) | assumption)
                                           have hx59 := bt_at a0 (ji13)
                                           replace p59 := eq_true p59
                                           replace q59 := eq_true q59
                                           have p64 : 0 ≤ ((ji61) : Int) := of_decide_eq_true (by first | (with_reducible assumption) | assumption)
                                           have q64 : (ji61) < (a0.size : Int) := of_decide_eq_true (by first | (with_reducible assumption) | assumption)
                                           have hx64 := bt_at a0 (ji61)
                                           replace p64 := eq_true p64
                                           replace q64 := eq_true q64
                                           have p66 : 0 ≤ ((ji61) : Int) := of_decide_eq_true (by first | (with_reducible assumption) | assumption)
                                           have q66 : (ji61) < (a0.size : Int) := of_decide_eq_true (by first | (with_reducible assumption) | assumption)
                                           have hx66 := bt_at a0 (ji61)
                                           replace p66 := eq_true p66
                                           replace q66 := eq_true q66
                                           have p70 : 0 ≤ ((ji68) : Int) := of_decide_eq_true (by first | (with_reducible assumption) | assumption)
                                           have q70 : (ji68) < (a0.size : Int) := of_decide_eq_true (by first | (with_reducible assumption) | assumption)
                                           have hx70 := bt_at a0 (ji68)
                                           replace p70 := eq_true p70
                                           replace q70 := eq_true q70
                                           have p72 : 0 ≤ ((ji68) : Int) := of_decide_eq_true (by first | (with_reducible assumption) | assumption)
                                           have q72 : (ji68) < (a0.size : Int) := of_decide_eq_true (by first | (with_reducible assumption) | assumption)
                                           have hx72 := bt_at a0 (ji68)
                                           replace p72 := eq_true p72
                                           replace q72 := eq_true q72
                                           have p84 : 0 ≤ (x4_1 : Int) := of_decide_eq_true (by first | (with_reducible assumption) | assumption)
                                           have q84 : (x4_1 : Int) < ((x3_1.length : Int) : Int) := of_decide_eq_true (by first | (with_reducible assumption) | assumption)
                                           obtain ⟨go84, co84, eo84, gb84, gl84, cl84, HG84⟩ := Kd.R_form HO_3.out (by omega)
                                           (first | cases eo84 | (injection eo84 with ea_ en_ ec_; (first | subst ea_ | (injection ea_ with ea_; subst ea_)); subst ec_; clear en_))
                                           have GB84 := Aside0.mk gb84
                                           have GG84 := Aside0.mk HG84
                                           clear gb84 gl84 HG84
                                           obtain ⟨hx84_0, hf84_0⟩ := Kd.R_celln 0 HO_3.out (x4_1 : Int) p84 q84
                                           replace p84 := eq_true p84
                                           replace q84 := eq_true q84
                                           have HP85 := Kd.R_putg HO_3.out (x4_1 : Int) (bt a0 x5_1)
                                           go_wp2_with (first | ((with_reducible refine gate_store (t := 5) (p := 104) rfl ?_); refine store_event (t := 5) (p := 104) (v := ?vo_w86) (w1 := (wr.setCell ⟨go84, (x4_1 : Int).toNat, none⟩ (.int .u8 (bt a0 x5_1)))) ?hg ?ho ?hn ?hr ?_; (case ho => rfl); (case hg => rfl); (case hn => rfl); (case hr => first | (go_simp; done) | (go_simp; rfl)); intro w86 hw; have hg : wr.grownBy w86 (some go84) := (by rw [hw]; exact HP85.2); have hp_ : Kd.R (Kd.int .u8) 5 w86 w.heap.size (fun _ => True) (.slice (some ⟨go84, 0, none⟩) x3_1.length co84) y119 := (by rw [hw, Ny119.out]; exact HP85.1); clear HP85; have n0_ := Aside0.mk (hp_); have n1_ := Aside0.mk ((by rw [hw]; exact below_set (HB.out) GB84.out : Below w.heap.size w w86)); clear HO_3; clear HB; have HO_3 := n0_; have HB := n1_; clear n0_ n1_; clear hg hw hp_))
                                           go_roundg k1
                                           case measure => have := HK1.out; omega
                                           case rel => exact ⟨(y119), (wrap64 (x4_1 + 1)), (ji13), (by first | rfl | (simp; done) | (simp [*]; done)), (by first | rfl | (simp; done) | (simp only [← hji13] <;> (first | rfl | simp)) | (simp [*]; done)), H', ⟨by have := HK1.out; omega⟩, ⟨by (with_reducible repeat (first | apply Kd.R_alloc | apply Kd.R_drewN | apply Kd.R_drew)); exact HO_3.out⟩, ⟨by repeat (first | (with_reducible first | exact HB.out | apply below_alloc | apply pw_below_drewN | apply below_drew1) | exact HB.out)⟩⟩
                                         · rw [if_neg c83] at H
                                           exact absurd H (by simp)
                                       · rw [if_neg c82] at H
                                         exact absurd H (by simp)
                                   · rw [if_neg c71] at H
                                     have c71b0 : decide (48 ≤ (bt a0 (ji68))) = false := decide_eq_false c71
                                     clear c71
                                     by_cases c87 : 0 ≤ x4_1
                                     · rw [if_pos c87] at H
                                       have c87b0 : decide (0 ≤ x4_1) = true := decide_eq_true c87
                                       clear c87
                                       by_cases c88 : x4_1 < (x3_1.length : Int)
                                       · rw [if_pos c88] at H
                                         have c88b0 : decide (x4_1 < (x3_1.length : Int)) = true := decide_eq_true c88
                                         clear c88
                                         obtain ⟨y120, hy120⟩ : ∃ y_ : List Int, y_ = (x3_1.set (x4_1 : Int).toNat (bt a0 x5_1)) := ⟨_, rfl⟩
                                         replace H : (mountinfo_unescape.l0 k1 a0 y120 (wrap64 (x4_1 + 1)) ji13) = some r := by first | (rw [hy120]; with_reducible exact H) | (have H2_ := (Option.bind_some _ _).symm.trans H; rw [hy120]; with_reducible exact H2_) | (have H2_ := (Option.bind_some _ _).symm.trans H; with_reducible exact H2_) | with_reducible exact H | (rw [hy120]; exact H) | exact H
                                         have Ny120 := Aside0.mk hy120
                                         clear hy120
                                         have H' := Aside0.mk H
                                         clear H
                                         have p10 : 0 ≤ (x5_1 : Int) := of_decide_eq_true (by first | (with_reducible assumption) | assumption)
                                         have q10 : x5_1 < (a0.size : Int) := of_decide_eq_true (by first | (with_reducible assumption) | assumption)
                                         have hx10 := bt_at a0 x5_1
                                         replace p10 := eq_true p10
                                         replace q10 := eq_true q10
                                         have p16 : 0 ≤ ((ji13) : Int) := of_decide_eq_true (by first | (with_reducible assumption) | assumption)
                                         have q16 : (ji13) < (a0.size : Int) := of_decide_eq_true (by first | (with_reducible assumption) | assumption)
                                         have hx16 := bt_at a0 (ji13)
                                         replace p16 := eq_true p16
                                         replace q16 := eq_true q16
                                         have p59 : 0 ≤ ((ji13) : Int) := of_decide_eq_true (by first | (with_reducible assumption) | assumption)
                                         have q59 : (ji13) < (a0.size : Int) := of_decide_eq_true (by first | (with_reducible assumption) | assumption)
                                         have hx59 := bt_at a0 (ji13)
                                         replace p59 := eq_true p59
                                         replace q59 := eq_true q59
                                         have p64 : 0 ≤ ((ji61) : Int) := of_decide_eq_true (by first | (with_reducible assumption) | assumption)
                                         have q64 : (ji61) < (a0.size : Int) := of_decide_eq_true (by first | (with_reducible assumption) | assumption)
                                         have hx64 := bt_at a0 (ji61)
                                         replace p64 := eq_true p64
                                         replace q64 := eq_true q64
                                         have p66 : 0 ≤ ((ji61) : Int) := of_decide_eq_true (by first | (with_reducible assumption) | assumption)
                                         have q66 : (ji61) < (a0.size : Int) := of_decide_eq_true (by first | (with_reducible assumption) | assumption)
                                         have hx66 := bt_at a0 (ji61)
                                         replace p66 := eq_true p66
                                         replace q66 := eq_true q66
                                         have p70 : 0 ≤ ((ji68) : Int) := of_decide_eq_true (by first | (with_reducible assumption) | assumption)
                                         have q70 : (ji68) < (a0.size : Int) := of_decide_eq_true (by first | (with_reducible assumption) | assumption)
                                         have hx70 := bt_at a0 (ji68)
                                         replace p70 := eq_true p70
                                         replace q70 := eq_true q70
                                         have p89 : 0 ≤ (x4_1 : Int) := of_decide_eq_true (by first | (with_reducible assumption) | assumption)
                                         have q89 : (x4_1 : Int) < ((x3_1.length : Int) : Int) := of_decide_eq_true (by first | (with_reducible assumption) | assumption)
                                         obtain ⟨go89, co89, eo89, gb89, gl89, cl89, HG89⟩ := Kd.R_form HO_3.out (by omega)
                                         (first | cases eo89 | (injection eo89 with ea_ en_ ec_; (first | subst ea_ | (injection ea_ with ea_; subst ea_)); subst ec_; clear en_))
                                         have GB89 := Aside0.mk gb89
                                         have GG89 := Aside0.mk HG89
                                         clear gb89 gl89 HG89
                                         obtain ⟨hx89_0, hf89_0⟩ := Kd.R_celln 0 HO_3.out (x4_1 : Int) p89 q89
                                         replace p89 := eq_true p89
                                         replace q89 := eq_true q89
                                         have HP90 := Kd.R_putg HO_3.out (x4_1 : Int) (bt a0 x5_1)
                                         go_wp2_with (first | ((with_reducible refine gate_store (t := 5) (p := 104) rfl ?_); refine store_event (t := 5) (p := 104) (v := ?vo_w91) (w1 := (wr.setCell ⟨go89, (x4_1 : Int).toNat, none⟩ (.int .u8 (bt a0 x5_1)))) ?hg ?ho ?hn ?hr ?_; (case ho => rfl); (case hg => rfl); (case hn => rfl); (case hr => first | (go_simp; done) | (go_simp; rfl)); intro w91 hw; have hg : wr.grownBy w91 (some go89) := (by rw [hw]; exact HP90.2); have hp_ : Kd.R (Kd.int .u8) 5 w91 w.heap.size (fun _ => True) (.slice (some ⟨go89, 0, none⟩) x3_1.length co89) y120 := (by rw [hw, Ny120.out]; exact HP90.1); clear HP90; have n0_ := Aside0.mk (hp_); have n1_ := Aside0.mk ((by rw [hw]; exact below_set (HB.out) GB89.out : Below w.heap.size w w91)); clear HO_3; clear HB; have HO_3 := n0_; have HB := n1_; clear n0_ n1_; clear hg hw hp_))
                                         go_roundg k1
                                         case measure => have := HK1.out; omega
                                         case rel => exact ⟨(y120), (wrap64 (x4_1 + 1)), (ji13), (by first | rfl | (simp; done) | (simp [*]; done)), (by first | rfl | (simp; done) | (simp only [← hji13] <;> (first | rfl | simp)) | (simp [*]; done)), H', ⟨by have := HK1.out; omega⟩, ⟨by (with_reducible repeat (first | apply Kd.R_alloc | apply Kd.R_drewN | apply Kd.R_drew)); exact HO_3.out⟩, ⟨by repeat (first | (with_reducible first | exact HB.out | apply below_alloc | apply pw_below_drewN | apply below_drew1) | exact HB.out)⟩⟩
                                       · rw [if_neg c88] at H
                                         exact absurd H (by simp)
                                     · rw [if_neg c87] at H
                                       exact absurd H (by simp)
                                 · rw [if_neg c69] at H
                                   exact absurd H (by simp)
                               · rw [if_neg c67] at H
                                 have c67b0 : decide ((bt a0 (ji61)) ≤ 55) = false := decide_eq_false c67
                                 clear c67
                                 by_cases c92 : 0 ≤ x4_1
                                 · rw [if_pos c92] at H
                                   have c92b0 : decide (0 ≤ x4_1) = true := decide_eq_true c92
                                   clear c92
                                   by_cases c93 : x4_1 < (x3_1.length : Int)
                                   · rw [if_pos c93] at H
                                     have c93b0 : decide (x4_1 < (x3_1.length : Int)) = true := decide_eq_true c93
                                     clear c93
                                     obtain ⟨y121, hy121⟩ : ∃ y_ : List Int, y_ = (x3_1.set (x4_1 : Int).toNat (bt a0 x5_1)) := ⟨_, rfl⟩
                                     replace H : (mountinfo_unescape.l0 k1 a0 y121 (wrap64 (x4_1 + 1)) ji13) = some r := by first | (rw [hy121]; with_reducible exact H) | (have H2_ := (Option.bind_some _ _).symm.trans H; rw [hy121]; with_reducible exact H2_) | (have H2_ := (Option.bind_some _ _).symm.trans H; with_reducible exact H2_) | with_reducible exact H | (rw [hy121]; exact H) | exact H
                                     have Ny121 := Aside0.mk hy121
                                     clear hy121
                                     have H' := Aside0.mk H
                                     clear H
                                     have p10 : 0 ≤ (x5_1 : Int) := of_decide_eq_true (by first | (with_reducible assumption) | assumption)
                                     have q10 : x5_1 < (a0.size : Int) := of_decide_eq_true (by first | (with_reducible assumption) | assumption)
                                     have hx10 := bt_at a0 x5_1
                                     replace p10 := eq_true p10
                                     replace q10 := eq_true q10
                                     have p16 : 0 ≤ ((ji13) : Int) := of_decide_eq_true (by first | (with_reducible assumption) | assumption)
                                     have q16 : (ji13) < (a0.size : Int) := of_decide_eq_true (by first | (with_reducible assumption) | assumption)
                                     have hx16 := bt_at a0 (ji13)
                                     replace p16 := eq_true p16
                                     replace q16 := eq_true q16
                                     have p59 : 0 ≤ ((ji13) : Int) := of_decide_eq_true (by first | (with_reducible assumption) | assumption)
                                     have q59 : (ji13) < (a0.size : Int) := of_decide_eq_true (by first | (with_reducible assumption) | assumption)
                                     have hx59 := bt_at a0 (ji13)
                                     replace p59 := eq_true p59
                                     replace q59 := eq_true q59
                                     have p64 : 0 ≤ ((ji61) : Int) := of_decide_eq_true (by first | (with_reducible assumption) | assumption)
                                     have q64 : (ji61) < (a0.size : Int) := of_decide_eq_true (by first | (with_reducible assumption) | assumption)
                                     have hx64 := bt_at a0 (ji61)
                                     replace p64 := eq_true p64
                                     replace q64 := eq_true q64
                                     have p66 : 0 ≤ ((ji61) : Int) := of_decide_eq_true (by first | (with_reducible assumption) | assumption)
                                     have q66 : (ji61) < (a0.size : Int) := of_decide_eq_true (by first | (with_reducible assumption) | assumption)
                                     have hx66 := bt_at a0 (ji61)
                                     replace p66 := eq_true p66
                                     replace q66 := eq_true q66
                                     have p94 : 0 ≤ (x4_1 : Int) := of_decide_eq_true (by first | (with_reducible assumption) | assumption)
                                     have q94 : (x4_1 : Int) < ((x3_1.length : Int) : Int) := of_decide_eq_true (by first | (with_reducible assumption) | assumption)
                                     obtain ⟨go94, co94, eo94, gb94, gl94, cl94, HG94⟩ := Kd.R_form HO_3.out (by omega)
                                     (first | cases eo94 | (injection eo94 with ea_ en_ ec_; (first | subst ea_ | (injection ea_ with ea_; subst ea_)); subst ec_; clear en_))
                                     have GB94 := Aside0.mk gb94
                                     have GG94 := Aside0.mk HG94
                                     clear gb94 gl94 HG94
                                     obtain ⟨hx94_0, hf94_0⟩ := Kd.R_celln 0 HO_3.out (x4_1 : Int) p94 q94
                                     replace p94 := eq_true p94
                                     replace q94 := eq_true q94
                                     have HP95 := Kd.R_putg HO_3.out (x4_1 : Int) (bt a0 x5_1)
                                     go_wp2_with (first | ((with_reducible refine gate_store (t := 5) (p := 104) rfl ?_); refine store_event (t := 5) (p := 104) (v := ?vo_w96) (w1 := (wr.setCell ⟨go94, (x4_1 : Int).toNat, none⟩ (.int .u8 (bt a0 x5_1)))) ?hg ?ho ?hn ?hr ?_; (case ho => rfl); (case hg => rfl); (case hn => rfl); (case hr => first | (go_simp; done) | (go_simp; rfl)); intro w96 hw; have hg : wr.grownBy w96 (some go94) := (by rw [hw]; exact HP95.2); have hp_ : Kd.R (Kd.int .u8) 5 w96 w.heap.size (fun _ => True) (.slice (some ⟨go94, 0, none⟩) x3_1.length co94) y121 := (by rw [hw, Ny121.out]; exact HP95.1); clear HP95; have n0_ := Aside0.mk (hp_); have n1_ := Aside0.mk ((by rw [hw]; exact below_set (HB.out) GB94.out : Below w.heap.size w w96)); clear HO_3; clear HB; have HO_3 := n0_; have HB := n1_; clear n0_ n1_; clear hg hw hp_))
                                     go_roundg k1
                                     case measure => have := HK1.out; omega
                                     case rel => exact ⟨(y121), (wrap64 (x4_1 + 1)), (ji13), (by first | rfl | (simp; done) | (simp [*]; done)), (by first | rfl | (simp; done) | (simp only [← hji13] <;> (first | rfl | simp)) | (simp [*]; done)), H', ⟨by have := HK1.out; omega⟩, ⟨by (with_reducible repeat (first | apply Kd.R_alloc | apply Kd.R_drewN | apply Kd.R_drew)); exact HO_3.out⟩, ⟨by repeat (first | (with_reducible first | exact HB.out | apply below_alloc | apply pw_below_drewN | apply below_drew1) | exact HB.out)⟩⟩
                                   · rw [if_neg c93] at H
                                     exact absurd H (by simp)
                                 · rw [if_neg c92] at H
                                   exact absurd H (by simp)
                             · rw [if_neg c65] at H
                               have c65b0 : decide (48 ≤ (bt a0 (ji61))) = false := decide_eq_false c65
                               clear c65
                               by_cases c97 : 0 ≤ x4_1
                               · rw [if_pos c97] at H
                                 have c97b0 : decide (0 ≤ x4_1) = true := decide_eq_true c97
                                 clear c97
                                 by_cases c98 : x4_1 < (x3_1.length : Int)
                                 · rw [if_pos c98] at H
                                   have c98b0 : decide (x4_1 < (x3_1.length : Int)) = true := decide_eq_true c98
                                   clear c98
                                   obtain ⟨y122, hy122⟩ : ∃ y_ : List Int, y_ = (x3_1.set (x4_1 : Int).toNat (bt a0 x5_1)) := ⟨_, rfl⟩
                                   replace H : (mountinfo_unescape.l0 k1 a0 y122 (wrap64 (x4_1 + 1)) ji13) = some r := by first | (rw [hy122]; with_reducible exact H) | (have H2_ := (Option.bind_some _ _).symm.trans H; rw [hy122]; with_reducible exact H2_) | (have H2_ := (Option.bind_some _ _).symm.trans H; with_reducible exact H2_) | with_reducible exact H | (rw [hy122]; exact H) | exact H
                                   have Ny122 := Aside0.mk hy122
                                   clear hy122
                                   have H' := Aside0.mk H
                                   clear H
                                   have p10 : 0 ≤ (x5_1 : Int) := of_decide_eq_true (by first | (with_reducible assumption) | assumption)
                                   have q10 : x5_1 < (a0.size : Int) := of_decide_eq_true (by first | (with_reducible assumption) | assumption)
                                   have hx10 := bt_at a0 x5_1
                                   replace p10 := eq_true p10
                                   replace q10 := eq_true q10
                                   have p16 : 0 ≤ ((ji13) : Int) := of_decide_eq_true (by first | (with_reducible assumption) | assumption)
                                   have q16 : (ji13) < (a0.size : Int) := of_decide_eq_true (by first | (with_reducible assumption) | assumption)
                                   have hx16 := bt_at a0 (ji13)
                                   replace p16 := eq_true p16
                                   replace q16 := eq_true q16
                                   have p59 : 0 ≤ ((ji13) : Int) := of_decide_eq_true (by first | (with_reducible assumption) | assumption)
                                   have q59 : (ji13) < (a0.size : Int) := of_decide_eq_true (by first | (with_reducible assumption) | assumption)
                                   have hx59 := bt_at a0 (ji13)
                                   replace p59 := eq_true p59
                                   replace q59 := eq_true q59
                                   have p64 : 0 ≤ ((ji61) : Int) := of_decide_eq_true (by first | (with_reducible assumption) | assumption)
                                   have q64 : (ji61) < (a0.size : Int) := of_decide_eq_true (by first | (with_reducible assumption) | assumption)
                                   have hx64 := bt_at a0 (ji61)
                                   replace p64 := eq_true p64
                                   replace q64 := eq_true q64
                                   have p99 : 0 ≤ (x4_1 : Int) := of_decide_eq_true (by first | (with_reducible assumption) | assumption)
                                   have q99 : (x4_1 : Int) < ((x3_1.length : Int) : Int) := of_decide_eq_true (by first | (with_reducible assumption) | assumption)
                                   obtain ⟨go99, co99, eo99, gb99, gl99, cl99, HG99⟩ := Kd.R_form HO_3.out (by omega)
                                   (first | cases eo99 | (injection eo99 with ea_ en_ ec_; (first | subst ea_ | (injection ea_ with ea_; subst ea_)); subst ec_; clear en_))
                                   have GB99 := Aside0.mk gb99
                                   have GG99 := Aside0.mk HG99
                                   clear gb99 gl99 HG99
                                   obtain ⟨hx99_0, hf99_0⟩ := Kd.R_celln 0 HO_3.out (x4_1 : Int) p99 q99
                                   replace p99 := eq_true p99
                                   replace q99 := eq_true q99
                                   have HP100 := Kd.R_putg HO_3.out (x4_1 : Int) (bt a0 x5_1)
                                   go_wp2_with (first | ((with_reducible refine gate_store (t := 5) (p := 104) rfl ?_); refine store_event (t := 5) (p := 104) (v := ?vo_w101) (w1 := (wr.setCell ⟨go99, (x4_1 : Int).toNat, none⟩ (.int .u8 (bt a0 x5_1)))) ?hg ?ho ?hn ?hr ?_; (case ho => rfl); (case hg => rfl); (case hn => rfl); (case hr => first | (go_simp; done) | (go_simp; rfl)); intro w101 hw; have hg : wr.grownBy w101 (some go99) := (by rw [hw]; exact HP100.2); have hp_ : Kd.R (Kd.int .u8) 5 w101 w.heap.size (fun _ => True) (.slice (some ⟨go99, 0, none⟩) x3_1.length co99) y122 := (by rw [hw, Ny122.out]; exact HP100.1); clear HP100; have n0_ := Aside0.mk (hp_); have n1_ := Aside0.mk ((by rw [hw]; exact below_set (HB.out) GB99.out : Below w.heap.size w w101)); clear HO_3; clear HB; have HO_3 := n0_; have HB := n1_; clear n0_ n1_; clear hg hw hp_))
                                   go_roundg k1
                                   case measure => have := HK1.out; omega
                                   case rel => exact ⟨(y122), (wrap64 (x4_1 + 1)), (ji13), (by first | rfl | (simp; done) | (simp [*]; done)), (by first | rfl | (simp; done) | (simp only [← hji13] <;> (first | rfl | simp)) | (simp [*]; done)), H', ⟨by have := HK1.out; omega⟩, ⟨by (with_reducible repeat (first | apply Kd.R_alloc | apply Kd.R_drewN | apply Kd.R_drew)); exact HO_3.out⟩, ⟨by repeat (first | (with_reducible first | exact HB.out | apply below_alloc | apply pw_below_drewN | apply below_drew1) | exact HB.out)⟩⟩
                                 · rw [if_neg c98] at H
                                   exact absurd H (by simp)
                               · rw [if_neg c97] at H
                                 exact absurd H (by simp)
                           · rw [if_neg c63] at H
                             exact absurd H (by simp)
                         · rw [if_neg c62] at H
                           exact absurd H (by simp)
                       · rw [if_neg c60] at H
                         have c60b0 : ((bt a0 (ji13)) == 49) = false := beq_eq_false_iff_ne.mpr c60
                         have c60b1 : ((bt a0 (ji13)) != 49) = true := bne_iff_ne.mpr c60
                         by_cases c102 : 0 ≤ x4_1
                         · rw [if_pos c102] at H
                           have c102b0 : decide (0 ≤ x4_1) = true := decide_eq_true c102
                           clear c102
                           by_cases c103 : x4_1 < (x3_1.length : Int)
                           · rw [if_pos c103] at H
                             have c103b0 : decide (x4_1 < (x3_1.length : Int)) = true := decide_eq_true c103
                             clear c103
                             obtain ⟨y123, hy123⟩ : ∃ y_ : List Int, y_ = (x3_1.set (x4_1 : Int).toNat (bt a0 x5_1)) := ⟨_, rfl⟩
                             replace H : (mountinfo_unescape.l0 k1 a0 y123 (wrap64 (x4_1 + 1)) ji13) = some r := by first | (rw [hy123]; with_reducible exact H) | (have H2_ := (Option.bind_some _ _).symm.trans H; rw [hy123]; with_reducible exact H2_) | (have H2_ := (Option.bind_some _ _).symm.trans H; with_reducible exact H2_) | with_reducible exact H | (rw [hy123]; exact H) | exact H
                             have Ny123 := Aside0.mk hy123
                             clear hy123
                             have H' := Aside0.mk H
                             clear H
                             have p10 : 0 ≤ (x5_1 : Int) := of_decide_eq_true (by first | (with_reducible assumption) | assumption)
                             have q10 : x5_1 < (a0.size : Int) := of_decide_eq_true (by first | (with_reducible assumption) | assumption)
                             have hx10 := bt_at a0 x5_1
                             replace p10 := eq_true p10
                             replace q10 := eq_true q10
                             have p16 : 0 ≤ ((ji13) : Int) := of_decide_eq_true (by first | (with_reducible assumption) | assumption)
                             have q16 : (ji13) < (a0.size : Int) := of_decide_eq_true (by first | (with_reducible assumption) | assumption)
                             have hx16 := bt_at a0 (ji13)
                             replace p16 := eq_true p16
                             replace q16 := eq_true q16
                             have p59 : 0 ≤ ((ji13) : Int) := of_decide_eq_true (by first | (with_reducible assumption) | assumption)
                             have q59 : (ji13) < (a0.size : Int) := of_decide_eq_true (by first | (with_reducible assumption) | assumption)
                             have hx59 := bt_at a0 (ji13)
                             replace p59 := eq_true p59
                             replace q59 := eq_true q59
                             have p104 : 0 ≤ (x4_1 : Int) := of_decide_eq_true (by first | (with_reducible assumption) | assumption)
                             have q104 : (x4_1 : Int) < ((x3_1.length : Int) : Int) := of_decide_eq_true (by first | (with_reducible assumption) | assumption)
                             obtain ⟨go104, co104, eo104, gb104, gl104, cl104, HG104⟩ := Kd.R_form HO_3.out (by omega)
                             (first | cases eo104 | (injection eo104 with ea_ en_ ec_; (first | subst ea_ | (injection ea_ with ea_; subst ea_)); subst ec_; clear en_))
                             have GB104 := Aside0.mk gb104
                             have GG104 := Aside0.mk HG104
                             clear gb104 gl104 HG104
                             obtain ⟨hx104_0, hf104_0⟩ := Kd.R_celln 0 HO_3.out (x4_1 : Int) p104 q104
                             replace p104 := eq_true p104
                             replace q104 := eq_true q104
                             have HP105 := Kd.R_putg HO_3.out (x4_1 : Int) (bt a0 x5_1)
                             go_wp2_with (first | ((with_reducible refine gate_store (t := 5) (p := 104) rfl ?_); refine store_event (t := 5) (p := 104) (v := ?vo_w106) (w1 := (wr.setCell ⟨go104, (x4_1 : Int).toNat, none⟩ (.int .u8 (bt a0 x5_1)))) ?hg ?ho ?hn ?hr ?_; (case ho => rfl); (case hg => rfl); (case hn => rfl); (case hr => first | (go_simp; done) | (go_simp; rfl)); intro w106 hw; have hg : wr.grownBy w106 (some go104) := (by rw [hw]; exact HP105.2); have hp_ : Kd.R (Kd.int .u8) 5 w106 w.heap.size (fun _ => True) (.slice (some ⟨go104, 0, none⟩) x3_1.length co104) y123 := (by rw [hw, Ny123.out]; exact HP105.1); clear HP105; have n0_ := Aside0.mk (hp_); have n1_ := Aside0.mk ((by rw [hw]; exact below_set (HB.out) GB104.out : Below w.heap.size w w106)); clear HO_3; clear HB; have HO_3 := n0_; have HB := n1_; clear n0_ n1_; clear hg hw hp_))
                             go_roundg k1
                             case measure => have := HK1.out; omega
                             case rel => exact ⟨(y123), (wrap64 (x4_1 + 1)), (ji13), (by first | rfl | (simp; done) | (simp [*]; done)), (by first | rfl | (simp; done) | (simp only [← hji13] <;> (first | rfl | simp)) | (simp [*]; done)), H', ⟨by have := HK1.out; omega⟩, ⟨by (with_reducible repeat (first | apply Kd.R_alloc | apply Kd.R_drewN | apply Kd.R_drew)); exact HO_3.out⟩, ⟨by repeat (first | (with_reducible first | exact HB.out | apply below_alloc | apply pw_below_drewN | apply below_drew1) | exact HB.out)⟩⟩
                           · rw [if_neg c103] at H
                             exact absurd H (by simp)
                         · rw [if_neg c102] at H
                           exact absurd H (by simp)
                   · rw [if_neg c15] at H
                     exact absurd H (by simp)
                 · rw [if_neg c14] at H
                   exact absurd H (by simp)
               · rw [if_neg c12] at H
                 have c12b0 : decide ((wrap64 (x5_1 + 3)) < (a0.size : Int)) = false := decide_eq_false c12
                 clear c12
                 by_cases c107 : 0 ≤ x4_1
                 · rw [if_pos c107] at H
                   have c107b0 : decide (0 ≤ x4_1) = true := decide_eq_true c107
                   clear c107
                   by_cases c108 : x4_1 < (x3_1.length : Int)
                   · rw [if_pos c108] at H
                     have c108b0 : decide (x4_1 < (x3_1.length : Int)) = true := decide_eq_true c108
                     clear c108
                     obtain ⟨y124, hy124⟩ : ∃ y_ : List Int, y_ = (x3_1.set (x4_1 : Int).toNat (bt a0 x5_1)) := ⟨_, rfl⟩
                     replace H : (mountinfo_unescape.l0 k1 a0 y124 (wrap64 (x4_1 + 1)) (wrap64 (x5_1 + 1))) = some r := by first | (rw [hy124]; with_reducible exact H) | (have H2_ := (Option.bind_some _ _).symm.trans H; rw [hy124]; with_reducible exact H2_) | (have H2_ := (Option.bind_some _ _).symm.trans H; with_reducible exact H2_) | with_reducible exact H | (rw [hy124]; exact H) | exact H
                     have Ny124 := Aside0.mk hy124
                     clear hy124
                     have H' := Aside0.mk H
                     clear H
                     have p10 : 0 ≤ (x5_1 : Int) := of_decide_eq_true (by first | (with_reducible assumption) | assumption)
                     have q10 : x5_1 < (a0.size : Int) := of_decide_eq_true (by first | (with_reducible assumption) | assumption)
                     have hx10 := bt_at a0 x5_1
                     replace p10 := eq_true p10
                     replace q10 := eq_true q10
                     have p109 : 0 ≤ (x4_1 : Int) := of_decide_eq_true (by first | (with_reducible assumption) | assumption)
                     have q109 : (x4_1 : Int) < ((x3_1.length : Int) : Int) := of_decide_eq_true (by first | (with_reducible assumption) | assumption)
                     obtain ⟨go109, co109, eo109, gb109, gl109, cl109, HG109⟩ := Kd.R_form HO_3.out (by omega)
                     (first | cases eo109 | (injection eo109 with ea_ en_ ec_; (first | subst ea_ | (injection ea_ with ea_; subst ea_)); subst ec_; clear en_))
                     have GB109 := Aside0.mk gb109
                     have GG109 := Aside0.mk HG109
                     clear gb109 gl109 HG109
                     obtain ⟨hx109_0, hf109_0⟩ := Kd.R_celln 0 HO_3.out (x4_1 : Int) p109 q109
                     replace p109 := eq_true p109
                     replace q109 := eq_true q109
                     have HP110 := Kd.R_putg HO_3.out (x4_1 : Int) (bt a0 x5_1)
                     go_wp2_with (first | ((with_reducible refine gate_store (t := 5) (p := 104) rfl ?_); refine store_event (t := 5) (p := 104) (v := ?vo_w111) (w1 := (wr.setCell ⟨go109, (x4_1 : Int).toNat, none⟩ (.int .u8 (bt a0 x5_1)))) ?hg ?ho ?hn ?hr ?_; (case ho => rfl); (case hg => rfl); (case hn => rfl); (case hr => first | (go_simp; done) | (go_simp; rfl)); intro w111 hw; have hg : wr.grownBy w111 (some go109) := (by rw [hw]; exact HP110.2); have hp_ : Kd.R (Kd.int .u8) 5 w111 w.heap.size (fun _ => True) (.slice (some ⟨go109, 0, none⟩) x3_1.length co109) y124 := (by rw [hw, Ny124.out]; exact HP110.1); clear HP110; have n0_ := Aside0.mk (hp_); have n1_ := Aside0.mk ((by rw [hw]; exact below_set (HB.out) GB109.out : Below w.heap.size w w111)); clear HO_3; clear HB; have HO_3 := n0_; have HB := n1_; clear n0_ n1_; clear hg hw hp_))
                     go_roundg k1
                     case measure => have := HK1.out; omega
                     case rel => exact ⟨(y124), (wrap64 (x4_1 + 1)), (wrap64 (x5_1 + 1)), (by first | rfl | (simp; done) | (simp [*]; done)), (by first | rfl | (simp; done) | (simp [*]; done)), H', ⟨by have := HK1.out; omega⟩, ⟨by (with_reducible repeat (first | apply Kd.R_alloc | apply Kd.R_drewN | apply Kd.R_drew)); exact HO_3.out⟩, ⟨by repeat (first | (with_reducible first | exact HB.out | apply below_alloc | apply pw_below_drewN | apply below_drew1) | exact HB.out)⟩⟩
                   · rw [if_neg c108] at H
                     exact absurd H (by simp)
                 · rw [if_neg c107] at H
                   exact absurd H (by simp)
             · rw [if_neg c11] at H
               have c11b0 : ((bt a0 x5_1) == 92) = false := beq_eq_false_iff_ne.mpr c11
               have c11b1 : ((bt a0 x5_1) != 92) = true := bne_iff_ne.mpr c11
               by_cases c112 : 0 ≤ x4_1
               · rw [if_pos c112] at H
                 have c112b0 : decide (0 ≤ x4_1) = true := decide_eq_true c112
                 clear c112
                 by_cases c113 : x4_1 < (x3_1.length : Int)
                 · rw [if_pos c113] at H
                   have c113b0 : decide (x4_1 < (x3_1.length : Int)) = true := decide_eq_true c113
                   clear c113
                   obtain ⟨y125, hy125⟩ : ∃ y_ : List Int, y_ = (x3_1.set (x4_1 : Int).toNat (bt a0 x5_1)) := ⟨_, rfl⟩
                   replace H : (mountinfo_unescape.l0 k1 a0 y125 (wrap64 (x4_1 + 1)) (wrap64 (x5_1 + 1))) = some r := by first | (rw [hy125]; with_reducible exact H) | (have H2_ := (Option.bind_some _ _).symm.trans H; rw [hy125]; with_reducible exact H2_) | (have H2_ := (Option.bind_some _ _).symm.trans H; with_reducible exact H2_) | with_reducible exact H | (rw [hy125]; exact H) | exact H
                   have Ny125 := Aside0.mk hy125
                   clear hy125
                   have H' := Aside0.mk H
                   clear H
                   have p10 : 0 ≤ (x5_1 : Int) := of_decide_eq_true (by first | (with_reducible assumption) | assumption)
                   have q10 : x5_1 < (a0.size : Int) := of_decide_eq_true (by first | (with_reducible assumption) | assumption)
                   have hx10 := bt_at a0 x5_1
                   replace p10 := eq_true p10
                   replace q10 := eq_true q10
                   have p114 : 0 ≤ (x4_1 : Int) := of_decide_eq_true (by first | (with_reducible assumption) | assumption)
                   have q114 : (x4_1 : Int) < ((x3_1.length : Int) : Int) := of_decide_eq_true (by first | (with_reducible assumption) | assumption)
                   obtain ⟨go114, co114, eo114, gb114, gl114, cl114, HG114⟩ := Kd.R_form HO_3.out (by omega)
                   (first | cases eo114 | (injection eo114 with ea_ en_ ec_; (first | subst ea_ | (injection ea_ with ea_; subst ea_)); subst ec_; clear en_))
                   have GB114 := Aside0.mk gb114
                   have GG114 := Aside0.mk HG114
                   clear gb114 gl114 HG114
                   obtain ⟨hx114_0, hf114_0⟩ := Kd.R_celln 0 HO_3.out (x4_1 : Int) p114 q114
                   replace p114 := eq_true p114
                   replace q114 := eq_true q114
                   have HP115 := Kd.R_putg HO_3.out (x4_1 : Int) (bt a0 x5_1)
                   go_wp2_with (first | ((with_reducible refine gate_store (t := 5) (p := 104) rfl ?_); refine store_event (t := 5) (p := 104) (v := ?vo_w116) (w1 := (wr.setCell ⟨go114, (x4_1 : Int).toNat, none⟩ (.int .u8 (bt a0 x5_1)))) ?hg ?ho ?hn ?hr ?_; (case ho => rfl); (case hg => rfl); (case hn => rfl); (case hr => first | (go_simp; done) | (go_simp; rfl)); intro w116 hw; have hg : wr.grownBy w116 (some go114) := (by rw [hw]; exact HP115.2); have hp_ : Kd.R (Kd.int .u8) 5 w116 w.heap.size (fun _ => True) (.slice (some ⟨go114, 0, none⟩) x3_1.length co114) y125 := (by rw [hw, Ny125.out]; exact HP115.1); clear HP115; have n0_ := Aside0.mk (hp_); have n1_ := Aside0.mk ((by rw [hw]; exact below_set (HB.out) GB114.out : Below w.heap.size w w116)); clear HO_3; clear HB; have HO_3 := n0_; have HB := n1_; clear n0_ n1_; clear hg hw hp_))
                   go_roundg k1
                   case measure => have := HK1.out; omega
                   case rel => exact ⟨(y125), (wrap64 (x4_1 + 1)), (wrap64 (x5_1 + 1)), (by first | rfl | (simp; done) | (simp [*]; done)), (by first | rfl | (simp; done) | (simp [*]; done)), H', ⟨by have := HK1.out; omega⟩, ⟨by (with_reducible repeat (first | apply Kd.R_alloc | apply Kd.R_drewN | apply Kd.R_drew)); exact HO_3.out⟩, ⟨by repeat (first | (with_reducible first | exact HB.out | apply below_alloc | apply pw_below_drewN | apply below_drew1) | exact HB.out)⟩⟩
                 · rw [if_neg c113] at H
                   exact absurd H (by simp)
               · rw [if_neg c112] at H
                 exact absurd H (by simp)
           · rw [if_neg c9] at H
             exact absurd H (by simp)
         · rw [if_neg c8] at H
           have c8b0 : decide (x5_1 < (a0.size : Int)) = false := decide_eq_false c8
           clear c8
           by_cases c117 : 0 ≤ x4_1
           · rw [if_pos c117] at H
             have c117b0 := eq_true c117
             have c117b1 : decide (0 ≤ x4_1) = true := decide_eq_true c117
             clear c117
             by_cases c118 : x4_1 ≤ (x3_1.length : Int)
             · rw [if_pos c118] at H
               have c118b0 := eq_true c118
               have c118b1 : decide (x4_1 ≤ (x3_1.length : Int)) = true := decide_eq_true c118
               clear c118
               obtain ⟨y126, hy126⟩ : ∃ y_ : List Int, y_ = (x3_1.take (x4_1 : Int).toNat) := ⟨_, rfl⟩
               replace H : (some (strOfNums y126)) = some r := by first | (rw [hy126]; with_reducible exact H) | (have H2_ := (Option.bind_some _ _).symm.trans H; rw [hy126]; with_reducible exact H2_) | (have H2_ := (Option.bind_some _ _).symm.trans H; with_reducible exact H2_) | with_reducible exact H | (rw [hy126]; exact H) | exact H
               have Ny126 := Aside0.mk hy126
               clear hy126
               obtain rfl := Option.some.inj H
               obtain ⟨Ao120, co120, eo120⟩ := Kd.R_slice HO_3.out
               subst eo120
               have q119 : (x4_1 : Int) ≤ ((x3_1.length : Int) : Int) := of_decide_eq_true (by first | (with_reducible assumption) | assumption)
               obtain ⟨i0119, hi0119, _, hsz119, _⟩ := info_parts info5
               have hroom119 : x3_1.length ≤ co120 := (Kd.R_reads' HO_3.out).2.1
               have hC119 : Kd.C (Kd.int .u8) _ Ao120 x3_1.length x3_1 := (Kd.R_reads' HO_3.out).2.2
               have hcut119 := cut_to (P := Tryd.prog) 83 5 .i64 Tryd.underlying83 hi0119 Ao120 x3_1.length co120 x4_1 (of_decide_eq_true (by first | (with_reducible assumption) | assumption)) q119 hroom119
               have hr119 := Kd.C_take (m := (x4_1 : Int).toNat) hC119 (by omega)
               have hy119 : y126.length = (x4_1 : Int).toNat := (by rw [Ny126.out, List.length_take]; omega)
               rw [← Ny126.out] at hr119
               rw [← hy119] at hcut119
               have HR129 := Aside0.mk hr119
               have HC129 := Aside0.mk (show y126.length ≤ co120 from by omega)
               clear hr119 hC119 hroom119 hi0119 hsz119
               have KY119 := Aside0.mk hy119
               clear hy119
               have KL119 := Aside0.mk (show (x4_1 : Int).toNat ≤ x3_1.length from by omega)
               replace q119 := eq_true q119
               have hcv121 := Kd.C_string (P := Tryd.prog) (A := Ao120) (c := co120) Tryd.underlying83 Tryd.underlying5 Tryd.underlying9 (by repeat (first | (with_reducible exact HR129.out) | (with_reducible refine Kd.C_alloc ?_ _) | (with_reducible refine Kd.C_drewN ?_ _) | (with_reducible refine Kd.C_drew ?_) | exact HR129.out))
               go_wp2
               go_ret
               exact ⟨by first | rfl | (simp [errW_none, errW_some] <;> rfl) | (simp [*, errW_none, errW_some] <;> rfl), by repeat (first | (with_reducible first | exact HB.out | apply below_alloc | apply pw_below_drewN | apply below_drew1) | exact HB.out)⟩
             · rw [if_neg c118] at H
               exact absurd H (by simp)
           · rw [if_neg c117] at H
             exact absurd H (by simp)
     · rw [if_neg c5] at H
       exact absurd H (by simp)
   · rw [if_neg c4] at H
     exact absurd H (by simp)
end Go.Proofs.YtcpldcndhijecaaDoor.QT0
