-- Written by a program of this session (wip/tools/myprint.py), over the kit's print of the loaded functions. Not trusted: Lean checks it.
import Derived.Test.YtabfehcpcjcomaaDoorProg
import Derived.Below
import Derived.Deep.Draws
import Derived.Deep.AppendLies
import Derived.Maps.AppendAt
import Derived.OwnWalk
import Derived.Laws.BytesArg
import Derived.Laws.MakeOwn
import Derived.Laws.OwnMore
import Derived.Deep.OwnRows
import Derived.Tactics
import Derived.Lib.ConvBytes
import Derived.Laws.Slices
import Derived.WalkKit
import Derived.KernelRfl
import Derived.RowKit3
import Derived.Deep.LoopGhost
import Derived.Deep.QuietTactic
import Derived.BigQuiet
import Derived.WideLaws
import Derived.Deep.DeepCutAuto
import Derived.Deep.CutBlock
import Derived.Deep.RegionHeld3
import Derived.Laws.Rows
import Derived.Lib.AppendStr
import Derived.ArgAppend
import Derived.Laws.IdiomCopy
import Derived.OrdersHeld
import Derived.Laws.BitsLemmas
import Derived.RowKit
import Derived.Test.YtabfehcpcjcomaaDoorFl
import Derived.Test.YtabfehcpcjcomaaDoorWWords
import Derived.Test.YtabfehcpcjcomaaDoorWLast
import Derived.Test.YtabfehcpcjcomaaDoorWTab
import Derived.Test.YtabfehcpcjcomaaDoorWFour
import Derived.Test.YtabfehcpcjcomaaDoorWQPut
import Derived.Test.YtabfehcpcjcomaaDoorWApart
import Derived.Test.YtabfehcpcjcomaaDoorWArr
import Derived.Test.YtabfehcpcjcomaaDoorWZeros
import Derived.Test.YtabfehcpcjcomaaDoorWFoot
import Derived.Test.YtabfehcpcjcomaaDoorWKept
import Derived.Test.YtabfehcpcjcomaaDoorWShare
import Derived.Test.YtabfehcpcjcomaaDoorWN
import Derived.Test.YtabfehcpcjcomaaDoorWFootNe
import Derived.Test.YtabfehcpcjcomaaDoorWAt
import Derived.Test.YtabfehcpcjcomaaDoorWEqStruct
import Derived.Test.YtabfehcpcjcomaaDoorWRepsOne
import Derived.Test.YtabfehcpcjcomaaDoorWInv
import Derived.Test.YtabfehcpcjcomaaDoorWInvWords
import Derived.Test.YtabfehcpcjcomaaDoorWGuard
import Derived.Test.YtabfehcpcjcomaaDoorWNEv
import Derived.Test.YtabfehcpcjcomaaDoorWMore
namespace Go.Proofs.YtabfehcpcjcomaaDoor.QP1
open Go.RowKit Go.Proofs.YtabfehcpcjcomaaDoorW.PrintWords Go.Proofs.YtabfehcpcjcomaaDoorW.PrintLast Go.Proofs.YtabfehcpcjcomaaDoorW.PrintMore
attribute [local go_sem] max2_int min2_int max_two min_two max_three min_three max_four min_four   -- for this text's walks alone
set_option linter.unusedVariables false
set_option linter.unusedSimpArgs false



def errW : Option Int → Value
  | none => .nilIface
  | some c => .iface 89 (.int .i64 c)
theorem errW_none : errW none = .nilIface := rfl
theorem errW_some (c : Int) : errW (some c) = .iface 89 (.int .i64 c) := rfl

theorem info9 : (Tryd.prog.info? 9).map (fun i => (i.zero, i.size, i.bytes)) = some (some (.string ⟨#[]⟩), 1, 16) := by kernel_rfl
theorem info22 : (Tryd.prog.info? 22).map (fun i => (i.zero, i.size, i.bytes)) = some (some (.int .u64 0), 1, 8) := by kernel_rfl
theorem info26 : (Tryd.prog.info? 26).map (fun i => (i.zero, i.size, i.bytes)) = some (some (.agg #[(.string ⟨#[]⟩), (.int .i64 0), (.bool false), (.int .i64 0), (.int .u64 0), (.float .f64 0), (.string ⟨#[]⟩), (.slice none 0 0)]), 8, 96) := by kernel_rfl
-- the values' own types
/-! #### struct type 26, nested in itself -/
structure S26 where
  f0 : ByteArray
  f1 : Int
  f2 : Bool
  f3 : Int
  f4 : Int
  f5 : Nat
  f6 : ByteArray
  f7 : (List S26)
def z26 : S26 := ⟨(⟨#[]⟩ : ByteArray), (0 : Int), false, (0 : Int), (0 : Int), 0, (⟨#[]⟩ : ByteArray), ([] : List S26)⟩
def F26 (d : Kd S26) : Kd S26 := Kd.iso (Kd.pair Kd.string (Kd.pair (Kd.int .i64) (Kd.pair Kd.bool (Kd.pair (Kd.int .i64) (Kd.pair (Kd.int .u64) (Kd.pair kF64 (Kd.pair Kd.string (Kd.slice 26 d)))))))) (fun x : S26 => (x.f0, x.f1, x.f2, x.f3, x.f4, x.f5, x.f6, x.f7))
theorem mono26 : Kd.Mono F26 := Kd.mono_iso _ (Kd.mono_pair (Kd.mono_const _) (Kd.mono_pair (Kd.mono_const _) (Kd.mono_pair (Kd.mono_const _) (Kd.mono_pair (Kd.mono_const _) (Kd.mono_pair (Kd.mono_const _) (Kd.mono_pair (Kd.mono_const _) (Kd.mono_pair (Kd.mono_const _) (Kd.mono_slice 26 Kd.mono_id))))))))
theorem sub26 : Kd.Sub F26 [26] := Kd.sub_iso _ (Kd.sub_pair (Kd.sub_const _ (by decide)) (Kd.sub_pair (Kd.sub_const _ (by decide)) (Kd.sub_pair (Kd.sub_const _ (by decide)) (Kd.sub_pair (Kd.sub_const _ (by decide)) (Kd.sub_pair (Kd.sub_const _ (by decide)) (Kd.sub_pair (Kd.sub_const _ (by decide)) (Kd.sub_pair (Kd.sub_const _ (by decide)) (Kd.sub_slice 26 (by decide) Kd.sub_id))))))))
theorem sz26 : ∀ n, (Kd.upto F26 8 [26] n).sz = 8 := Kd.upto_sz (fun _ => rfl)
def k26 : Kd S26 := Kd.fix F26 8 [26] sz26 (Kd.upto_E sub26)
theorem k26_open {w : World} {x : S26} {cs : List Value} (h : k26.K w x cs) : ∃ A7 c7, cs = [.string x.f0, .int .i64 x.f1, .bool x.f2, .int .i64 x.f3, .int .u64 x.f4, .float .f64 x.f5, .string x.f6, .slice A7 x.f7.length c7] ∧ x.f7.length ≤ c7 ∧ k26.C w A7 x.f7.length x.f7 := by
  obtain ⟨n, h⟩ := h
  cases n with
  | zero => exact h.elim
  | succ n =>
    obtain ⟨_, _, rfl, rfl, ⟨_, _, rfl, rfl, ⟨_, _, rfl, rfl, ⟨_, _, rfl, rfl, ⟨_, _, rfl, rfl, ⟨_, _, rfl, rfl, ⟨_, _, rfl, rfl, ⟨A7, c7, rfl, l7, g7⟩⟩⟩⟩⟩⟩⟩⟩ := h
    exact ⟨A7, c7, rfl, l7, Kd.fix_C g7⟩
theorem k26_openM {w : World} {base : Nat} {ok : Nat → Prop} {x : S26} {cs : List Value} (h : k26.M w base ok x cs) : ∃ v7, cs = [.string x.f0, .int .i64 x.f1, .bool x.f2, .int .i64 x.f3, .int .u64 x.f4, .float .f64 x.f5, .string x.f6, v7] ∧ k26.R 26 w base ok v7 x.f7 := by
  obtain ⟨n, h⟩ := h
  cases n with
  | zero => exact h.elim
  | succ n =>
    obtain ⟨_, _, rfl, rfl, ⟨_, _, rfl, rfl, ⟨_, _, rfl, rfl, ⟨_, _, rfl, rfl, ⟨_, _, rfl, rfl, ⟨_, _, rfl, rfl, ⟨_, _, rfl, rfl, ⟨v7, rfl, g7⟩⟩⟩⟩⟩⟩⟩⟩ := h
    exact ⟨v7, rfl, Kd.fix_R g7⟩
theorem k26_mk (w : World) (x : S26) {A7 : Option Addr} {c7 : Nat} (l7 : x.f7.length ≤ c7) (g7 : k26.C w A7 x.f7.length x.f7) : k26.K w x [.string x.f0, .int .i64 x.f1, .bool x.f2, .int .i64 x.f3, .int .u64 x.f4, .float .f64 x.f5, .string x.f6, .slice A7 x.f7.length c7] := by
  obtain ⟨n7, q7⟩ := Kd.fix_C_back mono26 g7
  have r7 := Kd.upto_C_le mono26 sz26 (show n7 ≤ n7 by omega) q7
  exact ⟨n7 + 1, ⟨[.string x.f0], [.int .i64 x.f1, .bool x.f2, .int .i64 x.f3, .int .u64 x.f4, .float .f64 x.f5, .string x.f6, .slice A7 x.f7.length c7], rfl, rfl, ⟨[.int .i64 x.f1], [.bool x.f2, .int .i64 x.f3, .int .u64 x.f4, .float .f64 x.f5, .string x.f6, .slice A7 x.f7.length c7], rfl, rfl, ⟨[.bool x.f2], [.int .i64 x.f3, .int .u64 x.f4, .float .f64 x.f5, .string x.f6, .slice A7 x.f7.length c7], rfl, rfl, ⟨[.int .i64 x.f3], [.int .u64 x.f4, .float .f64 x.f5, .string x.f6, .slice A7 x.f7.length c7], rfl, rfl, ⟨[.int .u64 x.f4], [.float .f64 x.f5, .string x.f6, .slice A7 x.f7.length c7], rfl, rfl, ⟨[.float .f64 x.f5], [.string x.f6, .slice A7 x.f7.length c7], rfl, rfl, ⟨[.string x.f6], [.slice A7 x.f7.length c7], rfl, rfl, ⟨A7, c7, rfl, l7, r7⟩⟩⟩⟩⟩⟩⟩⟩⟩
theorem k26_mkM (w : World) (base : Nat) (ok : Nat → Prop) (x : S26) {v7 : Value} (g7 : k26.R 26 w base ok v7 x.f7) : k26.M w base ok x [.string x.f0, .int .i64 x.f1, .bool x.f2, .int .i64 x.f3, .int .u64 x.f4, .float .f64 x.f5, .string x.f6, v7] := by
  obtain ⟨n7, q7⟩ := Kd.fix_R_back mono26 g7
  have r7 := Kd.upto_R_le mono26 sz26 (show n7 ≤ n7 by omega) q7
  exact ⟨n7 + 1, ⟨[.string x.f0], [.int .i64 x.f1, .bool x.f2, .int .i64 x.f3, .int .u64 x.f4, .float .f64 x.f5, .string x.f6, v7], rfl, rfl, ⟨[.int .i64 x.f1], [.bool x.f2, .int .i64 x.f3, .int .u64 x.f4, .float .f64 x.f5, .string x.f6, v7], rfl, rfl, ⟨[.bool x.f2], [.int .i64 x.f3, .int .u64 x.f4, .float .f64 x.f5, .string x.f6, v7], rfl, rfl, ⟨[.int .i64 x.f3], [.int .u64 x.f4, .float .f64 x.f5, .string x.f6, v7], rfl, rfl, ⟨[.int .u64 x.f4], [.float .f64 x.f5, .string x.f6, v7], rfl, rfl, ⟨[.float .f64 x.f5], [.string x.f6, v7], rfl, rfl, ⟨[.string x.f6], [v7], rfl, rfl, ⟨v7, rfl, r7⟩⟩⟩⟩⟩⟩⟩⟩⟩
def rd_T26 (xs : List S26) (i : Int) : S26 := xs.getD i.toNat z26
theorem at_T26 {w : World} {A : Option Addr} {n : Nat} {xs : List S26} (h : Kd.C k26 w A n xs) (i : Int) (h0 : 0 ≤ i) (h1 : i < n) : ∃ ad A7 c7, A = some ad ∧ w.cell? (ad.add (i.toNat * 8)) = some (.string (rd_T26 xs i).f0) ∧ w.cell? ⟨(ad.add (i.toNat * 8)).block, (ad.add (i.toNat * 8)).off + 1, none⟩ = some (.int .i64 (rd_T26 xs i).f1) ∧ w.cell? ⟨(ad.add (i.toNat * 8)).block, (ad.add (i.toNat * 8)).off + 2, none⟩ = some (.bool (rd_T26 xs i).f2) ∧ w.cell? ⟨(ad.add (i.toNat * 8)).block, (ad.add (i.toNat * 8)).off + 3, none⟩ = some (.int .i64 (rd_T26 xs i).f3) ∧ w.cell? ⟨(ad.add (i.toNat * 8)).block, (ad.add (i.toNat * 8)).off + 4, none⟩ = some (.int .u64 (rd_T26 xs i).f4) ∧ w.cell? ⟨(ad.add (i.toNat * 8)).block, (ad.add (i.toNat * 8)).off + 5, none⟩ = some (.float .f64 (rd_T26 xs i).f5) ∧ w.cell? ⟨(ad.add (i.toNat * 8)).block, (ad.add (i.toNat * 8)).off + 6, none⟩ = some (.string (rd_T26 xs i).f6) ∧ w.cell? ⟨(ad.add (i.toNat * 8)).block, (ad.add (i.toNat * 8)).off + 7, none⟩ = some (.slice A7 (rd_T26 xs i).f7.length c7) ∧ (rd_T26 xs i).f7.length ≤ c7 ∧ k26.C w A7 (rd_T26 xs i).f7.length (rd_T26 xs i).f7 := by
  obtain ⟨ad, c, e, _, hK, hc0⟩ := Kd.C_get h z26 i h0 h1
  have hc : ∀ j u, c[j]? = some u → w.cell? (ad.add (i.toNat * 8 + j)) = some u := hc0
  obtain ⟨A7, c7, rfl, l7, g7⟩ := k26_open hK
  exact ⟨ad, A7, c7, e, hc 0 _ rfl, by rw [← add_field _ _ 1 (by omega)]; exact hc 1 _ rfl, by rw [← add_field _ _ 2 (by omega)]; exact hc 2 _ rfl, by rw [← add_field _ _ 3 (by omega)]; exact hc 3 _ rfl, by rw [← add_field _ _ 4 (by omega)]; exact hc 4 _ rfl, by rw [← add_field _ _ 5 (by omega)]; exact hc 5 _ rfl, by rw [← add_field _ _ 6 (by omega)]; exact hc 6 _ rfl, by rw [← add_field _ _ 7 (by omega)]; exact hc 7 _ rfl, l7, g7⟩

/-! #### struct type 118 -/
structure S118 where
  f0 : Int
  f1 : Int
  f2 : Int
def z118 : S118 := ⟨(0 : Int), (0 : Int), (0 : Int)⟩
def k118 : Kd S118 := Kd.iso (Kd.pair (Kd.int .u16) (Kd.pair (Kd.int .u16) (Kd.int .u16))) (fun x : S118 => (x.f0, x.f1, x.f2))
theorem k118_open {w : World} {x : S118} {cs : List Value} (h : k118.K w x cs) : cs = [.int .u16 x.f0, .int .u16 x.f1, .int .u16 x.f2] := by
  obtain ⟨_, _, rfl, rfl, ⟨_, _, rfl, rfl, rfl⟩⟩ := h
  exact rfl
theorem k118_openM {w : World} {base : Nat} {ok : Nat → Prop} {x : S118} {cs : List Value} (h : k118.M w base ok x cs) : cs = [.int .u16 x.f0, .int .u16 x.f1, .int .u16 x.f2] := by
  obtain ⟨_, _, rfl, rfl, ⟨_, _, rfl, rfl, rfl⟩⟩ := h
  exact rfl
theorem k118_mk (w : World) (x : S118)  : k118.K w x [.int .u16 x.f0, .int .u16 x.f1, .int .u16 x.f2] := ⟨[.int .u16 x.f0], [.int .u16 x.f1, .int .u16 x.f2], rfl, rfl, ⟨[.int .u16 x.f1], [.int .u16 x.f2], rfl, rfl, rfl⟩⟩
theorem k118_mkM (w : World) (base : Nat) (ok : Nat → Prop) (x : S118)  : k118.M w base ok x [.int .u16 x.f0, .int .u16 x.f1, .int .u16 x.f2] := ⟨[.int .u16 x.f0], [.int .u16 x.f1, .int .u16 x.f2], rfl, rfl, ⟨[.int .u16 x.f1], [.int .u16 x.f2], rfl, rfl, rfl⟩⟩
def rd_T118 (xs : List S118) (i : Int) : S118 := xs.getD i.toNat z118
theorem at_T118 {w : World} {A : Option Addr} {n : Nat} {xs : List S118} (h : Kd.C k118 w A n xs) (i : Int) (h0 : 0 ≤ i) (h1 : i < n) : ∃ ad , A = some ad ∧ w.cell? (ad.add (i.toNat * 3)) = some (.int .u16 (rd_T118 xs i).f0) ∧ w.cell? ⟨(ad.add (i.toNat * 3)).block, (ad.add (i.toNat * 3)).off + 1, none⟩ = some (.int .u16 (rd_T118 xs i).f1) ∧ w.cell? ⟨(ad.add (i.toNat * 3)).block, (ad.add (i.toNat * 3)).off + 2, none⟩ = some (.int .u16 (rd_T118 xs i).f2) := by
  obtain ⟨ad, c, e, _, hK, hc0⟩ := Kd.C_get h z118 i h0 h1
  have hc : ∀ j u, c[j]? = some u → w.cell? (ad.add (i.toNat * 3 + j)) = some u := hc0
  obtain rfl := k118_open hK
  exact ⟨ad, e, hc 0 _ rfl, by rw [← add_field _ _ 1 (by omega)]; exact hc 1 _ rfl, by rw [← add_field _ _ 2 (by omega)]; exact hc 2 _ rfl⟩

/-! #### struct type 121 -/
structure S121 where
  f0 : Int
  f1 : Int
  f2 : Int
def z121 : S121 := ⟨(0 : Int), (0 : Int), (0 : Int)⟩
def k121 : Kd S121 := Kd.iso (Kd.pair (Kd.int .u32) (Kd.pair (Kd.int .u32) (Kd.int .u32))) (fun x : S121 => (x.f0, x.f1, x.f2))
theorem k121_open {w : World} {x : S121} {cs : List Value} (h : k121.K w x cs) : cs = [.int .u32 x.f0, .int .u32 x.f1, .int .u32 x.f2] := by
  obtain ⟨_, _, rfl, rfl, ⟨_, _, rfl, rfl, rfl⟩⟩ := h
  exact rfl
theorem k121_openM {w : World} {base : Nat} {ok : Nat → Prop} {x : S121} {cs : List Value} (h : k121.M w base ok x cs) : cs = [.int .u32 x.f0, .int .u32 x.f1, .int .u32 x.f2] := by
  obtain ⟨_, _, rfl, rfl, ⟨_, _, rfl, rfl, rfl⟩⟩ := h
  exact rfl
theorem k121_mk (w : World) (x : S121)  : k121.K w x [.int .u32 x.f0, .int .u32 x.f1, .int .u32 x.f2] := ⟨[.int .u32 x.f0], [.int .u32 x.f1, .int .u32 x.f2], rfl, rfl, ⟨[.int .u32 x.f1], [.int .u32 x.f2], rfl, rfl, rfl⟩⟩
theorem k121_mkM (w : World) (base : Nat) (ok : Nat → Prop) (x : S121)  : k121.M w base ok x [.int .u32 x.f0, .int .u32 x.f1, .int .u32 x.f2] := ⟨[.int .u32 x.f0], [.int .u32 x.f1, .int .u32 x.f2], rfl, rfl, ⟨[.int .u32 x.f1], [.int .u32 x.f2], rfl, rfl, rfl⟩⟩
def rd_T121 (xs : List S121) (i : Int) : S121 := xs.getD i.toNat z121
theorem at_T121 {w : World} {A : Option Addr} {n : Nat} {xs : List S121} (h : Kd.C k121 w A n xs) (i : Int) (h0 : 0 ≤ i) (h1 : i < n) : ∃ ad , A = some ad ∧ w.cell? (ad.add (i.toNat * 3)) = some (.int .u32 (rd_T121 xs i).f0) ∧ w.cell? ⟨(ad.add (i.toNat * 3)).block, (ad.add (i.toNat * 3)).off + 1, none⟩ = some (.int .u32 (rd_T121 xs i).f1) ∧ w.cell? ⟨(ad.add (i.toNat * 3)).block, (ad.add (i.toNat * 3)).off + 2, none⟩ = some (.int .u32 (rd_T121 xs i).f2) := by
  obtain ⟨ad, c, e, _, hK, hc0⟩ := Kd.C_get h z121 i h0 h1
  have hc : ∀ j u, c[j]? = some u → w.cell? (ad.add (i.toNat * 3 + j)) = some u := hc0
  obtain rfl := k121_open hK
  exact ⟨ad, e, hc 0 _ rfl, by rw [← add_field _ _ 1 (by omega)]; exact hc 1 _ rfl, by rw [← add_field _ _ 2 (by omega)]; exact hc 2 _ rfl⟩

end Go.Proofs.YtabfehcpcjcomaaDoor.QP1
