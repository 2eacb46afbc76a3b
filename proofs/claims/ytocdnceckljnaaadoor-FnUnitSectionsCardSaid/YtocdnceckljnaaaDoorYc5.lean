/- The texts QV0x0, QV0x1, QV0x2, QV0x3, QV0x4, without what the claims do not use, laid together by a program of this session (wip/tools/bundle.py). Conditions: those of each theorem. -/
import Derived.Test.YtocdnceckljnaaaDoorYc4
import Derived.Test.YtocdnceckljnaaaDoorProg
import Derived.Below
import Derived.Deep.Draws
import Derived.Deep.AppendLies
import Derived.Maps.AppendAt
import Derived.OwnWalk
import Derived.Laws.BytesArg
import Derived.Laws.MakeOwn
import Derived.Laws.OwnMore
import Derived.Deep.OwnRows
import Derived.Tactics
import Derived.Lib.ConvBytes
import Derived.Laws.Slices
import Derived.WalkKit
import Derived.KernelRfl
import Derived.RowKit3
import Derived.Deep.LoopGhost
import Derived.Deep.QuietTactic
import Derived.BigQuiet
import Derived.WideLaws
import Derived.Deep.DeepCutAuto
import Derived.Deep.CutBlock
import Derived.Deep.RegionHeld3
import Derived.Laws.Rows
import Derived.Lib.AppendStr
import Derived.ArgAppend
import Derived.Laws.IdiomCopy
import Derived.OrdersHeld
import Derived.Laws.BitsLemmas
import Derived.RowKit
namespace Go.Proofs.YtocdnceckljnaaaDoor.QV0
open Go.RowKit Go.Proofs.YtocdnceckljnaaaDoorW.PrintWords Go.Proofs.YtocdnceckljnaaaDoorW.PrintLast Go.Proofs.YtocdnceckljnaaaDoorW.PrintMore
attribute [local go_sem] max2_int min2_int max_two min_two max_three min_three max_four min_four
set_option linter.unusedVariables false
set_option linter.unusedSimpArgs false
def errW : Option Int → Value
 | none => .nilIface
 | some c => .iface 0 (.int .i64 c)
theorem errW_none : errW none = .nilIface := rfl
theorem errW_some (c : Int) : errW (some c) = .iface 0 (.int .i64 c) := rfl
theorem info29 : (Tryd.prog.info? 29).map (fun i => (i.zero, i.size, i.bytes)) = some (some (.agg #[(.string ⟨#[]⟩), (.string ⟨#[]⟩), (.string ⟨#[]⟩)]), 3, 48) := by kernel_rfl
theorem info52 : (Tryd.prog.info? 52).map (fun i => (i.zero, i.size, i.bytes)) = some (some (.agg #[(.string ⟨#[]⟩), (.slice none 0 0)]), 2, 40) := by kernel_rfl
theorem info70 : (Tryd.prog.info? 70).map (fun i => (i.zero, i.size, i.bytes)) = some (some (.agg #[(.string ⟨#[]⟩), (.slice none 0 0)]), 2, 40) := by kernel_rfl
theorem info72 : (Tryd.prog.info? 72).map (fun i => (i.zero, i.size, i.bytes)) = some (some (.agg #[(.string ⟨#[]⟩), (.string ⟨#[]⟩)]), 2, 32) := by kernel_rfl
theorem info73 : (Tryd.prog.info? 73).map (fun i => (i.zero, i.size, i.bytes)) = some (some (.agg #[(.string ⟨#[]⟩), (.string ⟨#[]⟩), (.string ⟨#[]⟩)]), 3, 48) := by kernel_rfl
theorem info74 : (Tryd.prog.info? 74).map (fun i => (i.zero, i.size, i.bytes)) = some (some (.agg #[(.string ⟨#[]⟩), (.string ⟨#[]⟩)]), 2, 32) := by kernel_rfl
structure S29 where
 f0 : ByteArray
 f1 : ByteArray
 f2 : ByteArray
def z29 : S29 := ⟨(⟨#[]⟩ : ByteArray), (⟨#[]⟩ : ByteArray), (⟨#[]⟩ : ByteArray)⟩
def k29 : Kd S29 := Kd.iso (Kd.pair Kd.string (Kd.pair Kd.string Kd.string)) (fun x : S29 => (x.f0, x.f1, x.f2))
theorem k29_open {w : World} {x : S29} {cs : List Value} (h : k29.K w x cs) : cs = [.string x.f0, .string x.f1, .string x.f2] := by
 obtain ⟨_, _, rfl, rfl, ⟨_, _, rfl, rfl, rfl⟩⟩ := h
 exact rfl
theorem k29_mk (w : World) (x : S29)  : k29.K w x [.string x.f0, .string x.f1, .string x.f2] := ⟨[.string x.f0], [.string x.f1, .string x.f2], rfl, rfl, ⟨[.string x.f1], [.string x.f2], rfl, rfl, rfl⟩⟩
theorem k29_mkM (w : World) (base : Nat) (ok : Nat → Prop) (x : S29)  : k29.M w base ok x [.string x.f0, .string x.f1, .string x.f2] := ⟨[.string x.f0], [.string x.f1, .string x.f2], rfl, rfl, ⟨[.string x.f1], [.string x.f2], rfl, rfl, rfl⟩⟩
def rd_T29 (xs : List S29) (i : Int) : S29 := xs.getD i.toNat z29
theorem at_T29 {w : World} {A : Option Addr} {n : Nat} {xs : List S29} (h : Kd.C k29 w A n xs) (i : Int) (h0 : 0 ≤ i) (h1 : i < n) : ∃ ad , A = some ad ∧ w.cell? (ad.add (i.toNat * 3)) = some (.string (rd_T29 xs i).f0) ∧ w.cell? ⟨(ad.add (i.toNat * 3)).block, (ad.add (i.toNat * 3)).off + 1, none⟩ = some (.string (rd_T29 xs i).f1) ∧ w.cell? ⟨(ad.add (i.toNat * 3)).block, (ad.add (i.toNat * 3)).off + 2, none⟩ = some (.string (rd_T29 xs i).f2) := by
 obtain ⟨ad, c, e, _, hK, hc0⟩ := Kd.C_get h z29 i h0 h1
 have hc : ∀ j u, c[j]? = some u → w.cell? (ad.add (i.toNat * 3 + j)) = some u := hc0
 obtain rfl := k29_open hK
 exact ⟨ad, e, hc 0 _ rfl, by rw [← add_field _ _ 1 (by omega)]; exact hc 1 _ rfl, by rw [← add_field _ _ 2 (by omega)]; exact hc 2 _ rfl⟩
structure S73 where
 f0 : ByteArray
 f1 : ByteArray
 f2 : ByteArray
def z73 : S73 := ⟨(⟨#[]⟩ : ByteArray), (⟨#[]⟩ : ByteArray), (⟨#[]⟩ : ByteArray)⟩
def k73 : Kd S73 := Kd.iso (Kd.pair Kd.string (Kd.pair Kd.string Kd.string)) (fun x : S73 => (x.f0, x.f1, x.f2))
theorem k73_open {w : World} {x : S73} {cs : List Value} (h : k73.K w x cs) : cs = [.string x.f0, .string x.f1, .string x.f2] := by
 obtain ⟨_, _, rfl, rfl, ⟨_, _, rfl, rfl, rfl⟩⟩ := h
 exact rfl
theorem k73_mkM (w : World) (base : Nat) (ok : Nat → Prop) (x : S73)  : k73.M w base ok x [.string x.f0, .string x.f1, .string x.f2] := ⟨[.string x.f0], [.string x.f1, .string x.f2], rfl, rfl, ⟨[.string x.f1], [.string x.f2], rfl, rfl, rfl⟩⟩
def rd_T73 (xs : List S73) (i : Int) : S73 := xs.getD i.toNat z73
theorem at_T73 {w : World} {A : Option Addr} {n : Nat} {xs : List S73} (h : Kd.C k73 w A n xs) (i : Int) (h0 : 0 ≤ i) (h1 : i < n) : ∃ ad , A = some ad ∧ w.cell? (ad.add (i.toNat * 3)) = some (.string (rd_T73 xs i).f0) ∧ w.cell? ⟨(ad.add (i.toNat * 3)).block, (ad.add (i.toNat * 3)).off + 1, none⟩ = some (.string (rd_T73 xs i).f1) ∧ w.cell? ⟨(ad.add (i.toNat * 3)).block, (ad.add (i.toNat * 3)).off + 2, none⟩ = some (.string (rd_T73 xs i).f2) := by
 obtain ⟨ad, c, e, _, hK, hc0⟩ := Kd.C_get h z73 i h0 h1
 have hc : ∀ j u, c[j]? = some u → w.cell? (ad.add (i.toNat * 3 + j)) = some u := hc0
 obtain rfl := k73_open hK
 exact ⟨ad, e, hc 0 _ rfl, by rw [← add_field _ _ 1 (by omega)]; exact hc 1 _ rfl, by rw [← add_field _ _ 2 (by omega)]; exact hc 2 _ rfl⟩
structure S72 where
 f0 : ByteArray
 f1 : ByteArray
def z72 : S72 := ⟨(⟨#[]⟩ : ByteArray), (⟨#[]⟩ : ByteArray)⟩
def k72 : Kd S72 := Kd.iso (Kd.pair Kd.string Kd.string) (fun x : S72 => (x.f0, x.f1))
theorem k72_open {w : World} {x : S72} {cs : List Value} (h : k72.K w x cs) : cs = [.string x.f0, .string x.f1] := by
 obtain ⟨_, _, rfl, rfl, rfl⟩ := h
 exact rfl
theorem k72_mkM (w : World) (base : Nat) (ok : Nat → Prop) (x : S72)  : k72.M w base ok x [.string x.f0, .string x.f1] := ⟨[.string x.f0], [.string x.f1], rfl, rfl, rfl⟩
def rd_T72 (xs : List S72) (i : Int) : S72 := xs.getD i.toNat z72
theorem at_T72 {w : World} {A : Option Addr} {n : Nat} {xs : List S72} (h : Kd.C k72 w A n xs) (i : Int) (h0 : 0 ≤ i) (h1 : i < n) : ∃ ad , A = some ad ∧ w.cell? (ad.add (i.toNat * 2)) = some (.string (rd_T72 xs i).f0) ∧ w.cell? ⟨(ad.add (i.toNat * 2)).block, (ad.add (i.toNat * 2)).off + 1, none⟩ = some (.string (rd_T72 xs i).f1) := by
 obtain ⟨ad, c, e, _, hK, hc0⟩ := Kd.C_get h z72 i h0 h1
 have hc : ∀ j u, c[j]? = some u → w.cell? (ad.add (i.toNat * 2 + j)) = some u := hc0
 obtain rfl := k72_open hK
 exact ⟨ad, e, hc 0 _ rfl, by rw [← add_field _ _ 1 (by omega)]; exact hc 1 _ rfl⟩
structure S70 where
 f0 : ByteArray
 f1 : (List S72)
def z70 : S70 := ⟨(⟨#[]⟩ : ByteArray), ([] : List S72)⟩
def k70 : Kd S70 := Kd.iso (Kd.pair Kd.string (Kd.slice 72 k72)) (fun x : S70 => (x.f0, x.f1))
theorem k70_open {w : World} {x : S70} {cs : List Value} (h : k70.K w x cs) : ∃ A1 c1, cs = [.string x.f0, .slice A1 x.f1.length c1] ∧ x.f1.length ≤ c1 ∧ k72.C w A1 x.f1.length x.f1 := by
 obtain ⟨_, _, rfl, rfl, ⟨A1, c1, rfl, l1, g1⟩⟩ := h
 exact ⟨A1, c1, rfl, l1, g1⟩
theorem k70_openM {w : World} {base : Nat} {ok : Nat → Prop} {x : S70} {cs : List Value} (h : k70.M w base ok x cs) : ∃ v1, cs = [.string x.f0, v1] ∧ k72.R 72 w base ok v1 x.f1 := by
 obtain ⟨_, _, rfl, rfl, ⟨v1, rfl, g1⟩⟩ := h
 exact ⟨v1, rfl, g1⟩
theorem k70_mkM (w : World) (base : Nat) (ok : Nat → Prop) (x : S70) {v1 : Value} (g1 : k72.R 72 w base ok v1 x.f1) : k70.M w base ok x [.string x.f0, v1] := ⟨[.string x.f0], [v1], rfl, rfl, ⟨v1, rfl, g1⟩⟩
def rd_T70 (xs : List S70) (i : Int) : S70 := xs.getD i.toNat z70
theorem at_T70 {w : World} {A : Option Addr} {n : Nat} {xs : List S70} (h : Kd.C k70 w A n xs) (i : Int) (h0 : 0 ≤ i) (h1 : i < n) : ∃ ad A1 c1, A = some ad ∧ w.cell? (ad.add (i.toNat * 2)) = some (.string (rd_T70 xs i).f0) ∧ w.cell? ⟨(ad.add (i.toNat * 2)).block, (ad.add (i.toNat * 2)).off + 1, none⟩ = some (.slice A1 (rd_T70 xs i).f1.length c1) ∧ (rd_T70 xs i).f1.length ≤ c1 ∧ k72.C w A1 (rd_T70 xs i).f1.length (rd_T70 xs i).f1 := by
 obtain ⟨ad, c, e, _, hK, hc0⟩ := Kd.C_get h z70 i h0 h1
 have hc : ∀ j u, c[j]? = some u → w.cell? (ad.add (i.toNat * 2 + j)) = some u := hc0
 obtain ⟨A1, c1, rfl, l1, g1⟩ := k70_open hK
 exact ⟨ad, A1, c1, e, hc 0 _ rfl, by rw [← add_field _ _ 1 (by omega)]; exact hc 1 _ rfl, l1, g1⟩
structure S74 where
 f0 : ByteArray
 f1 : ByteArray
def z74 : S74 := ⟨(⟨#[]⟩ : ByteArray), (⟨#[]⟩ : ByteArray)⟩
def k74 : Kd S74 := Kd.iso (Kd.pair Kd.string Kd.string) (fun x : S74 => (x.f0, x.f1))
theorem k74_open {w : World} {x : S74} {cs : List Value} (h : k74.K w x cs) : cs = [.string x.f0, .string x.f1] := by
 obtain ⟨_, _, rfl, rfl, rfl⟩ := h
 exact rfl
theorem k74_mkM (w : World) (base : Nat) (ok : Nat → Prop) (x : S74)  : k74.M w base ok x [.string x.f0, .string x.f1] := ⟨[.string x.f0], [.string x.f1], rfl, rfl, rfl⟩
def rd_T74 (xs : List S74) (i : Int) : S74 := xs.getD i.toNat z74
theorem at_T74 {w : World} {A : Option Addr} {n : Nat} {xs : List S74} (h : Kd.C k74 w A n xs) (i : Int) (h0 : 0 ≤ i) (h1 : i < n) : ∃ ad , A = some ad ∧ w.cell? (ad.add (i.toNat * 2)) = some (.string (rd_T74 xs i).f0) ∧ w.cell? ⟨(ad.add (i.toNat * 2)).block, (ad.add (i.toNat * 2)).off + 1, none⟩ = some (.string (rd_T74 xs i).f1) := by
 obtain ⟨ad, c, e, _, hK, hc0⟩ := Kd.C_get h z74 i h0 h1
 have hc : ∀ j u, c[j]? = some u → w.cell? (ad.add (i.toNat * 2 + j)) = some u := hc0
 obtain rfl := k74_open hK
 exact ⟨ad, e, hc 0 _ rfl, by rw [← add_field _ _ 1 (by omega)]; exact hc 1 _ rfl⟩
structure S52 where
 f0 : ByteArray
 f1 : (List S74)
def z52 : S52 := ⟨(⟨#[]⟩ : ByteArray), ([] : List S74)⟩
def k52 : Kd S52 := Kd.iso (Kd.pair Kd.string (Kd.slice 74 k74)) (fun x : S52 => (x.f0, x.f1))
theorem k52_open {w : World} {x : S52} {cs : List Value} (h : k52.K w x cs) : ∃ A1 c1, cs = [.string x.f0, .slice A1 x.f1.length c1] ∧ x.f1.length ≤ c1 ∧ k74.C w A1 x.f1.length x.f1 := by
 obtain ⟨_, _, rfl, rfl, ⟨A1, c1, rfl, l1, g1⟩⟩ := h
 exact ⟨A1, c1, rfl, l1, g1⟩
theorem k52_openM {w : World} {base : Nat} {ok : Nat → Prop} {x : S52} {cs : List Value} (h : k52.M w base ok x cs) : ∃ v1, cs = [.string x.f0, v1] ∧ k74.R 74 w base ok v1 x.f1 := by
 obtain ⟨_, _, rfl, rfl, ⟨v1, rfl, g1⟩⟩ := h
 exact ⟨v1, rfl, g1⟩
theorem k52_mkM (w : World) (base : Nat) (ok : Nat → Prop) (x : S52) {v1 : Value} (g1 : k74.R 74 w base ok v1 x.f1) : k52.M w base ok x [.string x.f0, v1] := ⟨[.string x.f0], [v1], rfl, rfl, ⟨v1, rfl, g1⟩⟩
def rd_T52 (xs : List S52) (i : Int) : S52 := xs.getD i.toNat z52
theorem at_T52 {w : World} {A : Option Addr} {n : Nat} {xs : List S52} (h : Kd.C k52 w A n xs) (i : Int) (h0 : 0 ≤ i) (h1 : i < n) : ∃ ad A1 c1, A = some ad ∧ w.cell? (ad.add (i.toNat * 2)) = some (.string (rd_T52 xs i).f0) ∧ w.cell? ⟨(ad.add (i.toNat * 2)).block, (ad.add (i.toNat * 2)).off + 1, none⟩ = some (.slice A1 (rd_T52 xs i).f1.length c1) ∧ (rd_T52 xs i).f1.length ≤ c1 ∧ k74.C w A1 (rd_T52 xs i).f1.length (rd_T52 xs i).f1 := by
 obtain ⟨ad, c, e, _, hK, hc0⟩ := Kd.C_get h z52 i h0 h1
 have hc : ∀ j u, c[j]? = some u → w.cell? (ad.add (i.toNat * 2 + j)) = some u := hc0
 obtain ⟨A1, c1, rfl, l1, g1⟩ := k52_open hK
 exact ⟨ad, A1, c1, e, hc 0 _ rfl, by rw [← add_field _ _ 1 (by omega)]; exact hc 1 _ rfl, l1, g1⟩
end Go.Proofs.YtocdnceckljnaaaDoor.QV0
namespace Go.Proofs.YtocdnceckljnaaaDoor.QV0
open Go.RowKit Go.Proofs.YtocdnceckljnaaaDoorW.PrintWords Go.Proofs.YtocdnceckljnaaaDoorW.PrintLast Go.Proofs.YtocdnceckljnaaaDoorW.PrintMore
attribute [local go_sem] max2_int min2_int max_two min_two max_three min_three max_four min_four
set_option linter.unusedVariables false
set_option linter.unusedSimpArgs false
theorem eqA29 (d : Nat) (w : World) (x0 y0 : ByteArray) (x1 y1 : ByteArray) (x2 y2 : ByteArray) :
 (Op.equalIn (d + 2) 29 (.agg #[.string x0, .string x1, .string x2]) (.agg #[.string y0, .string y1, .string y2])).run Tryd.prog w = .ok (x0.toList == y0.toList && (x1.toList == y1.toList && (x2.toList == y2.toList))) w := by
 refine eqA_of Tryd.underlying29 (by kernel_rfl) ?_
 refine eqf_cons (by rfl) (by go_simp; rfl) (by go_simp; rfl) (by go_simp) ?_
 refine eqf_cons (by rfl) (by go_simp; rfl) (by go_simp; rfl) (by go_simp) ?_
 exact eqf_last (by rfl) (by go_simp; rfl) (by go_simp; rfl) (by go_simp)
end Go.Proofs.YtocdnceckljnaaaDoor.QV0
namespace Go.Proofs.YtocdnceckljnaaaDoor.QV0
open Go.RowKit Go.Proofs.YtocdnceckljnaaaDoorW.PrintWords Go.Proofs.YtocdnceckljnaaaDoorW.PrintLast Go.Proofs.YtocdnceckljnaaaDoorW.PrintMore
attribute [local go_sem] max2_int min2_int max_two min_two max_three min_three max_four min_four
set_option linter.unusedVariables false
set_option linter.unusedSimpArgs false
def laws_reads.f : Option Bool := some true
theorem laws_reads.calls (r : Bool) (w : World) (h : laws_reads.f = some r) (ht : U.Tabs w := by first | assumption | exact U.Tabs.below (Aside0.out ‹Aside0 (U.Tabs _)›) (by repeat (first | (with_reducible first | exact Aside0.out ‹Aside0 (Below _ _ _)› | apply below_alloc | apply pw_below_drewN | apply below_drew1)))) :
 Calls Tryd.prog 16 #[] w fun e w' => e = .returned (.bool r) ∧ Below w.heap.size w w' := by
 obtain rfl := Option.some.inj h
 exact U.reads_calls w ht
def laws_zzFits8.f (a0_0 : ByteArray) (a0_1 : ByteArray) (a0_2 : ByteArray) : Option (Bool) := if (a0_0.size : Int) > 2147483647 then (some false) else (if (a0_1.size : Int) > 2147483647 then (some false) else (if (a0_2.size : Int) > 2147483647 then (some false) else (some true)))
set_option maxHeartbeats 8000000 in
set_option maxRecDepth 100000 in
theorem laws_zzFits8.calls (a0_0 : ByteArray) (a0_1 : ByteArray) (a0_2 : ByteArray) (r : Bool) (w : World) (h : laws_zzFits8.f a0_0 a0_1 a0_2 = some r) :
 Calls Tryd.prog 14 #[.agg #[.string a0_0, .string a0_1, .string a0_2]] w fun e w' => e = .returned (.bool r) ∧ Below w.heap.size w w' := by
 have hu29 := Tryd.underlying29
 have HB := Aside0.mk (Below.refl w.heap.size w)
 have H : (if (a0_0.size : Int) > 2147483647 then (some false) else (if (a0_1.size : Int) > 2147483647 then (some false) else (if (a0_2.size : Int) > 2147483647 then (some false) else (some true)))) = some r := h
 clear h
 by_cases c2 : (a0_0.size : Int) > 2147483647
 · rw [if_pos c2] at H
   have c2b0 : decide (2147483647 < (a0_0.size : Int)) = true := decide_eq_true c2
   have c2b1 : decide (2147483647 < a0_0.size) = true := decide_eq_true (by omega)
   clear c2
   obtain rfl := Option.some.inj H
   go_enter Tryd.func14, Tryd.ntmps14
   go_wp2_with (first | ((with_reducible refine gate_dst (N := 1) rfl ?_); refine box_event ?hg (N := 1) ?hd (cs := #[.string a0_0, .string a0_1, .string a0_2]) (t := 29) ?hr ?_; (case hd => rfl); (case hg => rfl); (case hr => first | (go_simp; done) | (go_simp; rfl)); intro gb102 hg w3 hbox hb; have n0_ := Aside0.mk (below_step (by repeat (first | (with_reducible first | exact HB.out | apply below_alloc | apply pw_below_drewN | apply below_drew1) | exact HB.out)) hb); have n1_ := Aside0.mk (hbox); have n2_ := Aside0.mk ((by rw [hg]; exact (below_size (by repeat (first | (with_reducible first | exact HB.out | apply below_alloc | apply pw_below_drewN | apply below_drew1) | exact HB.out))) : w.heap.size ≤ gb102)); have n3_ := Aside0.mk ((by rw [hg]; exact (below_size (by repeat (first | (with_reducible first | exact HB.out | apply below_alloc | apply pw_below_drewN | apply below_drew1) | exact HB.out))) : w.heap.size ≤ gb102)); clear HB; have HB := n0_; have BK102 := n1_; have GW102 := n2_; have GE102 := n3_; clear n0_ n1_ n2_ n3_; clear hb hbox hg; have hcz4_0 : w3.cell? ⟨gb102, 0, none⟩ = some (.string a0_0) := (blk_cell BK102.out 0).trans rfl; have hcz4_1 : w3.cell? ⟨gb102, 1, none⟩ = some (.string a0_1) := (blk_cell BK102.out 1).trans rfl; have hcz4_2 : w3.cell? ⟨gb102, 2, none⟩ = some (.string a0_2) := (blk_cell BK102.out 2).trans rfl; have hfz4_0 := blk_frozen BK102.out 0; have hfz4_1 := blk_frozen BK102.out 1; have hfz4_2 := blk_frozen BK102.out 2))
   go_ret
   exact ⟨by first | rfl | (simp [errW_none, errW_some] <;> rfl) | (simp [*, errW_none, errW_some] <;> rfl), by repeat (first | (with_reducible first | exact HB.out | apply below_alloc | apply pw_below_drewN | apply below_drew1 | refine below_set ?_ GE102.out) | exact HB.out)⟩
 · rw [if_neg c2] at H
   have c2b0 : decide (2147483647 < (a0_0.size : Int)) = false := decide_eq_false c2
   have c2b1 : decide (2147483647 < a0_0.size) = false := decide_eq_false (by omega)
   clear c2
   by_cases c5 : (a0_1.size : Int) > 2147483647
   · rw [if_pos c5] at H
     have c5b0 : decide (2147483647 < (a0_1.size : Int)) = true := decide_eq_true c5
     have c5b1 : decide (2147483647 < a0_1.size) = true := decide_eq_true (by omega)
     clear c5
     obtain rfl := Option.some.inj H
     go_enter Tryd.func14, Tryd.ntmps14
     go_wp2_with (first | ((with_reducible refine gate_dst (N := 1) rfl ?_); refine box_event ?hg (N := 1) ?hd (cs := #[.string a0_0, .string a0_1, .string a0_2]) (t := 29) ?hr ?_; (case hd => rfl); (case hg => rfl); (case hr => first | (go_simp; done) | (go_simp; rfl)); intro gb102 hg w6 hbox hb; have n0_ := Aside0.mk (below_step (by repeat (first | (with_reducible first | exact HB.out | apply below_alloc | apply pw_below_drewN | apply below_drew1) | exact HB.out)) hb); have n1_ := Aside0.mk (hbox); have n2_ := Aside0.mk ((by rw [hg]; exact (below_size (by repeat (first | (with_reducible first | exact HB.out | apply below_alloc | apply pw_below_drewN | apply below_drew1) | exact HB.out))) : w.heap.size ≤ gb102)); have n3_ := Aside0.mk ((by rw [hg]; exact (below_size (by repeat (first | (with_reducible first | exact HB.out | apply below_alloc | apply pw_below_drewN | apply below_drew1) | exact HB.out))) : w.heap.size ≤ gb102)); clear HB; have HB := n0_; have BK102 := n1_; have GW102 := n2_; have GE102 := n3_; clear n0_ n1_ n2_ n3_; clear hb hbox hg; have hcz7_0 : w6.cell? ⟨gb102, 0, none⟩ = some (.string a0_0) := (blk_cell BK102.out 0).trans rfl; have hcz7_1 : w6.cell? ⟨gb102, 1, none⟩ = some (.string a0_1) := (blk_cell BK102.out 1).trans rfl; have hcz7_2 : w6.cell? ⟨gb102, 2, none⟩ = some (.string a0_2) := (blk_cell BK102.out 2).trans rfl; have hfz7_0 := blk_frozen BK102.out 0; have hfz7_1 := blk_frozen BK102.out 1; have hfz7_2 := blk_frozen BK102.out 2))
     go_ret
     exact ⟨by first | rfl | (simp [errW_none, errW_some] <;> rfl) | (simp [*, errW_none, errW_some] <;> rfl), by repeat (first | (with_reducible first | exact HB.out | apply below_alloc | apply pw_below_drewN | apply below_drew1 | refine below_set ?_ GE102.out) | exact HB.out)⟩
   · rw [if_neg c5] at H
     have c5b0 : decide (2147483647 < (a0_1.size : Int)) = false := decide_eq_false c5
     have c5b1 : decide (2147483647 < a0_1.size) = false := decide_eq_false (by omega)
     clear c5
     by_cases c8 : (a0_2.size : Int) > 2147483647
     · rw [if_pos c8] at H
       have c8b0 : decide (2147483647 < (a0_2.size : Int)) = true := decide_eq_true c8
       have c8b1 : decide (2147483647 < a0_2.size) = true := decide_eq_true (by omega)
       clear c8
       obtain rfl := Option.some.inj H
       go_enter Tryd.func14, Tryd.ntmps14
       go_wp2_with (first | ((with_reducible refine gate_dst (N := 1) rfl ?_); refine box_event ?hg (N := 1) ?hd (cs := #[.string a0_0, .string a0_1, .string a0_2]) (t := 29) ?hr ?_; (case hd => rfl); (case hg => rfl); (case hr => first | (go_simp; done) | (go_simp; rfl)); intro gb102 hg w9 hbox hb; have n0_ := Aside0.mk (below_step (by repeat (first | (with_reducible first | exact HB.out | apply below_alloc | apply pw_below_drewN | apply below_drew1) | exact HB.out)) hb); have n1_ := Aside0.mk (hbox); have n2_ := Aside0.mk ((by rw [hg]; exact (below_size (by repeat (first | (with_reducible first | exact HB.out | apply below_alloc | apply pw_below_drewN | apply below_drew1) | exact HB.out))) : w.heap.size ≤ gb102)); have n3_ := Aside0.mk ((by rw [hg]; exact (below_size (by repeat (first | (with_reducible first | exact HB.out | apply below_alloc | apply pw_below_drewN | apply below_drew1) | exact HB.out))) : w.heap.size ≤ gb102)); clear HB; have HB := n0_; have BK102 := n1_; have GW102 := n2_; have GE102 := n3_; clear n0_ n1_ n2_ n3_; clear hb hbox hg; have hcz10_0 : w9.cell? ⟨gb102, 0, none⟩ = some (.string a0_0) := (blk_cell BK102.out 0).trans rfl; have hcz10_1 : w9.cell? ⟨gb102, 1, none⟩ = some (.string a0_1) := (blk_cell BK102.out 1).trans rfl; have hcz10_2 : w9.cell? ⟨gb102, 2, none⟩ = some (.string a0_2) := (blk_cell BK102.out 2).trans rfl; have hfz10_0 := blk_frozen BK102.out 0; have hfz10_1 := blk_frozen BK102.out 1; have hfz10_2 := blk_frozen BK102.out 2))
       go_ret
       exact ⟨by first | rfl | (simp [errW_none, errW_some] <;> rfl) | (simp [*, errW_none, errW_some] <;> rfl), by repeat (first | (with_reducible first | exact HB.out | apply below_alloc | apply pw_below_drewN | apply below_drew1 | refine below_set ?_ GE102.out) | exact HB.out)⟩
     · rw [if_neg c8] at H
       have c8b0 : decide (2147483647 < (a0_2.size : Int)) = false := decide_eq_false c8
       have c8b1 : decide (2147483647 < a0_2.size) = false := decide_eq_false (by omega)
       clear c8
       obtain rfl := Option.some.inj H
       go_enter Tryd.func14, Tryd.ntmps14
       go_wp2_with (first | ((with_reducible refine gate_dst (N := 1) rfl ?_); refine box_event ?hg (N := 1) ?hd (cs := #[.string a0_0, .string a0_1, .string a0_2]) (t := 29) ?hr ?_; (case hd => rfl); (case hg => rfl); (case hr => first | (go_simp; done) | (go_simp; rfl)); intro gb102 hg w11 hbox hb; have n0_ := Aside0.mk (below_step (by repeat (first | (with_reducible first | exact HB.out | apply below_alloc | apply pw_below_drewN | apply below_drew1) | exact HB.out)) hb); have n1_ := Aside0.mk (hbox); have n2_ := Aside0.mk ((by rw [hg]; exact (below_size (by repeat (first | (with_reducible first | exact HB.out | apply below_alloc | apply pw_below_drewN | apply below_drew1) | exact HB.out))) : w.heap.size ≤ gb102)); have n3_ := Aside0.mk ((by rw [hg]; exact (below_size (by repeat (first | (with_reducible first | exact HB.out | apply below_alloc | apply pw_below_drewN | apply below_drew1) | exact HB.out))) : w.heap.size ≤ gb102)); clear HB; have HB := n0_; have BK102 := n1_; have GW102 := n2_; have GE102 := n3_; clear n0_ n1_ n2_ n3_; clear hb hbox hg; have hcz12_0 : w11.cell? ⟨gb102, 0, none⟩ = some (.string a0_0) := (blk_cell BK102.out 0).trans rfl; have hcz12_1 : w11.cell? ⟨gb102, 1, none⟩ = some (.string a0_1) := (blk_cell BK102.out 1).trans rfl; have hcz12_2 : w11.cell? ⟨gb102, 2, none⟩ = some (.string a0_2) := (blk_cell BK102.out 2).trans rfl; have hfz12_0 := blk_frozen BK102.out 0; have hfz12_1 := blk_frozen BK102.out 1; have hfz12_2 := blk_frozen BK102.out 2))
       go_ret
       exact ⟨by first | rfl | (simp [errW_none, errW_some] <;> rfl) | (simp [*, errW_none, errW_some] <;> rfl), by repeat (first | (with_reducible first | exact HB.out | apply below_alloc | apply pw_below_drewN | apply below_drew1 | refine below_set ?_ GE102.out) | exact HB.out)⟩
def laws_zzFits7.l0 : Nat → List (S29) → Int → Int → Option (Bool)
 | 0, _, _, _ => none
 | k + 1, x8, x9, x10 => if x10 < x9 then (if 0 ≤ x10 then (if x10 < (x8.length : Int) then ((laws_zzFits8.f ((rd_T29 x8 x10).f0) ((rd_T29 x8 x10).f1) ((rd_T29 x8 x10).f2)).bind fun t105 => (if t105 = true then (laws_zzFits7.l0 k x8 x9 (wrap64 (x10 + 1))) else (some false))) else (none)) else (none)) else (some true)
def laws_zzFits7.f (k : Nat) (l0 : List (S29)) : Option (Bool) := if (l0.length : Int) > 2147483647 then (some false) else (laws_zzFits7.l0 k l0 (l0.length : Int) 0)
set_option maxHeartbeats 8000000 in
set_option maxRecDepth 100000 in
theorem laws_zzFits7.calls (k : Nat) (A0 : Option Addr) (c0 : Nat) (l0 : List (S29)) (r : Bool) (w : World) (hr0 : Kd.C k29 w A0 l0.length l0) (hc0 : l0.length ≤ c0) (h : laws_zzFits7.f k l0 = some r) :
 Calls Tryd.prog 17 #[.slice A0 l0.length c0] w fun e w' => e = .returned (.bool r) ∧ Below w.heap.size w w' := by
 have hu29 := Tryd.underlying29
 have HR0 := Aside0.mk hr0
 have HC0 := Aside0.mk hc0
 clear hr0 hc0
 have HB := Aside0.mk (Below.refl w.heap.size w)
 have H : (if (l0.length : Int) > 2147483647 then (some false) else (laws_zzFits7.l0 k l0 (l0.length : Int) 0)) = some r := h
 clear h
 by_cases c2 : (l0.length : Int) > 2147483647
 · rw [if_pos c2] at H
   have c2b0 : decide (2147483647 < (l0.length : Int)) = true := decide_eq_true c2
   have c2b1 : decide (2147483647 < l0.length) = true := decide_eq_true (by omega)
   clear c2
   obtain rfl := Option.some.inj H
   go_enter Tryd.func17, Tryd.ntmps17
   go_wp2
   go_ret
   exact ⟨by first | rfl | (simp [errW_none, errW_some] <;> rfl) | (simp [*, errW_none, errW_some] <;> rfl), by repeat (first | (with_reducible first | exact HB.out | apply below_alloc | apply pw_below_drewN | apply below_drew1) | exact HB.out)⟩
 · rw [if_neg c2] at H
   have c2b0 : decide (2147483647 < (l0.length : Int)) = false := decide_eq_false c2
   have c2b1 : decide (2147483647 < l0.length) = false := decide_eq_false (by omega)
   clear c2
   have H' := Aside0.mk H
   clear H
   go_enter Tryd.func17, Tryd.ntmps17
   go_wp2
   go_loopg [10] k (fun kq v10 w' => ∃ (x10_1 : Int), v10 = .int .i64 x10_1 ∧ Aside0 (laws_zzFits7.l0 kq l0 (l0.length : Int) x10_1 = some r) ∧ Aside0 (kq ≤ k) ∧ Aside0 (Below w.heap.size w w'))
   case atStart => exact ⟨(0), (by first | rfl | (simp; done) | (simp [*]; done)), H', ⟨Nat.le_refl _⟩, ⟨by repeat (first | (with_reducible first | exact HB.out | apply below_alloc | apply pw_below_drewN | apply below_drew1) | exact HB.out)⟩⟩
   case round =>
    clear H'
    try clear c1
    try clear c2
    try clear c2b0
    try clear c2b1
    try clear p2
    obtain ⟨x10_1, rfl, HA, HK1, HB⟩ := hrel
    cases gk with
    | zero => exact absurd HA.out (by simp [laws_zzFits7.l0])
    | succ k1 =>
     have H := HA.out
     clear HA
     simp only [laws_zzFits7.l0] at H
     by_cases c3 : x10_1 < (l0.length : Int)
     · rw [if_pos c3] at H
       have c3b0 : decide (x10_1 < (l0.length : Int)) = true := decide_eq_true c3
       clear c3
       by_cases c4 : 0 ≤ x10_1
       · rw [if_pos c4] at H
         have c4b0 : decide (0 ≤ x10_1) = true := decide_eq_true c4
         clear c4
         by_cases c5 : x10_1 < (l0.length : Int)
         · rw [if_pos c5] at H
           have c5b0 : decide (x10_1 < (l0.length : Int)) = true := decide_eq_true c5
           clear c5
           replace H := Option.bind_eq_some_iff.mp H
           obtain ⟨t105, A60, H⟩ := H
           replace H : (if t105 = true then (laws_zzFits7.l0 k1 l0 (l0.length : Int) (wrap64 (x10_1 + 1))) else (some false)) = some r := H
           have A6 := Aside0.mk A60
           clear A60
           by_cases c7 : t105 = true
           · subst c7
             have H1 : (laws_zzFits7.l0 k1 l0 (l0.length : Int) (wrap64 (x10_1 + 1))) = some r := by rw [if_pos rfl] at H; exact H
             clear H
             have H := H1
             clear H1
             have H' := Aside0.mk H
             clear H
             have p103 : 0 ≤ (x10_1 : Int) := of_decide_eq_true (by first | (with_reducible assumption) | assumption)
             have q103 : x10_1 < (l0.length : Int) := of_decide_eq_true (by first | (with_reducible assumption) | assumption)
             obtain ⟨ad103, e103, hx103_0, hx103_1, hx103_2⟩ := at_T29 HR0.out x10_1 p103 q103
             cases e103
             replace hx103_0 := (HB.out.cell (World.block_lt_of_cell? w _ hx103_0)).trans hx103_0
             replace hx103_1 := (HB.out.cell (World.block_lt_of_cell? w _ hx103_1)).trans hx103_1
             replace hx103_2 := (HB.out.cell (World.block_lt_of_cell? w _ hx103_2)).trans hx103_2
             replace p103 := eq_true p103
             replace q103 := eq_true q103
             go_wp2_with (first | ((with_reducible refine gate_dst (N := 4) rfl ?_); refine box_event ?hg (N := 4) ?hd (cs := #[.string (⟨#[]⟩ : ByteArray), .string (⟨#[]⟩ : ByteArray), .string (⟨#[]⟩ : ByteArray)]) (t := 29) ?hr ?_; (case hd => rfl); (case hg => rfl); (case hr => first | (go_simp; done) | (go_simp; rfl)); intro gb104 hg w8 hbox hb; have n0_ := Aside0.mk (below_step (by repeat (first | (with_reducible first | exact HB.out | apply below_alloc | apply pw_below_drewN | apply below_drew1) | exact HB.out)) hb); have n1_ := Aside0.mk (hbox); have n2_ := Aside0.mk ((by rw [hg]; exact (below_size (by repeat (first | (with_reducible first | exact HB.out | apply below_alloc | apply pw_below_drewN | apply below_drew1) | exact HB.out))) : w.heap.size ≤ gb104)); have n3_ := Aside0.mk ((by rw [hg]; exact (below_size (by repeat (first | (with_reducible first | exact HB.out | apply below_alloc | apply pw_below_drewN | apply below_drew1) | exact HB.out))) : w.heap.size ≤ gb104)); clear HB; have HB := n0_; have BK104 := n1_; have GW104 := n2_; have GE104 := n3_; clear n0_ n1_ n2_ n3_; clear hb hbox hg; have hcz9_0 : w8.cell? ⟨gb104, 0, none⟩ = some (.string (⟨#[]⟩ : ByteArray)) := (blk_cell BK104.out 0).trans rfl; have hcz9_1 : w8.cell? ⟨gb104, 1, none⟩ = some (.string (⟨#[]⟩ : ByteArray)) := (blk_cell BK104.out 1).trans rfl; have hcz9_2 : w8.cell? ⟨gb104, 2, none⟩ = some (.string (⟨#[]⟩ : ByteArray)) := (blk_cell BK104.out 2).trans rfl; have hfz9_0 := blk_frozen BK104.out 0; have hfz9_1 := blk_frozen BK104.out 1; have hfz9_2 := blk_frozen BK104.out 2) | ((with_reducible refine gate_callee (f := 14) rfl ?_); refine goesL_ (some 15) rfl rfl Tryd.func14 (by kernel_rfl) rfl #[.agg #[.string ((rd_T29 l0 x10_1).f0), .string ((rd_T29 l0 x10_1).f1), .string ((rd_T29 l0 x10_1).f2)]] rfl (by (try simp only [List.map_toArray, List.map_cons, List.map_nil]); first | done | rfl | (simp only [List.length_drop, List.length_take]; rfl)) ?_; (with_reducible refine (laws_zzFits8.calls ((rd_T29 l0 x10_1).f0) ((rd_T29 l0 x10_1).f1) ((rd_T29 l0 x10_1).f2) true _ A6.out).mono ?_); rintro e w10 ⟨rfl, hb⟩; refine ⟨_, rfl, ?_⟩; have n0_ := Aside0.mk (blk_below (g := gb104) (o := .cells #[.string ((rd_T29 l0 x10_1).f0), .string ((rd_T29 l0 x10_1).f1), .string ((rd_T29 l0 x10_1).f2)] 29 (0, 0)) (by (with_reducible repeat (first | refine blk_drewN ?_ _ | refine blk_drew ?_ | refine blk_alloc ?_ _)); refine blk_put (cs := #[.string ((rd_T29 l0 x10_1).f0), .string ((rd_T29 l0 x10_1).f1), .string (⟨#[]⟩ : ByteArray)]) ?_ 2 _ rfl; (with_reducible repeat (first | refine blk_drewN ?_ _ | refine blk_drew ?_ | refine blk_alloc ?_ _)); refine blk_put (cs := #[.string ((rd_T29 l0 x10_1).f0), .string (⟨#[]⟩ : ByteArray), .string (⟨#[]⟩ : ByteArray)]) ?_ 1 _ rfl; (with_reducible repeat (first | refine blk_drewN ?_ _ | refine blk_drew ?_ | refine blk_alloc ?_ _)); refine blk_put (cs := #[.string (⟨#[]⟩ : ByteArray), .string (⟨#[]⟩ : ByteArray), .string (⟨#[]⟩ : ByteArray)]) ?_ 0 _ rfl; (with_reducible repeat (first | refine blk_drewN ?_ _ | refine blk_drew ?_ | refine blk_alloc ?_ _)); exact BK104.out) hb); have n1_ := Aside0.mk (below_step (by repeat (first | (with_reducible first | exact HB.out | apply below_alloc | apply pw_below_drewN | apply below_drew1 | refine below_set ?_ GE104.out) | exact HB.out)) hb); clear BK104; clear HB; have BK104 := n0_; have HB := n1_; clear n0_ n1_; (try clear hb); (try clear hb2); (try clear hk); (try clear hi)))
             go_roundg k1
             case measure => have := HK1.out; omega
             case rel => exact ⟨(wrap64 (x10_1 + 1)), (by first | rfl | (simp; done) | (simp [*]; done)), H', ⟨by have := HK1.out; omega⟩, ⟨by repeat (first | (with_reducible first | exact HB.out | apply below_alloc | apply pw_below_drewN | apply below_drew1 | refine below_set ?_ GE104.out) | exact HB.out)⟩⟩
           · replace c7 := Bool.eq_false_iff.mpr c7
             subst c7
             have H1 : (some false) = some r := by rw [if_neg (show ¬ (false = true) by decide)] at H; exact H
             clear H
             have H := H1
             clear H1
             obtain rfl := Option.some.inj H
             have p103 : 0 ≤ (x10_1 : Int) := of_decide_eq_true (by first | (with_reducible assumption) | assumption)
             have q103 : x10_1 < (l0.length : Int) := of_decide_eq_true (by first | (with_reducible assumption) | assumption)
             obtain ⟨ad103, e103, hx103_0, hx103_1, hx103_2⟩ := at_T29 HR0.out x10_1 p103 q103
             cases e103
             replace hx103_0 := (HB.out.cell (World.block_lt_of_cell? w _ hx103_0)).trans hx103_0
             replace hx103_1 := (HB.out.cell (World.block_lt_of_cell? w _ hx103_1)).trans hx103_1
             replace hx103_2 := (HB.out.cell (World.block_lt_of_cell? w _ hx103_2)).trans hx103_2
             replace p103 := eq_true p103
             replace q103 := eq_true q103
             go_wp2_with (first | ((with_reducible refine gate_dst (N := 4) rfl ?_); refine box_event ?hg (N := 4) ?hd (cs := #[.string (⟨#[]⟩ : ByteArray), .string (⟨#[]⟩ : ByteArray), .string (⟨#[]⟩ : ByteArray)]) (t := 29) ?hr ?_; (case hd => rfl); (case hg => rfl); (case hr => first | (go_simp; done) | (go_simp; rfl)); intro gb104 hg w11 hbox hb; have n0_ := Aside0.mk (below_step (by repeat (first | (with_reducible first | exact HB.out | apply below_alloc | apply pw_below_drewN | apply below_drew1) | exact HB.out)) hb); have n1_ := Aside0.mk (hbox); have n2_ := Aside0.mk ((by rw [hg]; exact (below_size (by repeat (first | (with_reducible first | exact HB.out | apply below_alloc | apply pw_below_drewN | apply below_drew1) | exact HB.out))) : w.heap.size ≤ gb104)); have n3_ := Aside0.mk ((by rw [hg]; exact (below_size (by repeat (first | (with_reducible first | exact HB.out | apply below_alloc | apply pw_below_drewN | apply below_drew1) | exact HB.out))) : w.heap.size ≤ gb104)); clear HB; have HB := n0_; have BK104 := n1_; have GW104 := n2_; have GE104 := n3_; clear n0_ n1_ n2_ n3_; clear hb hbox hg; have hcz12_0 : w11.cell? ⟨gb104, 0, none⟩ = some (.string (⟨#[]⟩ : ByteArray)) := (blk_cell BK104.out 0).trans rfl; have hcz12_1 : w11.cell? ⟨gb104, 1, none⟩ = some (.string (⟨#[]⟩ : ByteArray)) := (blk_cell BK104.out 1).trans rfl; have hcz12_2 : w11.cell? ⟨gb104, 2, none⟩ = some (.string (⟨#[]⟩ : ByteArray)) := (blk_cell BK104.out 2).trans rfl; have hfz12_0 := blk_frozen BK104.out 0; have hfz12_1 := blk_frozen BK104.out 1; have hfz12_2 := blk_frozen BK104.out 2) | ((with_reducible refine gate_callee (f := 14) rfl ?_); refine goesL_ (some 15) rfl rfl Tryd.func14 (by kernel_rfl) rfl #[.agg #[.string ((rd_T29 l0 x10_1).f0), .string ((rd_T29 l0 x10_1).f1), .string ((rd_T29 l0 x10_1).f2)]] rfl (by (try simp only [List.map_toArray, List.map_cons, List.map_nil]); first | done | rfl | (simp only [List.length_drop, List.length_take]; rfl)) ?_; (with_reducible refine (laws_zzFits8.calls ((rd_T29 l0 x10_1).f0) ((rd_T29 l0 x10_1).f1) ((rd_T29 l0 x10_1).f2) false _ A6.out).mono ?_); rintro e w13 ⟨rfl, hb⟩; refine ⟨_, rfl, ?_⟩; have n0_ := Aside0.mk (blk_below (g := gb104) (o := .cells #[.string ((rd_T29 l0 x10_1).f0), .string ((rd_T29 l0 x10_1).f1), .string ((rd_T29 l0 x10_1).f2)] 29 (0, 0)) (by (with_reducible repeat (first | refine blk_drewN ?_ _ | refine blk_drew ?_ | refine blk_alloc ?_ _)); refine blk_put (cs := #[.string ((rd_T29 l0 x10_1).f0), .string ((rd_T29 l0 x10_1).f1), .string (⟨#[]⟩ : ByteArray)]) ?_ 2 _ rfl; (with_reducible repeat (first | refine blk_drewN ?_ _ | refine blk_drew ?_ | refine blk_alloc ?_ _)); refine blk_put (cs := #[.string ((rd_T29 l0 x10_1).f0), .string (⟨#[]⟩ : ByteArray), .string (⟨#[]⟩ : ByteArray)]) ?_ 1 _ rfl; (with_reducible repeat (first | refine blk_drewN ?_ _ | refine blk_drew ?_ | refine blk_alloc ?_ _)); refine blk_put (cs := #[.string (⟨#[]⟩ : ByteArray), .string (⟨#[]⟩ : ByteArray), .string (⟨#[]⟩ : ByteArray)]) ?_ 0 _ rfl; (with_reducible repeat (first | refine blk_drewN ?_ _ | refine blk_drew ?_ | refine blk_alloc ?_ _)); exact BK104.out) hb); have n1_ := Aside0.mk (below_step (by repeat (first | (with_reducible first | exact HB.out | apply below_alloc | apply pw_below_drewN | apply below_drew1 | refine below_set ?_ GE104.out) | exact HB.out)) hb); clear BK104; clear HB; have BK104 := n0_; have HB := n1_; clear n0_ n1_; (try clear hb); (try clear hb2); (try clear hk); (try clear hi)))
             go_ret
             exact ⟨by first | rfl | (simp [errW_none, errW_some] <;> rfl) | (simp [*, errW_none, errW_some] <;> rfl), by repeat (first | (with_reducible first | exact HB.out | apply below_alloc | apply pw_below_drewN | apply below_drew1 | refine below_set ?_ GE104.out) | exact HB.out)⟩
         · rw [if_neg c5] at H
           exact absurd H (by simp)
       · rw [if_neg c4] at H
         exact absurd H (by simp)
     · rw [if_neg c3] at H
       have c3b0 : decide (x10_1 < (l0.length : Int)) = false := decide_eq_false c3
       clear c3
       obtain rfl := Option.some.inj H
       go_wp2
       go_ret
       exact ⟨by first | rfl | (simp [errW_none, errW_some] <;> rfl) | (simp [*, errW_none, errW_some] <;> rfl), by repeat (first | (with_reducible first | exact HB.out | apply below_alloc | apply pw_below_drewN | apply below_drew1) | exact HB.out)⟩
def laws_printable.l0 : Nat → ByteArray → Int → Int → Option (Bool)
 | 0, _, _, _ => none
 | k + 1, x0, x5, x6 => if x6 < x5 then (if 0 ≤ x6 then (if x6 < (x0.size : Int) then (if (bt x0 x6) < 32 then (some false) else (if (bt x0 x6) > 126 then (some false) else (laws_printable.l0 k x0 x5 (wrap64 (x6 + 1))))) else (none)) else (none)) else (some true)
def laws_printable.f (k : Nat) (a0 : ByteArray) : Option (Bool) := laws_printable.l0 k a0 (a0.size : Int) 0
set_option maxHeartbeats 8000000 in
set_option maxRecDepth 100000 in
theorem laws_printable.calls (k : Nat) (a0 : ByteArray) (r : Bool) (w : World) (h : laws_printable.f k a0 = some r) :
 Calls Tryd.prog 20 #[.string a0] w fun e w' => e = .returned (.bool r) ∧ Drawn0 w w' := by
 have H : (laws_printable.l0 k a0 (a0.size : Int) 0) = some r := h
 clear h
 have H' := Aside0.mk H
 clear H
 go_enter Tryd.func20, Tryd.ntmps20
 go_wp2
 go_loopg [6] k (fun kq v6 w' => ∃ (x6_1 : Int), v6 = .int .i64 x6_1 ∧ Aside0 (laws_printable.l0 kq a0 (a0.size : Int) x6_1 = some r) ∧ Aside0 (kq ≤ k) ∧ Drawn0 w w')
 case atStart => exact ⟨(0), (by first | rfl | (simp; done) | (simp [*]; done)), H', ⟨Nat.le_refl _⟩, by repeat (first | exact Drawn0.refl _ | apply Drawn0.step)⟩
 case round =>
  clear H'
  obtain ⟨x6_1, rfl, HA, HK1, ⟨m1, rfl⟩⟩ := hrel
  cases gk with
  | zero => exact absurd HA.out (by simp [laws_printable.l0])
  | succ k1 =>
   have H := HA.out
   clear HA
   simp only [laws_printable.l0] at H
   by_cases c2 : x6_1 < (a0.size : Int)
   · rw [if_pos c2] at H
     have c2b0 : decide (x6_1 < (a0.size : Int)) = true := decide_eq_true c2
     clear c2
     by_cases c3 : 0 ≤ x6_1
     · rw [if_pos c3] at H
       have c3b0 : decide (0 ≤ x6_1) = true := decide_eq_true c3
       clear c3
       by_cases c4 : x6_1 < (a0.size : Int)
       · rw [if_pos c4] at H
         have c4b0 : decide (x6_1 < (a0.size : Int)) = true := decide_eq_true c4
         clear c4
         by_cases c6 : (bt a0 x6_1) < 32
         · rw [if_pos c6] at H
           have c6b0 : decide ((bt a0 x6_1) < 32) = true := decide_eq_true c6
           clear c6
           obtain rfl := Option.some.inj H
           have p5 : 0 ≤ (x6_1 : Int) := of_decide_eq_true (by first | (with_reducible assumption) | assumption)
           have q5 : x6_1 < (a0.size : Int) := of_decide_eq_true (by first | (with_reducible assumption) | assumption)
           have hx5 := bt_at a0 x6_1
           replace p5 := eq_true p5
           replace q5 := eq_true q5
           go_wp2
           go_ret
           exact ⟨by first | rfl | (simp; done) | (simp [*]; done) | (simp; cases a0.toList <;> rfl), by repeat (first | exact Drawn0.refl _ | apply Drawn0.step)⟩
         · rw [if_neg c6] at H
           have c6b0 : decide ((bt a0 x6_1) < 32) = false := decide_eq_false c6
           clear c6
           by_cases c8 : (bt a0 x6_1) > 126
           · rw [if_pos c8] at H
             have c8b0 : decide (126 < (bt a0 x6_1)) = true := decide_eq_true c8
             clear c8
             obtain rfl := Option.some.inj H
             have p5 : 0 ≤ (x6_1 : Int) := of_decide_eq_true (by first | (with_reducible assumption) | assumption)
             have q5 : x6_1 < (a0.size : Int) := of_decide_eq_true (by first | (with_reducible assumption) | assumption)
             have hx5 := bt_at a0 x6_1
             replace p5 := eq_true p5
             replace q5 := eq_true q5
             have p7 : 0 ≤ (x6_1 : Int) := of_decide_eq_true (by first | (with_reducible assumption) | assumption)
             have q7 : x6_1 < (a0.size : Int) := of_decide_eq_true (by first | (with_reducible assumption) | assumption)
             have hx7 := bt_at a0 x6_1
             replace p7 := eq_true p7
             replace q7 := eq_true q7
             go_wp2
             go_ret
             exact ⟨by first | rfl | (simp; done) | (simp [*]; done) | (simp; cases a0.toList <;> rfl), by repeat (first | exact Drawn0.refl _ | apply Drawn0.step)⟩
           · rw [if_neg c8] at H
             have c8b0 : decide (126 < (bt a0 x6_1)) = false := decide_eq_false c8
             clear c8
             have H' := Aside0.mk H
             clear H
             have p5 : 0 ≤ (x6_1 : Int) := of_decide_eq_true (by first | (with_reducible assumption) | assumption)
             have q5 : x6_1 < (a0.size : Int) := of_decide_eq_true (by first | (with_reducible assumption) | assumption)
             have hx5 := bt_at a0 x6_1
             replace p5 := eq_true p5
             replace q5 := eq_true q5
             have p7 : 0 ≤ (x6_1 : Int) := of_decide_eq_true (by first | (with_reducible assumption) | assumption)
             have q7 : x6_1 < (a0.size : Int) := of_decide_eq_true (by first | (with_reducible assumption) | assumption)
             have hx7 := bt_at a0 x6_1
             replace p7 := eq_true p7
             replace q7 := eq_true q7
             go_wp2
             go_roundg k1
             case measure => have := HK1.out; omega
             case rel => exact ⟨(wrap64 (x6_1 + 1)), (by first | rfl | (simp; done) | (simp [*]; done)), H', ⟨by have := HK1.out; omega⟩, by repeat (first | exact Drawn0.refl _ | apply Drawn0.step)⟩
       · rw [if_neg c4] at H
         exact absurd H (by simp)
     · rw [if_neg c3] at H
       exact absurd H (by simp)
   · rw [if_neg c2] at H
     have c2b0 : decide (x6_1 < (a0.size : Int)) = false := decide_eq_false c2
     clear c2
     obtain rfl := Option.some.inj H
     go_wp2
     go_ret
     exact ⟨by first | rfl | (simp; done) | (simp [*]; done) | (simp; cases a0.toList <;> rfl), by repeat (first | exact Drawn0.refl _ | apply Drawn0.step)⟩
mutual
def laws_has.l0 : Nat → ByteArray → ByteArray → Int → Int → Option (Bool)
 | 0, _, _, _, _ => none
 | k + 1, x0, x1, x8, x9 => if x9 < x8 then (laws_has.l1 k x0 x1 x9 x8 x9 (x1.size : Int) 0) else (some false)
def laws_has.l1 : Nat → ByteArray → ByteArray → Int → Int → Int → Int → Int → Option (Bool)
 | 0, _, _, _, _, _, _, _ => none
 | k + 1, x0, x1, x5, x8, x9, x13, x14 => if x14 < x13 then (if 0 ≤ x5 then (if x5 < (x0.size : Int) then (if 0 ≤ x14 then (if x14 < (x1.size : Int) then (if (bt x0 x5) = (bt x1 x14) then (some true) else (laws_has.l1 k x0 x1 x5 x8 x9 x13 (wrap64 (x14 + 1)))) else (none)) else (none)) else (none)) else (none)) else (laws_has.l0 k x0 x1 x8 (wrap64 (x9 + 1)))
end
def laws_has.f (k : Nat) (a0 : ByteArray) (a1 : ByteArray) : Option (Bool) := laws_has.l0 k a0 a1 (a0.size : Int) 0
set_option maxHeartbeats 8000000 in
set_option maxRecDepth 100000 in
theorem laws_has.calls (k : Nat) (a0 : ByteArray) (a1 : ByteArray) (r : Bool) (w : World) (h : laws_has.f k a0 a1 = some r) :
 Calls Tryd.prog 31 #[.string a0, .string a1] w fun e w' => e = .returned (.bool r) ∧ Drawn0 w w' := by
 have H : (laws_has.l0 k a0 a1 (a0.size : Int) 0) = some r := h
 clear h
 have H' := Aside0.mk H
 clear H
 go_enter Tryd.func31, Tryd.ntmps31
 go_wp2
 repeat (go_quiet (fail); try go_wp2)
 go_loopg [9] k (fun kq v9 w' => ∃ (x9_1 : Int), v9 = .int .i64 x9_1 ∧ Aside0 (laws_has.l0 kq a0 a1 (a0.size : Int) x9_1 = some r) ∧ Aside0 (kq ≤ k) ∧ Drawn0 w w')
 case atStart => exact ⟨(0), (by first | rfl | (simp; done) | (simp [*]; done)), H', ⟨Nat.le_refl _⟩, by repeat (first | exact Drawn0.refl _ | apply Drawn0.step)⟩
 case round =>
  clear H'
  try clear p2
  obtain ⟨x9_1, rfl, HA, HK1, ⟨m1, rfl⟩⟩ := hrel
  cases gk with
  | zero => exact absurd HA.out (by simp [laws_has.l0])
  | succ k1 =>
   have H := HA.out
   clear HA
   simp only [laws_has.l0] at H
   by_cases c3 : x9_1 < (a0.size : Int)
   · rw [if_pos c3] at H
     have c3b0 : decide (x9_1 < (a0.size : Int)) = true := decide_eq_true c3
     clear c3
     have H' := Aside0.mk H
     clear H
     go_wp2
     repeat (go_quiet (fail); try go_wp2)
     go_loopg [14] k1 (fun kq v14 w' => ∃ (x14_2 : Int), v14 = .int .i64 x14_2 ∧ Aside0 (laws_has.l1 kq a0 a1 x9_1 (a0.size : Int) x9_1 (a1.size : Int) x14_2 = some r) ∧ Aside0 (kq ≤ k1) ∧ Drawn0 w w')
     case atStart => exact ⟨(0), (by first | rfl | (simp; done) | (simp [*]; done)), H', ⟨Nat.le_refl _⟩, by repeat (first | exact Drawn0.refl _ | apply Drawn0.step)⟩
     case round =>
      clear H'
      try clear p2
      try clear c3
      try clear c3b0
      try clear p2
      obtain ⟨x14_2, rfl, HA, HK2, ⟨m2, rfl⟩⟩ := hrel
      cases gk with
      | zero => exact absurd HA.out (by simp [laws_has.l1])
      | succ k2 =>
       have H := HA.out
       clear HA
       simp only [laws_has.l1] at H
       by_cases c4 : x14_2 < (a1.size : Int)
       · rw [if_pos c4] at H
         have c4b0 : decide (x14_2 < (a1.size : Int)) = true := decide_eq_true c4
         clear c4
         by_cases c5 : 0 ≤ x9_1
         · rw [if_pos c5] at H
           have c5b0 : decide (0 ≤ x9_1) = true := decide_eq_true c5
           clear c5
           by_cases c6 : x9_1 < (a0.size : Int)
           · rw [if_pos c6] at H
             have c6b0 : decide (x9_1 < (a0.size : Int)) = true := decide_eq_true c6
             clear c6
             by_cases c8 : 0 ≤ x14_2
             · rw [if_pos c8] at H
               have c8b0 : decide (0 ≤ x14_2) = true := decide_eq_true c8
               clear c8
               by_cases c9 : x14_2 < (a1.size : Int)
               · rw [if_pos c9] at H
                 have c9b0 : decide (x14_2 < (a1.size : Int)) = true := decide_eq_true c9
                 clear c9
                 by_cases c11 : (bt a0 x9_1) = (bt a1 x14_2)
                 · rw [if_pos c11] at H
                   have c11b0 : ((bt a0 x9_1) == (bt a1 x14_2)) = true := beq_iff_eq.mpr c11
                   have c11b1 : ((bt a0 x9_1) != (bt a1 x14_2)) = false := bne_eq_false_iff_eq.mpr c11
                   clear c11
                   obtain rfl := Option.some.inj H
                   have p7 : 0 ≤ (x9_1 : Int) := of_decide_eq_true (by first | (with_reducible assumption) | assumption)
                   have q7 : x9_1 < (a0.size : Int) := of_decide_eq_true (by first | (with_reducible assumption) | assumption)
                   have hx7 := bt_at a0 x9_1
                   replace p7 := eq_true p7
                   replace q7 := eq_true q7
                   have p10 : 0 ≤ (x14_2 : Int) := of_decide_eq_true (by first | (with_reducible assumption) | assumption)
                   have q10 : x14_2 < (a1.size : Int) := of_decide_eq_true (by first | (with_reducible assumption) | assumption)
                   have hx10 := bt_at a1 x14_2
                   replace p10 := eq_true p10
                   replace q10 := eq_true q10
                   go_wp2
                   repeat (go_quiet (fail); try go_wp2)
                   go_ret
                   exact ⟨by first | rfl | (simp; done) | (simp [*]; done) | (simp; cases a0.toList <;> rfl), by repeat (first | exact Drawn0.refl _ | apply Drawn0.step)⟩
                 · rw [if_neg c11] at H
                   have c11b0 : ((bt a0 x9_1) == (bt a1 x14_2)) = false := beq_eq_false_iff_ne.mpr c11
                   have c11b1 : ((bt a0 x9_1) != (bt a1 x14_2)) = true := bne_iff_ne.mpr c11
                   have H' := Aside0.mk H
                   clear H
                   have p7 : 0 ≤ (x9_1 : Int) := of_decide_eq_true (by first | (with_reducible assumption) | assumption)
                   have q7 : x9_1 < (a0.size : Int) := of_decide_eq_true (by first | (with_reducible assumption) | assumption)
                   have hx7 := bt_at a0 x9_1
                   replace p7 := eq_true p7
                   replace q7 := eq_true q7
                   have p10 : 0 ≤ (x14_2 : Int) := of_decide_eq_true (by first | (with_reducible assumption) | assumption)
                   have q10 : x14_2 < (a1.size : Int) := of_decide_eq_true (by first | (with_reducible assumption) | assumption)
                   have hx10 := bt_at a1 x14_2
                   replace p10 := eq_true p10
                   replace q10 := eq_true q10
                   go_wp2
                   repeat (go_quiet (fail); try go_wp2)
                   go_roundg k2
                   case measure => have := HK1.out; have := HK2.out; omega
                   case rel => exact ⟨(wrap64 (x14_2 + 1)), (by first | rfl | (simp; done) | (simp [*]; done)), H', ⟨by have := HK1.out; have := HK2.out; omega⟩, by repeat (first | exact Drawn0.refl _ | apply Drawn0.step)⟩
               · rw [if_neg c9] at H
                 exact absurd H (by simp)
             · rw [if_neg c8] at H
               exact absurd H (by simp)
           · rw [if_neg c6] at H
             exact absurd H (by simp)
         · rw [if_neg c5] at H
           exact absurd H (by simp)
       · rw [if_neg c4] at H
         have c4b0 : decide (x14_2 < (a1.size : Int)) = false := decide_eq_false c4
         clear c4
         have H' := Aside0.mk H
         clear H
         go_wp2
         repeat (go_quiet (fail); try go_wp2)
         go_roundg k2
         case measure => have := HK1.out; have := HK2.out; omega
         case rel => exact ⟨(wrap64 (x9_1 + 1)), (by first | rfl | (simp; done) | (simp [*]; done)), H', ⟨by have := HK1.out; have := HK2.out; omega⟩, by repeat (first | exact Drawn0.refl _ | apply Drawn0.step)⟩
   · rw [if_neg c3] at H
     have c3b0 : decide (x9_1 < (a0.size : Int)) = false := decide_eq_false c3
     clear c3
     obtain rfl := Option.some.inj H
     go_wp2
     repeat (go_quiet (fail); try go_wp2)
     go_ret
     exact ⟨by first | rfl | (simp; done) | (simp [*]; done) | (simp; cases a0.toList <;> rfl), by repeat (first | exact Drawn0.refl _ | apply Drawn0.step)⟩
def laws_letter.f (a0 : Int) : Option (Bool) := if a0 ≥ 97 then (if a0 ≤ 122 then (some true) else (if a0 ≥ 65 then (some (decide (a0 ≤ 90))) else (some false))) else (if a0 ≥ 65 then (some (decide (a0 ≤ 90))) else (some false))
set_option maxHeartbeats 8000000 in
set_option maxRecDepth 100000 in
theorem laws_letter.calls (a0 : Int) (r : Bool) (w : World) (h : laws_letter.f a0 = some r) :
 Calls Tryd.prog 50 #[.int .u8 a0] w fun e w' => e = .returned (.bool r) ∧ Drawn0 w w' := by
 have H : (if a0 ≥ 97 then (if a0 ≤ 122 then (some true) else (if a0 ≥ 65 then (some (decide (a0 ≤ 90))) else (some false))) else (if a0 ≥ 65 then (some (decide (a0 ≤ 90))) else (some false))) = some r := h
 clear h
 by_cases c2 : a0 ≥ 97
 · rw [if_pos c2] at H
   have c2b0 : decide (97 ≤ a0) = true := decide_eq_true c2
   clear c2
   by_cases c3 : a0 ≤ 122
   · rw [if_pos c3] at H
     have c3b0 : decide (a0 ≤ 122) = true := decide_eq_true c3
     clear c3
     obtain rfl := Option.some.inj H
     go_enter Tryd.func50, Tryd.ntmps50
     go_wp2
     go_ret
     exact ⟨by first | rfl | (simp; done) | (simp [*]; done) | (simp; cases a0.toList <;> rfl), by repeat (first | exact Drawn0.refl _ | apply Drawn0.step)⟩
   · rw [if_neg c3] at H
     have c3b0 : decide (a0 ≤ 122) = false := decide_eq_false c3
     clear c3
     by_cases c4 : a0 ≥ 65
     · rw [if_pos c4] at H
       have c4b0 : decide (65 ≤ a0) = true := decide_eq_true c4
       clear c4
       obtain rfl := Option.some.inj H
       go_enter Tryd.func50, Tryd.ntmps50
       go_wp2
       go_ret
       exact ⟨by first | rfl | (simp; done) | (simp [*]; done) | (simp; cases a0.toList <;> rfl), by repeat (first | exact Drawn0.refl _ | apply Drawn0.step)⟩
     · rw [if_neg c4] at H
       have c4b0 : decide (65 ≤ a0) = false := decide_eq_false c4
       clear c4
       obtain rfl := Option.some.inj H
       go_enter Tryd.func50, Tryd.ntmps50
       go_wp2
       go_ret
       exact ⟨by first | rfl | (simp; done) | (simp [*]; done) | (simp; cases a0.toList <;> rfl), by repeat (first | exact Drawn0.refl _ | apply Drawn0.step)⟩
 · rw [if_neg c2] at H
   have c2b0 : decide (97 ≤ a0) = false := decide_eq_false c2
   clear c2
   by_cases c5 : a0 ≥ 65
   · rw [if_pos c5] at H
     have c5b0 : decide (65 ≤ a0) = true := decide_eq_true c5
     clear c5
     obtain rfl := Option.some.inj H
     go_enter Tryd.func50, Tryd.ntmps50
     go_wp2
     go_ret
     exact ⟨by first | rfl | (simp; done) | (simp [*]; done) | (simp; cases a0.toList <;> rfl), by repeat (first | exact Drawn0.refl _ | apply Drawn0.step)⟩
   · rw [if_neg c5] at H
     have c5b0 : decide (65 ≤ a0) = false := decide_eq_false c5
     clear c5
     obtain rfl := Option.some.inj H
     go_enter Tryd.func50, Tryd.ntmps50
     go_wp2
     go_ret
     exact ⟨by first | rfl | (simp; done) | (simp [*]; done) | (simp; cases a0.toList <;> rfl), by repeat (first | exact Drawn0.refl _ | apply Drawn0.step)⟩
end Go.Proofs.YtocdnceckljnaaaDoor.QV0
namespace Go.Proofs.YtocdnceckljnaaaDoor.QV0
open Go.RowKit Go.Proofs.YtocdnceckljnaaaDoorW.PrintWords Go.Proofs.YtocdnceckljnaaaDoorW.PrintLast Go.Proofs.YtocdnceckljnaaaDoorW.PrintMore
attribute [local go_sem] max2_int min2_int max_two min_two max_three min_three max_four min_four
set_option linter.unusedVariables false
set_option linter.unusedSimpArgs false
def laws_plainOption.l0 : Nat → List ByteArray → Int → Int → ByteArray → ByteArray → ByteArray → Option (Bool)
 | 0, _, _, _, _, _, _ => none
 | k + 1, x11, x12, x13, x107000, x107001, x107002 => if x13 < x12 then (if 0 ≤ x13 then (if x13 < (x11.length : Int) then ((laws_printable.f k (rdOf ByteArray.empty x11 x13)).bind fun t111 => (if t111 = true then (if (rdOf ByteArray.empty x11 x13).toList = ([] : List UInt8) then (if ((rdOf ByteArray.empty x11 x13).size : Int) > 400 then (some false) else (laws_plainOption.l0 k x11 x12 (wrap64 (x13 + 1)) x107000 x107001 x107002)) else (if 0 < ((rdOf ByteArray.empty x11 x13).size : Int) then (if (bt (rdOf ByteArray.empty x11 x13) 0) = 32 then (some false) else (if 0 ≤ (wrap64 (((rdOf ByteArray.empty x11 x13).size : Int) - 1)) then (if (wrap64 (((rdOf ByteArray.empty x11 x13).size : Int) - 1)) < ((rdOf ByteArray.empty x11 x13).size : Int) then (if (bt (rdOf ByteArray.empty x11 x13) (wrap64 (((rdOf ByteArray.empty x11 x13).size : Int) - 1))) = 32 then (some false) else (if ((rdOf ByteArray.empty x11 x13).size : Int) > 400 then (some false) else (laws_plainOption.l0 k x11 x12 (wrap64 (x13 + 1)) x107000 x107001 x107002))) else (none)) else (none))) else (none))) else (some false))) else (none)) else (none)) else (if x107000.toList = ([] : List UInt8) then (some false) else ((laws_has.f k x107000 (⟨#[91, 93]⟩ : ByteArray)).bind fun t112 => (if t112 = true then (some false) else (if x107001.toList = ([] : List UInt8) then (some false) else ((laws_has.f k x107001 (⟨#[61]⟩ : ByteArray)).bind fun t113 => (if t113 = true then (some false) else (if 0 < (x107001.size : Int) then ((laws_letter.f (bt x107001 0)).bind fun t114 => (if t114 = true then (if x107002.toList = ([] : List UInt8) then (some true) else (if 0 ≤ (wrap64 ((x107002.size : Int) - 1)) then (if (wrap64 ((x107002.size : Int) - 1)) < (x107002.size : Int) then (some ((bt x107002 (wrap64 ((x107002.size : Int) - 1))) != 92)) else (none)) else (none))) else (some false))) else (none))))))))
def laws_plainOption.f (k : Nat) (a0_0 : ByteArray) (a0_1 : ByteArray) (a0_2 : ByteArray) : Option (Bool) := (some (([a0_0, a0_1, a0_2] : List ByteArray) : List ByteArray)).bind fun y107 => (laws_plainOption.l0 k y107 (y107.length : Int) 0 a0_0 a0_1 a0_2)
set_option maxHeartbeats 8000000 in
set_option maxRecDepth 100000 in
theorem laws_plainOption.calls (k : Nat) (a0_0 : ByteArray) (a0_1 : ByteArray) (a0_2 : ByteArray) (r : Bool) (w : World) (h : laws_plainOption.f k a0_0 a0_1 a0_2 = some r) :
 Calls Tryd.prog 37 #[.agg #[.string a0_0, .string a0_1, .string a0_2]] w fun e w' => e = .returned (.bool r) ∧ Below w.heap.size w w' := by
 have hu29 := Tryd.underlying29
 have HB := Aside0.mk (Below.refl w.heap.size w)
 have H : ((some (([a0_0, a0_1, a0_2] : List ByteArray) : List ByteArray)).bind fun y107 => (laws_plainOption.l0 k y107 (y107.length : Int) 0 a0_0 a0_1 a0_2)) = some r := h
 clear h
 obtain ⟨y107, hy107⟩ : ∃ y_ : List ByteArray, y_ = (([a0_0, a0_1, a0_2] : List ByteArray)) := ⟨_, rfl⟩
 replace H : (laws_plainOption.l0 k y107 (y107.length : Int) 0 a0_0 a0_1 a0_2) = some r := by first | (rw [hy107]; with_reducible exact H) | (have H2_ := (Option.bind_some _ _).symm.trans H; rw [hy107]; with_reducible exact H2_) | (have H2_ := (Option.bind_some _ _).symm.trans H; with_reducible exact H2_) | with_reducible exact H | (rw [hy107]; exact H) | exact H
 have Ny107 := Aside0.mk hy107
 clear hy107
 have H' := Aside0.mk H
 clear H
 go_enter Tryd.func37, Tryd.ntmps37
 go_wp2_with (first | ((with_reducible refine gate_dst (N := 1) rfl ?_); (try (refine gate_guard (by rfl) ?_; dsimp only)); refine box_event ?hg (N := 1) ?hd (cs := #[.string a0_0, .string a0_1, .string a0_2]) (t := 29) ?hr ?_; (case hd => rfl); (case hg => rfl); (case hr => first | (go_simp; done) | (go_simp; rfl)); intro gb106 hg w2 hbox hb; have n0_ := Aside0.mk (below_step (by repeat (first | (with_reducible first | exact HB.out | apply below_alloc | apply pw_below_drewN | apply below_drew1) | exact HB.out)) hb); have n1_ := Aside0.mk (hbox); have n2_ := Aside0.mk ((by rw [hg]; exact (below_size (by repeat (first | (with_reducible first | exact HB.out | apply below_alloc | apply pw_below_drewN | apply below_drew1) | exact HB.out))) : w.heap.size ≤ gb106)); have n3_ := Aside0.mk ((by rw [hg]; exact (below_size (by repeat (first | (with_reducible first | exact HB.out | apply below_alloc | apply pw_below_drewN | apply below_drew1) | exact HB.out))) : w.heap.size ≤ gb106)); clear HB; have HB := n0_; have BK106 := n1_; have GW106 := n2_; have GE106 := n3_; clear n0_ n1_ n2_ n3_; clear hb hbox hg; have hcz3_0 : w2.cell? ⟨gb106, 0, none⟩ = some (.string a0_0) := (blk_cell BK106.out 0).trans rfl; have hcz3_1 : w2.cell? ⟨gb106, 1, none⟩ = some (.string a0_1) := (blk_cell BK106.out 1).trans rfl; have hcz3_2 : w2.cell? ⟨gb106, 2, none⟩ = some (.string a0_2) := (blk_cell BK106.out 2).trans rfl; have hfz3_0 := blk_frozen BK106.out 0; have hfz3_1 := blk_frozen BK106.out 1; have hfz3_2 := blk_frozen BK106.out 2) | ((with_reducible refine gate_dst (N := 11) rfl ?_); (try (refine gate_guard (by rfl) ?_; dsimp only)); refine Kd.R_lit Kd.string _ 9 ?hg (N := 11) ?hd (xs := ([a0_0, a0_1, a0_2] : List ByteArray)) (inner := [.string a0_0, .string a0_1, .string a0_2]) (ok := fun _ => True) (okp := fun _ => True) ?hr ?hp (fun _ hk => hk) trivial (Below.refl _ _) (Nat.le_refl _) (by simp) ?_; (case hd => rfl); (case hg => rfl); (case hr => first | (go_simp; done) | (go_simp; rfl)); (case hp => exact (Reps.one (show Kd.M Kd.string _ _ _ a0_0 [.string a0_0] from rfl) (Reps.one (show Kd.M Kd.string _ _ _ a0_1 [.string a0_1] from rfl) (Reps.one (show Kd.M Kd.string _ _ _ a0_2 [.string a0_2] from rfl) (Reps.none _ _))))); intro v108 w4 ho5 hb hg_ hnew_; clear hg_ hnew_; (first | rw [← Ny107.out] at ho5 | (simp only [Int.reduceToNat] at ho5; rw [← Ny107.out] at ho5)); have n0_ := Aside0.mk (Kd.R_lower ho5 (below_size (by repeat (first | (with_reducible first | exact HB.out | apply below_alloc | apply pw_below_drewN | apply below_drew1 | refine below_set ?_ GE106.out) | exact HB.out)))); have n1_ := Aside0.mk (blk_below (g := gb106) (o := .cells #[.string a0_0, .string a0_1, .string a0_2] 29 (0, 0)) (by (with_reducible repeat (first | refine blk_drewN ?_ _ | refine blk_drew ?_ | refine blk_alloc ?_ _)); exact BK106.out) hb); have n2_ := Aside0.mk (below_step (by repeat (first | (with_reducible first | exact HB.out | apply below_alloc | apply pw_below_drewN | apply below_drew1 | refine below_set ?_ GE106.out) | exact HB.out)) hb); clear BK106; clear HB; have HO109 := n0_; have BK106 := n1_; have HB := n2_; clear n0_ n1_ n2_; clear hb ho5; obtain ⟨Ao6, co6, eo6⟩ := Kd.R_slice HO109.out; subst eo6))
 go_loopg [13] k (fun kq v13 w' => ∃ (x13_1 : Int), v13 = .int .i64 x13_1 ∧ Aside0 (laws_plainOption.l0 kq y107 (y107.length : Int) x13_1 a0_0 a0_1 a0_2 = some r) ∧ Aside0 (kq ≤ k) ∧ Aside0 (Kd.R Kd.string 9 w' w.heap.size (fun _ => True) (.slice Ao6 y107.length co6) y107) ∧ Aside0 (w'.heap[gb106]? = some (.cells #[.string a0_0, .string a0_1, .string a0_2] 29 (0, 0))) ∧ Aside0 (Below w.heap.size w w'))
 case atStart => exact ⟨(0), (by first | rfl | (simp; done) | (simp [*]; done)), H', ⟨Nat.le_refl _⟩, ⟨by (with_reducible repeat (first | apply Kd.R_alloc | apply Kd.R_drewN | apply Kd.R_drew)); exact HO109.out⟩, ⟨by (with_reducible repeat (first | refine blk_drewN ?_ _ | refine blk_drew ?_ | refine blk_alloc ?_ _)); exact BK106.out⟩, ⟨by repeat (first | (with_reducible first | exact HB.out | apply below_alloc | apply pw_below_drewN | apply below_drew1 | refine below_set ?_ GE106.out) | exact HB.out)⟩⟩
 case round =>
  clear H'
  try clear p2
  try clear c3
  try clear hcz3_0
  try clear hcz3_1
  try clear hcz3_2
  try clear hfz3_0
  try clear hfz3_1
  try clear hfz3_2
  obtain ⟨x13_1, rfl, HA, HK1, HO_11, BK106, HB⟩ := hrel
  cases gk with
  | zero => exact absurd HA.out (by simp [laws_plainOption.l0])
  | succ k1 =>
   have H := HA.out
   clear HA
   simp only [laws_plainOption.l0] at H
   by_cases c7 : x13_1 < (y107.length : Int)
   · rw [if_pos c7] at H
     have c7b0 : decide (x13_1 < (y107.length : Int)) = true := decide_eq_true c7
     clear c7
     by_cases c8 : 0 ≤ x13_1
     · rw [if_pos c8] at H
       have c8b0 : decide (0 ≤ x13_1) = true := decide_eq_true c8
       clear c8
       by_cases c9 : x13_1 < (y107.length : Int)
       · rw [if_pos c9] at H
         have c9b0 : decide (x13_1 < (y107.length : Int)) = true := decide_eq_true c9
         clear c9
         replace H := Option.bind_eq_some_iff.mp H
         obtain ⟨t111, A100, H⟩ := H
         replace H : (if t111 = true then (if (rdOf ByteArray.empty y107 x13_1).toList = ([] : List UInt8) then (if ((rdOf ByteArray.empty y107 x13_1).size : Int) > 400 then (some false) else (laws_plainOption.l0 k1 y107 (y107.length : Int) (wrap64 (x13_1 + 1)) a0_0 a0_1 a0_2)) else (if 0 < ((rdOf ByteArray.empty y107 x13_1).size : Int) then (if (bt (rdOf ByteArray.empty y107 x13_1) 0) = 32 then (some false) else (if 0 ≤ (wrap64 (((rdOf ByteArray.empty y107 x13_1).size : Int) - 1)) then (if (wrap64 (((rdOf ByteArray.empty y107 x13_1).size : Int) - 1)) < ((rdOf ByteArray.empty y107 x13_1).size : Int) then (if (bt (rdOf ByteArray.empty y107 x13_1) (wrap64 (((rdOf ByteArray.empty y107 x13_1).size : Int) - 1))) = 32 then (some false) else (if ((rdOf ByteArray.empty y107 x13_1).size : Int) > 400 then (some false) else (laws_plainOption.l0 k1 y107 (y107.length : Int) (wrap64 (x13_1 + 1)) a0_0 a0_1 a0_2))) else (none)) else (none))) else (none))) else (some false)) = some r := H
         have A10 := Aside0.mk A100
         clear A100
         by_cases c11 : t111 = true
         · subst c11
           have H1 : (if (rdOf ByteArray.empty y107 x13_1).toList = ([] : List UInt8) then (if ((rdOf ByteArray.empty y107 x13_1).size : Int) > 400 then (some false) else (laws_plainOption.l0 k1 y107 (y107.length : Int) (wrap64 (x13_1 + 1)) a0_0 a0_1 a0_2)) else (if 0 < ((rdOf ByteArray.empty y107 x13_1).size : Int) then (if (bt (rdOf ByteArray.empty y107 x13_1) 0) = 32 then (some false) else (if 0 ≤ (wrap64 (((rdOf ByteArray.empty y107 x13_1).size : Int) - 1)) then (if (wrap64 (((rdOf ByteArray.empty y107 x13_1).size : Int) - 1)) < ((rdOf ByteArray.empty y107 x13_1).size : Int) then (if (bt (rdOf ByteArray.empty y107 x13_1) (wrap64 (((rdOf ByteArray.empty y107 x13_1).size : Int) - 1))) = 32 then (some false) else (if ((rdOf ByteArray.empty y107 x13_1).size : Int) > 400 then (some false) else (laws_plainOption.l0 k1 y107 (y107.length : Int) (wrap64 (x13_1 + 1)) a0_0 a0_1 a0_2))) else (none)) else (none))) else (none))) = some r := by rw [if_pos rfl] at H; exact H
           clear H
           have H := H1
           clear H1
           by_cases c12 : (rdOf ByteArray.empty y107 x13_1).toList = ([] : List UInt8)
           · rw [if_pos c12] at H
             have c12b0 : ((rdOf ByteArray.empty y107 x13_1).toList == ([] : List UInt8)) = true := beq_iff_eq.mpr c12
             have c12b1 : ((rdOf ByteArray.empty y107 x13_1).toList != ([] : List UInt8)) = false := bne_eq_false_iff_eq.mpr c12
             clear c12
             by_cases c13 : ((rdOf ByteArray.empty y107 x13_1).size : Int) > 400
             · rw [if_pos c13] at H
               have c13b0 : decide (400 < ((rdOf ByteArray.empty y107 x13_1).size : Int)) = true := decide_eq_true c13
               have c13b1 : decide (400 < (rdOf ByteArray.empty y107 x13_1).size) = true := decide_eq_true (by omega)
               clear c13
               obtain rfl := Option.some.inj H
               have p110 : 0 ≤ (x13_1 : Int) := of_decide_eq_true (by first | (with_reducible assumption) | assumption)
               have q110 : x13_1 < (y107.length : Int) := of_decide_eq_true (by first | (with_reducible assumption) | assumption)
               obtain ⟨ad110, e110, hx110_0⟩ := Kd.at_string (Kd.R_reads' HO_11.out).2.2 x13_1 p110 q110
               cases e110
               replace p110 := eq_true p110
               replace q110 := eq_true q110
               go_wp2_with (first | ((with_reducible refine gate_callee (f := 20) rfl ?_); refine goesL_ (some 18) rfl rfl Tryd.func20 (by kernel_rfl) rfl #[.string (rdOf ByteArray.empty y107 x13_1)] rfl (by (try simp only [List.map_toArray, List.map_cons, List.map_nil]); first | done | rfl | (simp only [List.length_drop, List.length_take]; rfl)) ?_; (with_reducible refine (laws_printable.calls k1 (rdOf ByteArray.empty y107 x13_1) true _ A10.out).mono ?_); rintro e w' ⟨rfl, ⟨nd, rfl⟩⟩; refine ⟨_, rfl, ?_⟩))
               go_ret
               exact ⟨by first | rfl | (simp [errW_none, errW_some] <;> rfl) | (simp [*, errW_none, errW_some] <;> rfl), by repeat (first | (with_reducible first | exact HB.out | apply below_alloc | apply pw_below_drewN | apply below_drew1 | refine below_set ?_ GE106.out) | exact HB.out)⟩
             · rw [if_neg c13] at H
               have c13b0 : decide (400 < ((rdOf ByteArray.empty y107 x13_1).size : Int)) = false := decide_eq_false c13
               have c13b1 : decide (400 < (rdOf ByteArray.empty y107 x13_1).size) = false := decide_eq_false (by omega)
               clear c13
               have H' := Aside0.mk H
               clear H
               have p110 : 0 ≤ (x13_1 : Int) := of_decide_eq_true (by first | (with_reducible assumption) | assumption)
               have q110 : x13_1 < (y107.length : Int) := of_decide_eq_true (by first | (with_reducible assumption) | assumption)
               obtain ⟨ad110, e110, hx110_0⟩ := Kd.at_string (Kd.R_reads' HO_11.out).2.2 x13_1 p110 q110
               cases e110
               replace p110 := eq_true p110
               replace q110 := eq_true q110
               go_wp2_with (first | ((with_reducible refine gate_callee (f := 20) rfl ?_); refine goesL_ (some 18) rfl rfl Tryd.func20 (by kernel_rfl) rfl #[.string (rdOf ByteArray.empty y107 x13_1)] rfl (by (try simp only [List.map_toArray, List.map_cons, List.map_nil]); first | done | rfl | (simp only [List.length_drop, List.length_take]; rfl)) ?_; (with_reducible refine (laws_printable.calls k1 (rdOf ByteArray.empty y107 x13_1) true _ A10.out).mono ?_); rintro e w' ⟨rfl, ⟨nd, rfl⟩⟩; refine ⟨_, rfl, ?_⟩))
               go_roundg k1
               case measure => have := HK1.out; omega
               case rel => exact ⟨(wrap64 (x13_1 + 1)), (by first | rfl | (simp; done) | (simp [*]; done)), H', ⟨by have := HK1.out; omega⟩, ⟨by (with_reducible repeat (first | apply Kd.R_alloc | apply Kd.R_drewN | apply Kd.R_drew)); exact HO_11.out⟩, ⟨by (with_reducible repeat (first | refine blk_drewN ?_ _ | refine blk_drew ?_ | refine blk_alloc ?_ _)); exact BK106.out⟩, ⟨by repeat (first | (with_reducible first | exact HB.out | apply below_alloc | apply pw_below_drewN | apply below_drew1 | refine below_set ?_ GE106.out) | exact HB.out)⟩⟩
           · rw [if_neg c12] at H
             have c12b0 : ((rdOf ByteArray.empty y107 x13_1).toList == ([] : List UInt8)) = false := beq_eq_false_iff_ne.mpr c12
             have c12b1 : ((rdOf ByteArray.empty y107 x13_1).toList != ([] : List UInt8)) = true := bne_iff_ne.mpr c12
             by_cases c14 : 0 < ((rdOf ByteArray.empty y107 x13_1).size : Int)
             · rw [if_pos c14] at H
               have c14b0 : decide (0 < ((rdOf ByteArray.empty y107 x13_1).size : Int)) = true := decide_eq_true c14
               have c14b1 : decide (0 < (rdOf ByteArray.empty y107 x13_1).size) = true := decide_eq_true (by omega)
               clear c14
               by_cases c16 : (bt (rdOf ByteArray.empty y107 x13_1) 0) = 32
               · rw [if_pos c16] at H
                 have c16b0 : ((bt (rdOf ByteArray.empty y107 x13_1) 0) == 32) = true := beq_iff_eq.mpr c16
                 have c16b1 : ((bt (rdOf ByteArray.empty y107 x13_1) 0) != 32) = false := bne_eq_false_iff_eq.mpr c16
                 clear c16
                 obtain rfl := Option.some.inj H
                 have p110 : 0 ≤ (x13_1 : Int) := of_decide_eq_true (by first | (with_reducible assumption) | assumption)
                 have q110 : x13_1 < (y107.length : Int) := of_decide_eq_true (by first | (with_reducible assumption) | assumption)
                 obtain ⟨ad110, e110, hx110_0⟩ := Kd.at_string (Kd.R_reads' HO_11.out).2.2 x13_1 p110 q110
                 cases e110
                 replace p110 := eq_true p110
                 replace q110 := eq_true q110
                 go_wp2_with (first | ((with_reducible refine gate_callee (f := 20) rfl ?_); refine goesL_ (some 18) rfl rfl Tryd.func20 (by kernel_rfl) rfl #[.string (rdOf ByteArray.empty y107 x13_1)] rfl (by (try simp only [List.map_toArray, List.map_cons, List.map_nil]); first | done | rfl | (simp only [List.length_drop, List.length_take]; rfl)) ?_; (with_reducible refine (laws_printable.calls k1 (rdOf ByteArray.empty y107 x13_1) true _ A10.out).mono ?_); rintro e w' ⟨rfl, ⟨nd, rfl⟩⟩; refine ⟨_, rfl, ?_⟩; have p15 : 0 ≤ (0 : Int) := (by omega); have q15 : 0 < (rdOf ByteArray.empty y107 x13_1).size := (by have : (0 : Int) < ((rdOf ByteArray.empty y107 x13_1).size : Int) := of_decide_eq_true (by first | (with_reducible assumption) | assumption); omega); have hx15 : ∀ h : 0 < (rdOf ByteArray.empty y107 x13_1).size, (((rdOf ByteArray.empty y107 x13_1)[0]'h).toNat : Int) = bt (rdOf ByteArray.empty y107 x13_1) 0 := bt_at (rdOf ByteArray.empty y107 x13_1) 0; clear p15; have qi15 : (0 < ((rdOf ByteArray.empty y107 x13_1).size : Int)) = True := eq_true (of_decide_eq_true (by first | (with_reducible assumption) | assumption)); replace q15 := eq_true q15))
                 go_ret
                 exact ⟨by first | rfl | (simp [errW_none, errW_some] <;> rfl) | (simp [*, errW_none, errW_some] <;> rfl), by repeat (first | (with_reducible first | exact HB.out | apply below_alloc | apply pw_below_drewN | apply below_drew1 | refine below_set ?_ GE106.out) | exact HB.out)⟩
               · rw [if_neg c16] at H
                 have c16b0 : ((bt (rdOf ByteArray.empty y107 x13_1) 0) == 32) = false := beq_eq_false_iff_ne.mpr c16
                 have c16b1 : ((bt (rdOf ByteArray.empty y107 x13_1) 0) != 32) = true := bne_iff_ne.mpr c16
                 obtain ⟨ji17, hji17⟩ : ∃ j_ : Int, (wrap64 (((rdOf ByteArray.empty y107 x13_1).size : Int) - 1)) = j_ := ⟨_, rfl⟩
                 replace H : (if 0 ≤ (ji17) then (if (ji17) < ((rdOf ByteArray.empty y107 x13_1).size : Int) then (if (bt (rdOf ByteArray.empty y107 x13_1) (ji17)) = 32 then (some false) else (if ((rdOf ByteArray.empty y107 x13_1).size : Int) > 400 then (some false) else (laws_plainOption.l0 k1 y107 (y107.length : Int) (wrap64 (x13_1 + 1)) a0_0 a0_1 a0_2))) else (none)) else (none)) = some r := by first | (rw [hji17] at H; exact H) | (simp only [hji17] at H ⊢; exact H)
                 (try rw [hji17] at A10)
                 have hji17w : (IntKind.i64.wrap (((rdOf ByteArray.empty y107 x13_1).size : Int) - 1)) = ji17 := (i64_w _).trans hji17
                 by_cases c18 : 0 ≤ (ji17)
                 · rw [if_pos c18] at H
                   have c18b0 : decide (0 ≤ (ji17)) = true := decide_eq_true c18
                   clear c18
                   by_cases c19 : (ji17) < ((rdOf ByteArray.empty y107 x13_1).size : Int)
                   · rw [if_pos c19] at H
                     have c19b0 : decide ((ji17) < ((rdOf ByteArray.empty y107 x13_1).size : Int)) = true := decide_eq_true c19
                     clear c19
                     by_cases c21 : (bt (rdOf ByteArray.empty y107 x13_1) (ji17)) = 32
                     · rw [if_pos c21] at H
                       have c21b0 : ((bt (rdOf ByteArray.empty y107 x13_1) (ji17)) == 32) = true := beq_iff_eq.mpr c21
                       have c21b1 : ((bt (rdOf ByteArray.empty y107 x13_1) (ji17)) != 32) = false := bne_eq_false_iff_eq.mpr c21
                       clear c21
                       obtain rfl := Option.some.inj H
                       have p110 : 0 ≤ (x13_1 : Int) := of_decide_eq_true (by first | (with_reducible assumption) | assumption)
                       have q110 : x13_1 < (y107.length : Int) := of_decide_eq_true (by first | (with_reducible assumption) | assumption)
                       obtain ⟨ad110, e110, hx110_0⟩ := Kd.at_string (Kd.R_reads' HO_11.out).2.2 x13_1 p110 q110
                       cases e110
                       replace p110 := eq_true p110
                       replace q110 := eq_true q110
                       go_wp2_with (first | ((with_reducible refine gate_callee (f := 20) rfl ?_); refine goesL_ (some 18) rfl rfl Tryd.func20 (by kernel_rfl) rfl #[.string (rdOf ByteArray.empty y107 x13_1)] rfl (by (try simp only [List.map_toArray, List.map_cons, List.map_nil]); first | done | rfl | (simp only [List.length_drop, List.length_take]; rfl)) ?_; (with_reducible refine (laws_printable.calls k1 (rdOf ByteArray.empty y107 x13_1) true _ A10.out).mono ?_); rintro e w' ⟨rfl, ⟨nd, rfl⟩⟩; refine ⟨_, rfl, ?_⟩; have p15 : 0 ≤ (0 : Int) := (by omega); have q15 : 0 < (rdOf ByteArray.empty y107 x13_1).size := (by have : (0 : Int) < ((rdOf ByteArray.empty y107 x13_1).size : Int) := of_decide_eq_true (by first | (with_reducible assumption) | assumption); omega); have hx15 : ∀ h : 0 < (rdOf ByteArray.empty y107 x13_1).size, (((rdOf ByteArray.empty y107 x13_1)[0]'h).toNat : Int) = bt (rdOf ByteArray.empty y107 x13_1) 0 := bt_at (rdOf ByteArray.empty y107 x13_1) 0; clear p15; have qi15 : (0 < ((rdOf ByteArray.empty y107 x13_1).size : Int)) = True := eq_true (of_decide_eq_true (by first | (with_reducible assumption) | assumption)); replace q15 := eq_true q15; have p20 : 0 ≤ ((ji17) : Int) := of_decide_eq_true (by first | (with_reducible assumption) | assumption); have q20 : (ji17) < ((rdOf ByteArray.empty y107 x13_1).size : Int) := of_decide_eq_true (by first | (with_reducible assumption) | assumption); have hx20 := bt_at (rdOf ByteArray.empty y107 x13_1) (ji17); replace p20 := eq_true p20; replace q20 := eq_true q20))
                       go_ret
                       exact ⟨by first | rfl | (simp [errW_none, errW_some] <;> rfl) | (simp only [← hji17]; first | rfl | (simp [errW_none, errW_some] <;> rfl)) | (simp [*, errW_none, errW_some] <;> rfl), by repeat (first | (with_reducible first | exact HB.out | apply below_alloc | apply pw_below_drewN | apply below_drew1 | refine below_set ?_ GE106.out) | exact HB.out)⟩
                     · rw [if_neg c21] at H
                       have c21b0 : ((bt (rdOf ByteArray.empty y107 x13_1) (ji17)) == 32) = false := beq_eq_false_iff_ne.mpr c21
                       have c21b1 : ((bt (rdOf ByteArray.empty y107 x13_1) (ji17)) != 32) = true := bne_iff_ne.mpr c21
                       by_cases c22 : ((rdOf ByteArray.empty y107 x13_1).size : Int) > 400
                       · rw [if_pos c22] at H
                         have c22b0 : decide (400 < ((rdOf ByteArray.empty y107 x13_1).size : Int)) = true := decide_eq_true c22
                         have c22b1 : decide (400 < (rdOf ByteArray.empty y107 x13_1).size) = true := decide_eq_true (by omega)
                         clear c22
                         obtain rfl := Option.some.inj H
                         have p110 : 0 ≤ (x13_1 : Int) := of_decide_eq_true (by first | (with_reducible assumption) | assumption)
                         have q110 : x13_1 < (y107.length : Int) := of_decide_eq_true (by first | (with_reducible assumption) | assumption)
                         obtain ⟨ad110, e110, hx110_0⟩ := Kd.at_string (Kd.R_reads' HO_11.out).2.2 x13_1 p110 q110
                         cases e110
                         replace p110 := eq_true p110
                         replace q110 := eq_true q110
                         go_wp2_with (first | ((with_reducible refine gate_callee (f := 20) rfl ?_); refine goesL_ (some 18) rfl rfl Tryd.func20 (by kernel_rfl) rfl #[.string (rdOf ByteArray.empty y107 x13_1)] rfl (by (try simp only [List.map_toArray, List.map_cons, List.map_nil]); first | done | rfl | (simp only [List.length_drop, List.length_take]; rfl)) ?_; (with_reducible refine (laws_printable.calls k1 (rdOf ByteArray.empty y107 x13_1) true _ A10.out).mono ?_); rintro e w' ⟨rfl, ⟨nd, rfl⟩⟩; refine ⟨_, rfl, ?_⟩; have p15 : 0 ≤ (0 : Int) := (by omega); have q15 : 0 < (rdOf ByteArray.empty y107 x13_1).size := (by have : (0 : Int) < ((rdOf ByteArray.empty y107 x13_1).size : Int) := of_decide_eq_true (by first | (with_reducible assumption) | assumption); omega); have hx15 : ∀ h : 0 < (rdOf ByteArray.empty y107 x13_1).size, (((rdOf ByteArray.empty y107 x13_1)[0]'h).toNat : Int) = bt (rdOf ByteArray.empty y107 x13_1) 0 := bt_at (rdOf ByteArray.empty y107 x13_1) 0; clear p15; have qi15 : (0 < ((rdOf ByteArray.empty y107 x13_1).size : Int)) = True := eq_true (of_decide_eq_true (by first | (with_reducible assumption) | assumption)); replace q15 := eq_true q15; have p20 : 0 ≤ ((ji17) : Int) := of_decide_eq_true (by first | (with_reducible assumption) | assumption); have q20 : (ji17) < ((rdOf ByteArray.empty y107 x13_1).size : Int) := of_decide_eq_true (by first | (with_reducible assumption) | assumption); have hx20 := bt_at (rdOf ByteArray.empty y107 x13_1) (ji17); replace p20 := eq_true p20; replace q20 := eq_true q20))
                         go_ret
                         exact ⟨by first | rfl | (simp [errW_none, errW_some] <;> rfl) | (simp only [← hji17]; first | rfl | (simp [errW_none, errW_some] <;> rfl)) | (simp [*, errW_none, errW_some] <;> rfl), by repeat (first | (with_reducible first | exact HB.out | apply below_alloc | apply pw_below_drewN | apply below_drew1 | refine below_set ?_ GE106.out) | exact HB.out)⟩
                       · rw [if_neg c22] at H
                         have c22b0 : decide (400 < ((rdOf ByteArray.empty y107 x13_1).size : Int)) = false := decide_eq_false c22
                         have c22b1 : decide (400 < (rdOf ByteArray.empty y107 x13_1).size) = false := decide_eq_false (by omega)
                         clear c22
                         have H' := Aside0.mk H
                         clear H
                         have p110 : 0 ≤ (x13_1 : Int) := of_decide_eq_true (by first | (with_reducible assumption) | assumption)
                         have q110 : x13_1 < (y107.length : Int) := of_decide_eq_true (by first | (with_reducible assumption) | assumption)
                         obtain ⟨ad110, e110, hx110_0⟩ := Kd.at_string (Kd.R_reads' HO_11.out).2.2 x13_1 p110 q110
                         cases e110
                         replace p110 := eq_true p110
                         replace q110 := eq_true q110
                         go_wp2_with (first | ((with_reducible refine gate_callee (f := 20) rfl ?_); refine goesL_ (some 18) rfl rfl Tryd.func20 (by kernel_rfl) rfl #[.string (rdOf ByteArray.empty y107 x13_1)] rfl (by (try simp only [List.map_toArray, List.map_cons, List.map_nil]); first | done | rfl | (simp only [List.length_drop, List.length_take]; rfl)) ?_; (with_reducible refine (laws_printable.calls k1 (rdOf ByteArray.empty y107 x13_1) true _ A10.out).mono ?_); rintro e w' ⟨rfl, ⟨nd, rfl⟩⟩; refine ⟨_, rfl, ?_⟩; have p15 : 0 ≤ (0 : Int) := (by omega); have q15 : 0 < (rdOf ByteArray.empty y107 x13_1).size := (by have : (0 : Int) < ((rdOf ByteArray.empty y107 x13_1).size : Int) := of_decide_eq_true (by first | (with_reducible assumption) | assumption); omega); have hx15 : ∀ h : 0 < (rdOf ByteArray.empty y107 x13_1).size, (((rdOf ByteArray.empty y107 x13_1)[0]'h).toNat : Int) = bt (rdOf ByteArray.empty y107 x13_1) 0 := bt_at (rdOf ByteArray.empty y107 x13_1) 0; clear p15; have qi15 : (0 < ((rdOf ByteArray.empty y107 x13_1).size : Int)) = True := eq_true (of_decide_eq_true (by first | (with_reducible assumption) | assumption)); replace q15 := eq_true q15; have p20 : 0 ≤ ((ji17) : Int) := of_decide_eq_true (by first | (with_reducible assumption) | assumption); have q20 : (ji17) < ((rdOf ByteArray.empty y107 x13_1).size : Int) := of_decide_eq_true (by first | (with_reducible assumption) | assumption); have hx20 := bt_at (rdOf ByteArray.empty y107 x13_1) (ji17); replace p20 := eq_true p20; replace q20 := eq_true q20))
                         go_roundg k1
                         case measure => have := HK1.out; omega
                         case rel => exact ⟨(wrap64 (x13_1 + 1)), (by first | rfl | (simp; done) | (simp [*]; done)), H', ⟨by have := HK1.out; omega⟩, ⟨by (with_reducible repeat (first | apply Kd.R_alloc | apply Kd.R_drewN | apply Kd.R_drew)); exact HO_11.out⟩, ⟨by (with_reducible repeat (first | refine blk_drewN ?_ _ | refine blk_drew ?_ | refine blk_alloc ?_ _)); exact BK106.out⟩, ⟨by repeat (first | (with_reducible first | exact HB.out | apply below_alloc | apply pw_below_drewN | apply below_drew1 | refine below_set ?_ GE106.out) | exact HB.out)⟩⟩
                   · rw [if_neg c19] at H
                     exact absurd H (by simp)
                 · rw [if_neg c18] at H
                   exact absurd H (by simp)
             · rw [if_neg c14] at H
               exact absurd H (by simp)
         · replace c11 := Bool.eq_false_iff.mpr c11
           subst c11
           have H1 : (some false) = some r := by rw [if_neg (show ¬ (false = true) by decide)] at H; exact H
           clear H
           have H := H1
           clear H1
           obtain rfl := Option.some.inj H
           have p110 : 0 ≤ (x13_1 : Int) := of_decide_eq_true (by first | (with_reducible assumption) | assumption)
           have q110 : x13_1 < (y107.length : Int) := of_decide_eq_true (by first | (with_reducible assumption) | assumption)
           obtain ⟨ad110, e110, hx110_0⟩ := Kd.at_string (Kd.R_reads' HO_11.out).2.2 x13_1 p110 q110
           cases e110
           replace p110 := eq_true p110
           replace q110 := eq_true q110
           go_wp2_with (first | ((with_reducible refine gate_callee (f := 20) rfl ?_); refine goesL_ (some 18) rfl rfl Tryd.func20 (by kernel_rfl) rfl #[.string (rdOf ByteArray.empty y107 x13_1)] rfl (by (try simp only [List.map_toArray, List.map_cons, List.map_nil]); first | done | rfl | (simp only [List.length_drop, List.length_take]; rfl)) ?_; (with_reducible refine (laws_printable.calls k1 (rdOf ByteArray.empty y107 x13_1) false _ A10.out).mono ?_); rintro e w' ⟨rfl, ⟨nd, rfl⟩⟩; refine ⟨_, rfl, ?_⟩))
           go_ret
           exact ⟨by first | rfl | (simp [errW_none, errW_some] <;> rfl) | (simp [*, errW_none, errW_some] <;> rfl), by repeat (first | (with_reducible first | exact HB.out | apply below_alloc | apply pw_below_drewN | apply below_drew1 | refine below_set ?_ GE106.out) | exact HB.out)⟩
       · rw [if_neg c9] at H
         exact absurd H (by simp)
     · rw [if_neg c8] at H
       exact absurd H (by simp)
   · rw [if_neg c7] at H
     have c7b0 : decide (x13_1 < (y107.length : Int)) = false := decide_eq_false c7
     clear c7
     by_cases c23 : a0_0.toList = ([] : List UInt8)
     · rw [if_pos c23] at H
       have c23b0 : (a0_0.toList == ([] : List UInt8)) = true := beq_iff_eq.mpr c23
       have c23b1 : (a0_0.toList != ([] : List UInt8)) = false := bne_eq_false_iff_eq.mpr c23
       clear c23
       obtain rfl := Option.some.inj H
       have hcz24_0 : wr.cell? ⟨gb106, 0, none⟩ = some (.string a0_0) := (blk_cell BK106.out 0).trans rfl
       have hcz24_1 : wr.cell? ⟨gb106, 1, none⟩ = some (.string a0_1) := (blk_cell BK106.out 1).trans rfl
       have hcz24_2 : wr.cell? ⟨gb106, 2, none⟩ = some (.string a0_2) := (blk_cell BK106.out 2).trans rfl
       have hfz24_0 := blk_frozen BK106.out 0
       have hfz24_1 := blk_frozen BK106.out 1
       have hfz24_2 := blk_frozen BK106.out 2
       go_wp2
       go_ret
       exact ⟨by first | rfl | (simp [errW_none, errW_some] <;> rfl) | (simp [*, errW_none, errW_some] <;> rfl), by repeat (first | (with_reducible first | exact HB.out | apply below_alloc | apply pw_below_drewN | apply below_drew1 | refine below_set ?_ GE106.out) | exact HB.out)⟩
     · rw [if_neg c23] at H
       have c23b0 : (a0_0.toList == ([] : List UInt8)) = false := beq_eq_false_iff_ne.mpr c23
       have c23b1 : (a0_0.toList != ([] : List UInt8)) = true := bne_iff_ne.mpr c23
       replace H := Option.bind_eq_some_iff.mp H
       obtain ⟨t112, A250, H⟩ := H
       replace H : (if t112 = true then (some false) else (if a0_1.toList = ([] : List UInt8) then (some false) else ((laws_has.f k1 a0_1 (⟨#[61]⟩ : ByteArray)).bind fun t113 => (if t113 = true then (some false) else (if 0 < (a0_1.size : Int) then ((laws_letter.f (bt a0_1 0)).bind fun t114 => (if t114 = true then (if a0_2.toList = ([] : List UInt8) then (some true) else (if 0 ≤ (wrap64 ((a0_2.size : Int) - 1)) then (if (wrap64 ((a0_2.size : Int) - 1)) < (a0_2.size : Int) then (some ((bt a0_2 (wrap64 ((a0_2.size : Int) - 1))) != 92)) else (none)) else (none))) else (some false))) else (none)))))) = some r := H
       have A25 := Aside0.mk A250
       clear A250
       by_cases c26 : t112 = true
       · subst c26
         have H1 : (some false) = some r := by rw [if_pos rfl] at H; exact H
         clear H
         have H := H1
         clear H1
         obtain rfl := Option.some.inj H
         have hcz27_0 : wr.cell? ⟨gb106, 0, none⟩ = some (.string a0_0) := (blk_cell BK106.out 0).trans rfl
         have hcz27_1 : wr.cell? ⟨gb106, 1, none⟩ = some (.string a0_1) := (blk_cell BK106.out 1).trans rfl
         have hcz27_2 : wr.cell? ⟨gb106, 2, none⟩ = some (.string a0_2) := (blk_cell BK106.out 2).trans rfl
         have hfz27_0 := blk_frozen BK106.out 0
         have hfz27_1 := blk_frozen BK106.out 1
         have hfz27_2 := blk_frozen BK106.out 2
         go_wp2_with (first | (go_at_call 31; (with_reducible refine (laws_has.calls k1 a0_0 (⟨#[91, 93]⟩ : ByteArray) true _ A25.out).mono ?_); rintro e w' ⟨rfl, ⟨nd, rfl⟩⟩))
         go_ret
         exact ⟨by first | rfl | (simp [errW_none, errW_some] <;> rfl) | (simp [*, errW_none, errW_some] <;> rfl), by repeat (first | (with_reducible first | exact HB.out | apply below_alloc | apply pw_below_drewN | apply below_drew1 | refine below_set ?_ GE106.out) | exact HB.out)⟩
       · replace c26 := Bool.eq_false_iff.mpr c26
         subst c26
         have H1 : (if a0_1.toList = ([] : List UInt8) then (some false) else ((laws_has.f k1 a0_1 (⟨#[61]⟩ : ByteArray)).bind fun t113 => (if t113 = true then (some false) else (if 0 < (a0_1.size : Int) then ((laws_letter.f (bt a0_1 0)).bind fun t114 => (if t114 = true then (if a0_2.toList = ([] : List UInt8) then (some true) else (if 0 ≤ (wrap64 ((a0_2.size : Int) - 1)) then (if (wrap64 ((a0_2.size : Int) - 1)) < (a0_2.size : Int) then (some ((bt a0_2 (wrap64 ((a0_2.size : Int) - 1))) != 92)) else (none)) else (none))) else (some false))) else (none))))) = some r := by rw [if_neg (show ¬ (false = true) by decide)] at H; exact H
         clear H
         have H := H1
         clear H1
         by_cases c28 : a0_1.toList = ([] : List UInt8)
         · rw [if_pos c28] at H
           have c28b0 : (a0_1.toList == ([] : List UInt8)) = true := beq_iff_eq.mpr c28
           have c28b1 : (a0_1.toList != ([] : List UInt8)) = false := bne_eq_false_iff_eq.mpr c28
           clear c28
           obtain rfl := Option.some.inj H
           have hcz29_0 : wr.cell? ⟨gb106, 0, none⟩ = some (.string a0_0) := (blk_cell BK106.out 0).trans rfl
           have hcz29_1 : wr.cell? ⟨gb106, 1, none⟩ = some (.string a0_1) := (blk_cell BK106.out 1).trans rfl
           have hcz29_2 : wr.cell? ⟨gb106, 2, none⟩ = some (.string a0_2) := (blk_cell BK106.out 2).trans rfl
           have hfz29_0 := blk_frozen BK106.out 0
           have hfz29_1 := blk_frozen BK106.out 1
           have hfz29_2 := blk_frozen BK106.out 2
           go_wp2_with (first | (go_at_call 31; (with_reducible refine (laws_has.calls k1 a0_0 (⟨#[91, 93]⟩ : ByteArray) false _ A25.out).mono ?_); rintro e w' ⟨rfl, ⟨nd, rfl⟩⟩))
           go_ret
           exact ⟨by first | rfl | (simp [errW_none, errW_some] <;> rfl) | (simp [*, errW_none, errW_some] <;> rfl), by repeat (first | (with_reducible first | exact HB.out | apply below_alloc | apply pw_below_drewN | apply below_drew1 | refine below_set ?_ GE106.out) | exact HB.out)⟩
         · rw [if_neg c28] at H
           have c28b0 : (a0_1.toList == ([] : List UInt8)) = false := beq_eq_false_iff_ne.mpr c28
           have c28b1 : (a0_1.toList != ([] : List UInt8)) = true := bne_iff_ne.mpr c28
           replace H := Option.bind_eq_some_iff.mp H
           obtain ⟨t113, A300, H⟩ := H
           replace H : (if t113 = true then (some false) else (if 0 < (a0_1.size : Int) then ((laws_letter.f (bt a0_1 0)).bind fun t114 => (if t114 = true then (if a0_2.toList = ([] : List UInt8) then (some true) else (if 0 ≤ (wrap64 ((a0_2.size : Int) - 1)) then (if (wrap64 ((a0_2.size : Int) - 1)) < (a0_2.size : Int) then (some ((bt a0_2 (wrap64 ((a0_2.size : Int) - 1))) != 92)) else (none)) else (none))) else (some false))) else (none))) = some r := H
           have A30 := Aside0.mk A300
           clear A300
           by_cases c31 : t113 = true
           · subst c31
             have H1 : (some false) = some r := by rw [if_pos rfl] at H; exact H
             clear H
             have H := H1
             clear H1
             obtain rfl := Option.some.inj H
             have hcz32_0 : wr.cell? ⟨gb106, 0, none⟩ = some (.string a0_0) := (blk_cell BK106.out 0).trans rfl
             have hcz32_1 : wr.cell? ⟨gb106, 1, none⟩ = some (.string a0_1) := (blk_cell BK106.out 1).trans rfl
             have hcz32_2 : wr.cell? ⟨gb106, 2, none⟩ = some (.string a0_2) := (blk_cell BK106.out 2).trans rfl
             have hfz32_0 := blk_frozen BK106.out 0
             have hfz32_1 := blk_frozen BK106.out 1
             have hfz32_2 := blk_frozen BK106.out 2
             go_wp2_with (first | (go_at_call 31; (with_reducible refine (laws_has.calls k1 a0_0 (⟨#[91, 93]⟩ : ByteArray) false _ A25.out).mono ?_); rintro e w' ⟨rfl, ⟨nd, rfl⟩⟩) | (go_at_call 31; (with_reducible refine (laws_has.calls k1 a0_1 (⟨#[61]⟩ : ByteArray) true _ A30.out).mono ?_); rintro e w' ⟨rfl, ⟨nd, rfl⟩⟩))
             go_ret
             exact ⟨by first | rfl | (simp [errW_none, errW_some] <;> rfl) | (simp [*, errW_none, errW_some] <;> rfl), by repeat (first | (with_reducible first | exact HB.out | apply below_alloc | apply pw_below_drewN | apply below_drew1 | refine below_set ?_ GE106.out) | exact HB.out)⟩
           · replace c31 := Bool.eq_false_iff.mpr c31
             subst c31
             have H1 : (if 0 < (a0_1.size : Int) then ((laws_letter.f (bt a0_1 0)).bind fun t114 => (if t114 = true then (if a0_2.toList = ([] : List UInt8) then (some true) else (if 0 ≤ (wrap64 ((a0_2.size : Int) - 1)) then (if (wrap64 ((a0_2.size : Int) - 1)) < (a0_2.size : Int) then (some ((bt a0_2 (wrap64 ((a0_2.size : Int) - 1))) != 92)) else (none)) else (none))) else (some false))) else (none)) = some r := by rw [if_neg (show ¬ (false = true) by decide)] at H; exact H
             clear H
             have H := H1
             clear H1
             by_cases c33 : 0 < (a0_1.size : Int)
             · rw [if_pos c33] at H
               have c33b0 : decide (0 < (a0_1.size : Int)) = true := decide_eq_true c33
               have c33b1 : decide (0 < a0_1.size) = true := decide_eq_true (by omega)
               clear c33
               replace H := Option.bind_eq_some_iff.mp H
               obtain ⟨t114, A350, H⟩ := H
               replace H : (if t114 = true then (if a0_2.toList = ([] : List UInt8) then (some true) else (if 0 ≤ (wrap64 ((a0_2.size : Int) - 1)) then (if (wrap64 ((a0_2.size : Int) - 1)) < (a0_2.size : Int) then (some ((bt a0_2 (wrap64 ((a0_2.size : Int) - 1))) != 92)) else (none)) else (none))) else (some false)) = some r := H
               have A35 := Aside0.mk A350
               clear A350
               by_cases c36 : t114 = true
               · subst c36
                 have H1 : (if a0_2.toList = ([] : List UInt8) then (some true) else (if 0 ≤ (wrap64 ((a0_2.size : Int) - 1)) then (if (wrap64 ((a0_2.size : Int) - 1)) < (a0_2.size : Int) then (some ((bt a0_2 (wrap64 ((a0_2.size : Int) - 1))) != 92)) else (none)) else (none))) = some r := by rw [if_pos rfl] at H; exact H
                 clear H
                 have H := H1
                 clear H1
                 by_cases c37 : a0_2.toList = ([] : List UInt8)
                 · rw [if_pos c37] at H
                   have c37b0 : (a0_2.toList == ([] : List UInt8)) = true := beq_iff_eq.mpr c37
                   have c37b1 : (a0_2.toList != ([] : List UInt8)) = false := bne_eq_false_iff_eq.mpr c37
                   clear c37
                   obtain rfl := Option.some.inj H
                   have hcz38_0 : wr.cell? ⟨gb106, 0, none⟩ = some (.string a0_0) := (blk_cell BK106.out 0).trans rfl
                   have hcz38_1 : wr.cell? ⟨gb106, 1, none⟩ = some (.string a0_1) := (blk_cell BK106.out 1).trans rfl
                   have hcz38_2 : wr.cell? ⟨gb106, 2, none⟩ = some (.string a0_2) := (blk_cell BK106.out 2).trans rfl
                   have hfz38_0 := blk_frozen BK106.out 0
                   have hfz38_1 := blk_frozen BK106.out 1
                   have hfz38_2 := blk_frozen BK106.out 2
                   go_wp2_with (first | (go_at_call 31; (with_reducible refine (laws_has.calls k1 a0_0 (⟨#[91, 93]⟩ : ByteArray) false _ A25.out).mono ?_); rintro e w' ⟨rfl, ⟨nd, rfl⟩⟩) | (go_at_call 31; (with_reducible refine (laws_has.calls k1 a0_1 (⟨#[61]⟩ : ByteArray) false _ A30.out).mono ?_); rintro e w' ⟨rfl, ⟨nd, rfl⟩⟩; have p34 : 0 ≤ (0 : Int) := (by omega); have q34 : 0 < a0_1.size := (by have : (0 : Int) < (a0_1.size : Int) := of_decide_eq_true (by first | (with_reducible assumption) | assumption); omega); have hx34 : ∀ h : 0 < a0_1.size, ((a0_1[0]'h).toNat : Int) = bt a0_1 0 := bt_at a0_1 0; clear p34; have qi34 : (0 < (a0_1.size : Int)) = True := eq_true (of_decide_eq_true (by first | (with_reducible assumption) | assumption)); replace q34 := eq_true q34) | (go_at_call 50; (with_reducible refine (laws_letter.calls (bt a0_1 0) true _ A35.out).mono ?_); rintro e w' ⟨rfl, ⟨nd, rfl⟩⟩))
                   go_ret
                   exact ⟨by first | rfl | (simp [errW_none, errW_some] <;> rfl) | (simp [*, errW_none, errW_some] <;> rfl), by repeat (first | (with_reducible first | exact HB.out | apply below_alloc | apply pw_below_drewN | apply below_drew1 | refine below_set ?_ GE106.out) | exact HB.out)⟩
                 · rw [if_neg c37] at H
                   have c37b0 : (a0_2.toList == ([] : List UInt8)) = false := beq_eq_false_iff_ne.mpr c37
                   have c37b1 : (a0_2.toList != ([] : List UInt8)) = true := bne_iff_ne.mpr c37
                   obtain ⟨ji39, hji39⟩ : ∃ j_ : Int, (wrap64 ((a0_2.size : Int) - 1)) = j_ := ⟨_, rfl⟩
                   replace H : (if 0 ≤ (ji39) then (if (ji39) < (a0_2.size : Int) then (some ((bt a0_2 (ji39)) != 92)) else (none)) else (none)) = some r := by first | (rw [hji39] at H; exact H) | (simp only [hji39] at H ⊢; exact H)
                   (try rw [hji39] at A25)
                   (try rw [hji39] at A30)
                   (try rw [hji39] at A35)
                   have hji39w : (IntKind.i64.wrap ((a0_2.size : Int) - 1)) = ji39 := (i64_w _).trans hji39
                   by_cases c40 : 0 ≤ (ji39)
                   · rw [if_pos c40] at H
                     have c40b0 : decide (0 ≤ (ji39)) = true := decide_eq_true c40
                     clear c40
                     by_cases c41 : (ji39) < (a0_2.size : Int)
                     · rw [if_pos c41] at H
                       have c41b0 : decide ((ji39) < (a0_2.size : Int)) = true := decide_eq_true c41
                       clear c41
                       obtain rfl := Option.some.inj H
                       have hcz43_0 : wr.cell? ⟨gb106, 0, none⟩ = some (.string a0_0) := (blk_cell BK106.out 0).trans rfl
                       have hcz43_1 : wr.cell? ⟨gb106, 1, none⟩ = some (.string a0_1) := (blk_cell BK106.out 1).trans rfl
                       have hcz43_2 : wr.cell? ⟨gb106, 2, none⟩ = some (.string a0_2) := (blk_cell BK106.out 2).trans rfl
                       have hfz43_0 := blk_frozen BK106.out 0
                       have hfz43_1 := blk_frozen BK106.out 1
                       have hfz43_2 := blk_frozen BK106.out 2
                       go_wp2_with (first | (go_at_call 31; (with_reducible refine (laws_has.calls k1 a0_0 (⟨#[91, 93]⟩ : ByteArray) false _ A25.out).mono ?_); rintro e w' ⟨rfl, ⟨nd, rfl⟩⟩) | (go_at_call 31; (with_reducible refine (laws_has.calls k1 a0_1 (⟨#[61]⟩ : ByteArray) false _ A30.out).mono ?_); rintro e w' ⟨rfl, ⟨nd, rfl⟩⟩; have p34 : 0 ≤ (0 : Int) := (by omega); have q34 : 0 < a0_1.size := (by have : (0 : Int) < (a0_1.size : Int) := of_decide_eq_true (by first | (with_reducible assumption) | assumption); omega); have hx34 : ∀ h : 0 < a0_1.size, ((a0_1[0]'h).toNat : Int) = bt a0_1 0 := bt_at a0_1 0; clear p34; have qi34 : (0 < (a0_1.size : Int)) = True := eq_true (of_decide_eq_true (by first | (with_reducible assumption) | assumption)); replace q34 := eq_true q34) | (go_at_call 50; (with_reducible refine (laws_letter.calls (bt a0_1 0) true _ A35.out).mono ?_); rintro e w' ⟨rfl, ⟨nd, rfl⟩⟩; have p42 : 0 ≤ ((ji39) : Int) := of_decide_eq_true (by first | (with_reducible assumption) | assumption); have q42 : (ji39) < (a0_2.size : Int) := of_decide_eq_true (by first | (with_reducible assumption) | assumption); have hx42 := bt_at a0_2 (ji39); replace p42 := eq_true p42; replace q42 := eq_true q42))
                       go_ret
                       exact ⟨by first | rfl | (simp [errW_none, errW_some] <;> rfl) | (simp only [← hji39]; first | rfl | (simp [errW_none, errW_some] <;> rfl)) | (simp [*, errW_none, errW_some] <;> rfl), by repeat (first | (with_reducible first | exact HB.out | apply below_alloc | apply pw_below_drewN | apply below_drew1 | refine below_set ?_ GE106.out) | exact HB.out)⟩
                     · rw [if_neg c41] at H
                       exact absurd H (by simp)
                   · rw [if_neg c40] at H
                     exact absurd H (by simp)
               · replace c36 := Bool.eq_false_iff.mpr c36
                 subst c36
                 have H1 : (some false) = some r := by rw [if_neg (show ¬ (false = true) by decide)] at H; exact H
                 clear H
                 have H := H1
                 clear H1
                 obtain rfl := Option.some.inj H
                 have hcz44_0 : wr.cell? ⟨gb106, 0, none⟩ = some (.string a0_0) := (blk_cell BK106.out 0).trans rfl
                 have hcz44_1 : wr.cell? ⟨gb106, 1, none⟩ = some (.string a0_1) := (blk_cell BK106.out 1).trans rfl
                 have hcz44_2 : wr.cell? ⟨gb106, 2, none⟩ = some (.string a0_2) := (blk_cell BK106.out 2).trans rfl
                 have hfz44_0 := blk_frozen BK106.out 0
                 have hfz44_1 := blk_frozen BK106.out 1
                 have hfz44_2 := blk_frozen BK106.out 2
                 go_wp2_with (first | (go_at_call 31; (with_reducible refine (laws_has.calls k1 a0_0 (⟨#[91, 93]⟩ : ByteArray) false _ A25.out).mono ?_); rintro e w' ⟨rfl, ⟨nd, rfl⟩⟩) | (go_at_call 31; (with_reducible refine (laws_has.calls k1 a0_1 (⟨#[61]⟩ : ByteArray) false _ A30.out).mono ?_); rintro e w' ⟨rfl, ⟨nd, rfl⟩⟩; have p34 : 0 ≤ (0 : Int) := (by omega); have q34 : 0 < a0_1.size := (by have : (0 : Int) < (a0_1.size : Int) := of_decide_eq_true (by first | (with_reducible assumption) | assumption); omega); have hx34 : ∀ h : 0 < a0_1.size, ((a0_1[0]'h).toNat : Int) = bt a0_1 0 := bt_at a0_1 0; clear p34; have qi34 : (0 < (a0_1.size : Int)) = True := eq_true (of_decide_eq_true (by first | (with_reducible assumption) | assumption)); replace q34 := eq_true q34) | (go_at_call 50; (with_reducible refine (laws_letter.calls (bt a0_1 0) false _ A35.out).mono ?_); rintro e w' ⟨rfl, ⟨nd, rfl⟩⟩))
                 go_ret
                 exact ⟨by first | rfl | (simp [errW_none, errW_some] <;> rfl) | (simp [*, errW_none, errW_some] <;> rfl), by repeat (first | (with_reducible first | exact HB.out | apply below_alloc | apply pw_below_drewN | apply below_drew1 | refine below_set ?_ GE106.out) | exact HB.out)⟩
             · rw [if_neg c33] at H
               exact absurd H (by simp)
def laws_plainOptions.l0 : Nat → List (S29) → List (S29) → Int → Int → Option (Bool)
 | 0, _, _, _, _ => none
 | k + 1, x0, x5, x6, x7 => if x7 < x6 then (if 0 ≤ x7 then (if x7 < (x5.length : Int) then ((laws_plainOption.f k ((rd_T29 x5 x7).f0) ((rd_T29 x5 x7).f1) ((rd_T29 x5 x7).f2)).bind fun t117 => (if t117 = true then (laws_plainOptions.l0 k x0 x5 x6 (wrap64 (x7 + 1))) else (some false))) else (none)) else (none)) else (some (decide ((x0.length : Int) ≤ 200)))
def laws_plainOptions.f (k : Nat) (l0 : List (S29)) : Option (Bool) := laws_plainOptions.l0 k l0 l0 (l0.length : Int) 0
set_option maxHeartbeats 8000000 in
set_option maxRecDepth 100000 in
theorem laws_plainOptions.calls (k : Nat) (A0 : Option Addr) (c0 : Nat) (l0 : List (S29)) (r : Bool) (w : World) (hr0 : Kd.C k29 w A0 l0.length l0) (hc0 : l0.length ≤ c0) (h : laws_plainOptions.f k l0 = some r) :
 Calls Tryd.prog 18 #[.slice A0 l0.length c0] w fun e w' => e = .returned (.bool r) ∧ Below w.heap.size w w' := by
 have hu29 := Tryd.underlying29
 have HR0 := Aside0.mk hr0
 have HC0 := Aside0.mk hc0
 clear hr0 hc0
 have HB := Aside0.mk (Below.refl w.heap.size w)
 have H : (laws_plainOptions.l0 k l0 l0 (l0.length : Int) 0) = some r := h
 clear h
 have H' := Aside0.mk H
 clear H
 go_enter Tryd.func18, Tryd.ntmps18
 go_wp2
 go_loopg [7] k (fun kq v7 w' => ∃ (x7_1 : Int), v7 = .int .i64 x7_1 ∧ Aside0 (laws_plainOptions.l0 kq l0 l0 (l0.length : Int) x7_1 = some r) ∧ Aside0 (kq ≤ k) ∧ Aside0 (Below w.heap.size w w'))
 case atStart => exact ⟨(0), (by first | rfl | (simp; done) | (simp [*]; done)), H', ⟨Nat.le_refl _⟩, ⟨by repeat (first | (with_reducible first | exact HB.out | apply below_alloc | apply pw_below_drewN | apply below_drew1) | exact HB.out)⟩⟩
 case round =>
  clear H'
  try clear c1
  obtain ⟨x7_1, rfl, HA, HK1, HB⟩ := hrel
  cases gk with
  | zero => exact absurd HA.out (by simp [laws_plainOptions.l0])
  | succ k1 =>
   have H := HA.out
   clear HA
   simp only [laws_plainOptions.l0] at H
   by_cases c2 : x7_1 < (l0.length : Int)
   · rw [if_pos c2] at H
     have c2b0 : decide (x7_1 < (l0.length : Int)) = true := decide_eq_true c2
     clear c2
     by_cases c3 : 0 ≤ x7_1
     · rw [if_pos c3] at H
       have c3b0 : decide (0 ≤ x7_1) = true := decide_eq_true c3
       clear c3
       by_cases c4 : x7_1 < (l0.length : Int)
       · rw [if_pos c4] at H
         have c4b0 : decide (x7_1 < (l0.length : Int)) = true := decide_eq_true c4
         clear c4
         replace H := Option.bind_eq_some_iff.mp H
         obtain ⟨t117, A50, H⟩ := H
         replace H : (if t117 = true then (laws_plainOptions.l0 k1 l0 l0 (l0.length : Int) (wrap64 (x7_1 + 1))) else (some false)) = some r := H
         have A5 := Aside0.mk A50
         clear A50
         by_cases c6 : t117 = true
         · subst c6
           have H1 : (laws_plainOptions.l0 k1 l0 l0 (l0.length : Int) (wrap64 (x7_1 + 1))) = some r := by rw [if_pos rfl] at H; exact H
           clear H
           have H := H1
           clear H1
           have H' := Aside0.mk H
           clear H
           have p115 : 0 ≤ (x7_1 : Int) := of_decide_eq_true (by first | (with_reducible assumption) | assumption)
           have q115 : x7_1 < (l0.length : Int) := of_decide_eq_true (by first | (with_reducible assumption) | assumption)
           obtain ⟨ad115, e115, hx115_0, hx115_1, hx115_2⟩ := at_T29 HR0.out x7_1 p115 q115
           cases e115
           replace hx115_0 := (HB.out.cell (World.block_lt_of_cell? w _ hx115_0)).trans hx115_0
           replace hx115_1 := (HB.out.cell (World.block_lt_of_cell? w _ hx115_1)).trans hx115_1
           replace hx115_2 := (HB.out.cell (World.block_lt_of_cell? w _ hx115_2)).trans hx115_2
           replace p115 := eq_true p115
           replace q115 := eq_true q115
           go_wp2_with (first | ((with_reducible refine gate_dst (N := 4) rfl ?_); refine box_event ?hg (N := 4) ?hd (cs := #[.string (⟨#[]⟩ : ByteArray), .string (⟨#[]⟩ : ByteArray), .string (⟨#[]⟩ : ByteArray)]) (t := 29) ?hr ?_; (case hd => rfl); (case hg => rfl); (case hr => first | (go_simp; done) | (go_simp; rfl)); intro gb116 hg w7 hbox hb; have n0_ := Aside0.mk (below_step (by repeat (first | (with_reducible first | exact HB.out | apply below_alloc | apply pw_below_drewN | apply below_drew1) | exact HB.out)) hb); have n1_ := Aside0.mk (hbox); have n2_ := Aside0.mk ((by rw [hg]; exact (below_size (by repeat (first | (with_reducible first | exact HB.out | apply below_alloc | apply pw_below_drewN | apply below_drew1) | exact HB.out))) : w.heap.size ≤ gb116)); have n3_ := Aside0.mk ((by rw [hg]; exact (below_size (by repeat (first | (with_reducible first | exact HB.out | apply below_alloc | apply pw_below_drewN | apply below_drew1) | exact HB.out))) : w.heap.size ≤ gb116)); clear HB; have HB := n0_; have BK116 := n1_; have GW116 := n2_; have GE116 := n3_; clear n0_ n1_ n2_ n3_; clear hb hbox hg; have hcz8_0 : w7.cell? ⟨gb116, 0, none⟩ = some (.string (⟨#[]⟩ : ByteArray)) := (blk_cell BK116.out 0).trans rfl; have hcz8_1 : w7.cell? ⟨gb116, 1, none⟩ = some (.string (⟨#[]⟩ : ByteArray)) := (blk_cell BK116.out 1).trans rfl; have hcz8_2 : w7.cell? ⟨gb116, 2, none⟩ = some (.string (⟨#[]⟩ : ByteArray)) := (blk_cell BK116.out 2).trans rfl; have hfz8_0 := blk_frozen BK116.out 0; have hfz8_1 := blk_frozen BK116.out 1; have hfz8_2 := blk_frozen BK116.out 2) | ((with_reducible refine gate_callee (f := 37) rfl ?_); refine goesL_ (some 12) rfl rfl Tryd.func37 (by kernel_rfl) rfl #[.agg #[.string ((rd_T29 l0 x7_1).f0), .string ((rd_T29 l0 x7_1).f1), .string ((rd_T29 l0 x7_1).f2)]] rfl (by (try simp only [List.map_toArray, List.map_cons, List.map_nil]); first | done | rfl | (simp only [List.length_drop, List.length_take]; rfl)) ?_; (with_reducible refine (laws_plainOption.calls k1 ((rd_T29 l0 x7_1).f0) ((rd_T29 l0 x7_1).f1) ((rd_T29 l0 x7_1).f2) true _ A5.out).mono ?_); rintro e w9 ⟨rfl, hb⟩; refine ⟨_, rfl, ?_⟩; have n0_ := Aside0.mk (blk_below (g := gb116) (o := .cells #[.string ((rd_T29 l0 x7_1).f0), .string ((rd_T29 l0 x7_1).f1), .string ((rd_T29 l0 x7_1).f2)] 29 (0, 0)) (by (with_reducible repeat (first | refine blk_drewN ?_ _ | refine blk_drew ?_ | refine blk_alloc ?_ _)); refine blk_put (cs := #[.string ((rd_T29 l0 x7_1).f0), .string ((rd_T29 l0 x7_1).f1), .string (⟨#[]⟩ : ByteArray)]) ?_ 2 _ rfl; (with_reducible repeat (first | refine blk_drewN ?_ _ | refine blk_drew ?_ | refine blk_alloc ?_ _)); refine blk_put (cs := #[.string ((rd_T29 l0 x7_1).f0), .string (⟨#[]⟩ : ByteArray), .string (⟨#[]⟩ : ByteArray)]) ?_ 1 _ rfl; (with_reducible repeat (first | refine blk_drewN ?_ _ | refine blk_drew ?_ | refine blk_alloc ?_ _)); refine blk_put (cs := #[.string (⟨#[]⟩ : ByteArray), .string (⟨#[]⟩ : ByteArray), .string (⟨#[]⟩ : ByteArray)]) ?_ 0 _ rfl; (with_reducible repeat (first | refine blk_drewN ?_ _ | refine blk_drew ?_ | refine blk_alloc ?_ _)); exact BK116.out) hb); have n1_ := Aside0.mk (below_step (by repeat (first | (with_reducible first | exact HB.out | apply below_alloc | apply pw_below_drewN | apply below_drew1 | refine below_set ?_ GE116.out) | exact HB.out)) hb); clear BK116; clear HB; have BK116 := n0_; have HB := n1_; clear n0_ n1_; (try clear hb); (try clear hb2); (try clear hk); (try clear hi)))
           go_roundg k1
           case measure => have := HK1.out; omega
           case rel => exact ⟨(wrap64 (x7_1 + 1)), (by first | rfl | (simp; done) | (simp [*]; done)), H', ⟨by have := HK1.out; omega⟩, ⟨by repeat (first | (with_reducible first | exact HB.out | apply below_alloc | apply pw_below_drewN | apply below_drew1 | refine below_set ?_ GE116.out) | exact HB.out)⟩⟩
         · replace c6 := Bool.eq_false_iff.mpr c6
           subst c6
           have H1 : (some false) = some r := by rw [if_neg (show ¬ (false = true) by decide)] at H; exact H
           clear H
           have H := H1
           clear H1
           obtain rfl := Option.some.inj H
           have p115 : 0 ≤ (x7_1 : Int) := of_decide_eq_true (by first | (with_reducible assumption) | assumption)
           have q115 : x7_1 < (l0.length : Int) := of_decide_eq_true (by first | (with_reducible assumption) | assumption)
           obtain ⟨ad115, e115, hx115_0, hx115_1, hx115_2⟩ := at_T29 HR0.out x7_1 p115 q115
           cases e115
           replace hx115_0 := (HB.out.cell (World.block_lt_of_cell? w _ hx115_0)).trans hx115_0
           replace hx115_1 := (HB.out.cell (World.block_lt_of_cell? w _ hx115_1)).trans hx115_1
           replace hx115_2 := (HB.out.cell (World.block_lt_of_cell? w _ hx115_2)).trans hx115_2
           replace p115 := eq_true p115
           replace q115 := eq_true q115
           go_wp2_with (first | ((with_reducible refine gate_dst (N := 4) rfl ?_); refine box_event ?hg (N := 4) ?hd (cs := #[.string (⟨#[]⟩ : ByteArray), .string (⟨#[]⟩ : ByteArray), .string (⟨#[]⟩ : ByteArray)]) (t := 29) ?hr ?_; (case hd => rfl); (case hg => rfl); (case hr => first | (go_simp; done) | (go_simp; rfl)); intro gb116 hg w10 hbox hb; have n0_ := Aside0.mk (below_step (by repeat (first | (with_reducible first | exact HB.out | apply below_alloc | apply pw_below_drewN | apply below_drew1) | exact HB.out)) hb); have n1_ := Aside0.mk (hbox); have n2_ := Aside0.mk ((by rw [hg]; exact (below_size (by repeat (first | (with_reducible first | exact HB.out | apply below_alloc | apply pw_below_drewN | apply below_drew1) | exact HB.out))) : w.heap.size ≤ gb116)); have n3_ := Aside0.mk ((by rw [hg]; exact (below_size (by repeat (first | (with_reducible first | exact HB.out | apply below_alloc | apply pw_below_drewN | apply below_drew1) | exact HB.out))) : w.heap.size ≤ gb116)); clear HB; have HB := n0_; have BK116 := n1_; have GW116 := n2_; have GE116 := n3_; clear n0_ n1_ n2_ n3_; clear hb hbox hg; have hcz11_0 : w10.cell? ⟨gb116, 0, none⟩ = some (.string (⟨#[]⟩ : ByteArray)) := (blk_cell BK116.out 0).trans rfl; have hcz11_1 : w10.cell? ⟨gb116, 1, none⟩ = some (.string (⟨#[]⟩ : ByteArray)) := (blk_cell BK116.out 1).trans rfl; have hcz11_2 : w10.cell? ⟨gb116, 2, none⟩ = some (.string (⟨#[]⟩ : ByteArray)) := (blk_cell BK116.out 2).trans rfl; have hfz11_0 := blk_frozen BK116.out 0; have hfz11_1 := blk_frozen BK116.out 1; have hfz11_2 := blk_frozen BK116.out 2) | ((with_reducible refine gate_callee (f := 37) rfl ?_); refine goesL_ (some 12) rfl rfl Tryd.func37 (by kernel_rfl) rfl #[.agg #[.string ((rd_T29 l0 x7_1).f0), .string ((rd_T29 l0 x7_1).f1), .string ((rd_T29 l0 x7_1).f2)]] rfl (by (try simp only [List.map_toArray, List.map_cons, List.map_nil]); first | done | rfl | (simp only [List.length_drop, List.length_take]; rfl)) ?_; (with_reducible refine (laws_plainOption.calls k1 ((rd_T29 l0 x7_1).f0) ((rd_T29 l0 x7_1).f1) ((rd_T29 l0 x7_1).f2) false _ A5.out).mono ?_); rintro e w12 ⟨rfl, hb⟩; refine ⟨_, rfl, ?_⟩; have n0_ := Aside0.mk (blk_below (g := gb116) (o := .cells #[.string ((rd_T29 l0 x7_1).f0), .string ((rd_T29 l0 x7_1).f1), .string ((rd_T29 l0 x7_1).f2)] 29 (0, 0)) (by (with_reducible repeat (first | refine blk_drewN ?_ _ | refine blk_drew ?_ | refine blk_alloc ?_ _)); refine blk_put (cs := #[.string ((rd_T29 l0 x7_1).f0), .string ((rd_T29 l0 x7_1).f1), .string (⟨#[]⟩ : ByteArray)]) ?_ 2 _ rfl; (with_reducible repeat (first | refine blk_drewN ?_ _ | refine blk_drew ?_ | refine blk_alloc ?_ _)); refine blk_put (cs := #[.string ((rd_T29 l0 x7_1).f0), .string (⟨#[]⟩ : ByteArray), .string (⟨#[]⟩ : ByteArray)]) ?_ 1 _ rfl; (with_reducible repeat (first | refine blk_drewN ?_ _ | refine blk_drew ?_ | refine blk_alloc ?_ _)); refine blk_put (cs := #[.string (⟨#[]⟩ : ByteArray), .string (⟨#[]⟩ : ByteArray), .string (⟨#[]⟩ : ByteArray)]) ?_ 0 _ rfl; (with_reducible repeat (first | refine blk_drewN ?_ _ | refine blk_drew ?_ | refine blk_alloc ?_ _)); exact BK116.out) hb); have n1_ := Aside0.mk (below_step (by repeat (first | (with_reducible first | exact HB.out | apply below_alloc | apply pw_below_drewN | apply below_drew1 | refine below_set ?_ GE116.out) | exact HB.out)) hb); clear BK116; clear HB; have BK116 := n0_; have HB := n1_; clear n0_ n1_; (try clear hb); (try clear hb2); (try clear hk); (try clear hi)))
           go_ret
           exact ⟨by first | rfl | (simp [errW_none, errW_some] <;> rfl) | (simp [*, errW_none, errW_some] <;> rfl), by repeat (first | (with_reducible first | exact HB.out | apply below_alloc | apply pw_below_drewN | apply below_drew1 | refine below_set ?_ GE116.out) | exact HB.out)⟩
       · rw [if_neg c4] at H
         exact absurd H (by simp)
     · rw [if_neg c3] at H
       exact absurd H (by simp)
   · rw [if_neg c2] at H
     have c2b0 : decide (x7_1 < (l0.length : Int)) = false := decide_eq_false c2
     clear c2
     obtain rfl := Option.some.inj H
     go_wp2
     go_ret
     exact ⟨by first | rfl | (simp [errW_none, errW_some] <;> rfl) | (simp [*, errW_none, errW_some] <;> rfl), by repeat (first | (with_reducible first | exact HB.out | apply below_alloc | apply pw_below_drewN | apply below_drew1) | exact HB.out)⟩
def opOf (x : S29) : U.Op3' := (x.f0.data.toList, x.f1.data.toList, x.f2.data.toList)
def ofOp (x : U.Op3') : S29 := ⟨U.B x.1, U.B x.2.1, U.B x.2.2⟩
theorem B_of' (T : ByteArray) : U.B T.data.toList = T := by cases T; rfl
theorem ofOp_opOf (x : S29) : ofOp (opOf x) = x := by
 cases x
 unfold ofOp opOf
 simp only [B_of']
theorem C_op {w : World} {A : Option Addr} {n : Nat} {xs : List S29} (h : Kd.C k29 w A n xs) : Kd.C U.kOpt w A n (xs.map opOf) := by
 obtain ⟨h1, h2, h3⟩ := h
 refine ⟨by rw [List.length_map]; exact h1, h2, fun hn => ?_⟩
 obtain ⟨a, ha, h4⟩ := h3 hn
 refine ⟨a, ha, fun j p hj => ?_⟩
 rw [List.getElem?_map] at hj
 cases hq : xs[j]? with
 | none => rw [hq] at hj; simp at hj
 | some x =>
  rw [hq] at hj
  obtain rfl := Option.some.inj hj
  obtain ⟨c, hc1, hc2, hc3⟩ := h4 j x hq
  refine ⟨c, hc1, ?_, hc3⟩
  have e : k29.K w x c = U.kOpt.K w (opOf (ofOp (opOf x))) c := by rw [ofOp_opOf]; show _ = (Kd.pair Kd.string (Kd.pair Kd.string Kd.string)).K w (U.B x.f0.data.toList, U.B x.f1.data.toList, U.B x.f2.data.toList) c; rw [B_of', B_of', B_of']; rfl
  exact e ▸ hc2
theorem R_op {w : World} {base : Nat} {ok : Nat → Prop} {v : Value} {r : List U.Op3'} (h : Kd.R U.kOpt 29 w base ok v r) : Kd.R k29 29 w base ok v (r.map ofOp) := by
 obtain ⟨h0, inner, ho, hr⟩ := h
 refine ⟨h0, inner, by rw [List.length_map]; exact ho, by rw [List.length_map]; exact hr.1, fun j p hj => ?_⟩
 rw [List.getElem?_map] at hj
 cases hq : r[j]? with
 | none => rw [hq] at hj; simp at hj
 | some m =>
  rw [hq] at hj
  obtain rfl := Option.some.inj hj
  exact hr.2 j m hq
def shortB (l : List U.Op3') : Bool := decide (l.length ≤ 1000) && l.all (fun o => decide (o.1.length ≤ 1000) && decide (o.2.1.length ≤ 1000) && decide (o.2.2.length ≤ 1000))
theorem shortB_iff (l : List U.Op3') : shortB l = true ↔ U.Short l := by
 unfold shortB U.Short
 simp only [Bool.and_eq_true, decide_eq_true_eq, List.all_eq_true, and_assoc]
def impl_UnitWrite.f (l0 : List S29) : Option ByteArray := if shortB (l0.map opOf) = true then some (U.B (U.writeF (l0.map opOf))) else none
theorem impl_UnitWrite.calls (A0 : Option Addr) (c0 : Nat) (l0 : List S29) (r : ByteArray) (w : World) (hr0 : Kd.C k29 w A0 l0.length l0) (hc0 : l0.length ≤ c0) (h : impl_UnitWrite.f l0 = some r) :
 Calls Tryd.prog 19 #[.slice A0 l0.length c0] w fun e w' => e = .returned (.string r) ∧ Below w.heap.size w w' := by
 unfold impl_UnitWrite.f at h
 split at h
 · rename_i hs
   obtain rfl := Option.some.inj h
   have hC := C_op hr0
   have hl : (l0.map opOf).length = l0.length := List.length_map _
   have := U.unit_write A0 c0 (l0.map opOf) w (by rw [hl]; exact hC) ((shortB_iff _).1 hs)
   rw [hl] at this
   exact this
 · cases h
def impl_UnitRead.f (a0 : ByteArray) : Option (List S29 × Int) :=
 if (∀ c ∈ a0.data.toList, c.toNat < 128) ∧ a0.size ≤ 1000000000 then
  (U.readF a0.data.toList).bind fun r => if r.2.length < 900000000 then some (r.2.map ofOp, 0) else none
 else none
theorem impl_UnitRead.calls (a0 : ByteArray) (r1 : List S29) (r2 : Int) (w : World) (h : impl_UnitRead.f a0 = some (r1, r2)) (ht : U.Tabs w := by first | assumption | exact U.Tabs.below (Aside0.out ‹Aside0 (U.Tabs _)›) (by repeat (first | (with_reducible first | exact Aside0.out ‹Aside0 (Below _ _ _)› | apply below_alloc | apply pw_below_drewN | apply below_drew1)))) :
 Calls Tryd.prog 22 #[.string a0] w fun e w' => ∃ v0_ : Value, e = .returned (.tuple #[v0_, .int .i64 r2]) ∧ Kd.R k29 29 w' w.heap.size (fun _ => True) v0_ r1 ∧ Below w.heap.size w w' := by
 unfold impl_UnitRead.f at h
 split at h
 · rename_i hs
   obtain ⟨r, hr, h⟩ := Option.bind_eq_some_iff.mp h
   split at h
   · rename_i hl
     simp only [Option.some.injEq, Prod.mk.injEq] at h
     obtain ⟨rfl, rfl⟩ := h
     exact (U.unit_read a0 w r.1 r.2 ht hs.1 hs.2 hr hl).mono fun e w' hh => by
      obtain ⟨v, he, hR, hB⟩ := hh
      exact ⟨v, he, R_op hR, hB⟩
   · cases h
 · cases h
end Go.Proofs.YtocdnceckljnaaaDoor.QV0
namespace Go.Proofs.YtocdnceckljnaaaDoor.QV0
open Go.RowKit Go.Proofs.YtocdnceckljnaaaDoorW.PrintWords Go.Proofs.YtocdnceckljnaaaDoorW.PrintLast Go.Proofs.YtocdnceckljnaaaDoorW.PrintMore
attribute [local go_sem] max2_int min2_int max_two min_two max_three min_three max_four min_four
set_option linter.unusedVariables false
set_option linter.unusedSimpArgs false
attribute [local go_sem high] eqA29
def laws_sameOptions.l0 : Nat → List (S29) → List (S29) → Int → Int → Option (Bool)
 | 0, _, _, _, _ => none
 | k + 1, x0, x1, x12, x13 => if x13 < x12 then (if 0 ≤ x13 then (if x13 < (x0.length : Int) then (if x13 < (x1.length : Int) then (if (!((((rd_T29 x0 x13).f0).toList) == (((rd_T29 x1 x13).f0).toList)) || (!((((rd_T29 x0 x13).f1).toList) == (((rd_T29 x1 x13).f1).toList)) || (!((((rd_T29 x0 x13).f2).toList) == (((rd_T29 x1 x13).f2).toList))))) = true then (some false) else (laws_sameOptions.l0 k x0 x1 x12 (wrap64 (x13 + 1)))) else (none)) else (none)) else (none)) else (some true)
def laws_sameOptions.f (k : Nat) (l0 : List (S29)) (l1 : List (S29)) : Option (Bool) := if (l0.length : Int) = (l1.length : Int) then (laws_sameOptions.l0 k l0 l1 (l0.length : Int) 0) else (some false)
set_option maxHeartbeats 8000000 in
set_option maxRecDepth 100000 in
theorem laws_sameOptions.calls (k : Nat) (A0 : Option Addr) (c0 : Nat) (l0 : List (S29)) (A1 : Option Addr) (c1 : Nat) (l1 : List (S29)) (r : Bool) (w : World) (hr0 : Kd.C k29 w A0 l0.length l0) (hc0 : l0.length ≤ c0) (hr1 : Kd.C k29 w A1 l1.length l1) (hc1 : l1.length ≤ c1) (h : laws_sameOptions.f k l0 l1 = some r) :
 Calls Tryd.prog 23 #[.slice A0 l0.length c0, .slice A1 l1.length c1] w fun e w' => e = .returned (.bool r) ∧ Drawn0 w w' := by
 have hu29 := Tryd.underlying29
 have HR0 := Aside0.mk hr0
 have HC0 := Aside0.mk hc0
 clear hr0 hc0
 have HR1 := Aside0.mk hr1
 have HC1 := Aside0.mk hc1
 clear hr1 hc1
 have H : (if (l0.length : Int) = (l1.length : Int) then (laws_sameOptions.l0 k l0 l1 (l0.length : Int) 0) else (some false)) = some r := h
 clear h
 by_cases c3 : (l0.length : Int) = (l1.length : Int)
 · rw [if_pos c3] at H
   have c3b0 : ((l0.length : Int) == (l1.length : Int)) = true := beq_iff_eq.mpr c3
   have c3b1 : ((l0.length : Int) != (l1.length : Int)) = false := bne_eq_false_iff_eq.mpr c3
   have c3b2 : (l0.length == l1.length) = true := by first | simpa using c3 | (simp at c3 ⊢; omega)
   clear c3
   have H' := Aside0.mk H
   clear H
   go_enter Tryd.func23, Tryd.ntmps23
   go_wp2
   repeat (go_quiet (fail); try go_wp2)
   go_loopg [13] k (fun kq v13 w' => ∃ (x13_1 : Int), v13 = .int .i64 x13_1 ∧ Aside0 (laws_sameOptions.l0 kq l0 l1 (l0.length : Int) x13_1 = some r) ∧ Aside0 (kq ≤ k) ∧ Drawn0 w w')
   case atStart => exact ⟨(0), (by first | rfl | (simp; done) | (simp [*]; done)), H', ⟨Nat.le_refl _⟩, by repeat (first | exact Drawn0.refl _ | apply Drawn0.step)⟩
   case round =>
    clear H'
    try clear c1
    try clear c2
    try clear p2
    try clear c3
    try clear c3b0
    try clear c3b1
    try clear c3b2
    obtain ⟨x13_1, rfl, HA, HK1, ⟨m1, rfl⟩⟩ := hrel
    cases gk with
    | zero => exact absurd HA.out (by simp [laws_sameOptions.l0])
    | succ k1 =>
     have H := HA.out
     clear HA
     simp only [laws_sameOptions.l0] at H
     by_cases c4 : x13_1 < (l0.length : Int)
     · rw [if_pos c4] at H
       have c4b0 : decide (x13_1 < (l0.length : Int)) = true := decide_eq_true c4
       clear c4
       by_cases c5 : 0 ≤ x13_1
       · rw [if_pos c5] at H
         have c5b0 : decide (0 ≤ x13_1) = true := decide_eq_true c5
         clear c5
         by_cases c6 : x13_1 < (l0.length : Int)
         · rw [if_pos c6] at H
           have c6b0 : decide (x13_1 < (l0.length : Int)) = true := decide_eq_true c6
           clear c6
           by_cases c7 : x13_1 < (l1.length : Int)
           · rw [if_pos c7] at H
             have c7b0 : decide (x13_1 < (l1.length : Int)) = true := decide_eq_true c7
             clear c7
             by_cases c8 : (!((((rd_T29 l0 x13_1).f0).toList) == (((rd_T29 l1 x13_1).f0).toList)) || (!((((rd_T29 l0 x13_1).f1).toList) == (((rd_T29 l1 x13_1).f1).toList)) || (!((((rd_T29 l0 x13_1).f2).toList) == (((rd_T29 l1 x13_1).f2).toList))))) = true
             · rw [if_pos c8] at H
               have c8b0 : (!((((rd_T29 l0 x13_1).f0).toList) == (((rd_T29 l1 x13_1).f0).toList)) || (!((((rd_T29 l0 x13_1).f1).toList) == (((rd_T29 l1 x13_1).f1).toList)) || (!((((rd_T29 l0 x13_1).f2).toList) == (((rd_T29 l1 x13_1).f2).toList))))) = true := c8
               clear c8
               obtain rfl := Option.some.inj H
               have p118 : 0 ≤ (x13_1 : Int) := of_decide_eq_true (by first | (with_reducible assumption) | assumption)
               have q118 : x13_1 < (l0.length : Int) := of_decide_eq_true (by first | (with_reducible assumption) | assumption)
               obtain ⟨ad118, e118, hx118_0, hx118_1, hx118_2⟩ := at_T29 HR0.out x13_1 p118 q118
               cases e118
               replace p118 := eq_true p118
               replace q118 := eq_true q118
               have p119 : 0 ≤ (x13_1 : Int) := of_decide_eq_true (by first | (with_reducible assumption) | assumption)
               have q119 : x13_1 < (l1.length : Int) := of_decide_eq_true (by first | (with_reducible assumption) | assumption)
               obtain ⟨ad119, e119, hx119_0, hx119_1, hx119_2⟩ := at_T29 HR1.out x13_1 p119 q119
               cases e119
               replace p119 := eq_true p119
               replace q119 := eq_true q119
               go_wp2
               repeat (go_quiet (fail); try go_wp2)
               go_ret
               exact ⟨by first | rfl | (simp; done) | (simp [*]; done) | (simp; cases a0.toList <;> rfl), by repeat (first | exact Drawn0.refl _ | apply Drawn0.step)⟩
             · rw [if_neg c8] at H
               have c8b0 : (!((((rd_T29 l0 x13_1).f0).toList) == (((rd_T29 l1 x13_1).f0).toList)) || (!((((rd_T29 l0 x13_1).f1).toList) == (((rd_T29 l1 x13_1).f1).toList)) || (!((((rd_T29 l0 x13_1).f2).toList) == (((rd_T29 l1 x13_1).f2).toList))))) = false := by simpa using c8
               clear c8
               have H' := Aside0.mk H
               clear H
               have p118 : 0 ≤ (x13_1 : Int) := of_decide_eq_true (by first | (with_reducible assumption) | assumption)
               have q118 : x13_1 < (l0.length : Int) := of_decide_eq_true (by first | (with_reducible assumption) | assumption)
               obtain ⟨ad118, e118, hx118_0, hx118_1, hx118_2⟩ := at_T29 HR0.out x13_1 p118 q118
               cases e118
               replace p118 := eq_true p118
               replace q118 := eq_true q118
               have p119 : 0 ≤ (x13_1 : Int) := of_decide_eq_true (by first | (with_reducible assumption) | assumption)
               have q119 : x13_1 < (l1.length : Int) := of_decide_eq_true (by first | (with_reducible assumption) | assumption)
               obtain ⟨ad119, e119, hx119_0, hx119_1, hx119_2⟩ := at_T29 HR1.out x13_1 p119 q119
               cases e119
               replace p119 := eq_true p119
               replace q119 := eq_true q119
               go_wp2
               repeat (go_quiet (fail); try go_wp2)
               go_roundg k1
               case measure => have := HK1.out; omega
               case rel => exact ⟨(wrap64 (x13_1 + 1)), (by first | rfl | (simp; done) | (simp [*]; done)), H', ⟨by have := HK1.out; omega⟩, by repeat (first | exact Drawn0.refl _ | apply Drawn0.step)⟩
           · rw [if_neg c7] at H
             exact absurd H (by simp)
         · rw [if_neg c6] at H
           exact absurd H (by simp)
       · rw [if_neg c5] at H
         exact absurd H (by simp)
     · rw [if_neg c4] at H
       have c4b0 : decide (x13_1 < (l0.length : Int)) = false := decide_eq_false c4
       clear c4
       obtain rfl := Option.some.inj H
       go_wp2
       repeat (go_quiet (fail); try go_wp2)
       go_ret
       exact ⟨by first | rfl | (simp; done) | (simp [*]; done) | (simp; cases a0.toList <;> rfl), by repeat (first | exact Drawn0.refl _ | apply Drawn0.step)⟩
 · rw [if_neg c3] at H
   have c3b0 : ((l0.length : Int) == (l1.length : Int)) = false := beq_eq_false_iff_ne.mpr c3
   have c3b1 : ((l0.length : Int) != (l1.length : Int)) = true := bne_iff_ne.mpr c3
   have c3b2 : (l0.length == l1.length) = false := by first | simpa using c3 | (simp at c3 ⊢; omega)
   obtain rfl := Option.some.inj H
   go_enter Tryd.func23, Tryd.ntmps23
   go_wp2
   repeat (go_quiet (fail); try go_wp2)
   go_ret
   exact ⟨by first | rfl | (simp; done) | (simp [*]; done) | (simp; cases a0.toList <;> rfl), by repeat (first | exact Drawn0.refl _ | apply Drawn0.step)⟩
mutual
def laws_grouped.l0 : Nat → List (S29) → List (S29) → List (S29) → Int → Int → Option ((List (S29)))
 | 0, _, _, _, _, _ => none
 | k + 1, x0, x3, x11, x12, x13 => if x13 < x12 then (if 0 ≤ x13 then (if x13 < (x11.length : Int) then (if x13 ≤ (x0.length : Int) then ((some (x0.take (x13 : Int).toNat : List (S29))).bind fun y122 => (laws_grouped.l1 k x0 x3 x13 true x11 x12 x13 y122 (y122.length : Int) 0 ((rd_T29 x11 x13).f0) ((rd_T29 x11 x13).f1) ((rd_T29 x11 x13).f2))) else (none)) else (none)) else (none)) else (some x3)
def laws_grouped.l1 : Nat → List (S29) → List (S29) → Int → Bool → List (S29) → Int → Int → List (S29) → Int → Int → ByteArray → ByteArray → ByteArray → Option ((List (S29)))
 | 0, _, _, _, _, _, _, _, _, _, _, _, _, _ => none
 | k + 1, x0, x3, x4, x6, x11, x12, x13, x20, x21, x22, x122000, x122001, x122002 => if x22 < x21 then (if 0 ≤ x22 then (if x22 < (x20.length : Int) then (if x6 = true then (laws_grouped.l1 k x0 x3 x4 (((rd_T29 x20 x22).f0).toList != x122000.toList) x11 x12 x13 x20 x21 (wrap64 (x22 + 1)) x122000 x122001 x122002) else (laws_grouped.l1 k x0 x3 x4 false x11 x12 x13 x20 x21 (wrap64 (x22 + 1)) x122000 x122001 x122002)) else (none)) else (none)) else (if 0 ≤ x4 then (if x4 ≤ (x0.length : Int) then ((some (x0.drop (x4 : Int).toNat : List (S29))).bind fun y128 => (laws_grouped.l2 k x0 x3 x6 x11 x12 x13 y128 (y128.length : Int) 0 x122000 x122001 x122002)) else (none)) else (none))
def laws_grouped.l2 : Nat → List (S29) → List (S29) → Bool → List (S29) → Int → Int → List (S29) → Int → Int → ByteArray → ByteArray → ByteArray → Option ((List (S29)))
 | 0, _, _, _, _, _, _, _, _, _, _, _, _ => none
 | k + 1, x0, x3, x6, x11, x12, x13, x37, x38, x39, x122000, x122001, x122002 => if x39 < x38 then (if 0 ≤ x39 then (if x39 < (x37.length : Int) then (if x6 = true then (if ((rd_T29 x37 x39).f0).toList = x122000.toList then (if x3.length < 2932031007402 then (laws_grouped.l2 k x0 (x3 ++ [(⟨(rd_T29 x37 x39).f0, (rd_T29 x37 x39).f1, (rd_T29 x37 x39).f2⟩ : S29)]) x6 x11 x12 x13 x37 x38 (wrap64 (x39 + 1)) x122000 x122001 x122002) else (none)) else (laws_grouped.l2 k x0 x3 x6 x11 x12 x13 x37 x38 (wrap64 (x39 + 1)) x122000 x122001 x122002)) else (laws_grouped.l2 k x0 x3 x6 x11 x12 x13 x37 x38 (wrap64 (x39 + 1)) x122000 x122001 x122002)) else (none)) else (none)) else (laws_grouped.l0 k x0 x3 x11 x12 (wrap64 (x13 + 1)))
end
def laws_grouped.f (k : Nat) (l0 : List (S29)) : Option ((List (S29))) := laws_grouped.l0 k l0 ([] : List (S29)) l0 (l0.length : Int) 0
set_option maxHeartbeats 8000000 in
set_option maxRecDepth 100000 in
theorem laws_grouped.calls (k : Nat) (A0 : Option Addr) (c0 : Nat) (l0 : List (S29)) (r : List (S29)) (w : World) (hr0 : Kd.C k29 w A0 l0.length l0) (hc0 : l0.length ≤ c0) (h : laws_grouped.f k l0 = some r) :
 Calls Tryd.prog 24 #[.slice A0 l0.length c0] w fun e w' => ∃ v0_ : Value, e = .returned (v0_) ∧ Kd.R k29 29 w' w.heap.size (fun _ => True) v0_ r ∧ Below w.heap.size w w' := by
 have hu29 := Tryd.underlying29
 have HR0 := Aside0.mk hr0
 have HC0 := Aside0.mk hc0
 clear hr0 hc0
 have HB := Aside0.mk (Below.refl w.heap.size w)
 have H : (laws_grouped.l0 k l0 ([] : List (S29)) l0 (l0.length : Int) 0) = some r := h
 clear h
 have H' := Aside0.mk H
 clear H
 go_enter Tryd.func24, Tryd.ntmps24
 go_wp2
 go_loopg [3, 13] k (fun kq v3 v13 w' => ∃ (x3_1 : List (S29)) (x13_1 : Int), v13 = .int .i64 x13_1 ∧ Aside0 (laws_grouped.l0 kq l0 x3_1 l0 (l0.length : Int) x13_1 = some r) ∧ Aside0 (kq ≤ k) ∧ Aside0 (Kd.R k29 29 w' w.heap.size (fun _ => True) v3 x3_1) ∧ Aside0 (Below w.heap.size w w'))
 case atStart => exact ⟨(([] : List (S29))), (0), (by first | rfl | (simp; done) | (simp [*]; done)), H', ⟨Nat.le_refl _⟩, ⟨by first | exact Kd.R_nil _ _ _ _ _ | exact Kd.N_nil _ _ _ _ _ | exact Kd.V_nil _ _ _ _ _ | exact Kd.Q_nil _ _ _ _ _ | exact Kd.S_nil _ _ _ _ _⟩, ⟨by repeat (first | (with_reducible first | exact HB.out | apply below_alloc | apply pw_below_drewN | apply below_drew1) | exact HB.out)⟩⟩
 case round =>
  clear H'
  obtain ⟨x3_1, x13_1, rfl, HA, HK1, HO_3, HB⟩ := hrel
  cases gk with
  | zero => exact absurd HA.out (by simp [laws_grouped.l0])
  | succ k1 =>
   have H := HA.out
   clear HA
   simp only [laws_grouped.l0] at H
   by_cases c2 : x13_1 < (l0.length : Int)
   · rw [if_pos c2] at H
     have c2b0 : decide (x13_1 < (l0.length : Int)) = true := decide_eq_true c2
     clear c2
     by_cases c3 : 0 ≤ x13_1
     · rw [if_pos c3] at H
       have c3b0 : decide (0 ≤ x13_1) = true := decide_eq_true c3
       clear c3
       by_cases c4 : x13_1 < (l0.length : Int)
       · rw [if_pos c4] at H
         have c4b0 : decide (x13_1 < (l0.length : Int)) = true := decide_eq_true c4
         clear c4
         have c5b0 := eq_true (of_decide_eq_true (by first | (with_reducible assumption) | assumption) : 0 ≤ x13_1)
         by_cases c6 : x13_1 ≤ (l0.length : Int)
         · rw [if_pos c6] at H
           have c6b0 := eq_true c6
           have c6b1 : decide (x13_1 ≤ (l0.length : Int)) = true := decide_eq_true c6
           clear c6
           obtain ⟨y122, hy122⟩ : ∃ y_ : List (S29), y_ = (l0.take (x13_1 : Int).toNat) := ⟨_, rfl⟩
           replace H : (laws_grouped.l1 k1 l0 x3_1 x13_1 true l0 (l0.length : Int) x13_1 y122 (y122.length : Int) 0 ((rd_T29 l0 x13_1).f0) ((rd_T29 l0 x13_1).f1) ((rd_T29 l0 x13_1).f2)) = some r := by first | (rw [hy122]; with_reducible exact H) | (have H2_ := (Option.bind_some _ _).symm.trans H; rw [hy122]; with_reducible exact H2_) | (have H2_ := (Option.bind_some _ _).symm.trans H; with_reducible exact H2_) | with_reducible exact H | (rw [hy122]; exact H) | exact H
           have Ny122 := Aside0.mk hy122
           clear hy122
           have H' := Aside0.mk H
           clear H
           have p120 : 0 ≤ (x13_1 : Int) := of_decide_eq_true (by first | (with_reducible assumption) | assumption)
           have q120 : x13_1 < (l0.length : Int) := of_decide_eq_true (by first | (with_reducible assumption) | assumption)
           obtain ⟨ad120, e120, hx120_0, hx120_1, hx120_2⟩ := at_T29 HR0.out x13_1 p120 q120
           cases e120
           replace hx120_0 := (HB.out.cell (World.block_lt_of_cell? w _ hx120_0)).trans hx120_0
           replace hx120_1 := (HB.out.cell (World.block_lt_of_cell? w _ hx120_1)).trans hx120_1
           replace hx120_2 := (HB.out.cell (World.block_lt_of_cell? w _ hx120_2)).trans hx120_2
           replace p120 := eq_true p120
           replace q120 := eq_true q120
           go_wp2_with (first | ((with_reducible refine gate_dst (N := 5) rfl ?_); refine box_event ?hg (N := 5) ?hd (cs := #[.string (⟨#[]⟩ : ByteArray), .string (⟨#[]⟩ : ByteArray), .string (⟨#[]⟩ : ByteArray)]) (t := 29) ?hr ?_; (case hd => rfl); (case hg => rfl); (case hr => first | (go_simp; done) | (go_simp; rfl)); intro gb121 hg w7 hbox hb; have n0_ := Aside0.mk (Kd.R_below (Kd.R_elderB (by (with_reducible repeat (first | apply Kd.R_alloc | apply Kd.R_drewN | apply Kd.R_drew)); exact HO_3.out) gb121 (Nat.le_of_eq hg.symm)) hb); have n1_ := Aside0.mk (below_step (by repeat (first | (with_reducible first | exact HB.out | apply below_alloc | apply pw_below_drewN | apply below_drew1) | exact HB.out)) hb); have n2_ := Aside0.mk (hbox); have n3_ := Aside0.mk ((by rw [hg]; exact (below_size (by repeat (first | (with_reducible first | exact HB.out | apply below_alloc | apply pw_below_drewN | apply below_drew1) | exact HB.out))) : w.heap.size ≤ gb121)); have n4_ := Aside0.mk ((by rw [hg]; exact (below_size (by repeat (first | (with_reducible first | exact HB.out | apply below_alloc | apply pw_below_drewN | apply below_drew1) | exact HB.out))) : w.heap.size ≤ gb121)); clear HO_3; clear HB; have HO_3 := n0_; have HB := n1_; have BK121 := n2_; have GW121 := n3_; have GE121 := n4_; clear n0_ n1_ n2_ n3_ n4_; clear hb hbox hg; have hcz8_0 : w7.cell? ⟨gb121, 0, none⟩ = some (.string (⟨#[]⟩ : ByteArray)) := (blk_cell BK121.out 0).trans rfl; have hcz8_1 : w7.cell? ⟨gb121, 1, none⟩ = some (.string (⟨#[]⟩ : ByteArray)) := (blk_cell BK121.out 1).trans rfl; have hcz8_2 : w7.cell? ⟨gb121, 2, none⟩ = some (.string (⟨#[]⟩ : ByteArray)) := (blk_cell BK121.out 2).trans rfl; have hfz8_0 := blk_frozen BK121.out 0; have hfz8_1 := blk_frozen BK121.out 1; have hfz8_2 := blk_frozen BK121.out 2) | ((with_reducible refine gate_store (t := 29) (p := 5) rfl ?_); refine store_event (t := 29) (p := 5) (v := ?vo_w9) (w1 := (((w7.setCell ⟨gb121, 0, none⟩ (.string ((rd_T29 l0 x13_1).f0))).setCell ⟨gb121, 1, none⟩ (.string ((rd_T29 l0 x13_1).f1))).setCell ⟨gb121, 2, none⟩ (.string ((rd_T29 l0 x13_1).f2)))) ?hg ?ho ?hn ?hr ?_; (case ho => rfl); (case hg => rfl); (case hn => rfl); (case hr => first | (go_simp; done) | (go_simp; rfl)); intro w9 hw; have n0_ : Aside0 (Kd.R k29 29 w9 w.heap.size (fun k_ => k_ ≠ gb121) u3 x3_1) := ⟨(by rw [hw]; exact (by (with_reducible repeat (first | apply Kd.R_alloc | apply Kd.R_drewN | apply Kd.R_drew)); exact Kd.R_mono (Kd.R_far (p := ⟨gb121, 2, none⟩) (Kd.R_far (p := ⟨gb121, 1, none⟩) (Kd.R_far (p := ⟨gb121, 0, none⟩) (Kd.R_mono HO_3.out (fun k_ hk => (⟨hk, hk.2⟩ : _ ∧ k_ ≠ gb121))) (fun _ hk => hk.2) (.string ((rd_T29 l0 x13_1).f0))) (fun _ hk => hk.2) (.string ((rd_T29 l0 x13_1).f1))) (fun _ hk => hk.2) (.string ((rd_T29 l0 x13_1).f2))) (fun _ hk => hk.1.2)))⟩; have n1_ : Aside0 (w9.heap[gb121]? = some (.cells #[.string ((rd_T29 l0 x13_1).f0), .string ((rd_T29 l0 x13_1).f1), .string ((rd_T29 l0 x13_1).f2)] 29 (0, 0))) := ⟨(by rw [hw]; exact (by (with_reducible repeat (first | refine blk_drewN ?_ _ | refine blk_drew ?_ | refine blk_alloc ?_ _)); refine blk_put (cs := #[.string ((rd_T29 l0 x13_1).f0), .string ((rd_T29 l0 x13_1).f1), .string (⟨#[]⟩ : ByteArray)]) ?_ 2 _ rfl; (with_reducible repeat (first | refine blk_drewN ?_ _ | refine blk_drew ?_ | refine blk_alloc ?_ _)); refine blk_put (cs := #[.string ((rd_T29 l0 x13_1).f0), .string (⟨#[]⟩ : ByteArray), .string (⟨#[]⟩ : ByteArray)]) ?_ 1 _ rfl; (with_reducible repeat (first | refine blk_drewN ?_ _ | refine blk_drew ?_ | refine blk_alloc ?_ _)); refine blk_put (cs := #[.string (⟨#[]⟩ : ByteArray), .string (⟨#[]⟩ : ByteArray), .string (⟨#[]⟩ : ByteArray)]) ?_ 0 _ rfl; (with_reducible repeat (first | refine blk_drewN ?_ _ | refine blk_drew ?_ | refine blk_alloc ?_ _)); exact BK121.out))⟩; have n2_ : Aside0 (Below w.heap.size w w9) := ⟨(by rw [hw]; exact (by repeat (first | (with_reducible first | exact HB.out | apply below_alloc | apply pw_below_drewN | apply below_drew1 | refine below_set ?_ GE121.out) | exact HB.out)))⟩; clear hw; clear HO_3; clear BK121; clear HB; have HO_3 := n0_; have BK121 := n1_; have HB := n2_; clear n0_ n1_ n2_; have q10 : (x13_1 : Int) ≤ ((l0.length : Int) : Int) := of_decide_eq_true (by first | (with_reducible assumption) | assumption); obtain ⟨i010, hi010, _, hsz10, _⟩ := info_parts info29; have hroom10 : l0.length ≤ c0 := HC0.out; have hC10 : Kd.C k29 _ (some ad120) l0.length l0 := HR0.out; have hcut10 := cut_to (P := Tryd.prog) 32 29 .i64 Tryd.underlying32 hi010 (some ad120) l0.length c0 x13_1 (of_decide_eq_true (by first | (with_reducible assumption) | assumption)) q10 hroom10; have hr10 := Kd.C_take (m := (x13_1 : Int).toNat) hC10 (by omega); have hy10 : y122.length = (x13_1 : Int).toNat := (by rw [Ny122.out, List.length_take]; omega); rw [← Ny122.out] at hr10; rw [← hy10] at hcut10; have HR125 := Aside0.mk hr10; have HC125 := Aside0.mk (show y122.length ≤ c0 from by omega); clear hr10 hC10 hroom10 hi010 hsz10; have KY10 := Aside0.mk hy10; clear hy10; replace q10 := eq_true q10))
           go_loopg [6, 22] k1 (fun kq v6 v22 w' => ∃ (x6_2 : Bool) (x22_2 : Int), v6 = .bool x6_2 ∧ v22 = .int .i64 x22_2 ∧ Aside0 (laws_grouped.l1 kq l0 x3_1 x13_1 x6_2 l0 (l0.length : Int) x13_1 y122 (y122.length : Int) x22_2 ((rd_T29 l0 x13_1).f0) ((rd_T29 l0 x13_1).f1) ((rd_T29 l0 x13_1).f2) = some r) ∧ Aside0 (kq ≤ k1) ∧ Aside0 (Kd.R k29 29 w' w.heap.size (fun k_ => k_ ≠ gb121) u3 x3_1) ∧ Aside0 (w'.heap[gb121]? = some (.cells #[.string ((rd_T29 l0 x13_1).f0), .string ((rd_T29 l0 x13_1).f1), .string ((rd_T29 l0 x13_1).f2)] 29 (0, 0))) ∧ Aside0 (Below w.heap.size w w'))
           case atStart => exact ⟨(true), (0), (by first | rfl | (simp; done) | (simp [*]; done)), (by first | rfl | (simp; done) | (simp [*]; done)), H', ⟨Nat.le_refl _⟩, ⟨by (with_reducible repeat (first | apply Kd.R_alloc | apply Kd.R_drewN | apply Kd.R_drew)); exact HO_3.out⟩, ⟨by (with_reducible repeat (first | refine blk_drewN ?_ _ | refine blk_drew ?_ | refine blk_alloc ?_ _)); exact BK121.out⟩, ⟨by repeat (first | (with_reducible first | exact HB.out | apply below_alloc | apply pw_below_drewN | apply below_drew1 | refine below_set ?_ GE121.out) | exact HB.out)⟩⟩
           case round =>
            clear H'
            try clear p1
            try clear q1
            try clear hx1
            try clear c2
            try clear c2b0
            try clear p2
            try clear c3
            try clear c3b0
            try clear c4
            try clear c4b0
            try clear c5
            try clear c5b0
            try clear c6
            try clear c6b0
            try clear c6b1
            try clear q10
            try clear hcz8_0
            try clear hcz8_1
            try clear hcz8_2
            try clear hfz8_0
            try clear hfz8_1
            try clear hfz8_2
            try clear hx120_0
            try clear hx120_1
            try clear hx120_2
            try clear p120
            try clear q10
            try clear q120
            obtain ⟨x6_2, x22_2, rfl, rfl, HA, HK2, HO_3, BK121, HB⟩ := hrel
            cases gk with
            | zero => exact absurd HA.out (by simp [laws_grouped.l1])
            | succ k2 =>
             have H := HA.out
             clear HA
             simp only [laws_grouped.l1] at H
             by_cases c11 : x22_2 < (y122.length : Int)
             · rw [if_pos c11] at H
               have c11b0 : decide (x22_2 < (y122.length : Int)) = true := decide_eq_true c11
               clear c11
               by_cases c12 : 0 ≤ x22_2
               · rw [if_pos c12] at H
                 have c12b0 : decide (0 ≤ x22_2) = true := decide_eq_true c12
                 clear c12
                 by_cases c13 : x22_2 < (y122.length : Int)
                 · rw [if_pos c13] at H
                   have c13b0 : decide (x22_2 < (y122.length : Int)) = true := decide_eq_true c13
                   clear c13
                   by_cases c14 : x6_2 = true
                   · subst c14
                     have H1 : (laws_grouped.l1 k2 l0 x3_1 x13_1 (((rd_T29 y122 x22_2).f0).toList != ((rd_T29 l0 x13_1).f0).toList) l0 (l0.length : Int) x13_1 y122 (y122.length : Int) (wrap64 (x22_2 + 1)) ((rd_T29 l0 x13_1).f0) ((rd_T29 l0 x13_1).f1) ((rd_T29 l0 x13_1).f2)) = some r := by rw [if_pos rfl] at H; exact H
                     clear H
                     have H := H1
                     clear H1
                     have H' := Aside0.mk H
                     clear H
                     have p126 : 0 ≤ (x22_2 : Int) := of_decide_eq_true (by first | (with_reducible assumption) | assumption)
                     have q126 : x22_2 < (y122.length : Int) := of_decide_eq_true (by first | (with_reducible assumption) | assumption)
                     obtain ⟨ad126, e126, hx126_0, hx126_1, hx126_2⟩ := at_T29 HR125.out x22_2 p126 q126
                     obtain rfl : ad120 = ad126 := (by injection e126)
                     replace hx126_0 := (HB.out.cell (World.block_lt_of_cell? w _ hx126_0)).trans hx126_0
                     replace hx126_1 := (HB.out.cell (World.block_lt_of_cell? w _ hx126_1)).trans hx126_1
                     replace hx126_2 := (HB.out.cell (World.block_lt_of_cell? w _ hx126_2)).trans hx126_2
                     replace p126 := eq_true p126
                     replace q126 := eq_true q126
                     go_wp2_with (first | ((with_reducible refine gate_dst (N := 8) rfl ?_); refine box_event ?hg (N := 8) ?hd (cs := #[.string (⟨#[]⟩ : ByteArray), .string (⟨#[]⟩ : ByteArray), .string (⟨#[]⟩ : ByteArray)]) (t := 29) ?hr ?_; (case hd => rfl); (case hg => rfl); (case hr => first | (go_simp; done) | (go_simp; rfl)); intro gb127 hg w15 hbox hb; have n0_ := Aside0.mk (Kd.R_below (Kd.R_elderB (by (with_reducible repeat (first | apply Kd.R_alloc | apply Kd.R_drewN | apply Kd.R_drew)); exact HO_3.out) gb127 (Nat.le_of_eq hg.symm)) hb); have n1_ := Aside0.mk (blk_below (g := gb121) (o := .cells #[.string ((rd_T29 l0 x13_1).f0), .string ((rd_T29 l0 x13_1).f1), .string ((rd_T29 l0 x13_1).f2)] 29 (0, 0)) (by (with_reducible repeat (first | refine blk_drewN ?_ _ | refine blk_drew ?_ | refine blk_alloc ?_ _)); exact BK121.out) hb); have n2_ := Aside0.mk (below_step (by repeat (first | (with_reducible first | exact HB.out | apply below_alloc | apply pw_below_drewN | apply below_drew1 | refine below_set ?_ GE121.out) | exact HB.out)) hb); have n3_ := Aside0.mk (hbox); have n4_ := Aside0.mk ((by rw [hg]; exact (below_size (by repeat (first | (with_reducible first | exact HB.out | apply below_alloc | apply pw_below_drewN | apply below_drew1 | refine below_set ?_ GE121.out) | exact HB.out))) : w.heap.size ≤ gb127)); have n5_ := Aside0.mk ((by rw [hg]; exact (below_size (by repeat (first | (with_reducible first | exact HB.out | apply below_alloc | apply pw_below_drewN | apply below_drew1 | refine below_set ?_ GE121.out) | exact HB.out))) : w.heap.size ≤ gb127)); have n6_ := Aside0.mk ((by rw [hg]; exact Nat.ne_of_lt (blk_lt (g := gb121) (o := .cells #[.string ((rd_T29 l0 x13_1).f0), .string ((rd_T29 l0 x13_1).f1), .string ((rd_T29 l0 x13_1).f2)] 29 (0, 0)) (by (with_reducible repeat (first | refine blk_drewN ?_ _ | refine blk_drew ?_ | refine blk_alloc ?_ _)); exact BK121.out)) : gb121 ≠ gb127)); have n7_ := Aside0.mk ((by rw [hg]; exact Nat.ne_of_gt (blk_lt (g := gb121) (o := .cells #[.string ((rd_T29 l0 x13_1).f0), .string ((rd_T29 l0 x13_1).f1), .string ((rd_T29 l0 x13_1).f2)] 29 (0, 0)) (by (with_reducible repeat (first | refine blk_drewN ?_ _ | refine blk_drew ?_ | refine blk_alloc ?_ _)); exact BK121.out)) : gb127 ≠ gb121)); clear HO_3; clear BK121; clear HB; have HO_3 := n0_; have BK121 := n1_; have HB := n2_; have BK127 := n3_; have GW127 := n4_; have GE127 := n5_; have NB121_127 := n6_; have NB127_121 := n7_; clear n0_ n1_ n2_ n3_ n4_ n5_ n6_ n7_; clear hb hbox hg; have hnb16 := NB127_121.out; have hnc16 := NB121_127.out; have hcz17_0 : w15.cell? ⟨gb127, 0, none⟩ = some (.string (⟨#[]⟩ : ByteArray)) := (blk_cell BK127.out 0).trans rfl; have hcz17_1 : w15.cell? ⟨gb127, 1, none⟩ = some (.string (⟨#[]⟩ : ByteArray)) := (blk_cell BK127.out 1).trans rfl; have hcz17_2 : w15.cell? ⟨gb127, 2, none⟩ = some (.string (⟨#[]⟩ : ByteArray)) := (blk_cell BK127.out 2).trans rfl; have hfz17_0 := blk_frozen BK127.out 0; have hfz17_1 := blk_frozen BK127.out 1; have hfz17_2 := blk_frozen BK127.out 2; have hcz18_0 : w15.cell? ⟨gb121, 0, none⟩ = some (.string ((rd_T29 l0 x13_1).f0)) := (blk_cell BK121.out 0).trans rfl; have hcz18_1 : w15.cell? ⟨gb121, 1, none⟩ = some (.string ((rd_T29 l0 x13_1).f1)) := (blk_cell BK121.out 1).trans rfl; have hcz18_2 : w15.cell? ⟨gb121, 2, none⟩ = some (.string ((rd_T29 l0 x13_1).f2)) := (blk_cell BK121.out 2).trans rfl; have hfz18_0 := blk_frozen BK121.out 0; have hfz18_1 := blk_frozen BK121.out 1; have hfz18_2 := blk_frozen BK121.out 2))
                     go_roundg k2
                     case measure => have := HK1.out; have := HK2.out; omega
                     case rel => exact ⟨((((rd_T29 y122 x22_2).f0).toList != ((rd_T29 l0 x13_1).f0).toList)), (wrap64 (x22_2 + 1)), (by first | rfl | (simp; done) | (simp [*]; done)), (by first | rfl | (simp; done) | (simp [*]; done)), H', ⟨by have := HK1.out; have := HK2.out; omega⟩, ⟨by (with_reducible repeat (first | apply Kd.R_alloc | apply Kd.R_drewN | apply Kd.R_drew)); exact Kd.R_mono (Kd.R_far (p := ⟨gb127, 2, none⟩) (Kd.R_far (p := ⟨gb127, 1, none⟩) (Kd.R_far (p := ⟨gb127, 0, none⟩) (Kd.R_mono HO_3.out (fun k_ hk => (⟨hk, hk.2⟩ : _ ∧ k_ ≠ gb127))) (fun _ hk => hk.2) (.string ((rd_T29 y122 x22_2).f0))) (fun _ hk => hk.2) (.string ((rd_T29 y122 x22_2).f1))) (fun _ hk => hk.2) (.string ((rd_T29 y122 x22_2).f2))) (fun _ hk => hk.1.1)⟩, ⟨by (with_reducible repeat (first | refine blk_drewN ?_ _ | refine blk_drew ?_ | refine blk_alloc ?_ _)); refine blk_far ?_ NB121_127.out _; (with_reducible repeat (first | refine blk_drewN ?_ _ | refine blk_drew ?_ | refine blk_alloc ?_ _)); refine blk_far ?_ NB121_127.out _; (with_reducible repeat (first | refine blk_drewN ?_ _ | refine blk_drew ?_ | refine blk_alloc ?_ _)); refine blk_far ?_ NB121_127.out _; (with_reducible repeat (first | refine blk_drewN ?_ _ | refine blk_drew ?_ | refine blk_alloc ?_ _)); exact BK121.out⟩, ⟨by repeat (first | (with_reducible first | exact HB.out | apply below_alloc | apply pw_below_drewN | apply below_drew1 | refine below_set ?_ GE121.out | refine below_set ?_ GE127.out) | exact HB.out)⟩⟩
                   · replace c14 := Bool.eq_false_iff.mpr c14
                     subst c14
                     have H1 : (laws_grouped.l1 k2 l0 x3_1 x13_1 false l0 (l0.length : Int) x13_1 y122 (y122.length : Int) (wrap64 (x22_2 + 1)) ((rd_T29 l0 x13_1).f0) ((rd_T29 l0 x13_1).f1) ((rd_T29 l0 x13_1).f2)) = some r := by rw [if_neg (show ¬ (false = true) by decide)] at H; exact H
                     clear H
                     have H := H1
                     clear H1
                     have H' := Aside0.mk H
                     clear H
                     have p126 : 0 ≤ (x22_2 : Int) := of_decide_eq_true (by first | (with_reducible assumption) | assumption)
                     have q126 : x22_2 < (y122.length : Int) := of_decide_eq_true (by first | (with_reducible assumption) | assumption)
                     obtain ⟨ad126, e126, hx126_0, hx126_1, hx126_2⟩ := at_T29 HR125.out x22_2 p126 q126
                     obtain rfl : ad120 = ad126 := (by injection e126)
                     replace hx126_0 := (HB.out.cell (World.block_lt_of_cell? w _ hx126_0)).trans hx126_0
                     replace hx126_1 := (HB.out.cell (World.block_lt_of_cell? w _ hx126_1)).trans hx126_1
                     replace hx126_2 := (HB.out.cell (World.block_lt_of_cell? w _ hx126_2)).trans hx126_2
                     replace p126 := eq_true p126
                     replace q126 := eq_true q126
                     go_wp2_with (first | ((with_reducible refine gate_dst (N := 8) rfl ?_); refine box_event ?hg (N := 8) ?hd (cs := #[.string (⟨#[]⟩ : ByteArray), .string (⟨#[]⟩ : ByteArray), .string (⟨#[]⟩ : ByteArray)]) (t := 29) ?hr ?_; (case hd => rfl); (case hg => rfl); (case hr => first | (go_simp; done) | (go_simp; rfl)); intro gb127 hg w19 hbox hb; have n0_ := Aside0.mk (Kd.R_below (Kd.R_elderB (by (with_reducible repeat (first | apply Kd.R_alloc | apply Kd.R_drewN | apply Kd.R_drew)); exact HO_3.out) gb127 (Nat.le_of_eq hg.symm)) hb); have n1_ := Aside0.mk (blk_below (g := gb121) (o := .cells #[.string ((rd_T29 l0 x13_1).f0), .string ((rd_T29 l0 x13_1).f1), .string ((rd_T29 l0 x13_1).f2)] 29 (0, 0)) (by (with_reducible repeat (first | refine blk_drewN ?_ _ | refine blk_drew ?_ | refine blk_alloc ?_ _)); exact BK121.out) hb); have n2_ := Aside0.mk (below_step (by repeat (first | (with_reducible first | exact HB.out | apply below_alloc | apply pw_below_drewN | apply below_drew1 | refine below_set ?_ GE121.out) | exact HB.out)) hb); have n3_ := Aside0.mk (hbox); have n4_ := Aside0.mk ((by rw [hg]; exact (below_size (by repeat (first | (with_reducible first | exact HB.out | apply below_alloc | apply pw_below_drewN | apply below_drew1 | refine below_set ?_ GE121.out) | exact HB.out))) : w.heap.size ≤ gb127)); have n5_ := Aside0.mk ((by rw [hg]; exact (below_size (by repeat (first | (with_reducible first | exact HB.out | apply below_alloc | apply pw_below_drewN | apply below_drew1 | refine below_set ?_ GE121.out) | exact HB.out))) : w.heap.size ≤ gb127)); have n6_ := Aside0.mk ((by rw [hg]; exact Nat.ne_of_lt (blk_lt (g := gb121) (o := .cells #[.string ((rd_T29 l0 x13_1).f0), .string ((rd_T29 l0 x13_1).f1), .string ((rd_T29 l0 x13_1).f2)] 29 (0, 0)) (by (with_reducible repeat (first | refine blk_drewN ?_ _ | refine blk_drew ?_ | refine blk_alloc ?_ _)); exact BK121.out)) : gb121 ≠ gb127)); have n7_ := Aside0.mk ((by rw [hg]; exact Nat.ne_of_gt (blk_lt (g := gb121) (o := .cells #[.string ((rd_T29 l0 x13_1).f0), .string ((rd_T29 l0 x13_1).f1), .string ((rd_T29 l0 x13_1).f2)] 29 (0, 0)) (by (with_reducible repeat (first | refine blk_drewN ?_ _ | refine blk_drew ?_ | refine blk_alloc ?_ _)); exact BK121.out)) : gb127 ≠ gb121)); clear HO_3; clear BK121; clear HB; have HO_3 := n0_; have BK121 := n1_; have HB := n2_; have BK127 := n3_; have GW127 := n4_; have GE127 := n5_; have NB121_127 := n6_; have NB127_121 := n7_; clear n0_ n1_ n2_ n3_ n4_ n5_ n6_ n7_; clear hb hbox hg; have hnb20 := NB127_121.out; have hnc20 := NB121_127.out; have hcz21_0 : w19.cell? ⟨gb127, 0, none⟩ = some (.string (⟨#[]⟩ : ByteArray)) := (blk_cell BK127.out 0).trans rfl; have hcz21_1 : w19.cell? ⟨gb127, 1, none⟩ = some (.string (⟨#[]⟩ : ByteArray)) := (blk_cell BK127.out 1).trans rfl; have hcz21_2 : w19.cell? ⟨gb127, 2, none⟩ = some (.string (⟨#[]⟩ : ByteArray)) := (blk_cell BK127.out 2).trans rfl; have hfz21_0 := blk_frozen BK127.out 0; have hfz21_1 := blk_frozen BK127.out 1; have hfz21_2 := blk_frozen BK127.out 2))
                     go_roundg k2
                     case measure => have := HK1.out; have := HK2.out; omega
                     case rel => exact ⟨(false), (wrap64 (x22_2 + 1)), (by first | rfl | (simp; done) | (simp [*]; done)), (by first | rfl | (simp; done) | (simp [*]; done)), H', ⟨by have := HK1.out; have := HK2.out; omega⟩, ⟨by (with_reducible repeat (first | apply Kd.R_alloc | apply Kd.R_drewN | apply Kd.R_drew)); exact Kd.R_mono (Kd.R_far (p := ⟨gb127, 2, none⟩) (Kd.R_far (p := ⟨gb127, 1, none⟩) (Kd.R_far (p := ⟨gb127, 0, none⟩) (Kd.R_mono HO_3.out (fun k_ hk => (⟨hk, hk.2⟩ : _ ∧ k_ ≠ gb127))) (fun _ hk => hk.2) (.string ((rd_T29 y122 x22_2).f0))) (fun _ hk => hk.2) (.string ((rd_T29 y122 x22_2).f1))) (fun _ hk => hk.2) (.string ((rd_T29 y122 x22_2).f2))) (fun _ hk => hk.1.1)⟩, ⟨by (with_reducible repeat (first | refine blk_drewN ?_ _ | refine blk_drew ?_ | refine blk_alloc ?_ _)); refine blk_far ?_ NB121_127.out _; (with_reducible repeat (first | refine blk_drewN ?_ _ | refine blk_drew ?_ | refine blk_alloc ?_ _)); refine blk_far ?_ NB121_127.out _; (with_reducible repeat (first | refine blk_drewN ?_ _ | refine blk_drew ?_ | refine blk_alloc ?_ _)); refine blk_far ?_ NB121_127.out _; (with_reducible repeat (first | refine blk_drewN ?_ _ | refine blk_drew ?_ | refine blk_alloc ?_ _)); exact BK121.out⟩, ⟨by repeat (first | (with_reducible first | exact HB.out | apply below_alloc | apply pw_below_drewN | apply below_drew1 | refine below_set ?_ GE121.out | refine below_set ?_ GE127.out) | exact HB.out)⟩⟩
                 · rw [if_neg c13] at H
                   exact absurd H (by simp)
               · rw [if_neg c12] at H
                 exact absurd H (by simp)
             · rw [if_neg c11] at H
               have c11b0 : decide (x22_2 < (y122.length : Int)) = false := decide_eq_false c11
               clear c11
               by_cases c22 : 0 ≤ x13_1
               · rw [if_pos c22] at H
                 have c22b0 := eq_true c22
                 have c22b1 : decide (0 ≤ x13_1) = true := decide_eq_true c22
                 clear c22
                 by_cases c23 : x13_1 ≤ (l0.length : Int)
                 · rw [if_pos c23] at H
                   have c23b0 := eq_true c23
                   have c23b1 : decide (x13_1 ≤ (l0.length : Int)) = true := decide_eq_true c23
                   clear c23
                   obtain ⟨y128, hy128⟩ : ∃ y_ : List (S29), y_ = (l0.drop (x13_1 : Int).toNat) := ⟨_, rfl⟩
                   replace H : (laws_grouped.l2 k2 l0 x3_1 x6_2 l0 (l0.length : Int) x13_1 y128 (y128.length : Int) 0 ((rd_T29 l0 x13_1).f0) ((rd_T29 l0 x13_1).f1) ((rd_T29 l0 x13_1).f2)) = some r := by first | (rw [hy128]; with_reducible exact H) | (have H2_ := (Option.bind_some _ _).symm.trans H; rw [hy128]; with_reducible exact H2_) | (have H2_ := (Option.bind_some _ _).symm.trans H; with_reducible exact H2_) | with_reducible exact H | (rw [hy128]; exact H) | exact H
                   have Ny128 := Aside0.mk hy128
                   clear hy128
                   have H' := Aside0.mk H
                   clear H
                   have q24 : (x13_1 : Int) ≤ ((l0.length : Int) : Int) := of_decide_eq_true (by first | (with_reducible assumption) | assumption)
                   obtain ⟨i024, hi024, _, hsz24, _⟩ := info_parts info29
                   have hroom24 : l0.length ≤ c0 := HC0.out
                   have hC24 : Kd.C k29 _ (some ad120) l0.length l0 := HR0.out
                   have q024 : (0 : Int) ≤ (x13_1 : Int) := of_decide_eq_true (by first | (with_reducible assumption) | assumption)
                   have hcut24 := cut_from (P := Tryd.prog) 32 29 .i64 Tryd.underlying32 hi024 3 hsz24 (some ad120) l0.length c0 x13_1 q024 q24
                   have hr24 := Kd.C_drop (m := (x13_1 : Int).toNat) (c := c0) hC24 (by omega) hroom24
                   obtain ⟨A24, hA24⟩ : ∃ A1, A1 = (if c0 = (x13_1 : Int).toNat then (some ad120) else ((some ad120) : Option Addr).map (·.add ((x13_1 : Int).toNat * 3))) := ⟨_, rfl⟩
                   obtain ⟨c24, hc24⟩ : ∃ c1, c1 = c0 - (x13_1 : Int).toNat := ⟨_, rfl⟩
                   have hy24 : y128.length = l0.length - (x13_1 : Int).toNat := (by rw [Ny128.out, List.length_drop] <;> omega)
                   rw [show (l0).drop (x13_1 : Int).toNat = y128 from Ny128.out.symm] at hr24
                   replace hr24 : Kd.C k29 _ A24 y128.length y128 := (by rw [hA24]; exact hr24)
                   rw [← hy24, ← hA24, ← hc24] at hcut24
                   have HR131 := Aside0.mk hr24
                   have HC131 := Aside0.mk (show y128.length ≤ c24 from by rw [hy24, hc24]; exact Nat.sub_le_sub_right hroom24 _)
                   clear hr24 hC24 hroom24 hi024 hsz24 hc24
                   have KY24 := Aside0.mk hy24
                   have KA24 := Aside0.mk hA24
                   clear hy24 hA24
                   replace q24 := eq_true q24
                   go_wp2
                   go_loopg [3, 39] k2 (fun kq v3 v39 w' => ∃ (x3_3 : List (S29)) (x39_3 : Int), v39 = .int .i64 x39_3 ∧ Aside0 (laws_grouped.l2 kq l0 x3_3 x6_2 l0 (l0.length : Int) x13_1 y128 (y128.length : Int) x39_3 ((rd_T29 l0 x13_1).f0) ((rd_T29 l0 x13_1).f1) ((rd_T29 l0 x13_1).f2) = some r) ∧ Aside0 (kq ≤ k2) ∧ Aside0 (Kd.R k29 29 w' w.heap.size (fun k_ => k_ ≠ gb121) v3 x3_3) ∧ Aside0 (w'.heap[gb121]? = some (.cells #[.string ((rd_T29 l0 x13_1).f0), .string ((rd_T29 l0 x13_1).f1), .string ((rd_T29 l0 x13_1).f2)] 29 (0, 0))) ∧ Aside0 (Below w.heap.size w w'))
                   case atStart => exact ⟨(x3_1), (0), (by first | rfl | (simp; done) | (simp [*]; done)), H', ⟨Nat.le_refl _⟩, ⟨by (with_reducible repeat (first | apply Kd.R_alloc | apply Kd.R_drewN | apply Kd.R_drew)); exact HO_3.out⟩, ⟨by (with_reducible repeat (first | refine blk_drewN ?_ _ | refine blk_drew ?_ | refine blk_alloc ?_ _)); exact BK121.out⟩, ⟨by repeat (first | (with_reducible first | exact HB.out | apply below_alloc | apply pw_below_drewN | apply below_drew1 | refine below_set ?_ GE121.out) | exact HB.out)⟩⟩
                   case round =>
                    clear H'
                    try clear c1
                    try clear p1
                    try clear q1
                    try clear hx1
                    try clear c2
                    try clear c2b0
                    try clear p2
                    try clear q2
                    try clear c3
                    try clear c3b0
                    try clear c4
                    try clear c4b0
                    try clear c5
                    try clear c5b0
                    try clear c6
                    try clear c6b0
                    try clear c6b1
                    try clear p6
                    try clear q10
                    try clear c11
                    try clear c11b0
                    try clear c12
                    try clear c12b0
                    try clear p12
                    try clear q12
                    try clear hx12
                    try clear c13
                    try clear c13b0
                    try clear c14
                    try clear c16
                    try clear c20
                    try clear c22
                    try clear c22b0
                    try clear c22b1
                    try clear c23
                    try clear c23b0
                    try clear c23b1
                    try clear c24
                    try clear q24
                    try clear hcz17_0
                    try clear hcz17_1
                    try clear hcz17_2
                    try clear hcz18_0
                    try clear hcz18_1
                    try clear hcz18_2
                    try clear hcz21_0
                    try clear hcz21_1
                    try clear hcz21_2
                    try clear hcz8_0
                    try clear hcz8_1
                    try clear hcz8_2
                    try clear hfz17_0
                    try clear hfz17_1
                    try clear hfz17_2
                    try clear hfz18_0
                    try clear hfz18_1
                    try clear hfz18_2
                    try clear hfz21_0
                    try clear hfz21_1
                    try clear hfz21_2
                    try clear hfz8_0
                    try clear hfz8_1
                    try clear hfz8_2
                    try clear hx120_0
                    try clear hx120_1
                    try clear hx120_2
                    try clear hx126_0
                    try clear hx126_1
                    try clear hx126_2
                    try clear p1
                    try clear p120
                    try clear p126
                    try clear p2
                    try clear q024
                    try clear q1
                    try clear q10
                    try clear q120
                    try clear q126
                    try clear q24
                    obtain ⟨x3_3, x39_3, rfl, HA, HK3, HO_3, BK121, HB⟩ := hrel
                    cases gk with
                    | zero => exact absurd HA.out (by simp [laws_grouped.l2])
                    | succ k3 =>
                     have H := HA.out
                     clear HA
                     simp only [laws_grouped.l2] at H
                     by_cases c25 : x39_3 < (y128.length : Int)
                     · rw [if_pos c25] at H
                       have c25b0 : decide (x39_3 < (y128.length : Int)) = true := decide_eq_true c25
                       clear c25
                       by_cases c26 : 0 ≤ x39_3
                       · rw [if_pos c26] at H
                         have c26b0 : decide (0 ≤ x39_3) = true := decide_eq_true c26
                         clear c26
                         by_cases c27 : x39_3 < (y128.length : Int)
                         · rw [if_pos c27] at H
                           have c27b0 : decide (x39_3 < (y128.length : Int)) = true := decide_eq_true c27
                           clear c27
                           by_cases c28 : x6_2 = true
                           · subst c28
                             have H1 : (if ((rd_T29 y128 x39_3).f0).toList = ((rd_T29 l0 x13_1).f0).toList then (if x3_3.length < 2932031007402 then (laws_grouped.l2 k3 l0 (x3_3 ++ [(⟨(rd_T29 y128 x39_3).f0, (rd_T29 y128 x39_3).f1, (rd_T29 y128 x39_3).f2⟩ : S29)]) true l0 (l0.length : Int) x13_1 y128 (y128.length : Int) (wrap64 (x39_3 + 1)) ((rd_T29 l0 x13_1).f0) ((rd_T29 l0 x13_1).f1) ((rd_T29 l0 x13_1).f2)) else (none)) else (laws_grouped.l2 k3 l0 x3_3 true l0 (l0.length : Int) x13_1 y128 (y128.length : Int) (wrap64 (x39_3 + 1)) ((rd_T29 l0 x13_1).f0) ((rd_T29 l0 x13_1).f1) ((rd_T29 l0 x13_1).f2))) = some r := by rw [if_pos rfl] at H; exact H
                             clear H
                             have H := H1
                             clear H1
                             by_cases c29 : ((rd_T29 y128 x39_3).f0).toList = ((rd_T29 l0 x13_1).f0).toList
                             · rw [if_pos c29] at H
                               have c29b0 : (((rd_T29 y128 x39_3).f0).toList == ((rd_T29 l0 x13_1).f0).toList) = true := beq_iff_eq.mpr c29
                               have c29b1 : (((rd_T29 y128 x39_3).f0).toList != ((rd_T29 l0 x13_1).f0).toList) = false := bne_eq_false_iff_eq.mpr c29
                               clear c29
                               by_cases c30 : x3_3.length < 2932031007402
                               · rw [if_pos c30] at H
                                 have LMc30 := Aside0.mk c30
                                 clear c30
                                 obtain ⟨y134, hy134⟩ : ∃ y_ : List (S29), y_ = (x3_3 ++ [(⟨(rd_T29 y128 x39_3).f0, (rd_T29 y128 x39_3).f1, (rd_T29 y128 x39_3).f2⟩ : S29)]) := ⟨_, rfl⟩
                                 replace H : (laws_grouped.l2 k3 l0 y134 true l0 (l0.length : Int) x13_1 y128 (y128.length : Int) (wrap64 (x39_3 + 1)) ((rd_T29 l0 x13_1).f0) ((rd_T29 l0 x13_1).f1) ((rd_T29 l0 x13_1).f2)) = some r := by first | (rw [hy134]; with_reducible exact H) | (have H2_ := (Option.bind_some _ _).symm.trans H; rw [hy134]; with_reducible exact H2_) | (have H2_ := (Option.bind_some _ _).symm.trans H; with_reducible exact H2_) | with_reducible exact H | (rw [hy134]; exact H) | exact H
                                 have Ny134 := Aside0.mk hy134
                                 clear hy134
                                 have H' := Aside0.mk H
                                 clear H
                                 have p132 : 0 ≤ (x39_3 : Int) := of_decide_eq_true (by first | (with_reducible assumption) | assumption)
                                 have q132 : x39_3 < (y128.length : Int) := of_decide_eq_true (by first | (with_reducible assumption) | assumption)
                                 obtain ⟨ad132, e132, hx132_0, hx132_1, hx132_2⟩ := at_T29 HR131.out x39_3 p132 q132
                                 cases e132
                                 replace hx132_0 := (HB.out.cell (World.block_lt_of_cell? w _ hx132_0)).trans hx132_0
                                 replace hx132_1 := (HB.out.cell (World.block_lt_of_cell? w _ hx132_1)).trans hx132_1
                                 replace hx132_2 := (HB.out.cell (World.block_lt_of_cell? w _ hx132_2)).trans hx132_2
                                 replace p132 := eq_true p132
                                 replace q132 := eq_true q132
                                 go_wp2_with (first | ((with_reducible refine gate_dst (N := 10) rfl ?_); refine box_event ?hg (N := 10) ?hd (cs := #[.string (⟨#[]⟩ : ByteArray), .string (⟨#[]⟩ : ByteArray), .string (⟨#[]⟩ : ByteArray)]) (t := 29) ?hr ?_; (case hd => rfl); (case hg => rfl); (case hr => first | (go_simp; done) | (go_simp; rfl)); intro gb133 hg w31 hbox hb; have n0_ := Aside0.mk (Kd.R_below (Kd.R_elderB (by (with_reducible repeat (first | apply Kd.R_alloc | apply Kd.R_drewN | apply Kd.R_drew)); exact HO_3.out) gb133 (Nat.le_of_eq hg.symm)) hb); have n1_ := Aside0.mk (blk_below (g := gb121) (o := .cells #[.string ((rd_T29 l0 x13_1).f0), .string ((rd_T29 l0 x13_1).f1), .string ((rd_T29 l0 x13_1).f2)] 29 (0, 0)) (by (with_reducible repeat (first | refine blk_drewN ?_ _ | refine blk_drew ?_ | refine blk_alloc ?_ _)); exact BK121.out) hb); have n2_ := Aside0.mk (below_step (by repeat (first | (with_reducible first | exact HB.out | apply below_alloc | apply pw_below_drewN | apply below_drew1 | refine below_set ?_ GE121.out) | exact HB.out)) hb); have n3_ := Aside0.mk (hbox); have n4_ := Aside0.mk ((by rw [hg]; exact (below_size (by repeat (first | (with_reducible first | exact HB.out | apply below_alloc | apply pw_below_drewN | apply below_drew1 | refine below_set ?_ GE121.out) | exact HB.out))) : w.heap.size ≤ gb133)); have n5_ := Aside0.mk ((by rw [hg]; exact (below_size (by repeat (first | (with_reducible first | exact HB.out | apply below_alloc | apply pw_below_drewN | apply below_drew1 | refine below_set ?_ GE121.out) | exact HB.out))) : w.heap.size ≤ gb133)); have n6_ := Aside0.mk ((by rw [hg]; exact Nat.ne_of_lt (blk_lt (g := gb121) (o := .cells #[.string ((rd_T29 l0 x13_1).f0), .string ((rd_T29 l0 x13_1).f1), .string ((rd_T29 l0 x13_1).f2)] 29 (0, 0)) (by (with_reducible repeat (first | refine blk_drewN ?_ _ | refine blk_drew ?_ | refine blk_alloc ?_ _)); exact BK121.out)) : gb121 ≠ gb133)); have n7_ := Aside0.mk ((by rw [hg]; exact Nat.ne_of_gt (blk_lt (g := gb121) (o := .cells #[.string ((rd_T29 l0 x13_1).f0), .string ((rd_T29 l0 x13_1).f1), .string ((rd_T29 l0 x13_1).f2)] 29 (0, 0)) (by (with_reducible repeat (first | refine blk_drewN ?_ _ | refine blk_drew ?_ | refine blk_alloc ?_ _)); exact BK121.out)) : gb133 ≠ gb121)); clear HO_3; clear BK121; clear HB; have HO_3 := n0_; have BK121 := n1_; have HB := n2_; have BK133 := n3_; have GW133 := n4_; have GE133 := n5_; have NB121_133 := n6_; have NB133_121 := n7_; clear n0_ n1_ n2_ n3_ n4_ n5_ n6_ n7_; clear hb hbox hg; have hnb32 := NB133_121.out; have hnc32 := NB121_133.out; have hcz33_0 : w31.cell? ⟨gb133, 0, none⟩ = some (.string (⟨#[]⟩ : ByteArray)) := (blk_cell BK133.out 0).trans rfl; have hcz33_1 : w31.cell? ⟨gb133, 1, none⟩ = some (.string (⟨#[]⟩ : ByteArray)) := (blk_cell BK133.out 1).trans rfl; have hcz33_2 : w31.cell? ⟨gb133, 2, none⟩ = some (.string (⟨#[]⟩ : ByteArray)) := (blk_cell BK133.out 2).trans rfl; have hfz33_0 := blk_frozen BK133.out 0; have hfz33_1 := blk_frozen BK133.out 1; have hfz33_2 := blk_frozen BK133.out 2; have hcz34_0 : w31.cell? ⟨gb121, 0, none⟩ = some (.string ((rd_T29 l0 x13_1).f0)) := (blk_cell BK121.out 0).trans rfl; have hcz34_1 : w31.cell? ⟨gb121, 1, none⟩ = some (.string ((rd_T29 l0 x13_1).f1)) := (blk_cell BK121.out 1).trans rfl; have hcz34_2 : w31.cell? ⟨gb121, 2, none⟩ = some (.string ((rd_T29 l0 x13_1).f2)) := (blk_cell BK121.out 2).trans rfl; have hfz34_0 := blk_frozen BK121.out 0; have hfz34_1 := blk_frozen BK121.out 1; have hfz34_2 := blk_frozen BK121.out 2) | ((with_reducible refine gate_builtin (b := .append) (xs := #[.tmp 51, .tmp 53]) rfl ?_); at_builtin; refine Kd.R_append k29 (w0 := w) w.heap.size rfl (.tmp 51) (.tmp 53) 32 29 (.agg #[(.string ⟨#[]⟩), (.string ⟨#[]⟩), (.string ⟨#[]⟩)]) 48 rfl Tryd.underlying32 info29 rfl (by decide) (by omega) u3 x3_3 (⟨(rd_T29 y128 x39_3).f0, (rd_T29 y128 x39_3).f1, (rd_T29 y128 x39_3).f2⟩ : S29) [.string ((rd_T29 y128 x39_3).f0), .string ((rd_T29 y128 x39_3).f1), .string ((rd_T29 y128 x39_3).f2)] (fun k_ => k_ ≠ gb121 ∧ k_ ≠ gb133) (fun _ => False) rfl (by first | (go_simp; done) | (go_simp; rfl)) ?aP (fun _ hk => hk.elim) ?aF ?aO ?aB ?aS ?aL ?_; (case aP => exact k29_mkM _ _ _ (⟨(rd_T29 y128 x39_3).f0, (rd_T29 y128 x39_3).f1, (rd_T29 y128 x39_3).f2⟩ : S29)); (case aB => exact (by repeat (first | (with_reducible first | exact HB.out | apply below_alloc | apply pw_below_drewN | apply below_drew1 | refine below_set ?_ GE121.out | refine below_set ?_ GE133.out) | exact HB.out))); (case aF => exact (fun k_ hk => ⟨Kd.freshB (g := gb121) (o := .cells #[.string ((rd_T29 l0 x13_1).f0), .string ((rd_T29 l0 x13_1).f1), .string ((rd_T29 l0 x13_1).f2)] 29 (0, 0)) (by (with_reducible repeat (first | refine blk_drewN ?_ _ | refine blk_drew ?_ | refine blk_alloc ?_ _)); refine blk_far ?_ NB121_133.out _; (with_reducible repeat (first | refine blk_drewN ?_ _ | refine blk_drew ?_ | refine blk_alloc ?_ _)); refine blk_far ?_ NB121_133.out _; (with_reducible repeat (first | refine blk_drewN ?_ _ | refine blk_drew ?_ | refine blk_alloc ?_ _)); refine blk_far ?_ NB121_133.out _; (with_reducible repeat (first | refine blk_drewN ?_ _ | refine blk_drew ?_ | refine blk_alloc ?_ _)); exact BK121.out) k_ hk, Kd.freshB (g := gb133) (o := .cells #[.string ((rd_T29 y128 x39_3).f0), .string ((rd_T29 y128 x39_3).f1), .string ((rd_T29 y128 x39_3).f2)] 29 (0, 0)) (by (with_reducible repeat (first | refine blk_drewN ?_ _ | refine blk_drew ?_ | refine blk_alloc ?_ _)); refine blk_put (cs := #[.string ((rd_T29 y128 x39_3).f0), .string ((rd_T29 y128 x39_3).f1), .string (⟨#[]⟩ : ByteArray)]) ?_ 2 _ rfl; (with_reducible repeat (first | refine blk_drewN ?_ _ | refine blk_drew ?_ | refine blk_alloc ?_ _)); refine blk_put (cs := #[.string ((rd_T29 y128 x39_3).f0), .string (⟨#[]⟩ : ByteArray), .string (⟨#[]⟩ : ByteArray)]) ?_ 1 _ rfl; (with_reducible repeat (first | refine blk_drewN ?_ _ | refine blk_drew ?_ | refine blk_alloc ?_ _)); refine blk_put (cs := #[.string (⟨#[]⟩ : ByteArray), .string (⟨#[]⟩ : ByteArray), .string (⟨#[]⟩ : ByteArray)]) ?_ 0 _ rfl; (with_reducible repeat (first | refine blk_drewN ?_ _ | refine blk_drew ?_ | refine blk_alloc ?_ _)); exact BK133.out) k_ hk⟩)); (case aO => exact (by (with_reducible repeat (first | apply Kd.R_alloc | apply Kd.R_drewN | apply Kd.R_drew)); exact Kd.R_mono (Kd.R_far (p := ⟨gb133, 2, none⟩) (Kd.R_far (p := ⟨gb133, 1, none⟩) (Kd.R_far (p := ⟨gb133, 0, none⟩) (Kd.R_mono HO_3.out (fun k_ hk => (⟨hk, hk.2⟩ : _ ∧ k_ ≠ gb133))) (fun _ hk => hk.2) (.string ((rd_T29 y128 x39_3).f0))) (fun _ hk => hk.2) (.string ((rd_T29 y128 x39_3).f1))) (fun _ hk => hk.2) (.string ((rd_T29 y128 x39_3).f2))) (fun _ hk => ⟨hk.1.1, hk.1.2⟩))); (case aS => exact (below_size (by repeat (first | (with_reducible first | exact HB.out | apply below_alloc | apply pw_below_drewN | apply below_drew1 | refine below_set ?_ GE121.out | refine below_set ?_ GE133.out) | exact HB.out)))); (case aL => have := LMc30.out; omega); intro v135 w35 ho hb hg hat; rw [← Ny134.out] at ho; have n0_ := Aside0.mk (blk_grown (g := gb121) (o := .cells #[.string ((rd_T29 l0 x13_1).f0), .string ((rd_T29 l0 x13_1).f1), .string ((rd_T29 l0 x13_1).f2)] 29 (0, 0)) (by (with_reducible repeat (first | refine blk_drewN ?_ _ | refine blk_drew ?_ | refine blk_alloc ?_ _)); refine blk_far ?_ NB121_133.out _; (with_reducible repeat (first | refine blk_drewN ?_ _ | refine blk_drew ?_ | refine blk_alloc ?_ _)); refine blk_far ?_ NB121_133.out _; (with_reducible repeat (first | refine blk_drewN ?_ _ | refine blk_drew ?_ | refine blk_alloc ?_ _)); refine blk_far ?_ NB121_133.out _; (with_reducible repeat (first | refine blk_drewN ?_ _ | refine blk_drew ?_ | refine blk_alloc ?_ _)); exact BK121.out) hg (Kd.R_away HO_3.out (fun _ hk => hk.1))); have n1_ := Aside0.mk (blk_grown (g := gb133) (o := .cells #[.string ((rd_T29 y128 x39_3).f0), .string ((rd_T29 y128 x39_3).f1), .string ((rd_T29 y128 x39_3).f2)] 29 (0, 0)) (by (with_reducible repeat (first | refine blk_drewN ?_ _ | refine blk_drew ?_ | refine blk_alloc ?_ _)); refine blk_put (cs := #[.string ((rd_T29 y128 x39_3).f0), .string ((rd_T29 y128 x39_3).f1), .string (⟨#[]⟩ : ByteArray)]) ?_ 2 _ rfl; (with_reducible repeat (first | refine blk_drewN ?_ _ | refine blk_drew ?_ | refine blk_alloc ?_ _)); refine blk_put (cs := #[.string ((rd_T29 y128 x39_3).f0), .string (⟨#[]⟩ : ByteArray), .string (⟨#[]⟩ : ByteArray)]) ?_ 1 _ rfl; (with_reducible repeat (first | refine blk_drewN ?_ _ | refine blk_drew ?_ | refine blk_alloc ?_ _)); refine blk_put (cs := #[.string (⟨#[]⟩ : ByteArray), .string (⟨#[]⟩ : ByteArray), .string (⟨#[]⟩ : ByteArray)]) ?_ 0 _ rfl; (with_reducible repeat (first | refine blk_drewN ?_ _ | refine blk_drew ?_ | refine blk_alloc ?_ _)); exact BK133.out) hg (Kd.R_away HO_3.out (fun _ hk => hk.2))); have n2_ := Aside0.mk (hb); have n3_ := Aside0.mk (ho); clear BK121; clear BK133; clear HB; clear HO_3; have BK121 := n0_; have BK133 := n1_; have HB := n2_; have HO136 := n3_; clear n0_ n1_ n2_ n3_; clear ho hb hg hat))
                                 go_roundg k3
                                 case measure => have := HK1.out; have := HK2.out; have := HK3.out; omega
                                 case rel => exact ⟨(y134), (wrap64 (x39_3 + 1)), (by first | rfl | (simp; done) | (simp [*]; done)), H', ⟨by have := HK1.out; have := HK2.out; have := HK3.out; omega⟩, ⟨by (with_reducible repeat (first | apply Kd.R_alloc | apply Kd.R_drewN | apply Kd.R_drew)); exact Kd.R_mono HO136.out (fun _ hk => hk.1)⟩, ⟨by (with_reducible repeat (first | refine blk_drewN ?_ _ | refine blk_drew ?_ | refine blk_alloc ?_ _)); exact BK121.out⟩, ⟨by repeat (first | (with_reducible first | exact HB.out | apply below_alloc | apply pw_below_drewN | apply below_drew1 | refine below_set ?_ GE121.out | refine below_set ?_ GE133.out) | exact HB.out)⟩⟩
                               · rw [if_neg c30] at H
                                 exact absurd H (by simp)
                             · rw [if_neg c29] at H
                               have c29b0 : (((rd_T29 y128 x39_3).f0).toList == ((rd_T29 l0 x13_1).f0).toList) = false := beq_eq_false_iff_ne.mpr c29
                               have c29b1 : (((rd_T29 y128 x39_3).f0).toList != ((rd_T29 l0 x13_1).f0).toList) = true := bne_iff_ne.mpr c29
                               have H' := Aside0.mk H
                               clear H
                               have p132 : 0 ≤ (x39_3 : Int) := of_decide_eq_true (by first | (with_reducible assumption) | assumption)
                               have q132 : x39_3 < (y128.length : Int) := of_decide_eq_true (by first | (with_reducible assumption) | assumption)
                               obtain ⟨ad132, e132, hx132_0, hx132_1, hx132_2⟩ := at_T29 HR131.out x39_3 p132 q132
                               cases e132
                               replace hx132_0 := (HB.out.cell (World.block_lt_of_cell? w _ hx132_0)).trans hx132_0
                               replace hx132_1 := (HB.out.cell (World.block_lt_of_cell? w _ hx132_1)).trans hx132_1
                               replace hx132_2 := (HB.out.cell (World.block_lt_of_cell? w _ hx132_2)).trans hx132_2
                               replace p132 := eq_true p132
                               replace q132 := eq_true q132
                               go_wp2_with (first | ((with_reducible refine gate_dst (N := 10) rfl ?_); refine box_event ?hg (N := 10) ?hd (cs := #[.string (⟨#[]⟩ : ByteArray), .string (⟨#[]⟩ : ByteArray), .string (⟨#[]⟩ : ByteArray)]) (t := 29) ?hr ?_; (case hd => rfl); (case hg => rfl); (case hr => first | (go_simp; done) | (go_simp; rfl)); intro gb133 hg w36 hbox hb; have n0_ := Aside0.mk (Kd.R_below (Kd.R_elderB (by (with_reducible repeat (first | apply Kd.R_alloc | apply Kd.R_drewN | apply Kd.R_drew)); exact HO_3.out) gb133 (Nat.le_of_eq hg.symm)) hb); have n1_ := Aside0.mk (blk_below (g := gb121) (o := .cells #[.string ((rd_T29 l0 x13_1).f0), .string ((rd_T29 l0 x13_1).f1), .string ((rd_T29 l0 x13_1).f2)] 29 (0, 0)) (by (with_reducible repeat (first | refine blk_drewN ?_ _ | refine blk_drew ?_ | refine blk_alloc ?_ _)); exact BK121.out) hb); have n2_ := Aside0.mk (below_step (by repeat (first | (with_reducible first | exact HB.out | apply below_alloc | apply pw_below_drewN | apply below_drew1 | refine below_set ?_ GE121.out) | exact HB.out)) hb); have n3_ := Aside0.mk (hbox); have n4_ := Aside0.mk ((by rw [hg]; exact (below_size (by repeat (first | (with_reducible first | exact HB.out | apply below_alloc | apply pw_below_drewN | apply below_drew1 | refine below_set ?_ GE121.out) | exact HB.out))) : w.heap.size ≤ gb133)); have n5_ := Aside0.mk ((by rw [hg]; exact (below_size (by repeat (first | (with_reducible first | exact HB.out | apply below_alloc | apply pw_below_drewN | apply below_drew1 | refine below_set ?_ GE121.out) | exact HB.out))) : w.heap.size ≤ gb133)); have n6_ := Aside0.mk ((by rw [hg]; exact Nat.ne_of_lt (blk_lt (g := gb121) (o := .cells #[.string ((rd_T29 l0 x13_1).f0), .string ((rd_T29 l0 x13_1).f1), .string ((rd_T29 l0 x13_1).f2)] 29 (0, 0)) (by (with_reducible repeat (first | refine blk_drewN ?_ _ | refine blk_drew ?_ | refine blk_alloc ?_ _)); exact BK121.out)) : gb121 ≠ gb133)); have n7_ := Aside0.mk ((by rw [hg]; exact Nat.ne_of_gt (blk_lt (g := gb121) (o := .cells #[.string ((rd_T29 l0 x13_1).f0), .string ((rd_T29 l0 x13_1).f1), .string ((rd_T29 l0 x13_1).f2)] 29 (0, 0)) (by (with_reducible repeat (first | refine blk_drewN ?_ _ | refine blk_drew ?_ | refine blk_alloc ?_ _)); exact BK121.out)) : gb133 ≠ gb121)); clear HO_3; clear BK121; clear HB; have HO_3 := n0_; have BK121 := n1_; have HB := n2_; have BK133 := n3_; have GW133 := n4_; have GE133 := n5_; have NB121_133 := n6_; have NB133_121 := n7_; clear n0_ n1_ n2_ n3_ n4_ n5_ n6_ n7_; clear hb hbox hg; have hnb37 := NB133_121.out; have hnc37 := NB121_133.out; have hcz38_0 : w36.cell? ⟨gb133, 0, none⟩ = some (.string (⟨#[]⟩ : ByteArray)) := (blk_cell BK133.out 0).trans rfl; have hcz38_1 : w36.cell? ⟨gb133, 1, none⟩ = some (.string (⟨#[]⟩ : ByteArray)) := (blk_cell BK133.out 1).trans rfl; have hcz38_2 : w36.cell? ⟨gb133, 2, none⟩ = some (.string (⟨#[]⟩ : ByteArray)) := (blk_cell BK133.out 2).trans rfl; have hfz38_0 := blk_frozen BK133.out 0; have hfz38_1 := blk_frozen BK133.out 1; have hfz38_2 := blk_frozen BK133.out 2; have hcz39_0 : w36.cell? ⟨gb121, 0, none⟩ = some (.string ((rd_T29 l0 x13_1).f0)) := (blk_cell BK121.out 0).trans rfl; have hcz39_1 : w36.cell? ⟨gb121, 1, none⟩ = some (.string ((rd_T29 l0 x13_1).f1)) := (blk_cell BK121.out 1).trans rfl; have hcz39_2 : w36.cell? ⟨gb121, 2, none⟩ = some (.string ((rd_T29 l0 x13_1).f2)) := (blk_cell BK121.out 2).trans rfl; have hfz39_0 := blk_frozen BK121.out 0; have hfz39_1 := blk_frozen BK121.out 1; have hfz39_2 := blk_frozen BK121.out 2))
                               go_roundg k3
                               case measure => have := HK1.out; have := HK2.out; have := HK3.out; omega
                               case rel => exact ⟨(x3_3), (wrap64 (x39_3 + 1)), (by first | rfl | (simp; done) | (simp [*]; done)), H', ⟨by have := HK1.out; have := HK2.out; have := HK3.out; omega⟩, ⟨by (with_reducible repeat (first | apply Kd.R_alloc | apply Kd.R_drewN | apply Kd.R_drew)); exact Kd.R_mono (Kd.R_far (p := ⟨gb133, 2, none⟩) (Kd.R_far (p := ⟨gb133, 1, none⟩) (Kd.R_far (p := ⟨gb133, 0, none⟩) (Kd.R_mono HO_3.out (fun k_ hk => (⟨hk, hk.2⟩ : _ ∧ k_ ≠ gb133))) (fun _ hk => hk.2) (.string ((rd_T29 y128 x39_3).f0))) (fun _ hk => hk.2) (.string ((rd_T29 y128 x39_3).f1))) (fun _ hk => hk.2) (.string ((rd_T29 y128 x39_3).f2))) (fun _ hk => hk.1.1)⟩, ⟨by (with_reducible repeat (first | refine blk_drewN ?_ _ | refine blk_drew ?_ | refine blk_alloc ?_ _)); refine blk_far ?_ NB121_133.out _; (with_reducible repeat (first | refine blk_drewN ?_ _ | refine blk_drew ?_ | refine blk_alloc ?_ _)); refine blk_far ?_ NB121_133.out _; (with_reducible repeat (first | refine blk_drewN ?_ _ | refine blk_drew ?_ | refine blk_alloc ?_ _)); refine blk_far ?_ NB121_133.out _; (with_reducible repeat (first | refine blk_drewN ?_ _ | refine blk_drew ?_ | refine blk_alloc ?_ _)); exact BK121.out⟩, ⟨by repeat (first | (with_reducible first | exact HB.out | apply below_alloc | apply pw_below_drewN | apply below_drew1 | refine below_set ?_ GE121.out | refine below_set ?_ GE133.out) | exact HB.out)⟩⟩
                           · replace c28 := Bool.eq_false_iff.mpr c28
                             subst c28
                             have H1 : (laws_grouped.l2 k3 l0 x3_3 false l0 (l0.length : Int) x13_1 y128 (y128.length : Int) (wrap64 (x39_3 + 1)) ((rd_T29 l0 x13_1).f0) ((rd_T29 l0 x13_1).f1) ((rd_T29 l0 x13_1).f2)) = some r := by rw [if_neg (show ¬ (false = true) by decide)] at H; exact H
                             clear H
                             have H := H1
                             clear H1
                             have H' := Aside0.mk H
                             clear H
                             have p132 : 0 ≤ (x39_3 : Int) := of_decide_eq_true (by first | (with_reducible assumption) | assumption)
                             have q132 : x39_3 < (y128.length : Int) := of_decide_eq_true (by first | (with_reducible assumption) | assumption)
                             obtain ⟨ad132, e132, hx132_0, hx132_1, hx132_2⟩ := at_T29 HR131.out x39_3 p132 q132
                             cases e132
                             replace hx132_0 := (HB.out.cell (World.block_lt_of_cell? w _ hx132_0)).trans hx132_0
                             replace hx132_1 := (HB.out.cell (World.block_lt_of_cell? w _ hx132_1)).trans hx132_1
                             replace hx132_2 := (HB.out.cell (World.block_lt_of_cell? w _ hx132_2)).trans hx132_2
                             replace p132 := eq_true p132
                             replace q132 := eq_true q132
                             go_wp2_with (first | ((with_reducible refine gate_dst (N := 10) rfl ?_); refine box_event ?hg (N := 10) ?hd (cs := #[.string (⟨#[]⟩ : ByteArray), .string (⟨#[]⟩ : ByteArray), .string (⟨#[]⟩ : ByteArray)]) (t := 29) ?hr ?_; (case hd => rfl); (case hg => rfl); (case hr => first | (go_simp; done) | (go_simp; rfl)); intro gb133 hg w40 hbox hb; have n0_ := Aside0.mk (Kd.R_below (Kd.R_elderB (by (with_reducible repeat (first | apply Kd.R_alloc | apply Kd.R_drewN | apply Kd.R_drew)); exact HO_3.out) gb133 (Nat.le_of_eq hg.symm)) hb); have n1_ := Aside0.mk (blk_below (g := gb121) (o := .cells #[.string ((rd_T29 l0 x13_1).f0), .string ((rd_T29 l0 x13_1).f1), .string ((rd_T29 l0 x13_1).f2)] 29 (0, 0)) (by (with_reducible repeat (first | refine blk_drewN ?_ _ | refine blk_drew ?_ | refine blk_alloc ?_ _)); exact BK121.out) hb); have n2_ := Aside0.mk (below_step (by repeat (first | (with_reducible first | exact HB.out | apply below_alloc | apply pw_below_drewN | apply below_drew1 | refine below_set ?_ GE121.out) | exact HB.out)) hb); have n3_ := Aside0.mk (hbox); have n4_ := Aside0.mk ((by rw [hg]; exact (below_size (by repeat (first | (with_reducible first | exact HB.out | apply below_alloc | apply pw_below_drewN | apply below_drew1 | refine below_set ?_ GE121.out) | exact HB.out))) : w.heap.size ≤ gb133)); have n5_ := Aside0.mk ((by rw [hg]; exact (below_size (by repeat (first | (with_reducible first | exact HB.out | apply below_alloc | apply pw_below_drewN | apply below_drew1 | refine below_set ?_ GE121.out) | exact HB.out))) : w.heap.size ≤ gb133)); have n6_ := Aside0.mk ((by rw [hg]; exact Nat.ne_of_lt (blk_lt (g := gb121) (o := .cells #[.string ((rd_T29 l0 x13_1).f0), .string ((rd_T29 l0 x13_1).f1), .string ((rd_T29 l0 x13_1).f2)] 29 (0, 0)) (by (with_reducible repeat (first | refine blk_drewN ?_ _ | refine blk_drew ?_ | refine blk_alloc ?_ _)); exact BK121.out)) : gb121 ≠ gb133)); have n7_ := Aside0.mk ((by rw [hg]; exact Nat.ne_of_gt (blk_lt (g := gb121) (o := .cells #[.string ((rd_T29 l0 x13_1).f0), .string ((rd_T29 l0 x13_1).f1), .string ((rd_T29 l0 x13_1).f2)] 29 (0, 0)) (by (with_reducible repeat (first | refine blk_drewN ?_ _ | refine blk_drew ?_ | refine blk_alloc ?_ _)); exact BK121.out)) : gb133 ≠ gb121)); clear HO_3; clear BK121; clear HB; have HO_3 := n0_; have BK121 := n1_; have HB := n2_; have BK133 := n3_; have GW133 := n4_; have GE133 := n5_; have NB121_133 := n6_; have NB133_121 := n7_; clear n0_ n1_ n2_ n3_ n4_ n5_ n6_ n7_; clear hb hbox hg; have hnb41 := NB133_121.out; have hnc41 := NB121_133.out; have hcz42_0 : w40.cell? ⟨gb133, 0, none⟩ = some (.string (⟨#[]⟩ : ByteArray)) := (blk_cell BK133.out 0).trans rfl; have hcz42_1 : w40.cell? ⟨gb133, 1, none⟩ = some (.string (⟨#[]⟩ : ByteArray)) := (blk_cell BK133.out 1).trans rfl; have hcz42_2 : w40.cell? ⟨gb133, 2, none⟩ = some (.string (⟨#[]⟩ : ByteArray)) := (blk_cell BK133.out 2).trans rfl; have hfz42_0 := blk_frozen BK133.out 0; have hfz42_1 := blk_frozen BK133.out 1; have hfz42_2 := blk_frozen BK133.out 2))
                             go_roundg k3
                             case measure => have := HK1.out; have := HK2.out; have := HK3.out; omega
                             case rel => exact ⟨(x3_3), (wrap64 (x39_3 + 1)), (by first | rfl | (simp; done) | (simp [*]; done)), H', ⟨by have := HK1.out; have := HK2.out; have := HK3.out; omega⟩, ⟨by (with_reducible repeat (first | apply Kd.R_alloc | apply Kd.R_drewN | apply Kd.R_drew)); exact Kd.R_mono (Kd.R_far (p := ⟨gb133, 2, none⟩) (Kd.R_far (p := ⟨gb133, 1, none⟩) (Kd.R_far (p := ⟨gb133, 0, none⟩) (Kd.R_mono HO_3.out (fun k_ hk => (⟨hk, hk.2⟩ : _ ∧ k_ ≠ gb133))) (fun _ hk => hk.2) (.string ((rd_T29 y128 x39_3).f0))) (fun _ hk => hk.2) (.string ((rd_T29 y128 x39_3).f1))) (fun _ hk => hk.2) (.string ((rd_T29 y128 x39_3).f2))) (fun _ hk => hk.1.1)⟩, ⟨by (with_reducible repeat (first | refine blk_drewN ?_ _ | refine blk_drew ?_ | refine blk_alloc ?_ _)); refine blk_far ?_ NB121_133.out _; (with_reducible repeat (first | refine blk_drewN ?_ _ | refine blk_drew ?_ | refine blk_alloc ?_ _)); refine blk_far ?_ NB121_133.out _; (with_reducible repeat (first | refine blk_drewN ?_ _ | refine blk_drew ?_ | refine blk_alloc ?_ _)); refine blk_far ?_ NB121_133.out _; (with_reducible repeat (first | refine blk_drewN ?_ _ | refine blk_drew ?_ | refine blk_alloc ?_ _)); exact BK121.out⟩, ⟨by repeat (first | (with_reducible first | exact HB.out | apply below_alloc | apply pw_below_drewN | apply below_drew1 | refine below_set ?_ GE121.out | refine below_set ?_ GE133.out) | exact HB.out)⟩⟩
                         · rw [if_neg c27] at H
                           exact absurd H (by simp)
                       · rw [if_neg c26] at H
                         exact absurd H (by simp)
                     · rw [if_neg c25] at H
                       have c25b0 : decide (x39_3 < (y128.length : Int)) = false := decide_eq_false c25
                       clear c25
                       have H' := Aside0.mk H
                       clear H
                       go_wp2
                       go_roundg k3
                       case measure => have := HK1.out; have := HK2.out; have := HK3.out; omega
                       case rel => exact ⟨(x3_3), (wrap64 (x13_1 + 1)), (by first | rfl | (simp; done) | (simp [*]; done)), H', ⟨by have := HK1.out; have := HK2.out; have := HK3.out; omega⟩, ⟨by (with_reducible repeat (first | apply Kd.R_alloc | apply Kd.R_drewN | apply Kd.R_drew)); exact Kd.R_mono HO_3.out (fun _ hk => trivial)⟩, ⟨by repeat (first | (with_reducible first | exact HB.out | apply below_alloc | apply pw_below_drewN | apply below_drew1 | refine below_set ?_ GE121.out) | exact HB.out)⟩⟩
                 · rw [if_neg c23] at H
                   exact absurd H (by simp)
               · rw [if_neg c22] at H
                 exact absurd H (by simp)
         · rw [if_neg c6] at H
           exact absurd H (by simp)
       · rw [if_neg c4] at H
         exact absurd H (by simp)
     · rw [if_neg c3] at H
       exact absurd H (by simp)
   · rw [if_neg c2] at H
     have c2b0 : decide (x13_1 < (l0.length : Int)) = false := decide_eq_false c2
     clear c2
     obtain rfl := Option.some.inj H
     go_wp2
     go_ret
     exact ⟨_, by first | rfl | (simp [errW_none, errW_some] <;> rfl) | (simp [*, errW_none, errW_some] <;> rfl), by (with_reducible repeat (first | apply Kd.R_alloc | apply Kd.R_drewN | apply Kd.R_drew)); exact HO_3.out, by repeat (first | (with_reducible first | exact HB.out | apply below_alloc | apply pw_below_drewN | apply below_drew1) | exact HB.out)⟩
end Go.Proofs.YtocdnceckljnaaaDoor.QV0
