/- The texts Mw, QM0x0, QM0x1, QM0x2, QM0x3, QM0x4, QM0x5, without what the claims do not use, laid together by a program of this session (wip/tools/bundle.py). Conditions: those of each theorem. -/
import Derived.Test.YtcpldcndhijecaaDoorZc1
import Derived.Deep.WholeRow
import Derived.Test.YtcpldcndhijecaaDoorProg
import Derived.Below
import Derived.Deep.Draws
import Derived.Deep.AppendLies
import Derived.Maps.AppendAt
import Derived.OwnWalk
import Derived.Laws.BytesArg
import Derived.Laws.MakeOwn
import Derived.Laws.OwnMore
import Derived.Deep.OwnRows
import Derived.Tactics
import Derived.Lib.ConvBytes
import Derived.Laws.Slices
import Derived.WalkKit
import Derived.KernelRfl
import Derived.RowKit3
import Derived.Deep.LoopGhost
import Derived.Deep.QuietTactic
import Derived.BigQuiet
import Derived.WideLaws
import Derived.Deep.DeepCutAuto
import Derived.Deep.CutBlock
import Derived.Deep.RegionHeld3
import Derived.Laws.Rows
import Derived.Lib.AppendStr
import Derived.ArgAppend
import Derived.Laws.IdiomCopy
import Derived.OrdersHeld
import Derived.Laws.BitsLemmas
import Derived.RowKit
namespace Go.Last
open Go Go.RowKit Go.Proofs.YtcpldcndhijecaaDoorW.PrintWords
section
variable {P : Program} {ops : Array Oper} {rest : List Oper} {o1 o2 : Oper} {a : Act} {Q : Exit → Act → World → Prop}
theorem box_store_event {W : World} (hgd : o1.guard = none) {N : Tmp} (_hd : o1.dst = some N) {c0 cs : Array Value} {t : TypeId} {x : Operand}
    (hrun : (execOp a.eval o1).run P W = .ok (.value (.pointer (some ⟨W.heap.size, 0, none⟩))) (W.alloc (.cells c0 t (0, 0))))
    (hgd2 : o2.guard = none) (ho2 : (o2.op, o2.dst) = (.store t (.tmp N) x, none))
    (hx : (a.put o1.dst (.pointer (some ⟨W.heap.size, 0, none⟩))).eval x = .agg cs)
    (hN : (a.put o1.dst (.pointer (some ⟨W.heap.size, 0, none⟩))).eval (.tmp N) = .pointer (some ⟨W.heap.size, 0, none⟩))
    (hi : (P.info? t).map (·.size) = some cs.size) (hl : c0.size = cs.size) (h1 : cs.all (·.oneCell') = true)
    (h : ∀ g, g = W.heap.size → ∀ w1, w1.heap[g]? = some (.cells cs t (0, 0)) → Below W.heap.size W w1 → wpList P ops Q rest (a.put o1.dst (.pointer (some ⟨g, 0, none⟩))) w1) : wpList P ops Q (o1 :: o2 :: rest) a W := by
  refine Kd.event_run hgd hrun ?_
  refine store_event hgd2 (t := t) (p := N) (v := x) (congrArg Prod.fst ho2) (congrArg Prod.snd ho2) (w1 := W.alloc (.cells cs t (0, 0))) ?_ (fun w' hw => ?_)
  · have := run_storeAt_new (P := P) W t c0 cs hi hl h1
    unfold execOp
    have e1 : o2.op = .store t (.tmp N) x := congrArg Prod.fst ho2
    rw [e1]
    simp only [hx, hN]
    rw [Sem.run_bind, this]
    rfl
  · subst hw
    exact h _ rfl _ (blk_new W _) (below_alloc (Below.refl _ _) _)
end
end Go.Last
namespace Go.Proofs.YtcpldcndhijecaaDoor.QM0
open Go.RowKit Go.Proofs.YtcpldcndhijecaaDoorW.PrintWords Go.Proofs.YtcpldcndhijecaaDoorW.PrintLast Go.Proofs.YtcpldcndhijecaaDoorW.PrintMore
attribute [local go_sem] max2_int min2_int max_two min_two max_three min_three max_four min_four
set_option linter.unusedVariables false
set_option linter.unusedSimpArgs false
def errW : Option Int → Value
 | none => .nilIface
 | some c => .iface 0 (.int .i64 c)
theorem errW_none : errW none = .nilIface := rfl
theorem errW_some (c : Int) : errW (some c) = .iface 0 (.int .i64 c) := rfl
theorem info5 : (Tryd.prog.info? 5).map (fun i => (i.zero, i.size, i.bytes)) = some (some (.int .u8 0), 1, 1) := by kernel_rfl
theorem info9 : (Tryd.prog.info? 9).map (fun i => (i.zero, i.size, i.bytes)) = some (some (.string ⟨#[]⟩), 1, 16) := by kernel_rfl
theorem info44 : (Tryd.prog.info? 44).map (fun i => (i.zero, i.size, i.bytes)) = some (some (.agg #[(.int .i64 0), (.int .i64 0), (.int .i64 0), (.int .i64 0), (.string ⟨#[]⟩), (.string ⟨#[]⟩), (.string ⟨#[]⟩), (.string ⟨#[]⟩), (.string ⟨#[]⟩), (.string ⟨#[]⟩), (.string ⟨#[]⟩)]), 11, 144) := by kernel_rfl
theorem info63 : (Tryd.prog.info? 63).map (fun i => (i.zero, i.size, i.bytes)) = some (some (.agg #[(.int .i64 0), (.int .i64 0), (.int .i64 0), (.int .i64 0), (.string ⟨#[]⟩), (.string ⟨#[]⟩), (.string ⟨#[]⟩), (.string ⟨#[]⟩), (.string ⟨#[]⟩), (.string ⟨#[]⟩), (.string ⟨#[]⟩)]), 11, 144) := by kernel_rfl
structure S44 where
 f0 : Int
 f1 : Int
 f2 : Int
 f3 : Int
 f4 : ByteArray
 f5 : ByteArray
 f6 : ByteArray
 f7 : ByteArray
 f8 : ByteArray
 f9 : ByteArray
 f10 : ByteArray
def z44 : S44 := ⟨(0 : Int), (0 : Int), (0 : Int), (0 : Int), (⟨#[]⟩ : ByteArray), (⟨#[]⟩ : ByteArray), (⟨#[]⟩ : ByteArray), (⟨#[]⟩ : ByteArray), (⟨#[]⟩ : ByteArray), (⟨#[]⟩ : ByteArray), (⟨#[]⟩ : ByteArray)⟩
def k44 : Kd S44 := Kd.iso (Kd.pair (Kd.int .i64) (Kd.pair (Kd.int .i64) (Kd.pair (Kd.int .i64) (Kd.pair (Kd.int .i64) (Kd.pair Kd.string (Kd.pair Kd.string (Kd.pair Kd.string (Kd.pair Kd.string (Kd.pair Kd.string (Kd.pair Kd.string Kd.string)))))))))) (fun x : S44 => (x.f0, x.f1, x.f2, x.f3, x.f4, x.f5, x.f6, x.f7, x.f8, x.f9, x.f10))
theorem k44_open {w : World} {x : S44} {cs : List Value} (h : k44.K w x cs) : cs = [.int .i64 x.f0, .int .i64 x.f1, .int .i64 x.f2, .int .i64 x.f3, .string x.f4, .string x.f5, .string x.f6, .string x.f7, .string x.f8, .string x.f9, .string x.f10] := by
 obtain ⟨_, _, rfl, rfl, ⟨_, _, rfl, rfl, ⟨_, _, rfl, rfl, ⟨_, _, rfl, rfl, ⟨_, _, rfl, rfl, ⟨_, _, rfl, rfl, ⟨_, _, rfl, rfl, ⟨_, _, rfl, rfl, ⟨_, _, rfl, rfl, ⟨_, _, rfl, rfl, rfl⟩⟩⟩⟩⟩⟩⟩⟩⟩⟩ := h
 exact rfl
theorem k44_mk (w : World) (x : S44)  : k44.K w x [.int .i64 x.f0, .int .i64 x.f1, .int .i64 x.f2, .int .i64 x.f3, .string x.f4, .string x.f5, .string x.f6, .string x.f7, .string x.f8, .string x.f9, .string x.f10] := ⟨[.int .i64 x.f0], [.int .i64 x.f1, .int .i64 x.f2, .int .i64 x.f3, .string x.f4, .string x.f5, .string x.f6, .string x.f7, .string x.f8, .string x.f9, .string x.f10], rfl, rfl, ⟨[.int .i64 x.f1], [.int .i64 x.f2, .int .i64 x.f3, .string x.f4, .string x.f5, .string x.f6, .string x.f7, .string x.f8, .string x.f9, .string x.f10], rfl, rfl, ⟨[.int .i64 x.f2], [.int .i64 x.f3, .string x.f4, .string x.f5, .string x.f6, .string x.f7, .string x.f8, .string x.f9, .string x.f10], rfl, rfl, ⟨[.int .i64 x.f3], [.string x.f4, .string x.f5, .string x.f6, .string x.f7, .string x.f8, .string x.f9, .string x.f10], rfl, rfl, ⟨[.string x.f4], [.string x.f5, .string x.f6, .string x.f7, .string x.f8, .string x.f9, .string x.f10], rfl, rfl, ⟨[.string x.f5], [.string x.f6, .string x.f7, .string x.f8, .string x.f9, .string x.f10], rfl, rfl, ⟨[.string x.f6], [.string x.f7, .string x.f8, .string x.f9, .string x.f10], rfl, rfl, ⟨[.string x.f7], [.string x.f8, .string x.f9, .string x.f10], rfl, rfl, ⟨[.string x.f8], [.string x.f9, .string x.f10], rfl, rfl, ⟨[.string x.f9], [.string x.f10], rfl, rfl, rfl⟩⟩⟩⟩⟩⟩⟩⟩⟩⟩
theorem k44_mkM (w : World) (base : Nat) (ok : Nat → Prop) (x : S44)  : k44.M w base ok x [.int .i64 x.f0, .int .i64 x.f1, .int .i64 x.f2, .int .i64 x.f3, .string x.f4, .string x.f5, .string x.f6, .string x.f7, .string x.f8, .string x.f9, .string x.f10] := ⟨[.int .i64 x.f0], [.int .i64 x.f1, .int .i64 x.f2, .int .i64 x.f3, .string x.f4, .string x.f5, .string x.f6, .string x.f7, .string x.f8, .string x.f9, .string x.f10], rfl, rfl, ⟨[.int .i64 x.f1], [.int .i64 x.f2, .int .i64 x.f3, .string x.f4, .string x.f5, .string x.f6, .string x.f7, .string x.f8, .string x.f9, .string x.f10], rfl, rfl, ⟨[.int .i64 x.f2], [.int .i64 x.f3, .string x.f4, .string x.f5, .string x.f6, .string x.f7, .string x.f8, .string x.f9, .string x.f10], rfl, rfl, ⟨[.int .i64 x.f3], [.string x.f4, .string x.f5, .string x.f6, .string x.f7, .string x.f8, .string x.f9, .string x.f10], rfl, rfl, ⟨[.string x.f4], [.string x.f5, .string x.f6, .string x.f7, .string x.f8, .string x.f9, .string x.f10], rfl, rfl, ⟨[.string x.f5], [.string x.f6, .string x.f7, .string x.f8, .string x.f9, .string x.f10], rfl, rfl, ⟨[.string x.f6], [.string x.f7, .string x.f8, .string x.f9, .string x.f10], rfl, rfl, ⟨[.string x.f7], [.string x.f8, .string x.f9, .string x.f10], rfl, rfl, ⟨[.string x.f8], [.string x.f9, .string x.f10], rfl, rfl, ⟨[.string x.f9], [.string x.f10], rfl, rfl, rfl⟩⟩⟩⟩⟩⟩⟩⟩⟩⟩
def rd_T44 (xs : List S44) (i : Int) : S44 := xs.getD i.toNat z44
theorem at_T44 {w : World} {A : Option Addr} {n : Nat} {xs : List S44} (h : Kd.C k44 w A n xs) (i : Int) (h0 : 0 ≤ i) (h1 : i < n) : ∃ ad , A = some ad ∧ w.cell? (ad.add (i.toNat * 11)) = some (.int .i64 (rd_T44 xs i).f0) ∧ w.cell? ⟨(ad.add (i.toNat * 11)).block, (ad.add (i.toNat * 11)).off + 1, none⟩ = some (.int .i64 (rd_T44 xs i).f1) ∧ w.cell? ⟨(ad.add (i.toNat * 11)).block, (ad.add (i.toNat * 11)).off + 2, none⟩ = some (.int .i64 (rd_T44 xs i).f2) ∧ w.cell? ⟨(ad.add (i.toNat * 11)).block, (ad.add (i.toNat * 11)).off + 3, none⟩ = some (.int .i64 (rd_T44 xs i).f3) ∧ w.cell? ⟨(ad.add (i.toNat * 11)).block, (ad.add (i.toNat * 11)).off + 4, none⟩ = some (.string (rd_T44 xs i).f4) ∧ w.cell? ⟨(ad.add (i.toNat * 11)).block, (ad.add (i.toNat * 11)).off + 5, none⟩ = some (.string (rd_T44 xs i).f5) ∧ w.cell? ⟨(ad.add (i.toNat * 11)).block, (ad.add (i.toNat * 11)).off + 6, none⟩ = some (.string (rd_T44 xs i).f6) ∧ w.cell? ⟨(ad.add (i.toNat * 11)).block, (ad.add (i.toNat * 11)).off + 7, none⟩ = some (.string (rd_T44 xs i).f7) ∧ w.cell? ⟨(ad.add (i.toNat * 11)).block, (ad.add (i.toNat * 11)).off + 8, none⟩ = some (.string (rd_T44 xs i).f8) ∧ w.cell? ⟨(ad.add (i.toNat * 11)).block, (ad.add (i.toNat * 11)).off + 9, none⟩ = some (.string (rd_T44 xs i).f9) ∧ w.cell? ⟨(ad.add (i.toNat * 11)).block, (ad.add (i.toNat * 11)).off + 10, none⟩ = some (.string (rd_T44 xs i).f10) := by
 obtain ⟨ad, c, e, _, hK, hc0⟩ := Kd.C_get h z44 i h0 h1
 have hc : ∀ j u, c[j]? = some u → w.cell? (ad.add (i.toNat * 11 + j)) = some u := hc0
 obtain rfl := k44_open hK
 exact ⟨ad, e, hc 0 _ rfl, by rw [← add_field _ _ 1 (by omega)]; exact hc 1 _ rfl, by rw [← add_field _ _ 2 (by omega)]; exact hc 2 _ rfl, by rw [← add_field _ _ 3 (by omega)]; exact hc 3 _ rfl, by rw [← add_field _ _ 4 (by omega)]; exact hc 4 _ rfl, by rw [← add_field _ _ 5 (by omega)]; exact hc 5 _ rfl, by rw [← add_field _ _ 6 (by omega)]; exact hc 6 _ rfl, by rw [← add_field _ _ 7 (by omega)]; exact hc 7 _ rfl, by rw [← add_field _ _ 8 (by omega)]; exact hc 8 _ rfl, by rw [← add_field _ _ 9 (by omega)]; exact hc 9 _ rfl, by rw [← add_field _ _ 10 (by omega)]; exact hc 10 _ rfl⟩
structure S63 where
 f0 : Int
 f1 : Int
 f2 : Int
 f3 : Int
 f4 : ByteArray
 f5 : ByteArray
 f6 : ByteArray
 f7 : ByteArray
 f8 : ByteArray
 f9 : ByteArray
 f10 : ByteArray
def z63 : S63 := ⟨(0 : Int), (0 : Int), (0 : Int), (0 : Int), (⟨#[]⟩ : ByteArray), (⟨#[]⟩ : ByteArray), (⟨#[]⟩ : ByteArray), (⟨#[]⟩ : ByteArray), (⟨#[]⟩ : ByteArray), (⟨#[]⟩ : ByteArray), (⟨#[]⟩ : ByteArray)⟩
def k63 : Kd S63 := Kd.iso (Kd.pair (Kd.int .i64) (Kd.pair (Kd.int .i64) (Kd.pair (Kd.int .i64) (Kd.pair (Kd.int .i64) (Kd.pair Kd.string (Kd.pair Kd.string (Kd.pair Kd.string (Kd.pair Kd.string (Kd.pair Kd.string (Kd.pair Kd.string Kd.string)))))))))) (fun x : S63 => (x.f0, x.f1, x.f2, x.f3, x.f4, x.f5, x.f6, x.f7, x.f8, x.f9, x.f10))
theorem k63_open {w : World} {x : S63} {cs : List Value} (h : k63.K w x cs) : cs = [.int .i64 x.f0, .int .i64 x.f1, .int .i64 x.f2, .int .i64 x.f3, .string x.f4, .string x.f5, .string x.f6, .string x.f7, .string x.f8, .string x.f9, .string x.f10] := by
 obtain ⟨_, _, rfl, rfl, ⟨_, _, rfl, rfl, ⟨_, _, rfl, rfl, ⟨_, _, rfl, rfl, ⟨_, _, rfl, rfl, ⟨_, _, rfl, rfl, ⟨_, _, rfl, rfl, ⟨_, _, rfl, rfl, ⟨_, _, rfl, rfl, ⟨_, _, rfl, rfl, rfl⟩⟩⟩⟩⟩⟩⟩⟩⟩⟩ := h
 exact rfl
theorem k63_mkM (w : World) (base : Nat) (ok : Nat → Prop) (x : S63)  : k63.M w base ok x [.int .i64 x.f0, .int .i64 x.f1, .int .i64 x.f2, .int .i64 x.f3, .string x.f4, .string x.f5, .string x.f6, .string x.f7, .string x.f8, .string x.f9, .string x.f10] := ⟨[.int .i64 x.f0], [.int .i64 x.f1, .int .i64 x.f2, .int .i64 x.f3, .string x.f4, .string x.f5, .string x.f6, .string x.f7, .string x.f8, .string x.f9, .string x.f10], rfl, rfl, ⟨[.int .i64 x.f1], [.int .i64 x.f2, .int .i64 x.f3, .string x.f4, .string x.f5, .string x.f6, .string x.f7, .string x.f8, .string x.f9, .string x.f10], rfl, rfl, ⟨[.int .i64 x.f2], [.int .i64 x.f3, .string x.f4, .string x.f5, .string x.f6, .string x.f7, .string x.f8, .string x.f9, .string x.f10], rfl, rfl, ⟨[.int .i64 x.f3], [.string x.f4, .string x.f5, .string x.f6, .string x.f7, .string x.f8, .string x.f9, .string x.f10], rfl, rfl, ⟨[.string x.f4], [.string x.f5, .string x.f6, .string x.f7, .string x.f8, .string x.f9, .string x.f10], rfl, rfl, ⟨[.string x.f5], [.string x.f6, .string x.f7, .string x.f8, .string x.f9, .string x.f10], rfl, rfl, ⟨[.string x.f6], [.string x.f7, .string x.f8, .string x.f9, .string x.f10], rfl, rfl, ⟨[.string x.f7], [.string x.f8, .string x.f9, .string x.f10], rfl, rfl, ⟨[.string x.f8], [.string x.f9, .string x.f10], rfl, rfl, ⟨[.string x.f9], [.string x.f10], rfl, rfl, rfl⟩⟩⟩⟩⟩⟩⟩⟩⟩⟩
def rd_T63 (xs : List S63) (i : Int) : S63 := xs.getD i.toNat z63
theorem at_T63 {w : World} {A : Option Addr} {n : Nat} {xs : List S63} (h : Kd.C k63 w A n xs) (i : Int) (h0 : 0 ≤ i) (h1 : i < n) : ∃ ad , A = some ad ∧ w.cell? (ad.add (i.toNat * 11)) = some (.int .i64 (rd_T63 xs i).f0) ∧ w.cell? ⟨(ad.add (i.toNat * 11)).block, (ad.add (i.toNat * 11)).off + 1, none⟩ = some (.int .i64 (rd_T63 xs i).f1) ∧ w.cell? ⟨(ad.add (i.toNat * 11)).block, (ad.add (i.toNat * 11)).off + 2, none⟩ = some (.int .i64 (rd_T63 xs i).f2) ∧ w.cell? ⟨(ad.add (i.toNat * 11)).block, (ad.add (i.toNat * 11)).off + 3, none⟩ = some (.int .i64 (rd_T63 xs i).f3) ∧ w.cell? ⟨(ad.add (i.toNat * 11)).block, (ad.add (i.toNat * 11)).off + 4, none⟩ = some (.string (rd_T63 xs i).f4) ∧ w.cell? ⟨(ad.add (i.toNat * 11)).block, (ad.add (i.toNat * 11)).off + 5, none⟩ = some (.string (rd_T63 xs i).f5) ∧ w.cell? ⟨(ad.add (i.toNat * 11)).block, (ad.add (i.toNat * 11)).off + 6, none⟩ = some (.string (rd_T63 xs i).f6) ∧ w.cell? ⟨(ad.add (i.toNat * 11)).block, (ad.add (i.toNat * 11)).off + 7, none⟩ = some (.string (rd_T63 xs i).f7) ∧ w.cell? ⟨(ad.add (i.toNat * 11)).block, (ad.add (i.toNat * 11)).off + 8, none⟩ = some (.string (rd_T63 xs i).f8) ∧ w.cell? ⟨(ad.add (i.toNat * 11)).block, (ad.add (i.toNat * 11)).off + 9, none⟩ = some (.string (rd_T63 xs i).f9) ∧ w.cell? ⟨(ad.add (i.toNat * 11)).block, (ad.add (i.toNat * 11)).off + 10, none⟩ = some (.string (rd_T63 xs i).f10) := by
 obtain ⟨ad, c, e, _, hK, hc0⟩ := Kd.C_get h z63 i h0 h1
 have hc : ∀ j u, c[j]? = some u → w.cell? (ad.add (i.toNat * 11 + j)) = some u := hc0
 obtain rfl := k63_open hK
 exact ⟨ad, e, hc 0 _ rfl, by rw [← add_field _ _ 1 (by omega)]; exact hc 1 _ rfl, by rw [← add_field _ _ 2 (by omega)]; exact hc 2 _ rfl, by rw [← add_field _ _ 3 (by omega)]; exact hc 3 _ rfl, by rw [← add_field _ _ 4 (by omega)]; exact hc 4 _ rfl, by rw [← add_field _ _ 5 (by omega)]; exact hc 5 _ rfl, by rw [← add_field _ _ 6 (by omega)]; exact hc 6 _ rfl, by rw [← add_field _ _ 7 (by omega)]; exact hc 7 _ rfl, by rw [← add_field _ _ 8 (by omega)]; exact hc 8 _ rfl, by rw [← add_field _ _ 9 (by omega)]; exact hc 9 _ rfl, by rw [← add_field _ _ 10 (by omega)]; exact hc 10 _ rfl⟩
end Go.Proofs.YtcpldcndhijecaaDoor.QM0
namespace Go.Proofs.YtcpldcndhijecaaDoor.QM0
open Go.RowKit Go.Proofs.YtcpldcndhijecaaDoorW.PrintWords Go.Proofs.YtcpldcndhijecaaDoorW.PrintLast Go.Proofs.YtcpldcndhijecaaDoorW.PrintMore
attribute [local go_sem] max2_int min2_int max_two min_two max_three min_three max_four min_four
set_option linter.unusedVariables false
set_option linter.unusedSimpArgs false
theorem eqA44 (d : Nat) (w : World) (x0 y0 : Int) (x1 y1 : Int) (x2 y2 : Int) (x3 y3 : Int) (x4 y4 : ByteArray) (x5 y5 : ByteArray) (x6 y6 : ByteArray) (x7 y7 : ByteArray) (x8 y8 : ByteArray) (x9 y9 : ByteArray) (x10 y10 : ByteArray) :
 (Op.equalIn (d + 2) 44 (.agg #[.int .i64 x0, .int .i64 x1, .int .i64 x2, .int .i64 x3, .string x4, .string x5, .string x6, .string x7, .string x8, .string x9, .string x10]) (.agg #[.int .i64 y0, .int .i64 y1, .int .i64 y2, .int .i64 y3, .string y4, .string y5, .string y6, .string y7, .string y8, .string y9, .string y10])).run Tryd.prog w = .ok (x0 == y0 && (x1 == y1 && (x2 == y2 && (x3 == y3 && (x4.toList == y4.toList && (x5.toList == y5.toList && (x6.toList == y6.toList && (x7.toList == y7.toList && (x8.toList == y8.toList && (x9.toList == y9.toList && (x10.toList == y10.toList))))))))))) w := by
 refine eqA_of Tryd.underlying44 (by kernel_rfl) ?_
 refine eqf_cons (by rfl) (by go_simp; rfl) (by go_simp; rfl) (by go_simp) ?_
 refine eqf_cons (by rfl) (by go_simp; rfl) (by go_simp; rfl) (by go_simp) ?_
 refine eqf_cons (by rfl) (by go_simp; rfl) (by go_simp; rfl) (by go_simp) ?_
 refine eqf_cons (by rfl) (by go_simp; rfl) (by go_simp; rfl) (by go_simp) ?_
 refine eqf_cons (by rfl) (by go_simp; rfl) (by go_simp; rfl) (by go_simp) ?_
 refine eqf_cons (by rfl) (by go_simp; rfl) (by go_simp; rfl) (by go_simp) ?_
 refine eqf_cons (by rfl) (by go_simp; rfl) (by go_simp; rfl) (by go_simp) ?_
 refine eqf_cons (by rfl) (by go_simp; rfl) (by go_simp; rfl) (by go_simp) ?_
 refine eqf_cons (by rfl) (by go_simp; rfl) (by go_simp; rfl) (by go_simp) ?_
 refine eqf_cons (by rfl) (by go_simp; rfl) (by go_simp; rfl) (by go_simp) ?_
 exact eqf_last (by rfl) (by go_simp; rfl) (by go_simp; rfl) (by go_simp)
end Go.Proofs.YtcpldcndhijecaaDoor.QM0
namespace Go.Proofs.YtcpldcndhijecaaDoor.QM0
open Go.RowKit Go.Proofs.YtcpldcndhijecaaDoorW.PrintWords Go.Proofs.YtcpldcndhijecaaDoorW.PrintLast Go.Proofs.YtcpldcndhijecaaDoorW.PrintMore
attribute [local go_sem] max2_int min2_int max_two min_two max_three min_three max_four min_four
set_option linter.unusedVariables false
set_option linter.unusedSimpArgs false
def laws_zzFits2.f (a0_0 : Int) (a0_1 : Int) (a0_2 : Int) (a0_3 : Int) (a0_4 : ByteArray) (a0_5 : ByteArray) (a0_6 : ByteArray) (a0_7 : ByteArray) (a0_8 : ByteArray) (a0_9 : ByteArray) (a0_10 : ByteArray) : Option (Bool) := if (a0_4.size : Int) > 2147483647 then (some false) else (if (a0_5.size : Int) > 2147483647 then (some false) else (if (a0_6.size : Int) > 2147483647 then (some false) else (if (a0_7.size : Int) > 2147483647 then (some false) else (if (a0_8.size : Int) > 2147483647 then (some false) else (if (a0_9.size : Int) > 2147483647 then (some false) else (if (a0_10.size : Int) > 2147483647 then (some false) else (some true)))))))
set_option maxHeartbeats 8000000 in
set_option maxRecDepth 100000 in
theorem laws_zzFits2.calls (a0_0 : Int) (a0_1 : Int) (a0_2 : Int) (a0_3 : Int) (a0_4 : ByteArray) (a0_5 : ByteArray) (a0_6 : ByteArray) (a0_7 : ByteArray) (a0_8 : ByteArray) (a0_9 : ByteArray) (a0_10 : ByteArray) (r : Bool) (w : World) (h : laws_zzFits2.f a0_0 a0_1 a0_2 a0_3 a0_4 a0_5 a0_6 a0_7 a0_8 a0_9 a0_10 = some r) :
 Calls Tryd.prog 19 #[.agg #[.int .i64 a0_0, .int .i64 a0_1, .int .i64 a0_2, .int .i64 a0_3, .string a0_4, .string a0_5, .string a0_6, .string a0_7, .string a0_8, .string a0_9, .string a0_10]] w fun e w' => e = .returned (.bool r) ∧ Below w.heap.size w w' := by
 have hu44 := Tryd.underlying44
 have HB := Aside0.mk (Below.refl w.heap.size w)
 have H : (if (a0_4.size : Int) > 2147483647 then (some false) else (if (a0_5.size : Int) > 2147483647 then (some false) else (if (a0_6.size : Int) > 2147483647 then (some false) else (if (a0_7.size : Int) > 2147483647 then (some false) else (if (a0_8.size : Int) > 2147483647 then (some false) else (if (a0_9.size : Int) > 2147483647 then (some false) else (if (a0_10.size : Int) > 2147483647 then (some false) else (some true)))))))) = some r := h
 clear h
 by_cases c2 : (a0_4.size : Int) > 2147483647
 · rw [if_pos c2] at H
   have c2b0 : decide (2147483647 < (a0_4.size : Int)) = true := decide_eq_true c2
   have c2b1 : decide (2147483647 < a0_4.size) = true := decide_eq_true (by omega)
   clear c2
   obtain rfl := Option.some.inj H
   go_enter Tryd.func19, Tryd.ntmps19
   go_wp2_with (first | ((with_reducible refine gate_dst (N := 1) rfl ?_); refine box_event ?hg (N := 1) ?hd (cs := #[.int .i64 a0_0, .int .i64 a0_1, .int .i64 a0_2, .int .i64 a0_3, .string a0_4, .string a0_5, .string a0_6, .string a0_7, .string a0_8, .string a0_9, .string a0_10]) (t := 44) ?hr ?_; (case hd => rfl); (case hg => rfl); (case hr => first | (go_simp; done) | (go_simp; rfl)); intro gb101 hg w3 hbox hb; have n0_ := Aside0.mk (below_step (by repeat (first | (with_reducible first | exact HB.out | apply below_alloc | apply pw_below_drewN | apply below_drew1) | exact HB.out)) hb); have n1_ := Aside0.mk (hbox); have n2_ := Aside0.mk ((by rw [hg]; exact (below_size (by repeat (first | (with_reducible first | exact HB.out | apply below_alloc | apply pw_below_drewN | apply below_drew1) | exact HB.out))) : w.heap.size ≤ gb101)); have n3_ := Aside0.mk ((by rw [hg]; exact (below_size (by repeat (first | (with_reducible first | exact HB.out | apply below_alloc | apply pw_below_drewN | apply below_drew1) | exact HB.out))) : w.heap.size ≤ gb101)); clear HB; have HB := n0_; have BK101 := n1_; have GW101 := n2_; have GE101 := n3_; clear n0_ n1_ n2_ n3_; clear hb hbox hg; have hcz4_0 : w3.cell? ⟨gb101, 0, none⟩ = some (.int .i64 a0_0) := (blk_cell BK101.out 0).trans rfl; have hcz4_1 : w3.cell? ⟨gb101, 1, none⟩ = some (.int .i64 a0_1) := (blk_cell BK101.out 1).trans rfl; have hcz4_2 : w3.cell? ⟨gb101, 2, none⟩ = some (.int .i64 a0_2) := (blk_cell BK101.out 2).trans rfl; have hcz4_3 : w3.cell? ⟨gb101, 3, none⟩ = some (.int .i64 a0_3) := (blk_cell BK101.out 3).trans rfl; have hcz4_4 : w3.cell? ⟨gb101, 4, none⟩ = some (.string a0_4) := (blk_cell BK101.out 4).trans rfl; have hcz4_5 : w3.cell? ⟨gb101, 5, none⟩ = some (.string a0_5) := (blk_cell BK101.out 5).trans rfl; have hcz4_6 : w3.cell? ⟨gb101, 6, none⟩ = some (.string a0_6) := (blk_cell BK101.out 6).trans rfl; have hcz4_7 : w3.cell? ⟨gb101, 7, none⟩ = some (.string a0_7) := (blk_cell BK101.out 7).trans rfl; have hcz4_8 : w3.cell? ⟨gb101, 8, none⟩ = some (.string a0_8) := (blk_cell BK101.out 8).trans rfl; have hcz4_9 : w3.cell? ⟨gb101, 9, none⟩ = some (.string a0_9) := (blk_cell BK101.out 9).trans rfl; have hcz4_10 : w3.cell? ⟨gb101, 10, none⟩ = some (.string a0_10) := (blk_cell BK101.out 10).trans rfl; have hfz4_0 := blk_frozen BK101.out 0; have hfz4_1 := blk_frozen BK101.out 1; have hfz4_2 := blk_frozen BK101.out 2; have hfz4_3 := blk_frozen BK101.out 3; have hfz4_4 := blk_frozen BK101.out 4; have hfz4_5 := blk_frozen BK101.out 5; have hfz4_6 := blk_frozen BK101.out 6; have hfz4_7 := blk_frozen BK101.out 7; have hfz4_8 := blk_frozen BK101.out 8; have hfz4_9 := blk_frozen BK101.out 9; have hfz4_10 := blk_frozen BK101.out 10))
   go_ret
   exact ⟨by first | rfl | (simp [errW_none, errW_some] <;> rfl) | (simp [*, errW_none, errW_some] <;> rfl), by repeat (first | (with_reducible first | exact HB.out | apply below_alloc | apply pw_below_drewN | apply below_drew1 | refine below_set ?_ GE101.out) | exact HB.out)⟩
 · rw [if_neg c2] at H
   have c2b0 : decide (2147483647 < (a0_4.size : Int)) = false := decide_eq_false c2
   have c2b1 : decide (2147483647 < a0_4.size) = false := decide_eq_false (by omega)
   clear c2
   by_cases c5 : (a0_5.size : Int) > 2147483647
   · rw [if_pos c5] at H
     have c5b0 : decide (2147483647 < (a0_5.size : Int)) = true := decide_eq_true c5
     have c5b1 : decide (2147483647 < a0_5.size) = true := decide_eq_true (by omega)
     clear c5
     obtain rfl := Option.some.inj H
     go_enter Tryd.func19, Tryd.ntmps19
     go_wp2_with (first | ((with_reducible refine gate_dst (N := 1) rfl ?_); refine box_event ?hg (N := 1) ?hd (cs := #[.int .i64 a0_0, .int .i64 a0_1, .int .i64 a0_2, .int .i64 a0_3, .string a0_4, .string a0_5, .string a0_6, .string a0_7, .string a0_8, .string a0_9, .string a0_10]) (t := 44) ?hr ?_; (case hd => rfl); (case hg => rfl); (case hr => first | (go_simp; done) | (go_simp; rfl)); intro gb101 hg w6 hbox hb; have n0_ := Aside0.mk (below_step (by repeat (first | (with_reducible first | exact HB.out | apply below_alloc | apply pw_below_drewN | apply below_drew1) | exact HB.out)) hb); have n1_ := Aside0.mk (hbox); have n2_ := Aside0.mk ((by rw [hg]; exact (below_size (by repeat (first | (with_reducible first | exact HB.out | apply below_alloc | apply pw_below_drewN | apply below_drew1) | exact HB.out))) : w.heap.size ≤ gb101)); have n3_ := Aside0.mk ((by rw [hg]; exact (below_size (by repeat (first | (with_reducible first | exact HB.out | apply below_alloc | apply pw_below_drewN | apply below_drew1) | exact HB.out))) : w.heap.size ≤ gb101)); clear HB; have HB := n0_; have BK101 := n1_; have GW101 := n2_; have GE101 := n3_; clear n0_ n1_ n2_ n3_; clear hb hbox hg; have hcz7_0 : w6.cell? ⟨gb101, 0, none⟩ = some (.int .i64 a0_0) := (blk_cell BK101.out 0).trans rfl; have hcz7_1 : w6.cell? ⟨gb101, 1, none⟩ = some (.int .i64 a0_1) := (blk_cell BK101.out 1).trans rfl; have hcz7_2 : w6.cell? ⟨gb101, 2, none⟩ = some (.int .i64 a0_2) := (blk_cell BK101.out 2).trans rfl; have hcz7_3 : w6.cell? ⟨gb101, 3, none⟩ = some (.int .i64 a0_3) := (blk_cell BK101.out 3).trans rfl; have hcz7_4 : w6.cell? ⟨gb101, 4, none⟩ = some (.string a0_4) := (blk_cell BK101.out 4).trans rfl; have hcz7_5 : w6.cell? ⟨gb101, 5, none⟩ = some (.string a0_5) := (blk_cell BK101.out 5).trans rfl; have hcz7_6 : w6.cell? ⟨gb101, 6, none⟩ = some (.string a0_6) := (blk_cell BK101.out 6).trans rfl; have hcz7_7 : w6.cell? ⟨gb101, 7, none⟩ = some (.string a0_7) := (blk_cell BK101.out 7).trans rfl; have hcz7_8 : w6.cell? ⟨gb101, 8, none⟩ = some (.string a0_8) := (blk_cell BK101.out 8).trans rfl; have hcz7_9 : w6.cell? ⟨gb101, 9, none⟩ = some (.string a0_9) := (blk_cell BK101.out 9).trans rfl; have hcz7_10 : w6.cell? ⟨gb101, 10, none⟩ = some (.string a0_10) := (blk_cell BK101.out 10).trans rfl; have hfz7_0 := blk_frozen BK101.out 0; have hfz7_1 := blk_frozen BK101.out 1; have hfz7_2 := blk_frozen BK101.out 2; have hfz7_3 := blk_frozen BK101.out 3; have hfz7_4 := blk_frozen BK101.out 4; have hfz7_5 := blk_frozen BK101.out 5; have hfz7_6 := blk_frozen BK101.out 6; have hfz7_7 := blk_frozen BK101.out 7; have hfz7_8 := blk_frozen BK101.out 8; have hfz7_9 := blk_frozen BK101.out 9; have hfz7_10 := blk_frozen BK101.out 10))
     go_ret
     exact ⟨by first | rfl | (simp [errW_none, errW_some] <;> rfl) | (simp [*, errW_none, errW_some] <;> rfl), by repeat (first | (with_reducible first | exact HB.out | apply below_alloc | apply pw_below_drewN | apply below_drew1 | refine below_set ?_ GE101.out) | exact HB.out)⟩
   · rw [if_neg c5] at H
     have c5b0 : decide (2147483647 < (a0_5.size : Int)) = false := decide_eq_false c5
     have c5b1 : decide (2147483647 < a0_5.size) = false := decide_eq_false (by omega)
     clear c5
     by_cases c8 : (a0_6.size : Int) > 2147483647
     · rw [if_pos c8] at H
       have c8b0 : decide (2147483647 < (a0_6.size : Int)) = true := decide_eq_true c8
       have c8b1 : decide (2147483647 < a0_6.size) = true := decide_eq_true (by omega)
       clear c8
       obtain rfl := Option.some.inj H
       go_enter Tryd.func19, Tryd.ntmps19
       go_wp2_with (first | ((with_reducible refine gate_dst (N := 1) rfl ?_); refine box_event ?hg (N := 1) ?hd (cs := #[.int .i64 a0_0, .int .i64 a0_1, .int .i64 a0_2, .int .i64 a0_3, .string a0_4, .string a0_5, .string a0_6, .string a0_7, .string a0_8, .string a0_9, .string a0_10]) (t := 44) ?hr ?_; (case hd => rfl); (case hg => rfl); (case hr => first | (go_simp; done) | (go_simp; rfl)); intro gb101 hg w9 hbox hb; have n0_ := Aside0.mk (below_step (by repeat (first | (with_reducible first | exact HB.out | apply below_alloc | apply pw_below_drewN | apply below_drew1) | exact HB.out)) hb); have n1_ := Aside0.mk (hbox); have n2_ := Aside0.mk ((by rw [hg]; exact (below_size (by repeat (first | (with_reducible first | exact HB.out | apply below_alloc | apply pw_below_drewN | apply below_drew1) | exact HB.out))) : w.heap.size ≤ gb101)); have n3_ := Aside0.mk ((by rw [hg]; exact (below_size (by repeat (first | (with_reducible first | exact HB.out | apply below_alloc | apply pw_below_drewN | apply below_drew1) | exact HB.out))) : w.heap.size ≤ gb101)); clear HB; have HB := n0_; have BK101 := n1_; have GW101 := n2_; have GE101 := n3_; clear n0_ n1_ n2_ n3_; clear hb hbox hg; have hcz10_0 : w9.cell? ⟨gb101, 0, none⟩ = some (.int .i64 a0_0) := (blk_cell BK101.out 0).trans rfl; have hcz10_1 : w9.cell? ⟨gb101, 1, none⟩ = some (.int .i64 a0_1) := (blk_cell BK101.out 1).trans rfl; have hcz10_2 : w9.cell? ⟨gb101, 2, none⟩ = some (.int .i64 a0_2) := (blk_cell BK101.out 2).trans rfl; have hcz10_3 : w9.cell? ⟨gb101, 3, none⟩ = some (.int .i64 a0_3) := (blk_cell BK101.out 3).trans rfl; have hcz10_4 : w9.cell? ⟨gb101, 4, none⟩ = some (.string a0_4) := (blk_cell BK101.out 4).trans rfl; have hcz10_5 : w9.cell? ⟨gb101, 5, none⟩ = some (.string a0_5) := (blk_cell BK101.out 5).trans rfl; have hcz10_6 : w9.cell? ⟨gb101, 6, none⟩ = some (.string a0_6) := (blk_cell BK101.out 6).trans rfl; have hcz10_7 : w9.cell? ⟨gb101, 7, none⟩ = some (.string a0_7) := (blk_cell BK101.out 7).trans rfl; have hcz10_8 : w9.cell? ⟨gb101, 8, none⟩ = some (.string a0_8) := (blk_cell BK101.out 8).trans rfl; have hcz10_9 : w9.cell? ⟨gb101, 9, none⟩ = some (.string a0_9) := (blk_cell BK101.out 9).trans rfl; have hcz10_10 : w9.cell? ⟨gb101, 10, none⟩ = some (.string a0_10) := (blk_cell BK101.out 10).trans rfl; have hfz10_0 := blk_frozen BK101.out 0; have hfz10_1 := blk_frozen BK101.out 1; have hfz10_2 := blk_frozen BK101.out 2; have hfz10_3 := blk_frozen BK101.out 3; have hfz10_4 := blk_frozen BK101.out 4; have hfz10_5 := blk_frozen BK101.out 5; have hfz10_6 := blk_frozen BK101.out 6; have hfz10_7 := blk_frozen BK101.out 7; have hfz10_8 := blk_frozen BK101.out 8; have hfz10_9 := blk_frozen BK101.out 9; have hfz10_10 := blk_frozen BK101.out 10))
       go_ret
       exact ⟨by first | rfl | (simp [errW_none, errW_some] <;> rfl) | (simp [*, errW_none, errW_some] <;> rfl), by repeat (first | (with_reducible first | exact HB.out | apply below_alloc | apply pw_below_drewN | apply below_drew1 | refine below_set ?_ GE101.out) | exact HB.out)⟩
     · rw [if_neg c8] at H
       have c8b0 : decide (2147483647 < (a0_6.size : Int)) = false := decide_eq_false c8
       have c8b1 : decide (2147483647 < a0_6.size) = false := decide_eq_false (by omega)
       clear c8
       by_cases c11 : (a0_7.size : Int) > 2147483647
       · rw [if_pos c11] at H
         have c11b0 : decide (2147483647 < (a0_7.size : Int)) = true := decide_eq_true c11
         have c11b1 : decide (2147483647 < a0_7.size) = true := decide_eq_true (by omega)
         clear c11
         obtain rfl := Option.some.inj H
         go_enter Tryd.func19, Tryd.ntmps19
         go_wp2_with (first | ((with_reducible refine gate_dst (N := 1) rfl ?_); refine box_event ?hg (N := 1) ?hd (cs := #[.int .i64 a0_0, .int .i64 a0_1, .int .i64 a0_2, .int .i64 a0_3, .string a0_4, .string a0_5, .string a0_6, .string a0_7, .string a0_8, .string a0_9, .string a0_10]) (t := 44) ?hr ?_; (case hd => rfl); (case hg => rfl); (case hr => first | (go_simp; done) | (go_simp; rfl)); intro gb101 hg w12 hbox hb; have n0_ := Aside0.mk (below_step (by repeat (first | (with_reducible first | exact HB.out | apply below_alloc | apply pw_below_drewN | apply below_drew1) | exact HB.out)) hb); have n1_ := Aside0.mk (hbox); have n2_ := Aside0.mk ((by rw [hg]; exact (below_size (by repeat (first | (with_reducible first | exact HB.out | apply below_alloc | apply pw_below_drewN | apply below_drew1) | exact HB.out))) : w.heap.size ≤ gb101)); have n3_ := Aside0.mk ((by rw [hg]; exact (below_size (by repeat (first | (with_reducible first | exact HB.out | apply below_alloc | apply pw_below_drewN | apply below_drew1) | exact HB.out))) : w.heap.size ≤ gb101)); clear HB; have HB := n0_; have BK101 := n1_; have GW101 := n2_; have GE101 := n3_; clear n0_ n1_ n2_ n3_; clear hb hbox hg; have hcz13_0 : w12.cell? ⟨gb101, 0, none⟩ = some (.int .i64 a0_0) := (blk_cell BK101.out 0).trans rfl; have hcz13_1 : w12.cell? ⟨gb101, 1, none⟩ = some (.int .i64 a0_1) := (blk_cell BK101.out 1).trans rfl; have hcz13_2 : w12.cell? ⟨gb101, 2, none⟩ = some (.int .i64 a0_2) := (blk_cell BK101.out 2).trans rfl; have hcz13_3 : w12.cell? ⟨gb101, 3, none⟩ = some (.int .i64 a0_3) := (blk_cell BK101.out 3).trans rfl; have hcz13_4 : w12.cell? ⟨gb101, 4, none⟩ = some (.string a0_4) := (blk_cell BK101.out 4).trans rfl; have hcz13_5 : w12.cell? ⟨gb101, 5, none⟩ = some (.string a0_5) := (blk_cell BK101.out 5).trans rfl; have hcz13_6 : w12.cell? ⟨gb101, 6, none⟩ = some (.string a0_6) := (blk_cell BK101.out 6).trans rfl; have hcz13_7 : w12.cell? ⟨gb101, 7, none⟩ = some (.string a0_7) := (blk_cell BK101.out 7).trans rfl; have hcz13_8 : w12.cell? ⟨gb101, 8, none⟩ = some (.string a0_8) := (blk_cell BK101.out 8).trans rfl; have hcz13_9 : w12.cell? ⟨gb101, 9, none⟩ = some (.string a0_9) := (blk_cell BK101.out 9).trans rfl; have hcz13_10 : w12.cell? ⟨gb101, 10, none⟩ = some (.string a0_10) := (blk_cell BK101.out 10).trans rfl; have hfz13_0 := blk_frozen BK101.out 0; have hfz13_1 := blk_frozen BK101.out 1; have hfz13_2 := blk_frozen BK101.out 2; have hfz13_3 := blk_frozen BK101.out 3; have hfz13_4 := blk_frozen BK101.out 4; have hfz13_5 := blk_frozen BK101.out 5; have hfz13_6 := blk_frozen BK101.out 6; have hfz13_7 := blk_frozen BK101.out 7; have hfz13_8 := blk_frozen BK101.out 8; have hfz13_9 := blk_frozen BK101.out 9; have hfz13_10 := blk_frozen BK101.out 10))
         go_ret
         exact ⟨by first | rfl | (simp [errW_none, errW_some] <;> rfl) | (simp [*, errW_none, errW_some] <;> rfl), by repeat (first | (with_reducible first | exact HB.out | apply below_alloc | apply pw_below_drewN | apply below_drew1 | refine below_set ?_ GE101.out) | exact HB.out)⟩
       · rw [if_neg c11] at H
         have c11b0 : decide (2147483647 < (a0_7.size : Int)) = false := decide_eq_false c11
         have c11b1 : decide (2147483647 < a0_7.size) = false := decide_eq_false (by omega)
         clear c11
         by_cases c14 : (a0_8.size : Int) > 2147483647
         · rw [if_pos c14] at H
           have c14b0 : decide (2147483647 < (a0_8.size : Int)) = true := decide_eq_true c14
           have c14b1 : decide (2147483647 < a0_8.size) = true := decide_eq_true (by omega)
           clear c14
           obtain rfl := Option.some.inj H
           go_enter Tryd.func19, Tryd.ntmps19
           go_wp2_with (first | ((with_reducible refine gate_dst (N := 1) rfl ?_); refine box_event ?hg (N := 1) ?hd (cs := #[.int .i64 a0_0, .int .i64 a0_1, .int .i64 a0_2, .int .i64 a0_3, .string a0_4, .string a0_5, .string a0_6, .string a0_7, .string a0_8, .string a0_9, .string a0_10]) (t := 44) ?hr ?_; (case hd => rfl); (case hg => rfl); (case hr => first | (go_simp; done) | (go_simp; rfl)); intro gb101 hg w15 hbox hb; have n0_ := Aside0.mk (below_step (by repeat (first | (with_reducible first | exact HB.out | apply below_alloc | apply pw_below_drewN | apply below_drew1) | exact HB.out)) hb); have n1_ := Aside0.mk (hbox); have n2_ := Aside0.mk ((by rw [hg]; exact (below_size (by repeat (first | (with_reducible first | exact HB.out | apply below_alloc | apply pw_below_drewN | apply below_drew1) | exact HB.out))) : w.heap.size ≤ gb101)); have n3_ := Aside0.mk ((by rw [hg]; exact (below_size (by repeat (first | (with_reducible first | exact HB.out | apply below_alloc | apply pw_below_drewN | apply below_drew1) | exact HB.out))) : w.heap.size ≤ gb101)); clear HB; have HB := n0_; have BK101 := n1_; have GW101 := n2_; have GE101 := n3_; clear n0_ n1_ n2_ n3_; clear hb hbox hg; have hcz16_0 : w15.cell? ⟨gb101, 0, none⟩ = some (.int .i64 a0_0) := (blk_cell BK101.out 0).trans rfl; have hcz16_1 : w15.cell? ⟨gb101, 1, none⟩ = some (.int .i64 a0_1) := (blk_cell BK101.out 1).trans rfl; have hcz16_2 : w15.cell? ⟨gb101, 2, none⟩ = some (.int .i64 a0_2) := (blk_cell BK101.out 2).trans rfl; have hcz16_3 : w15.cell? ⟨gb101, 3, none⟩ = some (.int .i64 a0_3) := (blk_cell BK101.out 3).trans rfl; have hcz16_4 : w15.cell? ⟨gb101, 4, none⟩ = some (.string a0_4) := (blk_cell BK101.out 4).trans rfl; have hcz16_5 : w15.cell? ⟨gb101, 5, none⟩ = some (.string a0_5) := (blk_cell BK101.out 5).trans rfl; have hcz16_6 : w15.cell? ⟨gb101, 6, none⟩ = some (.string a0_6) := (blk_cell BK101.out 6).trans rfl; have hcz16_7 : w15.cell? ⟨gb101, 7, none⟩ = some (.string a0_7) := (blk_cell BK101.out 7).trans rfl; have hcz16_8 : w15.cell? ⟨gb101, 8, none⟩ = some (.string a0_8) := (blk_cell BK101.out 8).trans rfl; have hcz16_9 : w15.cell? ⟨gb101, 9, none⟩ = some (.string a0_9) := (blk_cell BK101.out 9).trans rfl; have hcz16_10 : w15.cell? ⟨gb101, 10, none⟩ = some (.string a0_10) := (blk_cell BK101.out 10).trans rfl; have hfz16_0 := blk_frozen BK101.out 0; have hfz16_1 := blk_frozen BK101.out 1; have hfz16_2 := blk_frozen BK101.out 2; have hfz16_3 := blk_frozen BK101.out 3; have hfz16_4 := blk_frozen BK101.out 4; have hfz16_5 := blk_frozen BK101.out 5; have hfz16_6 := blk_frozen BK101.out 6; have hfz16_7 := blk_frozen BK101.out 7; have hfz16_8 := blk_frozen BK101.out 8; have hfz16_9 := blk_frozen BK101.out 9; have hfz16_10 := blk_frozen BK101.out 10))
           go_ret
           exact ⟨by first | rfl | (simp [errW_none, errW_some] <;> rfl) | (simp [*, errW_none, errW_some] <;> rfl), by repeat (first | (with_reducible first | exact HB.out | apply below_alloc | apply pw_below_drewN | apply below_drew1 | refine below_set ?_ GE101.out) | exact HB.out)⟩
         · rw [if_neg c14] at H
           have c14b0 : decide (2147483647 < (a0_8.size : Int)) = false := decide_eq_false c14
           have c14b1 : decide (2147483647 < a0_8.size) = false := decide_eq_false (by omega)
           clear c14
           by_cases c17 : (a0_9.size : Int) > 2147483647
           · rw [if_pos c17] at H
             have c17b0 : decide (2147483647 < (a0_9.size : Int)) = true := decide_eq_true c17
             have c17b1 : decide (2147483647 < a0_9.size) = true := decide_eq_true (by omega)
             clear c17
             obtain rfl := Option.some.inj H
             go_enter Tryd.func19, Tryd.ntmps19
             go_wp2_with (first | ((with_reducible refine gate_dst (N := 1) rfl ?_); refine box_event ?hg (N := 1) ?hd (cs := #[.int .i64 a0_0, .int .i64 a0_1, .int .i64 a0_2, .int .i64 a0_3, .string a0_4, .string a0_5, .string a0_6, .string a0_7, .string a0_8, .string a0_9, .string a0_10]) (t := 44) ?hr ?_; (case hd => rfl); (case hg => rfl); (case hr => first | (go_simp; done) | (go_simp; rfl)); intro gb101 hg w18 hbox hb; have n0_ := Aside0.mk (below_step (by repeat (first | (with_reducible first | exact HB.out | apply below_alloc | apply pw_below_drewN | apply below_drew1) | exact HB.out)) hb); have n1_ := Aside0.mk (hbox); have n2_ := Aside0.mk ((by rw [hg]; exact (below_size (by repeat (first | (with_reducible first | exact HB.out | apply below_alloc | apply pw_below_drewN | apply below_drew1) | exact HB.out))) : w.heap.size ≤ gb101)); have n3_ := Aside0.mk ((by rw [hg]; exact (below_size (by repeat (first | (with_reducible first | exact HB.out | apply below_alloc | apply pw_below_drewN | apply below_drew1) | exact HB.out))) : w.heap.size ≤ gb101)); clear HB; have HB := n0_; have BK101 := n1_; have GW101 := n2_; have GE101 := n3_; clear n0_ n1_ n2_ n3_; clear hb hbox hg; have hcz19_0 : w18.cell? ⟨gb101, 0, none⟩ = some (.int .i64 a0_0) := (blk_cell BK101.out 0).trans rfl; have hcz19_1 : w18.cell? ⟨gb101, 1, none⟩ = some (.int .i64 a0_1) := (blk_cell BK101.out 1).trans rfl; have hcz19_2 : w18.cell? ⟨gb101, 2, none⟩ = some (.int .i64 a0_2) := (blk_cell BK101.out 2).trans rfl; have hcz19_3 : w18.cell? ⟨gb101, 3, none⟩ = some (.int .i64 a0_3) := (blk_cell BK101.out 3).trans rfl; have hcz19_4 : w18.cell? ⟨gb101, 4, none⟩ = some (.string a0_4) := (blk_cell BK101.out 4).trans rfl; have hcz19_5 : w18.cell? ⟨gb101, 5, none⟩ = some (.string a0_5) := (blk_cell BK101.out 5).trans rfl; have hcz19_6 : w18.cell? ⟨gb101, 6, none⟩ = some (.string a0_6) := (blk_cell BK101.out 6).trans rfl; have hcz19_7 : w18.cell? ⟨gb101, 7, none⟩ = some (.string a0_7) := (blk_cell BK101.out 7).trans rfl; have hcz19_8 : w18.cell? ⟨gb101, 8, none⟩ = some (.string a0_8) := (blk_cell BK101.out 8).trans rfl; have hcz19_9 : w18.cell? ⟨gb101, 9, none⟩ = some (.string a0_9) := (blk_cell BK101.out 9).trans rfl; have hcz19_10 : w18.cell? ⟨gb101, 10, none⟩ = some (.string a0_10) := (blk_cell BK101.out 10).trans rfl; have hfz19_0 := blk_frozen BK101.out 0; have hfz19_1 := blk_frozen BK101.out 1; have hfz19_2 := blk_frozen BK101.out 2; have hfz19_3 := blk_frozen BK101.out 3; have hfz19_4 := blk_frozen BK101.out 4; have hfz19_5 := blk_frozen BK101.out 5; have hfz19_6 := blk_frozen BK101.out 6; have hfz19_7 := blk_frozen BK101.out 7; have hfz19_8 := blk_frozen BK101.out 8; have hfz19_9 := blk_frozen BK101.out 9; have hfz19_10 := blk_frozen BK101.out 10))
             go_ret
             exact ⟨by first | rfl | (simp [errW_none, errW_some] <;> rfl) | (simp [*, errW_none, errW_some] <;> rfl), by repeat (first | (with_reducible first | exact HB.out | apply below_alloc | apply pw_below_drewN | apply below_drew1 | refine below_set ?_ GE101.out) | exact HB.out)⟩
           · rw [if_neg c17] at H
             have c17b0 : decide (2147483647 < (a0_9.size : Int)) = false := decide_eq_false c17
             have c17b1 : decide (2147483647 < a0_9.size) = false := decide_eq_false (by omega)
             clear c17
             by_cases c20 : (a0_10.size : Int) > 2147483647
             · rw [if_pos c20] at H
               have c20b0 : decide (2147483647 < (a0_10.size : Int)) = true := decide_eq_true c20
               have c20b1 : decide (2147483647 < a0_10.size) = true := decide_eq_true (by omega)
               clear c20
               obtain rfl := Option.some.inj H
               go_enter Tryd.func19, Tryd.ntmps19
               go_wp2_with (first | ((with_reducible refine gate_dst (N := 1) rfl ?_); refine box_event ?hg (N := 1) ?hd (cs := #[.int .i64 a0_0, .int .i64 a0_1, .int .i64 a0_2, .int .i64 a0_3, .string a0_4, .string a0_5, .string a0_6, .string a0_7, .string a0_8, .string a0_9, .string a0_10]) (t := 44) ?hr ?_; (case hd => rfl); (case hg => rfl); (case hr => first | (go_simp; done) | (go_simp; rfl)); intro gb101 hg w21 hbox hb; have n0_ := Aside0.mk (below_step (by repeat (first | (with_reducible first | exact HB.out | apply below_alloc | apply pw_below_drewN | apply below_drew1) | exact HB.out)) hb); have n1_ := Aside0.mk (hbox); have n2_ := Aside0.mk ((by rw [hg]; exact (below_size (by repeat (first | (with_reducible first | exact HB.out | apply below_alloc | apply pw_below_drewN | apply below_drew1) | exact HB.out))) : w.heap.size ≤ gb101)); have n3_ := Aside0.mk ((by rw [hg]; exact (below_size (by repeat (first | (with_reducible first | exact HB.out | apply below_alloc | apply pw_below_drewN | apply below_drew1) | exact HB.out))) : w.heap.size ≤ gb101)); clear HB; have HB := n0_; have BK101 := n1_; have GW101 := n2_; have GE101 := n3_; clear n0_ n1_ n2_ n3_; clear hb hbox hg; have hcz22_0 : w21.cell? ⟨gb101, 0, none⟩ = some (.int .i64 a0_0) := (blk_cell BK101.out 0).trans rfl; have hcz22_1 : w21.cell? ⟨gb101, 1, none⟩ = some (.int .i64 a0_1) := (blk_cell BK101.out 1).trans rfl; have hcz22_2 : w21.cell? ⟨gb101, 2, none⟩ = some (.int .i64 a0_2) := (blk_cell BK101.out 2).trans rfl; have hcz22_3 : w21.cell? ⟨gb101, 3, none⟩ = some (.int .i64 a0_3) := (blk_cell BK101.out 3).trans rfl; have hcz22_4 : w21.cell? ⟨gb101, 4, none⟩ = some (.string a0_4) := (blk_cell BK101.out 4).trans rfl; have hcz22_5 : w21.cell? ⟨gb101, 5, none⟩ = some (.string a0_5) := (blk_cell BK101.out 5).trans rfl; have hcz22_6 : w21.cell? ⟨gb101, 6, none⟩ = some (.string a0_6) := (blk_cell BK101.out 6).trans rfl; have hcz22_7 : w21.cell? ⟨gb101, 7, none⟩ = some (.string a0_7) := (blk_cell BK101.out 7).trans rfl; have hcz22_8 : w21.cell? ⟨gb101, 8, none⟩ = some (.string a0_8) := (blk_cell BK101.out 8).trans rfl; have hcz22_9 : w21.cell? ⟨gb101, 9, none⟩ = some (.string a0_9) := (blk_cell BK101.out 9).trans rfl; have hcz22_10 : w21.cell? ⟨gb101, 10, none⟩ = some (.string a0_10) := (blk_cell BK101.out 10).trans rfl; have hfz22_0 := blk_frozen BK101.out 0; have hfz22_1 := blk_frozen BK101.out 1; have hfz22_2 := blk_frozen BK101.out 2; have hfz22_3 := blk_frozen BK101.out 3; have hfz22_4 := blk_frozen BK101.out 4; have hfz22_5 := blk_frozen BK101.out 5; have hfz22_6 := blk_frozen BK101.out 6; have hfz22_7 := blk_frozen BK101.out 7; have hfz22_8 := blk_frozen BK101.out 8; have hfz22_9 := blk_frozen BK101.out 9; have hfz22_10 := blk_frozen BK101.out 10))
               go_ret
               exact ⟨by first | rfl | (simp [errW_none, errW_some] <;> rfl) | (simp [*, errW_none, errW_some] <;> rfl), by repeat (first | (with_reducible first | exact HB.out | apply below_alloc | apply pw_below_drewN | apply below_drew1 | refine below_set ?_ GE101.out) | exact HB.out)⟩
             · rw [if_neg c20] at H
               have c20b0 : decide (2147483647 < (a0_10.size : Int)) = false := decide_eq_false c20
               have c20b1 : decide (2147483647 < a0_10.size) = false := decide_eq_false (by omega)
               clear c20
               obtain rfl := Option.some.inj H
               go_enter Tryd.func19, Tryd.ntmps19
               go_wp2_with (first | ((with_reducible refine gate_dst (N := 1) rfl ?_); refine box_event ?hg (N := 1) ?hd (cs := #[.int .i64 a0_0, .int .i64 a0_1, .int .i64 a0_2, .int .i64 a0_3, .string a0_4, .string a0_5, .string a0_6, .string a0_7, .string a0_8, .string a0_9, .string a0_10]) (t := 44) ?hr ?_; (case hd => rfl); (case hg => rfl); (case hr => first | (go_simp; done) | (go_simp; rfl)); intro gb101 hg w23 hbox hb; have n0_ := Aside0.mk (below_step (by repeat (first | (with_reducible first | exact HB.out | apply below_alloc | apply pw_below_drewN | apply below_drew1) | exact HB.out)) hb); have n1_ := Aside0.mk (hbox); have n2_ := Aside0.mk ((by rw [hg]; exact (below_size (by repeat (first | (with_reducible first | exact HB.out | apply below_alloc | apply pw_below_drewN | apply below_drew1) | exact HB.out))) : w.heap.size ≤ gb101)); have n3_ := Aside0.mk ((by rw [hg]; exact (below_size (by repeat (first | (with_reducible first | exact HB.out | apply below_alloc | apply pw_below_drewN | apply below_drew1) | exact HB.out))) : w.heap.size ≤ gb101)); clear HB; have HB := n0_; have BK101 := n1_; have GW101 := n2_; have GE101 := n3_; clear n0_ n1_ n2_ n3_; clear hb hbox hg; have hcz24_0 : w23.cell? ⟨gb101, 0, none⟩ = some (.int .i64 a0_0) := (blk_cell BK101.out 0).trans rfl; have hcz24_1 : w23.cell? ⟨gb101, 1, none⟩ = some (.int .i64 a0_1) := (blk_cell BK101.out 1).trans rfl; have hcz24_2 : w23.cell? ⟨gb101, 2, none⟩ = some (.int .i64 a0_2) := (blk_cell BK101.out 2).trans rfl; have hcz24_3 : w23.cell? ⟨gb101, 3, none⟩ = some (.int .i64 a0_3) := (blk_cell BK101.out 3).trans rfl; have hcz24_4 : w23.cell? ⟨gb101, 4, none⟩ = some (.string a0_4) := (blk_cell BK101.out 4).trans rfl; have hcz24_5 : w23.cell? ⟨gb101, 5, none⟩ = some (.string a0_5) := (blk_cell BK101.out 5).trans rfl; have hcz24_6 : w23.cell? ⟨gb101, 6, none⟩ = some (.string a0_6) := (blk_cell BK101.out 6).trans rfl; have hcz24_7 : w23.cell? ⟨gb101, 7, none⟩ = some (.string a0_7) := (blk_cell BK101.out 7).trans rfl; have hcz24_8 : w23.cell? ⟨gb101, 8, none⟩ = some (.string a0_8) := (blk_cell BK101.out 8).trans rfl; have hcz24_9 : w23.cell? ⟨gb101, 9, none⟩ = some (.string a0_9) := (blk_cell BK101.out 9).trans rfl; have hcz24_10 : w23.cell? ⟨gb101, 10, none⟩ = some (.string a0_10) := (blk_cell BK101.out 10).trans rfl; have hfz24_0 := blk_frozen BK101.out 0; have hfz24_1 := blk_frozen BK101.out 1; have hfz24_2 := blk_frozen BK101.out 2; have hfz24_3 := blk_frozen BK101.out 3; have hfz24_4 := blk_frozen BK101.out 4; have hfz24_5 := blk_frozen BK101.out 5; have hfz24_6 := blk_frozen BK101.out 6; have hfz24_7 := blk_frozen BK101.out 7; have hfz24_8 := blk_frozen BK101.out 8; have hfz24_9 := blk_frozen BK101.out 9; have hfz24_10 := blk_frozen BK101.out 10))
               go_ret
               exact ⟨by first | rfl | (simp [errW_none, errW_some] <;> rfl) | (simp [*, errW_none, errW_some] <;> rfl), by repeat (first | (with_reducible first | exact HB.out | apply below_alloc | apply pw_below_drewN | apply below_drew1 | refine below_set ?_ GE101.out) | exact HB.out)⟩
def laws_zzFits1.l0 : Nat → List (S44) → Int → Int → Option (Bool)
 | 0, _, _, _ => none
 | k + 1, x8, x9, x10 => if x10 < x9 then (if 0 ≤ x10 then (if x10 < (x8.length : Int) then ((laws_zzFits2.f ((rd_T44 x8 x10).f0) ((rd_T44 x8 x10).f1) ((rd_T44 x8 x10).f2) ((rd_T44 x8 x10).f3) ((rd_T44 x8 x10).f4) ((rd_T44 x8 x10).f5) ((rd_T44 x8 x10).f6) ((rd_T44 x8 x10).f7) ((rd_T44 x8 x10).f8) ((rd_T44 x8 x10).f9) ((rd_T44 x8 x10).f10)).bind fun t104 => (if t104 = true then (laws_zzFits1.l0 k x8 x9 (wrap64 (x10 + 1))) else (some false))) else (none)) else (none)) else (some true)
def laws_zzFits1.f (k : Nat) (l0 : List (S44)) : Option (Bool) := if (l0.length : Int) > 2147483647 then (some false) else (laws_zzFits1.l0 k l0 (l0.length : Int) 0)
set_option maxHeartbeats 8000000 in
set_option maxRecDepth 100000 in
theorem laws_zzFits1.calls (k : Nat) (A0 : Option Addr) (c0 : Nat) (l0 : List (S44)) (r : Bool) (w : World) (hr0 : Kd.C k44 w A0 l0.length l0) (hc0 : l0.length ≤ c0) (h : laws_zzFits1.f k l0 = some r) :
 Calls Tryd.prog 7 #[.slice A0 l0.length c0] w fun e w' => e = .returned (.bool r) ∧ Below w.heap.size w w' := by
 have hu44 := Tryd.underlying44
 have HR0 := Aside0.mk hr0
 have HC0 := Aside0.mk hc0
 clear hr0 hc0
 have HB := Aside0.mk (Below.refl w.heap.size w)
 have H : (if (l0.length : Int) > 2147483647 then (some false) else (laws_zzFits1.l0 k l0 (l0.length : Int) 0)) = some r := h
 clear h
 by_cases c2 : (l0.length : Int) > 2147483647
 · rw [if_pos c2] at H
   have c2b0 : decide (2147483647 < (l0.length : Int)) = true := decide_eq_true c2
   have c2b1 : decide (2147483647 < l0.length) = true := decide_eq_true (by omega)
   clear c2
   obtain rfl := Option.some.inj H
   go_enter Tryd.func7, Tryd.ntmps7
   go_wp2
   go_ret
   exact ⟨by first | rfl | (simp [errW_none, errW_some] <;> rfl) | (simp [*, errW_none, errW_some] <;> rfl), by repeat (first | (with_reducible first | exact HB.out | apply below_alloc | apply pw_below_drewN | apply below_drew1) | exact HB.out)⟩
 · rw [if_neg c2] at H
   have c2b0 : decide (2147483647 < (l0.length : Int)) = false := decide_eq_false c2
   have c2b1 : decide (2147483647 < l0.length) = false := decide_eq_false (by omega)
   clear c2
   have H' := Aside0.mk H
   clear H
   go_enter Tryd.func7, Tryd.ntmps7
   go_wp2
   go_loopg [10] k (fun kq v10 w' => ∃ (x10_1 : Int), v10 = .int .i64 x10_1 ∧ Aside0 (laws_zzFits1.l0 kq l0 (l0.length : Int) x10_1 = some r) ∧ Aside0 (kq ≤ k) ∧ Aside0 (Below w.heap.size w w'))
   case atStart => exact ⟨(0), (by first | rfl | (simp; done) | (simp [*]; done)), H', ⟨Nat.le_refl _⟩, ⟨by repeat (first | (with_reducible first | exact HB.out | apply below_alloc | apply pw_below_drewN | apply below_drew1) | exact HB.out)⟩⟩
   case round =>
    clear H'
    try clear c2
    try clear c2b0
    try clear c2b1
    try clear p2
    obtain ⟨x10_1, rfl, HA, HK1, HB⟩ := hrel
    cases gk with
    | zero => exact absurd HA.out (by simp [laws_zzFits1.l0])
    | succ k1 =>
     have H := HA.out
     clear HA
     simp only [laws_zzFits1.l0] at H
     by_cases c3 : x10_1 < (l0.length : Int)
     · rw [if_pos c3] at H
       have c3b0 : decide (x10_1 < (l0.length : Int)) = true := decide_eq_true c3
       clear c3
       by_cases c4 : 0 ≤ x10_1
       · rw [if_pos c4] at H
         have c4b0 : decide (0 ≤ x10_1) = true := decide_eq_true c4
         clear c4
         by_cases c5 : x10_1 < (l0.length : Int)
         · rw [if_pos c5] at H
           have c5b0 : decide (x10_1 < (l0.length : Int)) = true := decide_eq_true c5
           clear c5
           replace H := Option.bind_eq_some_iff.mp H
           obtain ⟨t104, A60, H⟩ := H
           replace H : (if t104 = true then (laws_zzFits1.l0 k1 l0 (l0.length : Int) (wrap64 (x10_1 + 1))) else (some false)) = some r := H
           have A6 := Aside0.mk A60
           clear A60
           by_cases c7 : t104 = true
           · subst c7
             have H1 : (laws_zzFits1.l0 k1 l0 (l0.length : Int) (wrap64 (x10_1 + 1))) = some r := by rw [if_pos rfl] at H; exact H
             clear H
             have H := H1
             clear H1
             have H' := Aside0.mk H
             clear H
             have p102 : 0 ≤ (x10_1 : Int) := of_decide_eq_true (by first | (with_reducible assumption) | assumption)
             have q102 : x10_1 < (l0.length : Int) := of_decide_eq_true (by first | (with_reducible assumption) | assumption)
             obtain ⟨ad102, e102, hx102_0, hx102_1, hx102_2, hx102_3, hx102_4, hx102_5, hx102_6, hx102_7, hx102_8, hx102_9, hx102_10⟩ := at_T44 HR0.out x10_1 p102 q102
             cases e102
             replace hx102_0 := (HB.out.cell (World.block_lt_of_cell? w _ hx102_0)).trans hx102_0
             replace hx102_1 := (HB.out.cell (World.block_lt_of_cell? w _ hx102_1)).trans hx102_1
             replace hx102_2 := (HB.out.cell (World.block_lt_of_cell? w _ hx102_2)).trans hx102_2
             replace hx102_3 := (HB.out.cell (World.block_lt_of_cell? w _ hx102_3)).trans hx102_3
             replace hx102_4 := (HB.out.cell (World.block_lt_of_cell? w _ hx102_4)).trans hx102_4
             replace hx102_5 := (HB.out.cell (World.block_lt_of_cell? w _ hx102_5)).trans hx102_5
             replace hx102_6 := (HB.out.cell (World.block_lt_of_cell? w _ hx102_6)).trans hx102_6
             replace hx102_7 := (HB.out.cell (World.block_lt_of_cell? w _ hx102_7)).trans hx102_7
             replace hx102_8 := (HB.out.cell (World.block_lt_of_cell? w _ hx102_8)).trans hx102_8
             replace hx102_9 := (HB.out.cell (World.block_lt_of_cell? w _ hx102_9)).trans hx102_9
             replace hx102_10 := (HB.out.cell (World.block_lt_of_cell? w _ hx102_10)).trans hx102_10
             replace p102 := eq_true p102
             replace q102 := eq_true q102
             go_wp2_with (first | ((with_reducible refine gate_dst (N := 4) rfl ?_); refine Go.Last.box_store_event ?hg (N := 4) ?hd (c0 := #[.int .i64 0, .int .i64 0, .int .i64 0, .int .i64 0, .string (⟨#[]⟩ : ByteArray), .string (⟨#[]⟩ : ByteArray), .string (⟨#[]⟩ : ByteArray), .string (⟨#[]⟩ : ByteArray), .string (⟨#[]⟩ : ByteArray), .string (⟨#[]⟩ : ByteArray), .string (⟨#[]⟩ : ByteArray)]) (cs := #[.int .i64 ((rd_T44 l0 x10_1).f0), .int .i64 ((rd_T44 l0 x10_1).f1), .int .i64 ((rd_T44 l0 x10_1).f2), .int .i64 ((rd_T44 l0 x10_1).f3), .string ((rd_T44 l0 x10_1).f4), .string ((rd_T44 l0 x10_1).f5), .string ((rd_T44 l0 x10_1).f6), .string ((rd_T44 l0 x10_1).f7), .string ((rd_T44 l0 x10_1).f8), .string ((rd_T44 l0 x10_1).f9), .string ((rd_T44 l0 x10_1).f10)]) (t := 44) (P := Tryd.prog) ?hr rfl rfl (by first | (go_simp; done) | (go_simp; rfl)) (by first | (go_simp; done) | (go_simp; rfl)) (by kernel_rfl) rfl (by first | rfl | (simp [Value.oneCell']; done)) ?_; (case hd => rfl); (case hg => rfl); (case hr => first | (go_simp; done) | (go_simp; rfl)); intro gb103 hg w8 hbox hb; have n0_ := Aside0.mk (below_step (by repeat (first | (with_reducible first | exact HB.out | apply below_alloc | apply pw_below_drewN | apply below_drew1) | exact HB.out)) hb); have n1_ := Aside0.mk (hbox); have n2_ := Aside0.mk ((by rw [hg]; exact (below_size (by repeat (first | (with_reducible first | exact HB.out | apply below_alloc | apply pw_below_drewN | apply below_drew1) | exact HB.out))) : w.heap.size ≤ gb103)); have n3_ := Aside0.mk ((by rw [hg]; exact (below_size (by repeat (first | (with_reducible first | exact HB.out | apply below_alloc | apply pw_below_drewN | apply below_drew1) | exact HB.out))) : w.heap.size ≤ gb103)); clear HB; have HB := n0_; have BK103 := n1_; have GW103 := n2_; have GE103 := n3_; clear n0_ n1_ n2_ n3_; clear hb hbox hg; have hcz9_0 : w8.cell? ⟨gb103, 0, none⟩ = some (.int .i64 ((rd_T44 l0 x10_1).f0)) := (blk_cell BK103.out 0).trans rfl; have hcz9_1 : w8.cell? ⟨gb103, 1, none⟩ = some (.int .i64 ((rd_T44 l0 x10_1).f1)) := (blk_cell BK103.out 1).trans rfl; have hcz9_2 : w8.cell? ⟨gb103, 2, none⟩ = some (.int .i64 ((rd_T44 l0 x10_1).f2)) := (blk_cell BK103.out 2).trans rfl; have hcz9_3 : w8.cell? ⟨gb103, 3, none⟩ = some (.int .i64 ((rd_T44 l0 x10_1).f3)) := (blk_cell BK103.out 3).trans rfl; have hcz9_4 : w8.cell? ⟨gb103, 4, none⟩ = some (.string ((rd_T44 l0 x10_1).f4)) := (blk_cell BK103.out 4).trans rfl; have hcz9_5 : w8.cell? ⟨gb103, 5, none⟩ = some (.string ((rd_T44 l0 x10_1).f5)) := (blk_cell BK103.out 5).trans rfl; have hcz9_6 : w8.cell? ⟨gb103, 6, none⟩ = some (.string ((rd_T44 l0 x10_1).f6)) := (blk_cell BK103.out 6).trans rfl; have hcz9_7 : w8.cell? ⟨gb103, 7, none⟩ = some (.string ((rd_T44 l0 x10_1).f7)) := (blk_cell BK103.out 7).trans rfl; have hcz9_8 : w8.cell? ⟨gb103, 8, none⟩ = some (.string ((rd_T44 l0 x10_1).f8)) := (blk_cell BK103.out 8).trans rfl; have hcz9_9 : w8.cell? ⟨gb103, 9, none⟩ = some (.string ((rd_T44 l0 x10_1).f9)) := (blk_cell BK103.out 9).trans rfl; have hcz9_10 : w8.cell? ⟨gb103, 10, none⟩ = some (.string ((rd_T44 l0 x10_1).f10)) := (blk_cell BK103.out 10).trans rfl; have hfz9_0 := blk_frozen BK103.out 0; have hfz9_1 := blk_frozen BK103.out 1; have hfz9_2 := blk_frozen BK103.out 2; have hfz9_3 := blk_frozen BK103.out 3; have hfz9_4 := blk_frozen BK103.out 4; have hfz9_5 := blk_frozen BK103.out 5; have hfz9_6 := blk_frozen BK103.out 6; have hfz9_7 := blk_frozen BK103.out 7; have hfz9_8 := blk_frozen BK103.out 8; have hfz9_9 := blk_frozen BK103.out 9; have hfz9_10 := blk_frozen BK103.out 10) | ((with_reducible refine gate_callee (f := 19) rfl ?_); refine goesL_ (some 15) rfl rfl Tryd.func19 (by kernel_rfl) rfl #[.agg #[.int .i64 ((rd_T44 l0 x10_1).f0), .int .i64 ((rd_T44 l0 x10_1).f1), .int .i64 ((rd_T44 l0 x10_1).f2), .int .i64 ((rd_T44 l0 x10_1).f3), .string ((rd_T44 l0 x10_1).f4), .string ((rd_T44 l0 x10_1).f5), .string ((rd_T44 l0 x10_1).f6), .string ((rd_T44 l0 x10_1).f7), .string ((rd_T44 l0 x10_1).f8), .string ((rd_T44 l0 x10_1).f9), .string ((rd_T44 l0 x10_1).f10)]] rfl (by (try simp only [List.map_toArray, List.map_cons, List.map_nil]); first | done | rfl | (simp only [List.length_drop, List.length_take]; rfl)) ?_; (with_reducible refine (laws_zzFits2.calls ((rd_T44 l0 x10_1).f0) ((rd_T44 l0 x10_1).f1) ((rd_T44 l0 x10_1).f2) ((rd_T44 l0 x10_1).f3) ((rd_T44 l0 x10_1).f4) ((rd_T44 l0 x10_1).f5) ((rd_T44 l0 x10_1).f6) ((rd_T44 l0 x10_1).f7) ((rd_T44 l0 x10_1).f8) ((rd_T44 l0 x10_1).f9) ((rd_T44 l0 x10_1).f10) true _ A6.out).mono ?_); rintro e w10 ⟨rfl, hb⟩; refine ⟨_, rfl, ?_⟩; have n0_ := Aside0.mk (blk_below (g := gb103) (o := .cells #[.int .i64 ((rd_T44 l0 x10_1).f0), .int .i64 ((rd_T44 l0 x10_1).f1), .int .i64 ((rd_T44 l0 x10_1).f2), .int .i64 ((rd_T44 l0 x10_1).f3), .string ((rd_T44 l0 x10_1).f4), .string ((rd_T44 l0 x10_1).f5), .string ((rd_T44 l0 x10_1).f6), .string ((rd_T44 l0 x10_1).f7), .string ((rd_T44 l0 x10_1).f8), .string ((rd_T44 l0 x10_1).f9), .string ((rd_T44 l0 x10_1).f10)] 44 (0, 0)) (by (with_reducible repeat (first | refine blk_drewN ?_ _ | refine blk_drew ?_ | refine blk_alloc ?_ _)); exact BK103.out) hb); have n1_ := Aside0.mk (below_step (by repeat (first | (with_reducible first | exact HB.out | apply below_alloc | apply pw_below_drewN | apply below_drew1 | refine below_set ?_ GE103.out) | exact HB.out)) hb); clear BK103; clear HB; have BK103 := n0_; have HB := n1_; clear n0_ n1_; (try clear hb); (try clear hb2); (try clear hk); (try clear hi)))
             go_roundg k1
             case measure => have := HK1.out; omega
             case rel => exact ⟨(wrap64 (x10_1 + 1)), (by first | rfl | (simp; done) | (simp [*]; done)), H', ⟨by have := HK1.out; omega⟩, ⟨by repeat (first | (with_reducible first | exact HB.out | apply below_alloc | apply pw_below_drewN | apply below_drew1 | refine below_set ?_ GE103.out) | exact HB.out)⟩⟩
           · replace c7 := Bool.eq_false_iff.mpr c7
             subst c7
             have H1 : (some false) = some r := by rw [if_neg (show ¬ (false = true) by decide)] at H; exact H
             clear H
             have H := H1
             clear H1
             obtain rfl := Option.some.inj H
             have p102 : 0 ≤ (x10_1 : Int) := of_decide_eq_true (by first | (with_reducible assumption) | assumption)
             have q102 : x10_1 < (l0.length : Int) := of_decide_eq_true (by first | (with_reducible assumption) | assumption)
             obtain ⟨ad102, e102, hx102_0, hx102_1, hx102_2, hx102_3, hx102_4, hx102_5, hx102_6, hx102_7, hx102_8, hx102_9, hx102_10⟩ := at_T44 HR0.out x10_1 p102 q102
             cases e102
             replace hx102_0 := (HB.out.cell (World.block_lt_of_cell? w _ hx102_0)).trans hx102_0
             replace hx102_1 := (HB.out.cell (World.block_lt_of_cell? w _ hx102_1)).trans hx102_1
             replace hx102_2 := (HB.out.cell (World.block_lt_of_cell? w _ hx102_2)).trans hx102_2
             replace hx102_3 := (HB.out.cell (World.block_lt_of_cell? w _ hx102_3)).trans hx102_3
             replace hx102_4 := (HB.out.cell (World.block_lt_of_cell? w _ hx102_4)).trans hx102_4
             replace hx102_5 := (HB.out.cell (World.block_lt_of_cell? w _ hx102_5)).trans hx102_5
             replace hx102_6 := (HB.out.cell (World.block_lt_of_cell? w _ hx102_6)).trans hx102_6
             replace hx102_7 := (HB.out.cell (World.block_lt_of_cell? w _ hx102_7)).trans hx102_7
             replace hx102_8 := (HB.out.cell (World.block_lt_of_cell? w _ hx102_8)).trans hx102_8
             replace hx102_9 := (HB.out.cell (World.block_lt_of_cell? w _ hx102_9)).trans hx102_9
             replace hx102_10 := (HB.out.cell (World.block_lt_of_cell? w _ hx102_10)).trans hx102_10
             replace p102 := eq_true p102
             replace q102 := eq_true q102
             go_wp2_with (first | ((with_reducible refine gate_dst (N := 4) rfl ?_); refine Go.Last.box_store_event ?hg (N := 4) ?hd (c0 := #[.int .i64 0, .int .i64 0, .int .i64 0, .int .i64 0, .string (⟨#[]⟩ : ByteArray), .string (⟨#[]⟩ : ByteArray), .string (⟨#[]⟩ : ByteArray), .string (⟨#[]⟩ : ByteArray), .string (⟨#[]⟩ : ByteArray), .string (⟨#[]⟩ : ByteArray), .string (⟨#[]⟩ : ByteArray)]) (cs := #[.int .i64 ((rd_T44 l0 x10_1).f0), .int .i64 ((rd_T44 l0 x10_1).f1), .int .i64 ((rd_T44 l0 x10_1).f2), .int .i64 ((rd_T44 l0 x10_1).f3), .string ((rd_T44 l0 x10_1).f4), .string ((rd_T44 l0 x10_1).f5), .string ((rd_T44 l0 x10_1).f6), .string ((rd_T44 l0 x10_1).f7), .string ((rd_T44 l0 x10_1).f8), .string ((rd_T44 l0 x10_1).f9), .string ((rd_T44 l0 x10_1).f10)]) (t := 44) (P := Tryd.prog) ?hr rfl rfl (by first | (go_simp; done) | (go_simp; rfl)) (by first | (go_simp; done) | (go_simp; rfl)) (by kernel_rfl) rfl (by first | rfl | (simp [Value.oneCell']; done)) ?_; (case hd => rfl); (case hg => rfl); (case hr => first | (go_simp; done) | (go_simp; rfl)); intro gb103 hg w11 hbox hb; have n0_ := Aside0.mk (below_step (by repeat (first | (with_reducible first | exact HB.out | apply below_alloc | apply pw_below_drewN | apply below_drew1) | exact HB.out)) hb); have n1_ := Aside0.mk (hbox); have n2_ := Aside0.mk ((by rw [hg]; exact (below_size (by repeat (first | (with_reducible first | exact HB.out | apply below_alloc | apply pw_below_drewN | apply below_drew1) | exact HB.out))) : w.heap.size ≤ gb103)); have n3_ := Aside0.mk ((by rw [hg]; exact (below_size (by repeat (first | (with_reducible first | exact HB.out | apply below_alloc | apply pw_below_drewN | apply below_drew1) | exact HB.out))) : w.heap.size ≤ gb103)); clear HB; have HB := n0_; have BK103 := n1_; have GW103 := n2_; have GE103 := n3_; clear n0_ n1_ n2_ n3_; clear hb hbox hg; have hcz12_0 : w11.cell? ⟨gb103, 0, none⟩ = some (.int .i64 ((rd_T44 l0 x10_1).f0)) := (blk_cell BK103.out 0).trans rfl; have hcz12_1 : w11.cell? ⟨gb103, 1, none⟩ = some (.int .i64 ((rd_T44 l0 x10_1).f1)) := (blk_cell BK103.out 1).trans rfl; have hcz12_2 : w11.cell? ⟨gb103, 2, none⟩ = some (.int .i64 ((rd_T44 l0 x10_1).f2)) := (blk_cell BK103.out 2).trans rfl; have hcz12_3 : w11.cell? ⟨gb103, 3, none⟩ = some (.int .i64 ((rd_T44 l0 x10_1).f3)) := (blk_cell BK103.out 3).trans rfl; have hcz12_4 : w11.cell? ⟨gb103, 4, none⟩ = some (.string ((rd_T44 l0 x10_1).f4)) := (blk_cell BK103.out 4).trans rfl; have hcz12_5 : w11.cell? ⟨gb103, 5, none⟩ = some (.string ((rd_T44 l0 x10_1).f5)) := (blk_cell BK103.out 5).trans rfl; have hcz12_6 : w11.cell? ⟨gb103, 6, none⟩ = some (.string ((rd_T44 l0 x10_1).f6)) := (blk_cell BK103.out 6).trans rfl; have hcz12_7 : w11.cell? ⟨gb103, 7, none⟩ = some (.string ((rd_T44 l0 x10_1).f7)) := (blk_cell BK103.out 7).trans rfl; have hcz12_8 : w11.cell? ⟨gb103, 8, none⟩ = some (.string ((rd_T44 l0 x10_1).f8)) := (blk_cell BK103.out 8).trans rfl; have hcz12_9 : w11.cell? ⟨gb103, 9, none⟩ = some (.string ((rd_T44 l0 x10_1).f9)) := (blk_cell BK103.out 9).trans rfl; have hcz12_10 : w11.cell? ⟨gb103, 10, none⟩ = some (.string ((rd_T44 l0 x10_1).f10)) := (blk_cell BK103.out 10).trans rfl; have hfz12_0 := blk_frozen BK103.out 0; have hfz12_1 := blk_frozen BK103.out 1; have hfz12_2 := blk_frozen BK103.out 2; have hfz12_3 := blk_frozen BK103.out 3; have hfz12_4 := blk_frozen BK103.out 4; have hfz12_5 := blk_frozen BK103.out 5; have hfz12_6 := blk_frozen BK103.out 6; have hfz12_7 := blk_frozen BK103.out 7; have hfz12_8 := blk_frozen BK103.out 8; have hfz12_9 := blk_frozen BK103.out 9; have hfz12_10 := blk_frozen BK103.out 10) | ((with_reducible refine gate_callee (f := 19) rfl ?_); refine goesL_ (some 15) rfl rfl Tryd.func19 (by kernel_rfl) rfl #[.agg #[.int .i64 ((rd_T44 l0 x10_1).f0), .int .i64 ((rd_T44 l0 x10_1).f1), .int .i64 ((rd_T44 l0 x10_1).f2), .int .i64 ((rd_T44 l0 x10_1).f3), .string ((rd_T44 l0 x10_1).f4), .string ((rd_T44 l0 x10_1).f5), .string ((rd_T44 l0 x10_1).f6), .string ((rd_T44 l0 x10_1).f7), .string ((rd_T44 l0 x10_1).f8), .string ((rd_T44 l0 x10_1).f9), .string ((rd_T44 l0 x10_1).f10)]] rfl (by (try simp only [List.map_toArray, List.map_cons, List.map_nil]); first | done | rfl | (simp only [List.length_drop, List.length_take]; rfl)) ?_; (with_reducible refine (laws_zzFits2.calls ((rd_T44 l0 x10_1).f0) ((rd_T44 l0 x10_1).f1) ((rd_T44 l0 x10_1).f2) ((rd_T44 l0 x10_1).f3) ((rd_T44 l0 x10_1).f4) ((rd_T44 l0 x10_1).f5) ((rd_T44 l0 x10_1).f6) ((rd_T44 l0 x10_1).f7) ((rd_T44 l0 x10_1).f8) ((rd_T44 l0 x10_1).f9) ((rd_T44 l0 x10_1).f10) false _ A6.out).mono ?_); rintro e w13 ⟨rfl, hb⟩; refine ⟨_, rfl, ?_⟩; have n0_ := Aside0.mk (blk_below (g := gb103) (o := .cells #[.int .i64 ((rd_T44 l0 x10_1).f0), .int .i64 ((rd_T44 l0 x10_1).f1), .int .i64 ((rd_T44 l0 x10_1).f2), .int .i64 ((rd_T44 l0 x10_1).f3), .string ((rd_T44 l0 x10_1).f4), .string ((rd_T44 l0 x10_1).f5), .string ((rd_T44 l0 x10_1).f6), .string ((rd_T44 l0 x10_1).f7), .string ((rd_T44 l0 x10_1).f8), .string ((rd_T44 l0 x10_1).f9), .string ((rd_T44 l0 x10_1).f10)] 44 (0, 0)) (by (with_reducible repeat (first | refine blk_drewN ?_ _ | refine blk_drew ?_ | refine blk_alloc ?_ _)); exact BK103.out) hb); have n1_ := Aside0.mk (below_step (by repeat (first | (with_reducible first | exact HB.out | apply below_alloc | apply pw_below_drewN | apply below_drew1 | refine below_set ?_ GE103.out) | exact HB.out)) hb); clear BK103; clear HB; have BK103 := n0_; have HB := n1_; clear n0_ n1_; (try clear hb); (try clear hb2); (try clear hk); (try clear hi)))
             go_ret
             exact ⟨by first | rfl | (simp [errW_none, errW_some] <;> rfl) | (simp [*, errW_none, errW_some] <;> rfl), by repeat (first | (with_reducible first | exact HB.out | apply below_alloc | apply pw_below_drewN | apply below_drew1 | refine below_set ?_ GE103.out) | exact HB.out)⟩
         · rw [if_neg c5] at H
           exact absurd H (by simp)
       · rw [if_neg c4] at H
         exact absurd H (by simp)
     · rw [if_neg c3] at H
       have c3b0 : decide (x10_1 < (l0.length : Int)) = false := decide_eq_false c3
       clear c3
       obtain rfl := Option.some.inj H
       go_wp2
       go_ret
       exact ⟨by first | rfl | (simp [errW_none, errW_some] <;> rfl) | (simp [*, errW_none, errW_some] <;> rfl), by repeat (first | (with_reducible first | exact HB.out | apply below_alloc | apply pw_below_drewN | apply below_drew1) | exact HB.out)⟩
def laws_mountsTo.l0 : Nat → List (S63) → List (S44) → Int → Int → Option ((List (S63)))
 | 0, _, _, _, _ => none
 | k + 1, x3, x6, x7, x8 => if x8 < x7 then (if 0 ≤ x8 then (if x8 < (x6.length : Int) then (if x3.length < 977343669134 then (laws_mountsTo.l0 k (x3 ++ [(⟨(rd_T44 x6 x8).f0, (rd_T44 x6 x8).f1, (rd_T44 x6 x8).f2, (rd_T44 x6 x8).f3, (rd_T44 x6 x8).f4, (rd_T44 x6 x8).f5, (rd_T44 x6 x8).f6, (rd_T44 x6 x8).f7, (rd_T44 x6 x8).f8, (rd_T44 x6 x8).f9, (rd_T44 x6 x8).f10⟩ : S63)]) x6 x7 (wrap64 (x8 + 1))) else (none)) else (none)) else (none)) else (some x3)
def laws_mountsTo.f (k : Nat) (l0 : List (S44)) : Option ((List (S63))) := laws_mountsTo.l0 k ([] : List (S63)) l0 (l0.length : Int) 0
set_option maxHeartbeats 8000000 in
set_option maxRecDepth 100000 in
theorem laws_mountsTo.calls (k : Nat) (A0 : Option Addr) (c0 : Nat) (l0 : List (S44)) (r : List (S63)) (w : World) (hr0 : Kd.C k44 w A0 l0.length l0) (hc0 : l0.length ≤ c0) (h : laws_mountsTo.f k l0 = some r) :
 Calls Tryd.prog 15 #[.slice A0 l0.length c0] w fun e w' => ∃ v0_ : Value, e = .returned (v0_) ∧ Kd.R k63 63 w' w.heap.size (fun _ => True) v0_ r ∧ Below w.heap.size w w' := by
 have hu44 := Tryd.underlying44
 have HR0 := Aside0.mk hr0
 have HC0 := Aside0.mk hc0
 clear hr0 hc0
 have HB := Aside0.mk (Below.refl w.heap.size w)
 have H : (laws_mountsTo.l0 k ([] : List (S63)) l0 (l0.length : Int) 0) = some r := h
 clear h
 have H' := Aside0.mk H
 clear H
 go_enter Tryd.func15, Tryd.ntmps15
 go_wp2
 go_loopg [3, 8] k (fun kq v3 v8 w' => ∃ (x3_1 : List (S63)) (x8_1 : Int), v8 = .int .i64 x8_1 ∧ Aside0 (laws_mountsTo.l0 kq x3_1 l0 (l0.length : Int) x8_1 = some r) ∧ Aside0 (kq ≤ k) ∧ Aside0 (Kd.R k63 63 w' w.heap.size (fun _ => True) v3 x3_1) ∧ Aside0 (Below w.heap.size w w'))
 case atStart => exact ⟨(([] : List (S63))), (0), (by first | rfl | (simp; done) | (simp [*]; done)), H', ⟨Nat.le_refl _⟩, ⟨by first | exact Kd.R_nil _ _ _ _ _ | exact Kd.N_nil _ _ _ _ _ | exact Kd.V_nil _ _ _ _ _ | exact Kd.Q_nil _ _ _ _ _ | exact Kd.S_nil _ _ _ _ _⟩, ⟨by repeat (first | (with_reducible first | exact HB.out | apply below_alloc | apply pw_below_drewN | apply below_drew1) | exact HB.out)⟩⟩
 case round =>
  clear H'
  try clear c1
  obtain ⟨x3_1, x8_1, rfl, HA, HK1, HO_3, HB⟩ := hrel
  cases gk with
  | zero => exact absurd HA.out (by simp [laws_mountsTo.l0])
  | succ k1 =>
   have H := HA.out
   clear HA
   simp only [laws_mountsTo.l0] at H
   by_cases c2 : x8_1 < (l0.length : Int)
   · rw [if_pos c2] at H
     have c2b0 : decide (x8_1 < (l0.length : Int)) = true := decide_eq_true c2
     clear c2
     by_cases c3 : 0 ≤ x8_1
     · rw [if_pos c3] at H
       have c3b0 : decide (0 ≤ x8_1) = true := decide_eq_true c3
       clear c3
       by_cases c4 : x8_1 < (l0.length : Int)
       · rw [if_pos c4] at H
         have c4b0 : decide (x8_1 < (l0.length : Int)) = true := decide_eq_true c4
         clear c4
         by_cases c5 : x3_1.length < 977343669134
         · rw [if_pos c5] at H
           have LMc5 := Aside0.mk c5
           clear c5
           obtain ⟨y107, hy107⟩ : ∃ y_ : List (S63), y_ = (x3_1 ++ [(⟨(rd_T44 l0 x8_1).f0, (rd_T44 l0 x8_1).f1, (rd_T44 l0 x8_1).f2, (rd_T44 l0 x8_1).f3, (rd_T44 l0 x8_1).f4, (rd_T44 l0 x8_1).f5, (rd_T44 l0 x8_1).f6, (rd_T44 l0 x8_1).f7, (rd_T44 l0 x8_1).f8, (rd_T44 l0 x8_1).f9, (rd_T44 l0 x8_1).f10⟩ : S63)]) := ⟨_, rfl⟩
           replace H : (laws_mountsTo.l0 k1 y107 l0 (l0.length : Int) (wrap64 (x8_1 + 1))) = some r := by first | (rw [hy107]; with_reducible exact H) | (have H2_ := (Option.bind_some _ _).symm.trans H; rw [hy107]; with_reducible exact H2_) | (have H2_ := (Option.bind_some _ _).symm.trans H; with_reducible exact H2_) | with_reducible exact H | (rw [hy107]; exact H) | exact H
           have Ny107 := Aside0.mk hy107
           clear hy107
           have H' := Aside0.mk H
           clear H
           have p105 : 0 ≤ (x8_1 : Int) := of_decide_eq_true (by first | (with_reducible assumption) | assumption)
           have q105 : x8_1 < (l0.length : Int) := of_decide_eq_true (by first | (with_reducible assumption) | assumption)
           obtain ⟨ad105, e105, hx105_0, hx105_1, hx105_2, hx105_3, hx105_4, hx105_5, hx105_6, hx105_7, hx105_8, hx105_9, hx105_10⟩ := at_T44 HR0.out x8_1 p105 q105
           cases e105
           replace hx105_0 := (HB.out.cell (World.block_lt_of_cell? w _ hx105_0)).trans hx105_0
           replace hx105_1 := (HB.out.cell (World.block_lt_of_cell? w _ hx105_1)).trans hx105_1
           replace hx105_2 := (HB.out.cell (World.block_lt_of_cell? w _ hx105_2)).trans hx105_2
           replace hx105_3 := (HB.out.cell (World.block_lt_of_cell? w _ hx105_3)).trans hx105_3
           replace hx105_4 := (HB.out.cell (World.block_lt_of_cell? w _ hx105_4)).trans hx105_4
           replace hx105_5 := (HB.out.cell (World.block_lt_of_cell? w _ hx105_5)).trans hx105_5
           replace hx105_6 := (HB.out.cell (World.block_lt_of_cell? w _ hx105_6)).trans hx105_6
           replace hx105_7 := (HB.out.cell (World.block_lt_of_cell? w _ hx105_7)).trans hx105_7
           replace hx105_8 := (HB.out.cell (World.block_lt_of_cell? w _ hx105_8)).trans hx105_8
           replace hx105_9 := (HB.out.cell (World.block_lt_of_cell? w _ hx105_9)).trans hx105_9
           replace hx105_10 := (HB.out.cell (World.block_lt_of_cell? w _ hx105_10)).trans hx105_10
           replace p105 := eq_true p105
           replace q105 := eq_true q105
           go_wp2_with (first | ((with_reducible refine gate_dst (N := 5) rfl ?_); refine Go.Last.box_store_event ?hg (N := 5) ?hd (c0 := #[.int .i64 0, .int .i64 0, .int .i64 0, .int .i64 0, .string (⟨#[]⟩ : ByteArray), .string (⟨#[]⟩ : ByteArray), .string (⟨#[]⟩ : ByteArray), .string (⟨#[]⟩ : ByteArray), .string (⟨#[]⟩ : ByteArray), .string (⟨#[]⟩ : ByteArray), .string (⟨#[]⟩ : ByteArray)]) (cs := #[.int .i64 ((rd_T44 l0 x8_1).f0), .int .i64 ((rd_T44 l0 x8_1).f1), .int .i64 ((rd_T44 l0 x8_1).f2), .int .i64 ((rd_T44 l0 x8_1).f3), .string ((rd_T44 l0 x8_1).f4), .string ((rd_T44 l0 x8_1).f5), .string ((rd_T44 l0 x8_1).f6), .string ((rd_T44 l0 x8_1).f7), .string ((rd_T44 l0 x8_1).f8), .string ((rd_T44 l0 x8_1).f9), .string ((rd_T44 l0 x8_1).f10)]) (t := 44) (P := Tryd.prog) ?hr rfl rfl (by first | (go_simp; done) | (go_simp; rfl)) (by first | (go_simp; done) | (go_simp; rfl)) (by kernel_rfl) rfl (by first | rfl | (simp [Value.oneCell']; done)) ?_; (case hd => rfl); (case hg => rfl); (case hr => first | (go_simp; done) | (go_simp; rfl)); intro gb106 hg w6 hbox hb; have n0_ := Aside0.mk (Kd.R_below (by (with_reducible repeat (first | apply Kd.R_alloc | apply Kd.R_drewN | apply Kd.R_drew)); exact HO_3.out) hb); have n1_ := Aside0.mk (below_step (by repeat (first | (with_reducible first | exact HB.out | apply below_alloc | apply pw_below_drewN | apply below_drew1) | exact HB.out)) hb); have n2_ := Aside0.mk (hbox); have n3_ := Aside0.mk ((by rw [hg]; exact (below_size (by repeat (first | (with_reducible first | exact HB.out | apply below_alloc | apply pw_below_drewN | apply below_drew1) | exact HB.out))) : w.heap.size ≤ gb106)); have n4_ := Aside0.mk ((by rw [hg]; exact (below_size (by repeat (first | (with_reducible first | exact HB.out | apply below_alloc | apply pw_below_drewN | apply below_drew1) | exact HB.out))) : w.heap.size ≤ gb106)); clear HO_3; clear HB; have HO_3 := n0_; have HB := n1_; have BK106 := n2_; have GW106 := n3_; have GE106 := n4_; clear n0_ n1_ n2_ n3_ n4_; clear hb hbox hg; have hcz7_0 : w6.cell? ⟨gb106, 0, none⟩ = some (.int .i64 ((rd_T44 l0 x8_1).f0)) := (blk_cell BK106.out 0).trans rfl; have hcz7_1 : w6.cell? ⟨gb106, 1, none⟩ = some (.int .i64 ((rd_T44 l0 x8_1).f1)) := (blk_cell BK106.out 1).trans rfl; have hcz7_2 : w6.cell? ⟨gb106, 2, none⟩ = some (.int .i64 ((rd_T44 l0 x8_1).f2)) := (blk_cell BK106.out 2).trans rfl; have hcz7_3 : w6.cell? ⟨gb106, 3, none⟩ = some (.int .i64 ((rd_T44 l0 x8_1).f3)) := (blk_cell BK106.out 3).trans rfl; have hcz7_4 : w6.cell? ⟨gb106, 4, none⟩ = some (.string ((rd_T44 l0 x8_1).f4)) := (blk_cell BK106.out 4).trans rfl; have hcz7_5 : w6.cell? ⟨gb106, 5, none⟩ = some (.string ((rd_T44 l0 x8_1).f5)) := (blk_cell BK106.out 5).trans rfl; have hcz7_6 : w6.cell? ⟨gb106, 6, none⟩ = some (.string ((rd_T44 l0 x8_1).f6)) := (blk_cell BK106.out 6).trans rfl; have hcz7_7 : w6.cell? ⟨gb106, 7, none⟩ = some (.string ((rd_T44 l0 x8_1).f7)) := (blk_cell BK106.out 7).trans rfl; have hcz7_8 : w6.cell? ⟨gb106, 8, none⟩ = some (.string ((rd_T44 l0 x8_1).f8)) := (blk_cell BK106.out 8).trans rfl; have hcz7_9 : w6.cell? ⟨gb106, 9, none⟩ = some (.string ((rd_T44 l0 x8_1).f9)) := (blk_cell BK106.out 9).trans rfl; have hcz7_10 : w6.cell? ⟨gb106, 10, none⟩ = some (.string ((rd_T44 l0 x8_1).f10)) := (blk_cell BK106.out 10).trans rfl; have hfz7_0 := blk_frozen BK106.out 0; have hfz7_1 := blk_frozen BK106.out 1; have hfz7_2 := blk_frozen BK106.out 2; have hfz7_3 := blk_frozen BK106.out 3; have hfz7_4 := blk_frozen BK106.out 4; have hfz7_5 := blk_frozen BK106.out 5; have hfz7_6 := blk_frozen BK106.out 6; have hfz7_7 := blk_frozen BK106.out 7; have hfz7_8 := blk_frozen BK106.out 8; have hfz7_9 := blk_frozen BK106.out 9; have hfz7_10 := blk_frozen BK106.out 10) | ((with_reducible refine gate_builtin (b := .append) (xs := #[.tmp 12, .tmp 14]) rfl ?_); at_builtin; refine Kd.R_append k63 (w0 := w) w.heap.size rfl (.tmp 12) (.tmp 14) 35 63 (.agg #[(.int .i64 0), (.int .i64 0), (.int .i64 0), (.int .i64 0), (.string ⟨#[]⟩), (.string ⟨#[]⟩), (.string ⟨#[]⟩), (.string ⟨#[]⟩), (.string ⟨#[]⟩), (.string ⟨#[]⟩), (.string ⟨#[]⟩)]) 144 rfl Tryd.underlying35 info63 rfl (by decide) (by omega) u3 x3_1 (⟨(rd_T44 l0 x8_1).f0, (rd_T44 l0 x8_1).f1, (rd_T44 l0 x8_1).f2, (rd_T44 l0 x8_1).f3, (rd_T44 l0 x8_1).f4, (rd_T44 l0 x8_1).f5, (rd_T44 l0 x8_1).f6, (rd_T44 l0 x8_1).f7, (rd_T44 l0 x8_1).f8, (rd_T44 l0 x8_1).f9, (rd_T44 l0 x8_1).f10⟩ : S63) [.int .i64 ((rd_T44 l0 x8_1).f0), .int .i64 ((rd_T44 l0 x8_1).f1), .int .i64 ((rd_T44 l0 x8_1).f2), .int .i64 ((rd_T44 l0 x8_1).f3), .string ((rd_T44 l0 x8_1).f4), .string ((rd_T44 l0 x8_1).f5), .string ((rd_T44 l0 x8_1).f6), .string ((rd_T44 l0 x8_1).f7), .string ((rd_T44 l0 x8_1).f8), .string ((rd_T44 l0 x8_1).f9), .string ((rd_T44 l0 x8_1).f10)] (fun _ => True) (fun _ => False) rfl rfl ?aP (fun _ hk => hk.elim) ?aF ?aO ?aB ?aS ?aL ?_; (case aP => exact k63_mkM _ _ _ (⟨(rd_T44 l0 x8_1).f0, (rd_T44 l0 x8_1).f1, (rd_T44 l0 x8_1).f2, (rd_T44 l0 x8_1).f3, (rd_T44 l0 x8_1).f4, (rd_T44 l0 x8_1).f5, (rd_T44 l0 x8_1).f6, (rd_T44 l0 x8_1).f7, (rd_T44 l0 x8_1).f8, (rd_T44 l0 x8_1).f9, (rd_T44 l0 x8_1).f10⟩ : S63)); (case aB => exact (by repeat (first | (with_reducible first | exact HB.out | apply below_alloc | apply pw_below_drewN | apply below_drew1 | refine below_set ?_ GE106.out) | exact HB.out))); (case aF => exact (fun _ _ => trivial)); (case aO => exact (by (with_reducible repeat (first | apply Kd.R_alloc | apply Kd.R_drewN | apply Kd.R_drew)); exact HO_3.out)); (case aS => exact (below_size (by repeat (first | (with_reducible first | exact HB.out | apply below_alloc | apply pw_below_drewN | apply below_drew1 | refine below_set ?_ GE106.out) | exact HB.out)))); (case aL => have := LMc5.out; omega); intro v108 w8 ho hb hg hat; rw [← Ny107.out] at ho; have n0_ := Aside0.mk (blk_grown (g := gb106) (o := .cells #[.int .i64 ((rd_T44 l0 x8_1).f0), .int .i64 ((rd_T44 l0 x8_1).f1), .int .i64 ((rd_T44 l0 x8_1).f2), .int .i64 ((rd_T44 l0 x8_1).f3), .string ((rd_T44 l0 x8_1).f4), .string ((rd_T44 l0 x8_1).f5), .string ((rd_T44 l0 x8_1).f6), .string ((rd_T44 l0 x8_1).f7), .string ((rd_T44 l0 x8_1).f8), .string ((rd_T44 l0 x8_1).f9), .string ((rd_T44 l0 x8_1).f10)] 44 (0, 0)) (by (with_reducible repeat (first | refine blk_drewN ?_ _ | refine blk_drew ?_ | refine blk_alloc ?_ _)); exact BK106.out) hg (Kd.R_ne HO_3.out BK106.out (by decide))); have n1_ := Aside0.mk (hb); have n2_ := Aside0.mk (ho); clear BK106; clear HB; clear HO_3; have BK106 := n0_; have HB := n1_; have HO109 := n2_; clear n0_ n1_ n2_; clear ho hb hg hat))
           go_roundg k1
           case measure => have := HK1.out; omega
           case rel => exact ⟨(y107), (wrap64 (x8_1 + 1)), (by first | rfl | (simp; done) | (simp [*]; done)), H', ⟨by have := HK1.out; omega⟩, ⟨by (with_reducible repeat (first | apply Kd.R_alloc | apply Kd.R_drewN | apply Kd.R_drew)); exact HO109.out⟩, ⟨by repeat (first | (with_reducible first | exact HB.out | apply below_alloc | apply pw_below_drewN | apply below_drew1 | refine below_set ?_ GE106.out) | exact HB.out)⟩⟩
         · rw [if_neg c5] at H
           exact absurd H (by simp)
       · rw [if_neg c4] at H
         exact absurd H (by simp)
     · rw [if_neg c3] at H
       exact absurd H (by simp)
   · rw [if_neg c2] at H
     have c2b0 : decide (x8_1 < (l0.length : Int)) = false := decide_eq_false c2
     clear c2
     obtain rfl := Option.some.inj H
     go_wp2
     go_ret
     exact ⟨_, by first | rfl | (simp [errW_none, errW_some] <;> rfl) | (simp [*, errW_none, errW_some] <;> rfl), by (with_reducible repeat (first | apply Kd.R_alloc | apply Kd.R_drewN | apply Kd.R_drew)); exact HO_3.out, by repeat (first | (with_reducible first | exact HB.out | apply below_alloc | apply pw_below_drewN | apply below_drew1) | exact HB.out)⟩
def spec_printable.l0 : Nat → ByteArray → Bool → Int → Int → Option (Bool)
 | 0, _, _, _, _ => none
 | k + 1, x0, x1, x8, x9 => if x9 < x8 then (if 0 ≤ x9 then (if x9 < (x0.size : Int) then (if (bt x0 x9) > 32 then (if (bt x0 x9) < 127 then (spec_printable.l0 k x0 x1 x8 (wrap64 (x9 + 1))) else (if x1 = true then (if (bt x0 x9) = 32 then (spec_printable.l0 k x0 x1 x8 (wrap64 (x9 + 1))) else (if (bt x0 x9) = 9 then (spec_printable.l0 k x0 x1 x8 (wrap64 (x9 + 1))) else (if (bt x0 x9) = 10 then (spec_printable.l0 k x0 x1 x8 (wrap64 (x9 + 1))) else (some false)))) else (some false))) else (if x1 = true then (if (bt x0 x9) = 32 then (spec_printable.l0 k x0 x1 x8 (wrap64 (x9 + 1))) else (if (bt x0 x9) = 9 then (spec_printable.l0 k x0 x1 x8 (wrap64 (x9 + 1))) else (if (bt x0 x9) = 10 then (spec_printable.l0 k x0 x1 x8 (wrap64 (x9 + 1))) else (some false)))) else (some false))) else (none)) else (none)) else (some true)
def spec_printable.f (k : Nat) (a0 : ByteArray) (a1 : Bool) : Option (Bool) := spec_printable.l0 k a0 a1 (a0.size : Int) 0
set_option maxHeartbeats 8000000 in
set_option maxRecDepth 100000 in
theorem spec_printable.calls (k : Nat) (a0 : ByteArray) (a1 : Bool) (r : Bool) (w : World) (h : spec_printable.f k a0 a1 = some r) :
 Calls Tryd.prog 51 #[.string a0, .bool a1] w fun e w' => e = .returned (.bool r) ∧ Drawn0 w w' := by
 have H : (spec_printable.l0 k a0 a1 (a0.size : Int) 0) = some r := h
 clear h
 have H' := Aside0.mk H
 clear H
 go_enter Tryd.func51, Tryd.ntmps51
 go_wp2
 go_loopg [9] k (fun kq v9 w' => ∃ (x9_1 : Int), v9 = .int .i64 x9_1 ∧ Aside0 (spec_printable.l0 kq a0 a1 (a0.size : Int) x9_1 = some r) ∧ Aside0 (kq ≤ k) ∧ Drawn0 w w')
 case atStart => exact ⟨(0), (by first | rfl | (simp; done) | (simp [*]; done)), H', ⟨Nat.le_refl _⟩, by repeat (first | exact Drawn0.refl _ | apply Drawn0.step)⟩
 case round =>
  clear H'
  try clear p2
  obtain ⟨x9_1, rfl, HA, HK1, ⟨m1, rfl⟩⟩ := hrel
  cases gk with
  | zero => exact absurd HA.out (by simp [spec_printable.l0])
  | succ k1 =>
   have H := HA.out
   clear HA
   simp only [spec_printable.l0] at H
   by_cases c3 : x9_1 < (a0.size : Int)
   · rw [if_pos c3] at H
     have c3b0 : decide (x9_1 < (a0.size : Int)) = true := decide_eq_true c3
     clear c3
     by_cases c4 : 0 ≤ x9_1
     · rw [if_pos c4] at H
       have c4b0 : decide (0 ≤ x9_1) = true := decide_eq_true c4
       clear c4
       by_cases c5 : x9_1 < (a0.size : Int)
       · rw [if_pos c5] at H
         have c5b0 : decide (x9_1 < (a0.size : Int)) = true := decide_eq_true c5
         clear c5
         by_cases c7 : (bt a0 x9_1) > 32
         · rw [if_pos c7] at H
           have c7b0 : decide (32 < (bt a0 x9_1)) = true := decide_eq_true c7
           clear c7
           by_cases c8 : (bt a0 x9_1) < 127
           · rw [if_pos c8] at H
             have c8b0 : decide ((bt a0 x9_1) < 127) = true := decide_eq_true c8
             clear c8
             have H' := Aside0.mk H
             clear H
             have p6 : 0 ≤ (x9_1 : Int) := of_decide_eq_true (by first | (with_reducible assumption) | assumption)
             have q6 : x9_1 < (a0.size : Int) := of_decide_eq_true (by first | (with_reducible assumption) | assumption)
             have hx6 := bt_at a0 x9_1
             replace p6 := eq_true p6
             replace q6 := eq_true q6
             go_wp2
             go_roundg k1
             case measure => have := HK1.out; omega
             case rel => exact ⟨(wrap64 (x9_1 + 1)), (by first | rfl | (simp; done) | (simp [*]; done)), H', ⟨by have := HK1.out; omega⟩, by repeat (first | exact Drawn0.refl _ | apply Drawn0.step)⟩
           · rw [if_neg c8] at H
             have c8b0 : decide ((bt a0 x9_1) < 127) = false := decide_eq_false c8
             clear c8
             by_cases c9 : a1 = true
             · subst c9
               have H1 : (if (bt a0 x9_1) = 32 then (spec_printable.l0 k1 a0 true (a0.size : Int) (wrap64 (x9_1 + 1))) else (if (bt a0 x9_1) = 9 then (spec_printable.l0 k1 a0 true (a0.size : Int) (wrap64 (x9_1 + 1))) else (if (bt a0 x9_1) = 10 then (spec_printable.l0 k1 a0 true (a0.size : Int) (wrap64 (x9_1 + 1))) else (some false)))) = some r := by rw [if_pos rfl] at H; exact H
               clear H
               have H := H1
               clear H1
               by_cases c10 : (bt a0 x9_1) = 32
               · rw [if_pos c10] at H
                 have c10b0 : ((bt a0 x9_1) == 32) = true := beq_iff_eq.mpr c10
                 have c10b1 : ((bt a0 x9_1) != 32) = false := bne_eq_false_iff_eq.mpr c10
                 clear c10
                 have H' := Aside0.mk H
                 clear H
                 have p6 : 0 ≤ (x9_1 : Int) := of_decide_eq_true (by first | (with_reducible assumption) | assumption)
                 have q6 : x9_1 < (a0.size : Int) := of_decide_eq_true (by first | (with_reducible assumption) | assumption)
                 have hx6 := bt_at a0 x9_1
                 replace p6 := eq_true p6
                 replace q6 := eq_true q6
                 go_wp2
                 go_roundg k1
                 case measure => have := HK1.out; omega
                 case rel => exact ⟨(wrap64 (x9_1 + 1)), (by first | rfl | (simp; done) | (simp [*]; done)), H', ⟨by have := HK1.out; omega⟩, by repeat (first | exact Drawn0.refl _ | apply Drawn0.step)⟩
               · rw [if_neg c10] at H
                 have c10b0 : ((bt a0 x9_1) == 32) = false := beq_eq_false_iff_ne.mpr c10
                 have c10b1 : ((bt a0 x9_1) != 32) = true := bne_iff_ne.mpr c10
                 by_cases c11 : (bt a0 x9_1) = 9
                 · rw [if_pos c11] at H
                   have c11b0 : ((bt a0 x9_1) == 9) = true := beq_iff_eq.mpr c11
                   have c11b1 : ((bt a0 x9_1) != 9) = false := bne_eq_false_iff_eq.mpr c11
                   clear c11
                   have H' := Aside0.mk H
                   clear H
                   have p6 : 0 ≤ (x9_1 : Int) := of_decide_eq_true (by first | (with_reducible assumption) | assumption)
                   have q6 : x9_1 < (a0.size : Int) := of_decide_eq_true (by first | (with_reducible assumption) | assumption)
                   have hx6 := bt_at a0 x9_1
                   replace p6 := eq_true p6
                   replace q6 := eq_true q6
                   go_wp2
                   go_roundg k1
                   case measure => have := HK1.out; omega
                   case rel => exact ⟨(wrap64 (x9_1 + 1)), (by first | rfl | (simp; done) | (simp [*]; done)), H', ⟨by have := HK1.out; omega⟩, by repeat (first | exact Drawn0.refl _ | apply Drawn0.step)⟩
                 · rw [if_neg c11] at H
                   have c11b0 : ((bt a0 x9_1) == 9) = false := beq_eq_false_iff_ne.mpr c11
                   have c11b1 : ((bt a0 x9_1) != 9) = true := bne_iff_ne.mpr c11
                   by_cases c12 : (bt a0 x9_1) = 10
                   · rw [if_pos c12] at H
                     have c12b0 : ((bt a0 x9_1) == 10) = true := beq_iff_eq.mpr c12
                     have c12b1 : ((bt a0 x9_1) != 10) = false := bne_eq_false_iff_eq.mpr c12
                     clear c12
                     have H' := Aside0.mk H
                     clear H
                     have p6 : 0 ≤ (x9_1 : Int) := of_decide_eq_true (by first | (with_reducible assumption) | assumption)
                     have q6 : x9_1 < (a0.size : Int) := of_decide_eq_true (by first | (with_reducible assumption) | assumption)
                     have hx6 := bt_at a0 x9_1
                     replace p6 := eq_true p6
                     replace q6 := eq_true q6
                     go_wp2
                     go_roundg k1
                     case measure => have := HK1.out; omega
                     case rel => exact ⟨(wrap64 (x9_1 + 1)), (by first | rfl | (simp; done) | (simp [*]; done)), H', ⟨by have := HK1.out; omega⟩, by repeat (first | exact Drawn0.refl _ | apply Drawn0.step)⟩
                   · rw [if_neg c12] at H
                     have c12b0 : ((bt a0 x9_1) == 10) = false := beq_eq_false_iff_ne.mpr c12
                     have c12b1 : ((bt a0 x9_1) != 10) = true := bne_iff_ne.mpr c12
                     obtain rfl := Option.some.inj H
                     have p6 : 0 ≤ (x9_1 : Int) := of_decide_eq_true (by first | (with_reducible assumption) | assumption)
                     have q6 : x9_1 < (a0.size : Int) := of_decide_eq_true (by first | (with_reducible assumption) | assumption)
                     have hx6 := bt_at a0 x9_1
                     replace p6 := eq_true p6
                     replace q6 := eq_true q6
                     go_wp2
                     go_ret
                     exact ⟨by first | rfl | (simp; done) | (simp [*]; done), by repeat (first | exact Drawn0.refl _ | apply Drawn0.step)⟩
             · replace c9 := Bool.eq_false_iff.mpr c9
               subst c9
               have H1 : (some false) = some r := by rw [if_neg (show ¬ (false = true) by decide)] at H; exact H
               clear H
               have H := H1
               clear H1
               obtain rfl := Option.some.inj H
               have p6 : 0 ≤ (x9_1 : Int) := of_decide_eq_true (by first | (with_reducible assumption) | assumption)
               have q6 : x9_1 < (a0.size : Int) := of_decide_eq_true (by first | (with_reducible assumption) | assumption)
               have hx6 := bt_at a0 x9_1
               replace p6 := eq_true p6
               replace q6 := eq_true q6
               go_wp2
               go_ret
               exact ⟨by first | rfl | (simp; done) | (simp [*]; done), by repeat (first | exact Drawn0.refl _ | apply Drawn0.step)⟩
         · rw [if_neg c7] at H
           have c7b0 : decide (32 < (bt a0 x9_1)) = false := decide_eq_false c7
           clear c7
           by_cases c13 : a1 = true
           · subst c13
             have H1 : (if (bt a0 x9_1) = 32 then (spec_printable.l0 k1 a0 true (a0.size : Int) (wrap64 (x9_1 + 1))) else (if (bt a0 x9_1) = 9 then (spec_printable.l0 k1 a0 true (a0.size : Int) (wrap64 (x9_1 + 1))) else (if (bt a0 x9_1) = 10 then (spec_printable.l0 k1 a0 true (a0.size : Int) (wrap64 (x9_1 + 1))) else (some false)))) = some r := by rw [if_pos rfl] at H; exact H
             clear H
             have H := H1
             clear H1
             by_cases c14 : (bt a0 x9_1) = 32
             · rw [if_pos c14] at H
               have c14b0 : ((bt a0 x9_1) == 32) = true := beq_iff_eq.mpr c14
               have c14b1 : ((bt a0 x9_1) != 32) = false := bne_eq_false_iff_eq.mpr c14
               clear c14
               have H' := Aside0.mk H
               clear H
               have p6 : 0 ≤ (x9_1 : Int) := of_decide_eq_true (by first | (with_reducible assumption) | assumption)
               have q6 : x9_1 < (a0.size : Int) := of_decide_eq_true (by first | (with_reducible assumption) | assumption)
               have hx6 := bt_at a0 x9_1
               replace p6 := eq_true p6
               replace q6 := eq_true q6
               go_wp2
               go_roundg k1
               case measure => have := HK1.out; omega
               case rel => exact ⟨(wrap64 (x9_1 + 1)), (by first | rfl | (simp; done) | (simp [*]; done)), H', ⟨by have := HK1.out; omega⟩, by repeat (first | exact Drawn0.refl _ | apply Drawn0.step)⟩
             · rw [if_neg c14] at H
               have c14b0 : ((bt a0 x9_1) == 32) = false := beq_eq_false_iff_ne.mpr c14
               have c14b1 : ((bt a0 x9_1) != 32) = true := bne_iff_ne.mpr c14
               by_cases c15 : (bt a0 x9_1) = 9
               · rw [if_pos c15] at H
                 have c15b0 : ((bt a0 x9_1) == 9) = true := beq_iff_eq.mpr c15
                 have c15b1 : ((bt a0 x9_1) != 9) = false := bne_eq_false_iff_eq.mpr c15
                 clear c15
                 have H' := Aside0.mk H
                 clear H
                 have p6 : 0 ≤ (x9_1 : Int) := of_decide_eq_true (by first | (with_reducible assumption) | assumption)
                 have q6 : x9_1 < (a0.size : Int) := of_decide_eq_true (by first | (with_reducible assumption) | assumption)
                 have hx6 := bt_at a0 x9_1
                 replace p6 := eq_true p6
                 replace q6 := eq_true q6
                 go_wp2
                 go_roundg k1
                 case measure => have := HK1.out; omega
                 case rel => exact ⟨(wrap64 (x9_1 + 1)), (by first | rfl | (simp; done) | (simp [*]; done)), H', ⟨by have := HK1.out; omega⟩, by repeat (first | exact Drawn0.refl _ | apply Drawn0.step)⟩
               · rw [if_neg c15] at H
                 have c15b0 : ((bt a0 x9_1) == 9) = false := beq_eq_false_iff_ne.mpr c15
                 have c15b1 : ((bt a0 x9_1) != 9) = true := bne_iff_ne.mpr c15
                 by_cases c16 : (bt a0 x9_1) = 10
                 · rw [if_pos c16] at H
                   have c16b0 : ((bt a0 x9_1) == 10) = true := beq_iff_eq.mpr c16
                   have c16b1 : ((bt a0 x9_1) != 10) = false := bne_eq_false_iff_eq.mpr c16
                   clear c16
                   have H' := Aside0.mk H
                   clear H
                   have p6 : 0 ≤ (x9_1 : Int) := of_decide_eq_true (by first | (with_reducible assumption) | assumption)
                   have q6 : x9_1 < (a0.size : Int) := of_decide_eq_true (by first | (with_reducible assumption) | assumption)
                   have hx6 := bt_at a0 x9_1
                   replace p6 := eq_true p6
                   replace q6 := eq_true q6
                   go_wp2
                   go_roundg k1
                   case measure => have := HK1.out; omega
                   case rel => exact ⟨(wrap64 (x9_1 + 1)), (by first | rfl | (simp; done) | (simp [*]; done)), H', ⟨by have := HK1.out; omega⟩, by repeat (first | exact Drawn0.refl _ | apply Drawn0.step)⟩
                 · rw [if_neg c16] at H
                   have c16b0 : ((bt a0 x9_1) == 10) = false := beq_eq_false_iff_ne.mpr c16
                   have c16b1 : ((bt a0 x9_1) != 10) = true := bne_iff_ne.mpr c16
                   obtain rfl := Option.some.inj H
                   have p6 : 0 ≤ (x9_1 : Int) := of_decide_eq_true (by first | (with_reducible assumption) | assumption)
                   have q6 : x9_1 < (a0.size : Int) := of_decide_eq_true (by first | (with_reducible assumption) | assumption)
                   have hx6 := bt_at a0 x9_1
                   replace p6 := eq_true p6
                   replace q6 := eq_true q6
                   go_wp2
                   go_ret
                   exact ⟨by first | rfl | (simp; done) | (simp [*]; done), by repeat (first | exact Drawn0.refl _ | apply Drawn0.step)⟩
           · replace c13 := Bool.eq_false_iff.mpr c13
             subst c13
             have H1 : (some false) = some r := by rw [if_neg (show ¬ (false = true) by decide)] at H; exact H
             clear H
             have H := H1
             clear H1
             obtain rfl := Option.some.inj H
             have p6 : 0 ≤ (x9_1 : Int) := of_decide_eq_true (by first | (with_reducible assumption) | assumption)
             have q6 : x9_1 < (a0.size : Int) := of_decide_eq_true (by first | (with_reducible assumption) | assumption)
             have hx6 := bt_at a0 x9_1
             replace p6 := eq_true p6
             replace q6 := eq_true q6
             go_wp2
             go_ret
             exact ⟨by first | rfl | (simp; done) | (simp [*]; done), by repeat (first | exact Drawn0.refl _ | apply Drawn0.step)⟩
       · rw [if_neg c5] at H
         exact absurd H (by simp)
     · rw [if_neg c4] at H
       exact absurd H (by simp)
   · rw [if_neg c3] at H
     have c3b0 : decide (x9_1 < (a0.size : Int)) = false := decide_eq_false c3
     clear c3
     obtain rfl := Option.some.inj H
     go_wp2
     go_ret
     exact ⟨by first | rfl | (simp; done) | (simp [*]; done), by repeat (first | exact Drawn0.refl _ | apply Drawn0.step)⟩
def spec_word.l0 : Nat → ByteArray → Int → Int → Option (Bool)
 | 0, _, _, _ => none
 | k + 1, x0, x5, x6 => if x6 < x5 then (if 0 ≤ x6 then (if x6 < (x0.size : Int) then (if (bt x0 x6) = 92 then (some false) else (spec_word.l0 k x0 x5 (wrap64 (x6 + 1)))) else (none)) else (none)) else (if x0.toList = ([] : List UInt8) then (some false) else ((spec_printable.f k x0 false).bind fun t110 => (some t110)))
def spec_word.f (k : Nat) (a0 : ByteArray) : Option (Bool) := spec_word.l0 k a0 (a0.size : Int) 0
set_option maxHeartbeats 8000000 in
set_option maxRecDepth 100000 in
theorem spec_word.calls (k : Nat) (a0 : ByteArray) (r : Bool) (w : World) (h : spec_word.f k a0 = some r) :
 Calls Tryd.prog 52 #[.string a0] w fun e w' => e = .returned (.bool r) ∧ Drawn0 w w' := by
 have H : (spec_word.l0 k a0 (a0.size : Int) 0) = some r := h
 clear h
 have H' := Aside0.mk H
 clear H
 go_enter Tryd.func52, Tryd.ntmps52
 go_wp2
 go_loopg [6] k (fun kq v6 w' => ∃ (x6_1 : Int), v6 = .int .i64 x6_1 ∧ Aside0 (spec_word.l0 kq a0 (a0.size : Int) x6_1 = some r) ∧ Aside0 (kq ≤ k) ∧ Drawn0 w w')
 case atStart => exact ⟨(0), (by first | rfl | (simp; done) | (simp [*]; done)), H', ⟨Nat.le_refl _⟩, by repeat (first | exact Drawn0.refl _ | apply Drawn0.step)⟩
 case round =>
  clear H'
  obtain ⟨x6_1, rfl, HA, HK1, ⟨m1, rfl⟩⟩ := hrel
  cases gk with
  | zero => exact absurd HA.out (by simp [spec_word.l0])
  | succ k1 =>
   have H := HA.out
   clear HA
   simp only [spec_word.l0] at H
   by_cases c2 : x6_1 < (a0.size : Int)
   · rw [if_pos c2] at H
     have c2b0 : decide (x6_1 < (a0.size : Int)) = true := decide_eq_true c2
     clear c2
     by_cases c3 : 0 ≤ x6_1
     · rw [if_pos c3] at H
       have c3b0 : decide (0 ≤ x6_1) = true := decide_eq_true c3
       clear c3
       by_cases c4 : x6_1 < (a0.size : Int)
       · rw [if_pos c4] at H
         have c4b0 : decide (x6_1 < (a0.size : Int)) = true := decide_eq_true c4
         clear c4
         by_cases c6 : (bt a0 x6_1) = 92
         · rw [if_pos c6] at H
           have c6b0 : ((bt a0 x6_1) == 92) = true := beq_iff_eq.mpr c6
           have c6b1 : ((bt a0 x6_1) != 92) = false := bne_eq_false_iff_eq.mpr c6
           clear c6
           obtain rfl := Option.some.inj H
           have p5 : 0 ≤ (x6_1 : Int) := of_decide_eq_true (by first | (with_reducible assumption) | assumption)
           have q5 : x6_1 < (a0.size : Int) := of_decide_eq_true (by first | (with_reducible assumption) | assumption)
           have hx5 := bt_at a0 x6_1
           replace p5 := eq_true p5
           replace q5 := eq_true q5
           go_wp2
           go_ret
           exact ⟨by first | rfl | (simp; done) | (simp [*]; done), by repeat (first | exact Drawn0.refl _ | apply Drawn0.step)⟩
         · rw [if_neg c6] at H
           have c6b0 : ((bt a0 x6_1) == 92) = false := beq_eq_false_iff_ne.mpr c6
           have c6b1 : ((bt a0 x6_1) != 92) = true := bne_iff_ne.mpr c6
           have H' := Aside0.mk H
           clear H
           have p5 : 0 ≤ (x6_1 : Int) := of_decide_eq_true (by first | (with_reducible assumption) | assumption)
           have q5 : x6_1 < (a0.size : Int) := of_decide_eq_true (by first | (with_reducible assumption) | assumption)
           have hx5 := bt_at a0 x6_1
           replace p5 := eq_true p5
           replace q5 := eq_true q5
           go_wp2
           go_roundg k1
           case measure => have := HK1.out; omega
           case rel => exact ⟨(wrap64 (x6_1 + 1)), (by first | rfl | (simp; done) | (simp [*]; done)), H', ⟨by have := HK1.out; omega⟩, by repeat (first | exact Drawn0.refl _ | apply Drawn0.step)⟩
       · rw [if_neg c4] at H
         exact absurd H (by simp)
     · rw [if_neg c3] at H
       exact absurd H (by simp)
   · rw [if_neg c2] at H
     have c2b0 : decide (x6_1 < (a0.size : Int)) = false := decide_eq_false c2
     clear c2
     by_cases c7 : a0.toList = ([] : List UInt8)
     · rw [if_pos c7] at H
       have c7b0 : (a0.toList == ([] : List UInt8)) = true := beq_iff_eq.mpr c7
       have c7b1 : (a0.toList != ([] : List UInt8)) = false := bne_eq_false_iff_eq.mpr c7
       clear c7
       obtain rfl := Option.some.inj H
       go_wp2
       go_ret
       exact ⟨by first | rfl | (simp; done) | (simp [*]; done), by repeat (first | exact Drawn0.refl _ | apply Drawn0.step)⟩
     · rw [if_neg c7] at H
       have c7b0 : (a0.toList == ([] : List UInt8)) = false := beq_eq_false_iff_ne.mpr c7
       have c7b1 : (a0.toList != ([] : List UInt8)) = true := bne_iff_ne.mpr c7
       replace H := Option.bind_eq_some_iff.mp H
       obtain ⟨t110, A80, H⟩ := H
       replace H : (some t110) = some r := H
       have A8 := Aside0.mk A80
       clear A80
       obtain rfl := Option.some.inj H
       go_wp2_with (first | (go_at_call 51; (with_reducible refine (spec_printable.calls k1 a0 false t110 _ A8.out).mono ?_); rintro e w' ⟨rfl, ⟨nd, rfl⟩⟩))
       go_ret
       exact ⟨by first | rfl | (simp; done) | (simp [*]; done), by repeat (first | exact Drawn0.refl _ | apply Drawn0.step)⟩
end Go.Proofs.YtcpldcndhijecaaDoor.QM0
namespace Go.Proofs.YtcpldcndhijecaaDoor.QM0
open Go.RowKit Go.Proofs.YtcpldcndhijecaaDoorW.PrintWords Go.Proofs.YtcpldcndhijecaaDoorW.PrintLast Go.Proofs.YtcpldcndhijecaaDoorW.PrintMore
attribute [local go_sem] max2_int min2_int max_two min_two max_three min_three max_four min_four
set_option linter.unusedVariables false
set_option linter.unusedSimpArgs false
def spec_fields.l0 : Nat → ByteArray → List ByteArray → Int → Int → Int → Option (List ByteArray)
 | 0, _, _, _, _, _ => none
 | k + 1, x0, x3, x4, x7, x8 => if x8 < x7 then (if 0 ≤ x8 then (if x8 < (x0.size : Int) then (if (bt x0 x8) = 32 then (if 0 ≤ x4 then (if x4 ≤ x8 then (if x8 ≤ (x0.size : Int) then (if x3.length < 8796093022208 then (spec_fields.l0 k x0 (x3 ++ [x0.extract (x4 : Int).toNat (x8 : Int).toNat]) (wrap64 (x8 + 1)) x7 (wrap64 (x8 + 1))) else (none)) else (none)) else (none)) else (none)) else (spec_fields.l0 k x0 x3 x4 x7 (wrap64 (x8 + 1)))) else (none)) else (none)) else (if 0 ≤ x4 then (if x4 ≤ (x0.size : Int) then (if x3.length < 8796093022208 then (some (x3 ++ [x0.extract (x4 : Int).toNat x0.size])) else (none)) else (none)) else (none))
def spec_fields.f (k : Nat) (a0 : ByteArray) : Option (List ByteArray) := spec_fields.l0 k a0 ([] : List ByteArray) 0 (a0.size : Int) 0
set_option maxHeartbeats 8000000 in
set_option maxRecDepth 100000 in
theorem spec_fields.calls (k : Nat) (a0 : ByteArray) (r : List ByteArray) (w : World) (h : spec_fields.f k a0 = some r) :
 Calls Tryd.prog 53 #[.string a0] w fun e w' => ∃ v0_ : Value, e = .returned (v0_) ∧ Kd.R Kd.string 9 w' w.heap.size (fun _ => True) v0_ r ∧ Below w.heap.size w w' := by
 have HB := Aside0.mk (Below.refl w.heap.size w)
 have H : (spec_fields.l0 k a0 ([] : List ByteArray) 0 (a0.size : Int) 0) = some r := h
 clear h
 have H' := Aside0.mk H
 clear H
 go_enter Tryd.func53, Tryd.ntmps53
 go_wp2
 go_loopg [3, 4, 8] k (fun kq v3 v4 v8 w' => ∃ (x3_1 : List ByteArray) (x4_1 : Int) (x8_1 : Int), v4 = .int .i64 x4_1 ∧ v8 = .int .i64 x8_1 ∧ Aside0 (spec_fields.l0 kq a0 x3_1 x4_1 (a0.size : Int) x8_1 = some r) ∧ Aside0 (kq ≤ k) ∧ Aside0 (Kd.R Kd.string 9 w' w.heap.size (fun _ => True) v3 x3_1) ∧ Aside0 (Below w.heap.size w w'))
 case atStart => exact ⟨(([] : List ByteArray)), (0), (0), (by first | rfl | (simp; done) | (simp [*]; done)), (by first | rfl | (simp; done) | (simp [*]; done)), H', ⟨Nat.le_refl _⟩, ⟨by first | exact Kd.R_nil _ _ _ _ _ | exact Kd.N_nil _ _ _ _ _ | exact Kd.V_nil _ _ _ _ _ | exact Kd.Q_nil _ _ _ _ _ | exact Kd.S_nil _ _ _ _ _⟩, ⟨by repeat (first | (with_reducible first | exact HB.out | apply below_alloc | apply pw_below_drewN | apply below_drew1) | exact HB.out)⟩⟩
 case round =>
  clear H'
  obtain ⟨x3_1, x4_1, x8_1, rfl, rfl, HA, HK1, HO_3, HB⟩ := hrel
  cases gk with
  | zero => exact absurd HA.out (by simp [spec_fields.l0])
  | succ k1 =>
   have H := HA.out
   clear HA
   simp only [spec_fields.l0] at H
   by_cases c2 : x8_1 < (a0.size : Int)
   · rw [if_pos c2] at H
     have c2b0 : decide (x8_1 < (a0.size : Int)) = true := decide_eq_true c2
     clear c2
     by_cases c3 : 0 ≤ x8_1
     · rw [if_pos c3] at H
       have c3b0 : decide (0 ≤ x8_1) = true := decide_eq_true c3
       clear c3
       by_cases c4 : x8_1 < (a0.size : Int)
       · rw [if_pos c4] at H
         have c4b0 : decide (x8_1 < (a0.size : Int)) = true := decide_eq_true c4
         clear c4
         by_cases c6 : (bt a0 x8_1) = 32
         · rw [if_pos c6] at H
           have c6b0 : ((bt a0 x8_1) == 32) = true := beq_iff_eq.mpr c6
           have c6b1 : ((bt a0 x8_1) != 32) = false := bne_eq_false_iff_eq.mpr c6
           clear c6
           by_cases c7 : 0 ≤ x4_1
           · rw [if_pos c7] at H
             have c7b0 := eq_true c7
             have c7b1 : decide (0 ≤ x4_1) = true := decide_eq_true c7
             clear c7
             by_cases c8 : x4_1 ≤ x8_1
             · rw [if_pos c8] at H
               have c8b0 := eq_true c8
               have c8b1 : decide (x4_1 ≤ x8_1) = true := decide_eq_true c8
               clear c8
               by_cases c9 : x8_1 ≤ (a0.size : Int)
               · rw [if_pos c9] at H
                 have c9b0 := eq_true c9
                 have c9b1 : decide (x8_1 ≤ (a0.size : Int)) = true := decide_eq_true c9
                 clear c9
                 by_cases c10 : x3_1.length < 8796093022208
                 · rw [if_pos c10] at H
                   have LMc10 := Aside0.mk c10
                   clear c10
                   obtain ⟨y111, hy111⟩ : ∃ y_ : List ByteArray, y_ = (x3_1 ++ [a0.extract (x4_1 : Int).toNat (x8_1 : Int).toNat]) := ⟨_, rfl⟩
                   replace H : (spec_fields.l0 k1 a0 y111 (wrap64 (x8_1 + 1)) (a0.size : Int) (wrap64 (x8_1 + 1))) = some r := by first | (rw [hy111]; with_reducible exact H) | (have H2_ := (Option.bind_some _ _).symm.trans H; rw [hy111]; with_reducible exact H2_) | (have H2_ := (Option.bind_some _ _).symm.trans H; with_reducible exact H2_) | with_reducible exact H | (rw [hy111]; exact H) | exact H
                   have Ny111 := Aside0.mk hy111
                   clear hy111
                   have H' := Aside0.mk H
                   clear H
                   have p5 : 0 ≤ (x8_1 : Int) := of_decide_eq_true (by first | (with_reducible assumption) | assumption)
                   have q5 : x8_1 < (a0.size : Int) := of_decide_eq_true (by first | (with_reducible assumption) | assumption)
                   have hx5 := bt_at a0 x8_1
                   replace p5 := eq_true p5
                   replace q5 := eq_true q5
                   go_wp2_with (first | ((with_reducible refine gate_builtin (b := .append) (xs := #[.tmp 15, .tmp 20]) rfl ?_); at_builtin; refine Kd.R_append Kd.string (w0 := w) w.heap.size rfl (.tmp 15) (.tmp 20) 28 9 (.string ⟨#[]⟩) 16 rfl Tryd.underlying28 info9 rfl (by decide) (by omega) u3 x3_1 (a0.extract (x4_1 : Int).toNat (x8_1 : Int).toNat) [.string (a0.extract (x4_1 : Int).toNat (x8_1 : Int).toNat)] (fun _ => True) (fun _ => False) rfl rfl ?aP (fun _ hk => hk.elim) ?aF ?aO ?aB ?aS ?aL ?_; (case aP => exact rfl); (case aB => exact (by repeat (first | (with_reducible first | exact HB.out | apply below_alloc | apply pw_below_drewN | apply below_drew1) | exact HB.out))); (case aF => exact (fun _ _ => trivial)); (case aO => exact (by (with_reducible repeat (first | apply Kd.R_alloc | apply Kd.R_drewN | apply Kd.R_drew)); exact HO_3.out)); (case aS => exact (below_size (by repeat (first | (with_reducible first | exact HB.out | apply below_alloc | apply pw_below_drewN | apply below_drew1) | exact HB.out)))); (case aL => have := LMc10.out; omega); intro v112 w11 ho hb hg hat; rw [← Ny111.out] at ho; have n0_ := Aside0.mk (hb); have n1_ := Aside0.mk (ho); clear HB; clear HO_3; have HB := n0_; have HO113 := n1_; clear n0_ n1_; clear ho hb hg hat))
                   go_roundg k1
                   case measure => have := HK1.out; omega
                   case rel => exact ⟨(y111), (wrap64 (x8_1 + 1)), (wrap64 (x8_1 + 1)), (by first | rfl | (simp; done) | (simp [*]; done)), (by first | rfl | (simp; done) | (simp [*]; done)), H', ⟨by have := HK1.out; omega⟩, ⟨by (with_reducible repeat (first | apply Kd.R_alloc | apply Kd.R_drewN | apply Kd.R_drew)); exact HO113.out⟩, ⟨by repeat (first | (with_reducible first | exact HB.out | apply below_alloc | apply pw_below_drewN | apply below_drew1) | exact HB.out)⟩⟩
                 · rw [if_neg c10] at H
                   exact absurd H (by simp)
               · rw [if_neg c9] at H
                 exact absurd H (by simp)
             · rw [if_neg c8] at H
               exact absurd H (by simp)
           · rw [if_neg c7] at H
             exact absurd H (by simp)
         · rw [if_neg c6] at H
           have c6b0 : ((bt a0 x8_1) == 32) = false := beq_eq_false_iff_ne.mpr c6
           have c6b1 : ((bt a0 x8_1) != 32) = true := bne_iff_ne.mpr c6
           have H' := Aside0.mk H
           clear H
           have p5 : 0 ≤ (x8_1 : Int) := of_decide_eq_true (by first | (with_reducible assumption) | assumption)
           have q5 : x8_1 < (a0.size : Int) := of_decide_eq_true (by first | (with_reducible assumption) | assumption)
           have hx5 := bt_at a0 x8_1
           replace p5 := eq_true p5
           replace q5 := eq_true q5
           go_wp2
           go_roundg k1
           case measure => have := HK1.out; omega
           case rel => exact ⟨(x3_1), (x4_1), (wrap64 (x8_1 + 1)), (by first | rfl | (simp; done) | (simp [*]; done)), (by first | rfl | (simp; done) | (simp [*]; done)), H', ⟨by have := HK1.out; omega⟩, ⟨by (with_reducible repeat (first | apply Kd.R_alloc | apply Kd.R_drewN | apply Kd.R_drew)); exact HO_3.out⟩, ⟨by repeat (first | (with_reducible first | exact HB.out | apply below_alloc | apply pw_below_drewN | apply below_drew1) | exact HB.out)⟩⟩
       · rw [if_neg c4] at H
         exact absurd H (by simp)
     · rw [if_neg c3] at H
       exact absurd H (by simp)
   · rw [if_neg c2] at H
     have c2b0 : decide (x8_1 < (a0.size : Int)) = false := decide_eq_false c2
     clear c2
     by_cases c12 : 0 ≤ x4_1
     · rw [if_pos c12] at H
       have c12b0 := eq_true c12
       have c12b1 : decide (0 ≤ x4_1) = true := decide_eq_true c12
       clear c12
       by_cases c13 : x4_1 ≤ (a0.size : Int)
       · rw [if_pos c13] at H
         have c13b0 := eq_true c13
         have c13b1 : decide (x4_1 ≤ (a0.size : Int)) = true := decide_eq_true c13
         clear c13
         by_cases c14 : x3_1.length < 8796093022208
         · rw [if_pos c14] at H
           have LMc14 := Aside0.mk c14
           clear c14
           obtain ⟨y114, hy114⟩ : ∃ y_ : List ByteArray, y_ = (x3_1 ++ [a0.extract (x4_1 : Int).toNat a0.size]) := ⟨_, rfl⟩
           replace H : (some y114) = some r := by first | (rw [hy114]; with_reducible exact H) | (have H2_ := (Option.bind_some _ _).symm.trans H; rw [hy114]; with_reducible exact H2_) | (have H2_ := (Option.bind_some _ _).symm.trans H; with_reducible exact H2_) | with_reducible exact H | (rw [hy114]; exact H) | exact H
           have Ny114 := Aside0.mk hy114
           clear hy114
           obtain rfl := Option.some.inj H
           go_wp2_with (first | ((with_reducible refine gate_builtin (b := .append) (xs := #[.tmp 25, .tmp 29]) rfl ?_); at_builtin; refine Kd.R_append Kd.string (w0 := w) w.heap.size rfl (.tmp 25) (.tmp 29) 28 9 (.string ⟨#[]⟩) 16 rfl Tryd.underlying28 info9 rfl (by decide) (by omega) u3 x3_1 (a0.extract (x4_1 : Int).toNat a0.size) [.string (a0.extract (x4_1 : Int).toNat a0.size)] (fun _ => True) (fun _ => False) rfl rfl ?aP (fun _ hk => hk.elim) ?aF ?aO ?aB ?aS ?aL ?_; (case aP => exact rfl); (case aB => exact (by repeat (first | (with_reducible first | exact HB.out | apply below_alloc | apply pw_below_drewN | apply below_drew1) | exact HB.out))); (case aF => exact (fun _ _ => trivial)); (case aO => exact (by (with_reducible repeat (first | apply Kd.R_alloc | apply Kd.R_drewN | apply Kd.R_drew)); exact HO_3.out)); (case aS => exact (below_size (by repeat (first | (with_reducible first | exact HB.out | apply below_alloc | apply pw_below_drewN | apply below_drew1) | exact HB.out)))); (case aL => have := LMc14.out; omega); intro v115 w15 ho hb hg hat; rw [← Ny114.out] at ho; have n0_ := Aside0.mk (hb); have n1_ := Aside0.mk (ho); clear HB; clear HO_3; have HB := n0_; have HO116 := n1_; clear n0_ n1_; clear ho hb hg hat))
           go_ret
           exact ⟨_, by first | rfl | (simp [errW_none, errW_some] <;> rfl) | (simp [*, errW_none, errW_some] <;> rfl), by (with_reducible repeat (first | apply Kd.R_alloc | apply Kd.R_drewN | apply Kd.R_drew)); exact HO116.out, by repeat (first | (with_reducible first | exact HB.out | apply below_alloc | apply pw_below_drewN | apply below_drew1) | exact HB.out)⟩
         · rw [if_neg c14] at H
           exact absurd H (by simp)
       · rw [if_neg c13] at H
         exact absurd H (by simp)
     · rw [if_neg c12] at H
       exact absurd H (by simp)
end Go.Proofs.YtcpldcndhijecaaDoor.QM0
namespace Go.Proofs.YtcpldcndhijecaaDoor.QM0
open Go.RowKit Go.Proofs.YtcpldcndhijecaaDoorW.PrintWords Go.Proofs.YtcpldcndhijecaaDoorW.PrintLast Go.Proofs.YtcpldcndhijecaaDoorW.PrintMore
attribute [local go_sem] max2_int min2_int max_two min_two max_three min_three max_four min_four
set_option linter.unusedVariables false
set_option linter.unusedSimpArgs false
mutual
def spec_mountValid.l0 : Nat → List Int → Int → Int → Int → Int → Int → Int → ByteArray → ByteArray → ByteArray → ByteArray → ByteArray → ByteArray → ByteArray → Option (Bool)
 | 0, _, _, _, _, _, _, _, _, _, _, _, _, _, _ => none
 | k + 1, x15, x16, x17, x118000, x118001, x118002, x118003, x118004, x118005, x118006, x118007, x118008, x118009, x118010 => if x17 < x16 then (if 0 ≤ x17 then (if x17 < (x15.length : Int) then (if (rd x15 x17) < 0 then (some false) else (if (rd x15 x17) > 2147483647 then (some false) else (spec_mountValid.l0 k x15 x16 (wrap64 (x17 + 1)) x118000 x118001 x118002 x118003 x118004 x118005 x118006 x118007 x118008 x118009 x118010))) else (none)) else (none)) else (if x118004.toList = ([] : List UInt8) then (spec_mountValid.j1 k true x118000 x118001 x118002 x118003 x118004 x118005 x118006 x118007 x118008 x118009 x118010) else (if x118005.toList = ([] : List UInt8) then (spec_mountValid.j1 k true x118000 x118001 x118002 x118003 x118004 x118005 x118006 x118007 x118008 x118009 x118010) else (if x118009.toList = ([] : List UInt8) then (spec_mountValid.j1 k true x118000 x118001 x118002 x118003 x118004 x118005 x118006 x118007 x118008 x118009 x118010) else ((spec_printable.f k x118004 true).bind fun t122 => (if t122 = true then ((spec_printable.f k x118005 true).bind fun t123 => (if t123 = true then ((spec_printable.f k x118009 true).bind fun t124 => (if t124 = true then ((spec_word.f k x118006).bind fun t125 => (if t125 = true then ((spec_word.f k x118008).bind fun t126 => (if t126 = true then ((spec_word.f k x118010).bind fun t127 => (spec_mountValid.j1 k (!t127) x118000 x118001 x118002 x118003 x118004 x118005 x118006 x118007 x118008 x118009 x118010)) else (spec_mountValid.j1 k true x118000 x118001 x118002 x118003 x118004 x118005 x118006 x118007 x118008 x118009 x118010))) else (spec_mountValid.j1 k true x118000 x118001 x118002 x118003 x118004 x118005 x118006 x118007 x118008 x118009 x118010))) else (spec_mountValid.j1 k true x118000 x118001 x118002 x118003 x118004 x118005 x118006 x118007 x118008 x118009 x118010))) else (spec_mountValid.j1 k true x118000 x118001 x118002 x118003 x118004 x118005 x118006 x118007 x118008 x118009 x118010))) else (spec_mountValid.j1 k true x118000 x118001 x118002 x118003 x118004 x118005 x118006 x118007 x118008 x118009 x118010))))))
def spec_mountValid.j1 : Nat → Bool → Int → Int → Int → Int → ByteArray → ByteArray → ByteArray → ByteArray → ByteArray → ByteArray → ByteArray → Option (Bool)
 | 0, _, _, _, _, _, _, _, _, _, _, _, _ => none
 | k + 1, x76, x118000, x118001, x118002, x118003, x118004, x118005, x118006, x118007, x118008, x118009, x118010 => if x76 = true then (some false) else (if x118007.toList = ([] : List UInt8) then (some true) else ((spec_fields.f k x118007).bind fun t128 => (spec_mountValid.l1 k t128 (t128.length : Int) 0)))
def spec_mountValid.l1 : Nat → List ByteArray → Int → Int → Option (Bool)
 | 0, _, _, _ => none
 | k + 1, x82, x83, x84 => if x84 < x83 then (if 0 ≤ x84 then (if x84 < (x82.length : Int) then ((spec_word.f k (rdOf ByteArray.empty x82 x84)).bind fun t132 => (if t132 = true then (if (rdOf ByteArray.empty x82 x84).toList = ([45] : List UInt8) then (some false) else (spec_mountValid.l1 k x82 x83 (wrap64 (x84 + 1)))) else (some false))) else (none)) else (none)) else (some true)
end
def spec_mountValid.f (k : Nat) (a0_0 : Int) (a0_1 : Int) (a0_2 : Int) (a0_3 : Int) (a0_4 : ByteArray) (a0_5 : ByteArray) (a0_6 : ByteArray) (a0_7 : ByteArray) (a0_8 : ByteArray) (a0_9 : ByteArray) (a0_10 : ByteArray) : Option (Bool) := (some (([a0_0, a0_1, a0_2, a0_3] : List Int) : List Int)).bind fun y118 => (spec_mountValid.l0 k y118 (y118.length : Int) 0 a0_0 a0_1 a0_2 a0_3 a0_4 a0_5 a0_6 a0_7 a0_8 a0_9 a0_10)
set_option maxHeartbeats 8000000 in
set_option maxRecDepth 100000 in
theorem spec_mountValid.calls (k : Nat) (a0_0 : Int) (a0_1 : Int) (a0_2 : Int) (a0_3 : Int) (a0_4 : ByteArray) (a0_5 : ByteArray) (a0_6 : ByteArray) (a0_7 : ByteArray) (a0_8 : ByteArray) (a0_9 : ByteArray) (a0_10 : ByteArray) (r : Bool) (w : World) (h : spec_mountValid.f k a0_0 a0_1 a0_2 a0_3 a0_4 a0_5 a0_6 a0_7 a0_8 a0_9 a0_10 = some r) :
 Calls Tryd.prog 31 #[.agg #[.int .i64 a0_0, .int .i64 a0_1, .int .i64 a0_2, .int .i64 a0_3, .string a0_4, .string a0_5, .string a0_6, .string a0_7, .string a0_8, .string a0_9, .string a0_10]] w fun e w' => e = .returned (.bool r) ∧ Below w.heap.size w w' := by
 have hu63 := Tryd.underlying63
 have HB := Aside0.mk (Below.refl w.heap.size w)
 have H : ((some (([a0_0, a0_1, a0_2, a0_3] : List Int) : List Int)).bind fun y118 => (spec_mountValid.l0 k y118 (y118.length : Int) 0 a0_0 a0_1 a0_2 a0_3 a0_4 a0_5 a0_6 a0_7 a0_8 a0_9 a0_10)) = some r := h
 clear h
 obtain ⟨y118, hy118⟩ : ∃ y_ : List Int, y_ = (([a0_0, a0_1, a0_2, a0_3] : List Int)) := ⟨_, rfl⟩
 replace H : (spec_mountValid.l0 k y118 (y118.length : Int) 0 a0_0 a0_1 a0_2 a0_3 a0_4 a0_5 a0_6 a0_7 a0_8 a0_9 a0_10) = some r := by first | (rw [hy118]; with_reducible exact H) | (have H2_ := (Option.bind_some _ _).symm.trans H; rw [hy118]; with_reducible exact H2_) | (have H2_ := (Option.bind_some _ _).symm.trans H; with_reducible exact H2_) | with_reducible exact H | (rw [hy118]; exact H) | exact H
 have Ny118 := Aside0.mk hy118
 clear hy118
 have H' := Aside0.mk H
 clear H
 go_enter Tryd.func31, Tryd.ntmps31
 go_wp2_with (first | ((with_reducible refine gate_dst (N := 1) rfl ?_); refine box_event ?hg (N := 1) ?hd (cs := #[.int .i64 a0_0, .int .i64 a0_1, .int .i64 a0_2, .int .i64 a0_3, .string a0_4, .string a0_5, .string a0_6, .string a0_7, .string a0_8, .string a0_9, .string a0_10]) (t := 63) ?hr ?_; (case hd => rfl); (case hg => rfl); (case hr => first | (go_simp; done) | (go_simp; rfl)); intro gb117 hg w2 hbox hb; have n0_ := Aside0.mk (below_step (by repeat (first | (with_reducible first | exact HB.out | apply below_alloc | apply pw_below_drewN | apply below_drew1) | exact HB.out)) hb); have n1_ := Aside0.mk (hbox); have n2_ := Aside0.mk ((by rw [hg]; exact (below_size (by repeat (first | (with_reducible first | exact HB.out | apply below_alloc | apply pw_below_drewN | apply below_drew1) | exact HB.out))) : w.heap.size ≤ gb117)); have n3_ := Aside0.mk ((by rw [hg]; exact (below_size (by repeat (first | (with_reducible first | exact HB.out | apply below_alloc | apply pw_below_drewN | apply below_drew1) | exact HB.out))) : w.heap.size ≤ gb117)); clear HB; have HB := n0_; have BK117 := n1_; have GW117 := n2_; have GE117 := n3_; clear n0_ n1_ n2_ n3_; clear hb hbox hg; have hcz3_0 : w2.cell? ⟨gb117, 0, none⟩ = some (.int .i64 a0_0) := (blk_cell BK117.out 0).trans rfl; have hcz3_1 : w2.cell? ⟨gb117, 1, none⟩ = some (.int .i64 a0_1) := (blk_cell BK117.out 1).trans rfl; have hcz3_2 : w2.cell? ⟨gb117, 2, none⟩ = some (.int .i64 a0_2) := (blk_cell BK117.out 2).trans rfl; have hcz3_3 : w2.cell? ⟨gb117, 3, none⟩ = some (.int .i64 a0_3) := (blk_cell BK117.out 3).trans rfl; have hcz3_4 : w2.cell? ⟨gb117, 4, none⟩ = some (.string a0_4) := (blk_cell BK117.out 4).trans rfl; have hcz3_5 : w2.cell? ⟨gb117, 5, none⟩ = some (.string a0_5) := (blk_cell BK117.out 5).trans rfl; have hcz3_6 : w2.cell? ⟨gb117, 6, none⟩ = some (.string a0_6) := (blk_cell BK117.out 6).trans rfl; have hcz3_7 : w2.cell? ⟨gb117, 7, none⟩ = some (.string a0_7) := (blk_cell BK117.out 7).trans rfl; have hcz3_8 : w2.cell? ⟨gb117, 8, none⟩ = some (.string a0_8) := (blk_cell BK117.out 8).trans rfl; have hcz3_9 : w2.cell? ⟨gb117, 9, none⟩ = some (.string a0_9) := (blk_cell BK117.out 9).trans rfl; have hcz3_10 : w2.cell? ⟨gb117, 10, none⟩ = some (.string a0_10) := (blk_cell BK117.out 10).trans rfl; have hfz3_0 := blk_frozen BK117.out 0; have hfz3_1 := blk_frozen BK117.out 1; have hfz3_2 := blk_frozen BK117.out 2; have hfz3_3 := blk_frozen BK117.out 3; have hfz3_4 := blk_frozen BK117.out 4; have hfz3_5 := blk_frozen BK117.out 5; have hfz3_6 := blk_frozen BK117.out 6; have hfz3_7 := blk_frozen BK117.out 7; have hfz3_8 := blk_frozen BK117.out 8; have hfz3_9 := blk_frozen BK117.out 9; have hfz3_10 := blk_frozen BK117.out 10) | ((with_reducible refine gate_dst (N := 15) rfl ?_); refine Kd.R_lit (Kd.int .i64) _ 3 ?hg (N := 15) ?hd (xs := ([a0_0, a0_1, a0_2, a0_3] : List Int)) (inner := [.int .i64 a0_0, .int .i64 a0_1, .int .i64 a0_2, .int .i64 a0_3]) (ok := fun _ => True) (okp := fun _ => True) ?hr ?hp (fun _ hk => hk) trivial (Below.refl _ _) (Nat.le_refl _) (by simp) ?_; (case hd => rfl); (case hg => rfl); (case hr => first | (go_simp; done) | (go_simp; rfl)); (case hp => exact (Reps.one (show Kd.M (Kd.int .i64) _ _ _ a0_0 [.int .i64 a0_0] from rfl) (Reps.one (show Kd.M (Kd.int .i64) _ _ _ a0_1 [.int .i64 a0_1] from rfl) (Reps.one (show Kd.M (Kd.int .i64) _ _ _ a0_2 [.int .i64 a0_2] from rfl) (Reps.one (show Kd.M (Kd.int .i64) _ _ _ a0_3 [.int .i64 a0_3] from rfl) (Reps.none _ _)))))); intro v119 w4 ho5 hb hg_ hnew_; clear hg_ hnew_; (first | rw [← Ny118.out] at ho5 | (simp only [Int.reduceToNat] at ho5; rw [← Ny118.out] at ho5)); have n0_ := Aside0.mk (Kd.R_lower ho5 (below_size (by repeat (first | (with_reducible first | exact HB.out | apply below_alloc | apply pw_below_drewN | apply below_drew1 | refine below_set ?_ GE117.out) | exact HB.out)))); have n1_ := Aside0.mk (blk_below (g := gb117) (o := .cells #[.int .i64 a0_0, .int .i64 a0_1, .int .i64 a0_2, .int .i64 a0_3, .string a0_4, .string a0_5, .string a0_6, .string a0_7, .string a0_8, .string a0_9, .string a0_10] 63 (0, 0)) (by (with_reducible repeat (first | refine blk_drewN ?_ _ | refine blk_drew ?_ | refine blk_alloc ?_ _)); exact BK117.out) hb); have n2_ := Aside0.mk (below_step (by repeat (first | (with_reducible first | exact HB.out | apply below_alloc | apply pw_below_drewN | apply below_drew1 | refine below_set ?_ GE117.out) | exact HB.out)) hb); clear BK117; clear HB; have HO120 := n0_; have BK117 := n1_; have HB := n2_; clear n0_ n1_ n2_; clear hb ho5; obtain ⟨Ao6, co6, eo6⟩ := Kd.R_slice HO120.out; subst eo6))
 go_loopg [17] k (fun kq v17 w' => ∃ (x17_1 : Int), v17 = .int .i64 x17_1 ∧ Aside0 (spec_mountValid.l0 kq y118 (y118.length : Int) x17_1 a0_0 a0_1 a0_2 a0_3 a0_4 a0_5 a0_6 a0_7 a0_8 a0_9 a0_10 = some r) ∧ Aside0 (kq ≤ k) ∧ Aside0 (Kd.R (Kd.int .i64) 3 w' w.heap.size (fun _ => True) (.slice Ao6 y118.length co6) y118) ∧ Aside0 (w'.heap[gb117]? = some (.cells #[.int .i64 a0_0, .int .i64 a0_1, .int .i64 a0_2, .int .i64 a0_3, .string a0_4, .string a0_5, .string a0_6, .string a0_7, .string a0_8, .string a0_9, .string a0_10] 63 (0, 0))) ∧ Aside0 (Below w.heap.size w w'))
 case atStart => exact ⟨(0), (by first | rfl | (simp; done) | (simp [*]; done)), H', ⟨Nat.le_refl _⟩, ⟨by (with_reducible repeat (first | apply Kd.R_alloc | apply Kd.R_drewN | apply Kd.R_drew)); exact HO120.out⟩, ⟨by (with_reducible repeat (first | refine blk_drewN ?_ _ | refine blk_drew ?_ | refine blk_alloc ?_ _)); exact BK117.out⟩, ⟨by repeat (first | (with_reducible first | exact HB.out | apply below_alloc | apply pw_below_drewN | apply below_drew1 | refine below_set ?_ GE117.out) | exact HB.out)⟩⟩
 case round =>
  clear H'
  try clear p2
  try clear c3
  try clear hcz3_0
  try clear hcz3_1
  try clear hcz3_10
  try clear hcz3_2
  try clear hcz3_3
  try clear hcz3_4
  try clear hcz3_5
  try clear hcz3_6
  try clear hcz3_7
  try clear hcz3_8
  try clear hcz3_9
  try clear hfz3_0
  try clear hfz3_1
  try clear hfz3_10
  try clear hfz3_2
  try clear hfz3_3
  try clear hfz3_4
  try clear hfz3_5
  try clear hfz3_6
  try clear hfz3_7
  try clear hfz3_8
  try clear hfz3_9
  obtain ⟨x17_1, rfl, HA, HK1, HO_15, BK117, HB⟩ := hrel
  cases gk with
  | zero => exact absurd HA.out (by simp [spec_mountValid.l0])
  | succ k1 =>
   have H := HA.out
   clear HA
   simp only [spec_mountValid.l0] at H
   by_cases c7 : x17_1 < (y118.length : Int)
   · rw [if_pos c7] at H
     have c7b0 : decide (x17_1 < (y118.length : Int)) = true := decide_eq_true c7
     clear c7
     by_cases c8 : 0 ≤ x17_1
     · rw [if_pos c8] at H
       have c8b0 : decide (0 ≤ x17_1) = true := decide_eq_true c8
       clear c8
       by_cases c9 : x17_1 < (y118.length : Int)
       · rw [if_pos c9] at H
         have c9b0 : decide (x17_1 < (y118.length : Int)) = true := decide_eq_true c9
         clear c9
         by_cases c10 : (rd y118 x17_1) < 0
         · rw [if_pos c10] at H
           have c10b0 : decide ((rd y118 x17_1) < 0) = true := decide_eq_true c10
           clear c10
           obtain rfl := Option.some.inj H
           have p121 : 0 ≤ (x17_1 : Int) := of_decide_eq_true (by first | (with_reducible assumption) | assumption)
           have q121 : x17_1 < (y118.length : Int) := of_decide_eq_true (by first | (with_reducible assumption) | assumption)
           obtain ⟨ad121, e121, hx121_0⟩ := Kd.at_int (Kd.R_reads' HO_15.out).2.2 x17_1 p121 q121
           cases e121
           replace p121 := eq_true p121
           replace q121 := eq_true q121
           go_wp2
           go_ret
           exact ⟨by first | rfl | (simp [errW_none, errW_some] <;> rfl) | (simp [*, errW_none, errW_some] <;> rfl), by repeat (first | (with_reducible first | exact HB.out | apply below_alloc | apply pw_below_drewN | apply below_drew1 | refine below_set ?_ GE117.out) | exact HB.out)⟩
         · rw [if_neg c10] at H
           have c10b0 : decide ((rd y118 x17_1) < 0) = false := decide_eq_false c10
           clear c10
           by_cases c11 : (rd y118 x17_1) > 2147483647
           · rw [if_pos c11] at H
             have c11b0 : decide (2147483647 < (rd y118 x17_1)) = true := decide_eq_true c11
             clear c11
             obtain rfl := Option.some.inj H
             have p121 : 0 ≤ (x17_1 : Int) := of_decide_eq_true (by first | (with_reducible assumption) | assumption)
             have q121 : x17_1 < (y118.length : Int) := of_decide_eq_true (by first | (with_reducible assumption) | assumption)
             obtain ⟨ad121, e121, hx121_0⟩ := Kd.at_int (Kd.R_reads' HO_15.out).2.2 x17_1 p121 q121
             cases e121
             replace p121 := eq_true p121
             replace q121 := eq_true q121
             go_wp2
             go_ret
             exact ⟨by first | rfl | (simp [errW_none, errW_some] <;> rfl) | (simp [*, errW_none, errW_some] <;> rfl), by repeat (first | (with_reducible first | exact HB.out | apply below_alloc | apply pw_below_drewN | apply below_drew1 | refine below_set ?_ GE117.out) | exact HB.out)⟩
           · rw [if_neg c11] at H
             have c11b0 : decide (2147483647 < (rd y118 x17_1)) = false := decide_eq_false c11
             clear c11
             have H' := Aside0.mk H
             clear H
             have p121 : 0 ≤ (x17_1 : Int) := of_decide_eq_true (by first | (with_reducible assumption) | assumption)
             have q121 : x17_1 < (y118.length : Int) := of_decide_eq_true (by first | (with_reducible assumption) | assumption)
             obtain ⟨ad121, e121, hx121_0⟩ := Kd.at_int (Kd.R_reads' HO_15.out).2.2 x17_1 p121 q121
             cases e121
             replace p121 := eq_true p121
             replace q121 := eq_true q121
             go_wp2
             go_roundg k1
             case measure => have := HK1.out; omega
             case rel => exact ⟨(wrap64 (x17_1 + 1)), (by first | rfl | (simp; done) | (simp [*]; done)), H', ⟨by have := HK1.out; omega⟩, ⟨by (with_reducible repeat (first | apply Kd.R_alloc | apply Kd.R_drewN | apply Kd.R_drew)); exact HO_15.out⟩, ⟨by (with_reducible repeat (first | refine blk_drewN ?_ _ | refine blk_drew ?_ | refine blk_alloc ?_ _)); exact BK117.out⟩, ⟨by repeat (first | (with_reducible first | exact HB.out | apply below_alloc | apply pw_below_drewN | apply below_drew1 | refine below_set ?_ GE117.out) | exact HB.out)⟩⟩
       · rw [if_neg c9] at H
         exact absurd H (by simp)
     · rw [if_neg c8] at H
       exact absurd H (by simp)
   · rw [if_neg c7] at H
     have c7b0 : decide (x17_1 < (y118.length : Int)) = false := decide_eq_false c7
     clear c7
     have HC12 := Aside0.mk H
     clear H
     go_upto_region 7 with (fail)
     go_cut [76] (fun v76 wc => ∃ (kq : Nat) (x76_11 : Bool), v76 = .bool x76_11 ∧ Aside0 (spec_mountValid.j1 kq x76_11 a0_0 a0_1 a0_2 a0_3 a0_4 a0_5 a0_6 a0_7 a0_8 a0_9 a0_10 = some r) ∧ Aside0 (kq ≤ k1) ∧ Aside0 (wc.heap[gb117]? = some (.cells #[.int .i64 a0_0, .int .i64 a0_1, .int .i64 a0_2, .int .i64 a0_3, .string a0_4, .string a0_5, .string a0_6, .string a0_7, .string a0_8, .string a0_9, .string a0_10] 63 (0, 0))) ∧ Aside0 (Below w.heap.size w wc))
     case first =>
      have H := HC12.out
      clear HC12
      by_cases c13 : a0_4.toList = ([] : List UInt8)
      · rw [if_pos c13] at H
        have c13b0 : (a0_4.toList == ([] : List UInt8)) = true := beq_iff_eq.mpr c13
        have c13b1 : (a0_4.toList != ([] : List UInt8)) = false := bne_eq_false_iff_eq.mpr c13
        clear c13
        (first | rw [c13b0] | (simp only [i64_w, i32_w]; rw [c13b0]) | skip)
        have H' := Aside0.mk H
        clear H
        have hcz14_0 : wr.cell? ⟨gb117, 0, none⟩ = some (.int .i64 a0_0) := (blk_cell BK117.out 0).trans rfl
        have hcz14_1 : wr.cell? ⟨gb117, 1, none⟩ = some (.int .i64 a0_1) := (blk_cell BK117.out 1).trans rfl
        have hcz14_2 : wr.cell? ⟨gb117, 2, none⟩ = some (.int .i64 a0_2) := (blk_cell BK117.out 2).trans rfl
        have hcz14_3 : wr.cell? ⟨gb117, 3, none⟩ = some (.int .i64 a0_3) := (blk_cell BK117.out 3).trans rfl
        have hcz14_4 : wr.cell? ⟨gb117, 4, none⟩ = some (.string a0_4) := (blk_cell BK117.out 4).trans rfl
        have hcz14_5 : wr.cell? ⟨gb117, 5, none⟩ = some (.string a0_5) := (blk_cell BK117.out 5).trans rfl
        have hcz14_6 : wr.cell? ⟨gb117, 6, none⟩ = some (.string a0_6) := (blk_cell BK117.out 6).trans rfl
        have hcz14_7 : wr.cell? ⟨gb117, 7, none⟩ = some (.string a0_7) := (blk_cell BK117.out 7).trans rfl
        have hcz14_8 : wr.cell? ⟨gb117, 8, none⟩ = some (.string a0_8) := (blk_cell BK117.out 8).trans rfl
        have hcz14_9 : wr.cell? ⟨gb117, 9, none⟩ = some (.string a0_9) := (blk_cell BK117.out 9).trans rfl
        have hcz14_10 : wr.cell? ⟨gb117, 10, none⟩ = some (.string a0_10) := (blk_cell BK117.out 10).trans rfl
        have hfz14_0 := blk_frozen BK117.out 0
        have hfz14_1 := blk_frozen BK117.out 1
        have hfz14_2 := blk_frozen BK117.out 2
        have hfz14_3 := blk_frozen BK117.out 3
        have hfz14_4 := blk_frozen BK117.out 4
        have hfz14_5 := blk_frozen BK117.out 5
        have hfz14_6 := blk_frozen BK117.out 6
        have hfz14_7 := blk_frozen BK117.out 7
        have hfz14_8 := blk_frozen BK117.out 8
        have hfz14_9 := blk_frozen BK117.out 9
        have hfz14_10 := blk_frozen BK117.out 10
        go_wp2
        go_meet
        case rel => exact ⟨_, (true), (by first | rfl | (simp; done) | (simp [*]; done)), H', ⟨by have := HK1.out; first | omega | exact Nat.le_refl _⟩, ⟨by (with_reducible repeat (first | refine blk_drewN ?_ _ | refine blk_drew ?_ | refine blk_alloc ?_ _)); exact BK117.out⟩, ⟨by repeat (first | (with_reducible first | exact HB.out | apply below_alloc | apply pw_below_drewN | apply below_drew1 | refine below_set ?_ GE117.out) | exact HB.out)⟩⟩
      · rw [if_neg c13] at H
        have c13b0 : (a0_4.toList == ([] : List UInt8)) = false := beq_eq_false_iff_ne.mpr c13
        have c13b1 : (a0_4.toList != ([] : List UInt8)) = true := bne_iff_ne.mpr c13
        (first | rw [c13b0] | (simp only [i64_w, i32_w]; rw [c13b0]) | skip)
        by_cases c15 : a0_5.toList = ([] : List UInt8)
        · rw [if_pos c15] at H
          have c15b0 : (a0_5.toList == ([] : List UInt8)) = true := beq_iff_eq.mpr c15
          have c15b1 : (a0_5.toList != ([] : List UInt8)) = false := bne_eq_false_iff_eq.mpr c15
          clear c15
          have H' := Aside0.mk H
          clear H
          have hcz16_0 : wr.cell? ⟨gb117, 0, none⟩ = some (.int .i64 a0_0) := (blk_cell BK117.out 0).trans rfl
          have hcz16_1 : wr.cell? ⟨gb117, 1, none⟩ = some (.int .i64 a0_1) := (blk_cell BK117.out 1).trans rfl
          have hcz16_2 : wr.cell? ⟨gb117, 2, none⟩ = some (.int .i64 a0_2) := (blk_cell BK117.out 2).trans rfl
          have hcz16_3 : wr.cell? ⟨gb117, 3, none⟩ = some (.int .i64 a0_3) := (blk_cell BK117.out 3).trans rfl
          have hcz16_4 : wr.cell? ⟨gb117, 4, none⟩ = some (.string a0_4) := (blk_cell BK117.out 4).trans rfl
          have hcz16_5 : wr.cell? ⟨gb117, 5, none⟩ = some (.string a0_5) := (blk_cell BK117.out 5).trans rfl
          have hcz16_6 : wr.cell? ⟨gb117, 6, none⟩ = some (.string a0_6) := (blk_cell BK117.out 6).trans rfl
          have hcz16_7 : wr.cell? ⟨gb117, 7, none⟩ = some (.string a0_7) := (blk_cell BK117.out 7).trans rfl
          have hcz16_8 : wr.cell? ⟨gb117, 8, none⟩ = some (.string a0_8) := (blk_cell BK117.out 8).trans rfl
          have hcz16_9 : wr.cell? ⟨gb117, 9, none⟩ = some (.string a0_9) := (blk_cell BK117.out 9).trans rfl
          have hcz16_10 : wr.cell? ⟨gb117, 10, none⟩ = some (.string a0_10) := (blk_cell BK117.out 10).trans rfl
          have hfz16_0 := blk_frozen BK117.out 0
          have hfz16_1 := blk_frozen BK117.out 1
          have hfz16_2 := blk_frozen BK117.out 2
          have hfz16_3 := blk_frozen BK117.out 3
          have hfz16_4 := blk_frozen BK117.out 4
          have hfz16_5 := blk_frozen BK117.out 5
          have hfz16_6 := blk_frozen BK117.out 6
          have hfz16_7 := blk_frozen BK117.out 7
          have hfz16_8 := blk_frozen BK117.out 8
          have hfz16_9 := blk_frozen BK117.out 9
          have hfz16_10 := blk_frozen BK117.out 10
          go_wp2
          go_meet
          case rel => exact ⟨_, (true), (by first | rfl | (simp; done) | (simp [*]; done)), H', ⟨by have := HK1.out; first | omega | exact Nat.le_refl _⟩, ⟨by (with_reducible repeat (first | refine blk_drewN ?_ _ | refine blk_drew ?_ | refine blk_alloc ?_ _)); exact BK117.out⟩, ⟨by repeat (first | (with_reducible first | exact HB.out | apply below_alloc | apply pw_below_drewN | apply below_drew1 | refine below_set ?_ GE117.out) | exact HB.out)⟩⟩
        · rw [if_neg c15] at H
          have c15b0 : (a0_5.toList == ([] : List UInt8)) = false := beq_eq_false_iff_ne.mpr c15
          have c15b1 : (a0_5.toList != ([] : List UInt8)) = true := bne_iff_ne.mpr c15
          by_cases c17 : a0_9.toList = ([] : List UInt8)
          · rw [if_pos c17] at H
            have c17b0 : (a0_9.toList == ([] : List UInt8)) = true := beq_iff_eq.mpr c17
            have c17b1 : (a0_9.toList != ([] : List UInt8)) = false := bne_eq_false_iff_eq.mpr c17
            clear c17
            have H' := Aside0.mk H
            clear H
            have hcz18_0 : wr.cell? ⟨gb117, 0, none⟩ = some (.int .i64 a0_0) := (blk_cell BK117.out 0).trans rfl
            have hcz18_1 : wr.cell? ⟨gb117, 1, none⟩ = some (.int .i64 a0_1) := (blk_cell BK117.out 1).trans rfl
            have hcz18_2 : wr.cell? ⟨gb117, 2, none⟩ = some (.int .i64 a0_2) := (blk_cell BK117.out 2).trans rfl
            have hcz18_3 : wr.cell? ⟨gb117, 3, none⟩ = some (.int .i64 a0_3) := (blk_cell BK117.out 3).trans rfl
            have hcz18_4 : wr.cell? ⟨gb117, 4, none⟩ = some (.string a0_4) := (blk_cell BK117.out 4).trans rfl
            have hcz18_5 : wr.cell? ⟨gb117, 5, none⟩ = some (.string a0_5) := (blk_cell BK117.out 5).trans rfl
            have hcz18_6 : wr.cell? ⟨gb117, 6, none⟩ = some (.string a0_6) := (blk_cell BK117.out 6).trans rfl
            have hcz18_7 : wr.cell? ⟨gb117, 7, none⟩ = some (.string a0_7) := (blk_cell BK117.out 7).trans rfl
            have hcz18_8 : wr.cell? ⟨gb117, 8, none⟩ = some (.string a0_8) := (blk_cell BK117.out 8).trans rfl
            have hcz18_9 : wr.cell? ⟨gb117, 9, none⟩ = some (.string a0_9) := (blk_cell BK117.out 9).trans rfl
            have hcz18_10 : wr.cell? ⟨gb117, 10, none⟩ = some (.string a0_10) := (blk_cell BK117.out 10).trans rfl
            have hfz18_0 := blk_frozen BK117.out 0
            have hfz18_1 := blk_frozen BK117.out 1
            have hfz18_2 := blk_frozen BK117.out 2
            have hfz18_3 := blk_frozen BK117.out 3
            have hfz18_4 := blk_frozen BK117.out 4
            have hfz18_5 := blk_frozen BK117.out 5
            have hfz18_6 := blk_frozen BK117.out 6
            have hfz18_7 := blk_frozen BK117.out 7
            have hfz18_8 := blk_frozen BK117.out 8
            have hfz18_9 := blk_frozen BK117.out 9
            have hfz18_10 := blk_frozen BK117.out 10
            go_wp2
            go_meet
            case rel => exact ⟨_, (true), (by first | rfl | (simp; done) | (simp [*]; done)), H', ⟨by have := HK1.out; first | omega | exact Nat.le_refl _⟩, ⟨by (with_reducible repeat (first | refine blk_drewN ?_ _ | refine blk_drew ?_ | refine blk_alloc ?_ _)); exact BK117.out⟩, ⟨by repeat (first | (with_reducible first | exact HB.out | apply below_alloc | apply pw_below_drewN | apply below_drew1 | refine below_set ?_ GE117.out) | exact HB.out)⟩⟩
          · rw [if_neg c17] at H
            have c17b0 : (a0_9.toList == ([] : List UInt8)) = false := beq_eq_false_iff_ne.mpr c17
            have c17b1 : (a0_9.toList != ([] : List UInt8)) = true := bne_iff_ne.mpr c17
            replace H := Option.bind_eq_some_iff.mp H
            obtain ⟨t122, A190, H⟩ := H
            (try dsimp only at H)
            have A19 := Aside0.mk A190
            clear A190
            by_cases c20 : t122 = true
            · subst c20
              rw [if_pos rfl] at H
              have H1 := H
              clear H
              have H := H1
              clear H1
              replace H := Option.bind_eq_some_iff.mp H
              obtain ⟨t123, A210, H⟩ := H
              (try dsimp only at H)
              have A21 := Aside0.mk A210
              clear A210
              by_cases c22 : t123 = true
              · subst c22
                rw [if_pos rfl] at H
                have H1 := H
                clear H
                have H := H1
                clear H1
                replace H := Option.bind_eq_some_iff.mp H
                obtain ⟨t124, A230, H⟩ := H
                (try dsimp only at H)
                have A23 := Aside0.mk A230
                clear A230
                by_cases c24 : t124 = true
                · subst c24
                  rw [if_pos rfl] at H
                  have H1 := H
                  clear H
                  have H := H1
                  clear H1
                  replace H := Option.bind_eq_some_iff.mp H
                  obtain ⟨t125, A250, H⟩ := H
                  (try dsimp only at H)
                  have A25 := Aside0.mk A250
                  clear A250
                  by_cases c26 : t125 = true
                  · subst c26
                    rw [if_pos rfl] at H
                    have H1 := H
                    clear H
                    have H := H1
                    clear H1
                    replace H := Option.bind_eq_some_iff.mp H
                    obtain ⟨t126, A270, H⟩ := H
                    (try dsimp only at H)
                    have A27 := Aside0.mk A270
                    clear A270
                    by_cases c28 : t126 = true
                    · subst c28
                      rw [if_pos rfl] at H
                      have H1 := H
                      clear H
                      have H := H1
                      clear H1
                      replace H := Option.bind_eq_some_iff.mp H
                      obtain ⟨t127, A290, H⟩ := H
                      replace H : (spec_mountValid.j1 k1 (!t127) a0_0 a0_1 a0_2 a0_3 a0_4 a0_5 a0_6 a0_7 a0_8 a0_9 a0_10) = some r := H
                      have A29 := Aside0.mk A290
                      clear A290
                      have H' := Aside0.mk H
                      clear H
                      have hcz30_0 : wr.cell? ⟨gb117, 0, none⟩ = some (.int .i64 a0_0) := (blk_cell BK117.out 0).trans rfl
                      have hcz30_1 : wr.cell? ⟨gb117, 1, none⟩ = some (.int .i64 a0_1) := (blk_cell BK117.out 1).trans rfl
                      have hcz30_2 : wr.cell? ⟨gb117, 2, none⟩ = some (.int .i64 a0_2) := (blk_cell BK117.out 2).trans rfl
                      have hcz30_3 : wr.cell? ⟨gb117, 3, none⟩ = some (.int .i64 a0_3) := (blk_cell BK117.out 3).trans rfl
                      have hcz30_4 : wr.cell? ⟨gb117, 4, none⟩ = some (.string a0_4) := (blk_cell BK117.out 4).trans rfl
                      have hcz30_5 : wr.cell? ⟨gb117, 5, none⟩ = some (.string a0_5) := (blk_cell BK117.out 5).trans rfl
                      have hcz30_6 : wr.cell? ⟨gb117, 6, none⟩ = some (.string a0_6) := (blk_cell BK117.out 6).trans rfl
                      have hcz30_7 : wr.cell? ⟨gb117, 7, none⟩ = some (.string a0_7) := (blk_cell BK117.out 7).trans rfl
                      have hcz30_8 : wr.cell? ⟨gb117, 8, none⟩ = some (.string a0_8) := (blk_cell BK117.out 8).trans rfl
                      have hcz30_9 : wr.cell? ⟨gb117, 9, none⟩ = some (.string a0_9) := (blk_cell BK117.out 9).trans rfl
                      have hcz30_10 : wr.cell? ⟨gb117, 10, none⟩ = some (.string a0_10) := (blk_cell BK117.out 10).trans rfl
                      have hfz30_0 := blk_frozen BK117.out 0
                      have hfz30_1 := blk_frozen BK117.out 1
                      have hfz30_2 := blk_frozen BK117.out 2
                      have hfz30_3 := blk_frozen BK117.out 3
                      have hfz30_4 := blk_frozen BK117.out 4
                      have hfz30_5 := blk_frozen BK117.out 5
                      have hfz30_6 := blk_frozen BK117.out 6
                      have hfz30_7 := blk_frozen BK117.out 7
                      have hfz30_8 := blk_frozen BK117.out 8
                      have hfz30_9 := blk_frozen BK117.out 9
                      have hfz30_10 := blk_frozen BK117.out 10
                      go_wp2_with (first | (go_at_call 51; (with_reducible refine (spec_printable.calls k1 a0_4 true true _ A19.out).mono ?_); rintro e w' ⟨rfl, ⟨nd, rfl⟩⟩) | (go_at_call 51; (with_reducible refine (spec_printable.calls k1 a0_5 true true _ A21.out).mono ?_); rintro e w' ⟨rfl, ⟨nd, rfl⟩⟩) | (go_at_call 51; (with_reducible refine (spec_printable.calls k1 a0_9 true true _ A23.out).mono ?_); rintro e w' ⟨rfl, ⟨nd, rfl⟩⟩) | (go_at_call 52; (with_reducible refine (spec_word.calls k1 a0_6 true _ A25.out).mono ?_); rintro e w' ⟨rfl, ⟨nd, rfl⟩⟩) | (go_at_call 52; (with_reducible refine (spec_word.calls k1 a0_8 true _ A27.out).mono ?_); rintro e w' ⟨rfl, ⟨nd, rfl⟩⟩) | (go_at_call 52; (with_reducible refine (spec_word.calls k1 a0_10 t127 _ A29.out).mono ?_); rintro e w' ⟨rfl, ⟨nd, rfl⟩⟩))
                      go_meet
                      case rel => exact ⟨_, (!t127), (by first | rfl | (simp; done) | (simp [*]; done)), H', ⟨by have := HK1.out; first | omega | exact Nat.le_refl _⟩, ⟨by (with_reducible repeat (first | refine blk_drewN ?_ _ | refine blk_drew ?_ | refine blk_alloc ?_ _)); exact BK117.out⟩, ⟨by repeat (first | (with_reducible first | exact HB.out | apply below_alloc | apply pw_below_drewN | apply below_drew1 | refine below_set ?_ GE117.out) | exact HB.out)⟩⟩
                    · replace c28 := Bool.eq_false_iff.mpr c28
                      subst c28
                      have H1 : (spec_mountValid.j1 k1 true a0_0 a0_1 a0_2 a0_3 a0_4 a0_5 a0_6 a0_7 a0_8 a0_9 a0_10) = some r := by rw [if_neg (show ¬ (false = true) by decide)] at H; exact H
                      clear H
                      have H := H1
                      clear H1
                      have H' := Aside0.mk H
                      clear H
                      have hcz31_0 : wr.cell? ⟨gb117, 0, none⟩ = some (.int .i64 a0_0) := (blk_cell BK117.out 0).trans rfl
                      have hcz31_1 : wr.cell? ⟨gb117, 1, none⟩ = some (.int .i64 a0_1) := (blk_cell BK117.out 1).trans rfl
                      have hcz31_2 : wr.cell? ⟨gb117, 2, none⟩ = some (.int .i64 a0_2) := (blk_cell BK117.out 2).trans rfl
                      have hcz31_3 : wr.cell? ⟨gb117, 3, none⟩ = some (.int .i64 a0_3) := (blk_cell BK117.out 3).trans rfl
                      have hcz31_4 : wr.cell? ⟨gb117, 4, none⟩ = some (.string a0_4) := (blk_cell BK117.out 4).trans rfl
                      have hcz31_5 : wr.cell? ⟨gb117, 5, none⟩ = some (.string a0_5) := (blk_cell BK117.out 5).trans rfl
                      have hcz31_6 : wr.cell? ⟨gb117, 6, none⟩ = some (.string a0_6) := (blk_cell BK117.out 6).trans rfl
                      have hcz31_7 : wr.cell? ⟨gb117, 7, none⟩ = some (.string a0_7) := (blk_cell BK117.out 7).trans rfl
                      have hcz31_8 : wr.cell? ⟨gb117, 8, none⟩ = some (.string a0_8) := (blk_cell BK117.out 8).trans rfl
                      have hcz31_9 : wr.cell? ⟨gb117, 9, none⟩ = some (.string a0_9) := (blk_cell BK117.out 9).trans rfl
                      have hcz31_10 : wr.cell? ⟨gb117, 10, none⟩ = some (.string a0_10) := (blk_cell BK117.out 10).trans rfl
                      have hfz31_0 := blk_frozen BK117.out 0
                      have hfz31_1 := blk_frozen BK117.out 1
                      have hfz31_2 := blk_frozen BK117.out 2
                      have hfz31_3 := blk_frozen BK117.out 3
                      have hfz31_4 := blk_frozen BK117.out 4
                      have hfz31_5 := blk_frozen BK117.out 5
                      have hfz31_6 := blk_frozen BK117.out 6
                      have hfz31_7 := blk_frozen BK117.out 7
                      have hfz31_8 := blk_frozen BK117.out 8
                      have hfz31_9 := blk_frozen BK117.out 9
                      have hfz31_10 := blk_frozen BK117.out 10
                      go_wp2_with (first | (go_at_call 51; (with_reducible refine (spec_printable.calls k1 a0_4 true true _ A19.out).mono ?_); rintro e w' ⟨rfl, ⟨nd, rfl⟩⟩) | (go_at_call 51; (with_reducible refine (spec_printable.calls k1 a0_5 true true _ A21.out).mono ?_); rintro e w' ⟨rfl, ⟨nd, rfl⟩⟩) | (go_at_call 51; (with_reducible refine (spec_printable.calls k1 a0_9 true true _ A23.out).mono ?_); rintro e w' ⟨rfl, ⟨nd, rfl⟩⟩) | (go_at_call 52; (with_reducible refine (spec_word.calls k1 a0_6 true _ A25.out).mono ?_); rintro e w' ⟨rfl, ⟨nd, rfl⟩⟩) | (go_at_call 52; (with_reducible refine (spec_word.calls k1 a0_8 false _ A27.out).mono ?_); rintro e w' ⟨rfl, ⟨nd, rfl⟩⟩))
                      go_meet
                      case rel => exact ⟨_, (true), (by first | rfl | (simp; done) | (simp [*]; done)), H', ⟨by have := HK1.out; first | omega | exact Nat.le_refl _⟩, ⟨by (with_reducible repeat (first | refine blk_drewN ?_ _ | refine blk_drew ?_ | refine blk_alloc ?_ _)); exact BK117.out⟩, ⟨by repeat (first | (with_reducible first | exact HB.out | apply below_alloc | apply pw_below_drewN | apply below_drew1 | refine below_set ?_ GE117.out) | exact HB.out)⟩⟩
                  · replace c26 := Bool.eq_false_iff.mpr c26
                    subst c26
                    have H1 : (spec_mountValid.j1 k1 true a0_0 a0_1 a0_2 a0_3 a0_4 a0_5 a0_6 a0_7 a0_8 a0_9 a0_10) = some r := by rw [if_neg (show ¬ (false = true) by decide)] at H; exact H
                    clear H
                    have H := H1
                    clear H1
                    have H' := Aside0.mk H
                    clear H
                    have hcz32_0 : wr.cell? ⟨gb117, 0, none⟩ = some (.int .i64 a0_0) := (blk_cell BK117.out 0).trans rfl
                    have hcz32_1 : wr.cell? ⟨gb117, 1, none⟩ = some (.int .i64 a0_1) := (blk_cell BK117.out 1).trans rfl
                    have hcz32_2 : wr.cell? ⟨gb117, 2, none⟩ = some (.int .i64 a0_2) := (blk_cell BK117.out 2).trans rfl
                    have hcz32_3 : wr.cell? ⟨gb117, 3, none⟩ = some (.int .i64 a0_3) := (blk_cell BK117.out 3).trans rfl
                    have hcz32_4 : wr.cell? ⟨gb117, 4, none⟩ = some (.string a0_4) := (blk_cell BK117.out 4).trans rfl
                    have hcz32_5 : wr.cell? ⟨gb117, 5, none⟩ = some (.string a0_5) := (blk_cell BK117.out 5).trans rfl
                    have hcz32_6 : wr.cell? ⟨gb117, 6, none⟩ = some (.string a0_6) := (blk_cell BK117.out 6).trans rfl
                    have hcz32_7 : wr.cell? ⟨gb117, 7, none⟩ = some (.string a0_7) := (blk_cell BK117.out 7).trans rfl
                    have hcz32_8 : wr.cell? ⟨gb117, 8, none⟩ = some (.string a0_8) := (blk_cell BK117.out 8).trans rfl
                    have hcz32_9 : wr.cell? ⟨gb117, 9, none⟩ = some (.string a0_9) := (blk_cell BK117.out 9).trans rfl
                    have hcz32_10 : wr.cell? ⟨gb117, 10, none⟩ = some (.string a0_10) := (blk_cell BK117.out 10).trans rfl
                    have hfz32_0 := blk_frozen BK117.out 0
                    have hfz32_1 := blk_frozen BK117.out 1
                    have hfz32_2 := blk_frozen BK117.out 2
                    have hfz32_3 := blk_frozen BK117.out 3
                    have hfz32_4 := blk_frozen BK117.out 4
                    have hfz32_5 := blk_frozen BK117.out 5
                    have hfz32_6 := blk_frozen BK117.out 6
                    have hfz32_7 := blk_frozen BK117.out 7
                    have hfz32_8 := blk_frozen BK117.out 8
                    have hfz32_9 := blk_frozen BK117.out 9
                    have hfz32_10 := blk_frozen BK117.out 10
                    go_wp2_with (first | (go_at_call 51; (with_reducible refine (spec_printable.calls k1 a0_4 true true _ A19.out).mono ?_); rintro e w' ⟨rfl, ⟨nd, rfl⟩⟩) | (go_at_call 51; (with_reducible refine (spec_printable.calls k1 a0_5 true true _ A21.out).mono ?_); rintro e w' ⟨rfl, ⟨nd, rfl⟩⟩) | (go_at_call 51; (with_reducible refine (spec_printable.calls k1 a0_9 true true _ A23.out).mono ?_); rintro e w' ⟨rfl, ⟨nd, rfl⟩⟩) | (go_at_call 52; (with_reducible refine (spec_word.calls k1 a0_6 false _ A25.out).mono ?_); rintro e w' ⟨rfl, ⟨nd, rfl⟩⟩))
                    go_meet
                    case rel => exact ⟨_, (true), (by first | rfl | (simp; done) | (simp [*]; done)), H', ⟨by have := HK1.out; first | omega | exact Nat.le_refl _⟩, ⟨by (with_reducible repeat (first | refine blk_drewN ?_ _ | refine blk_drew ?_ | refine blk_alloc ?_ _)); exact BK117.out⟩, ⟨by repeat (first | (with_reducible first | exact HB.out | apply below_alloc | apply pw_below_drewN | apply below_drew1 | refine below_set ?_ GE117.out) | exact HB.out)⟩⟩
                · replace c24 := Bool.eq_false_iff.mpr c24
                  subst c24
                  have H1 : (spec_mountValid.j1 k1 true a0_0 a0_1 a0_2 a0_3 a0_4 a0_5 a0_6 a0_7 a0_8 a0_9 a0_10) = some r := by rw [if_neg (show ¬ (false = true) by decide)] at H; exact H
                  clear H
                  have H := H1
                  clear H1
                  have H' := Aside0.mk H
                  clear H
                  have hcz33_0 : wr.cell? ⟨gb117, 0, none⟩ = some (.int .i64 a0_0) := (blk_cell BK117.out 0).trans rfl
                  have hcz33_1 : wr.cell? ⟨gb117, 1, none⟩ = some (.int .i64 a0_1) := (blk_cell BK117.out 1).trans rfl
                  have hcz33_2 : wr.cell? ⟨gb117, 2, none⟩ = some (.int .i64 a0_2) := (blk_cell BK117.out 2).trans rfl
                  have hcz33_3 : wr.cell? ⟨gb117, 3, none⟩ = some (.int .i64 a0_3) := (blk_cell BK117.out 3).trans rfl
                  have hcz33_4 : wr.cell? ⟨gb117, 4, none⟩ = some (.string a0_4) := (blk_cell BK117.out 4).trans rfl
                  have hcz33_5 : wr.cell? ⟨gb117, 5, none⟩ = some (.string a0_5) := (blk_cell BK117.out 5).trans rfl
                  have hcz33_6 : wr.cell? ⟨gb117, 6, none⟩ = some (.string a0_6) := (blk_cell BK117.out 6).trans rfl
                  have hcz33_7 : wr.cell? ⟨gb117, 7, none⟩ = some (.string a0_7) := (blk_cell BK117.out 7).trans rfl
                  have hcz33_8 : wr.cell? ⟨gb117, 8, none⟩ = some (.string a0_8) := (blk_cell BK117.out 8).trans rfl
                  have hcz33_9 : wr.cell? ⟨gb117, 9, none⟩ = some (.string a0_9) := (blk_cell BK117.out 9).trans rfl
                  have hcz33_10 : wr.cell? ⟨gb117, 10, none⟩ = some (.string a0_10) := (blk_cell BK117.out 10).trans rfl
                  have hfz33_0 := blk_frozen BK117.out 0
                  have hfz33_1 := blk_frozen BK117.out 1
                  have hfz33_2 := blk_frozen BK117.out 2
                  have hfz33_3 := blk_frozen BK117.out 3
                  have hfz33_4 := blk_frozen BK117.out 4
                  have hfz33_5 := blk_frozen BK117.out 5
                  have hfz33_6 := blk_frozen BK117.out 6
                  have hfz33_7 := blk_frozen BK117.out 7
                  have hfz33_8 := blk_frozen BK117.out 8
                  have hfz33_9 := blk_frozen BK117.out 9
                  have hfz33_10 := blk_frozen BK117.out 10
                  go_wp2_with (first | (go_at_call 51; (with_reducible refine (spec_printable.calls k1 a0_4 true true _ A19.out).mono ?_); rintro e w' ⟨rfl, ⟨nd, rfl⟩⟩) | (go_at_call 51; (with_reducible refine (spec_printable.calls k1 a0_5 true true _ A21.out).mono ?_); rintro e w' ⟨rfl, ⟨nd, rfl⟩⟩) | (go_at_call 51; (with_reducible refine (spec_printable.calls k1 a0_9 true false _ A23.out).mono ?_); rintro e w' ⟨rfl, ⟨nd, rfl⟩⟩))
                  go_meet
                  case rel => exact ⟨_, (true), (by first | rfl | (simp; done) | (simp [*]; done)), H', ⟨by have := HK1.out; first | omega | exact Nat.le_refl _⟩, ⟨by (with_reducible repeat (first | refine blk_drewN ?_ _ | refine blk_drew ?_ | refine blk_alloc ?_ _)); exact BK117.out⟩, ⟨by repeat (first | (with_reducible first | exact HB.out | apply below_alloc | apply pw_below_drewN | apply below_drew1 | refine below_set ?_ GE117.out) | exact HB.out)⟩⟩
              · replace c22 := Bool.eq_false_iff.mpr c22
                subst c22
                have H1 : (spec_mountValid.j1 k1 true a0_0 a0_1 a0_2 a0_3 a0_4 a0_5 a0_6 a0_7 a0_8 a0_9 a0_10) = some r := by rw [if_neg (show ¬ (false = true) by decide)] at H; exact H
                clear H
                have H := H1
                clear H1
                have H' := Aside0.mk H
                clear H
                have hcz34_0 : wr.cell? ⟨gb117, 0, none⟩ = some (.int .i64 a0_0) := (blk_cell BK117.out 0).trans rfl
                have hcz34_1 : wr.cell? ⟨gb117, 1, none⟩ = some (.int .i64 a0_1) := (blk_cell BK117.out 1).trans rfl
                have hcz34_2 : wr.cell? ⟨gb117, 2, none⟩ = some (.int .i64 a0_2) := (blk_cell BK117.out 2).trans rfl
                have hcz34_3 : wr.cell? ⟨gb117, 3, none⟩ = some (.int .i64 a0_3) := (blk_cell BK117.out 3).trans rfl
                have hcz34_4 : wr.cell? ⟨gb117, 4, none⟩ = some (.string a0_4) := (blk_cell BK117.out 4).trans rfl
                have hcz34_5 : wr.cell? ⟨gb117, 5, none⟩ = some (.string a0_5) := (blk_cell BK117.out 5).trans rfl
                have hcz34_6 : wr.cell? ⟨gb117, 6, none⟩ = some (.string a0_6) := (blk_cell BK117.out 6).trans rfl
                have hcz34_7 : wr.cell? ⟨gb117, 7, none⟩ = some (.string a0_7) := (blk_cell BK117.out 7).trans rfl
                have hcz34_8 : wr.cell? ⟨gb117, 8, none⟩ = some (.string a0_8) := (blk_cell BK117.out 8).trans rfl
                have hcz34_9 : wr.cell? ⟨gb117, 9, none⟩ = some (.string a0_9) := (blk_cell BK117.out 9).trans rfl
                have hcz34_10 : wr.cell? ⟨gb117, 10, none⟩ = some (.string a0_10) := (blk_cell BK117.out 10).trans rfl
                have hfz34_0 := blk_frozen BK117.out 0
                have hfz34_1 := blk_frozen BK117.out 1
                have hfz34_2 := blk_frozen BK117.out 2
                have hfz34_3 := blk_frozen BK117.out 3
                have hfz34_4 := blk_frozen BK117.out 4
                have hfz34_5 := blk_frozen BK117.out 5
                have hfz34_6 := blk_frozen BK117.out 6
                have hfz34_7 := blk_frozen BK117.out 7
                have hfz34_8 := blk_frozen BK117.out 8
                have hfz34_9 := blk_frozen BK117.out 9
                have hfz34_10 := blk_frozen BK117.out 10
                go_wp2_with (first | (go_at_call 51; (with_reducible refine (spec_printable.calls k1 a0_4 true true _ A19.out).mono ?_); rintro e w' ⟨rfl, ⟨nd, rfl⟩⟩) | (go_at_call 51; (with_reducible refine (spec_printable.calls k1 a0_5 true false _ A21.out).mono ?_); rintro e w' ⟨rfl, ⟨nd, rfl⟩⟩))
                go_meet
                case rel => exact ⟨_, (true), (by first | rfl | (simp; done) | (simp [*]; done)), H', ⟨by have := HK1.out; first | omega | exact Nat.le_refl _⟩, ⟨by (with_reducible repeat (first | refine blk_drewN ?_ _ | refine blk_drew ?_ | refine blk_alloc ?_ _)); exact BK117.out⟩, ⟨by repeat (first | (with_reducible first | exact HB.out | apply below_alloc | apply pw_below_drewN | apply below_drew1 | refine below_set ?_ GE117.out) | exact HB.out)⟩⟩
            · replace c20 := Bool.eq_false_iff.mpr c20
              subst c20
              have H1 : (spec_mountValid.j1 k1 true a0_0 a0_1 a0_2 a0_3 a0_4 a0_5 a0_6 a0_7 a0_8 a0_9 a0_10) = some r := by rw [if_neg (show ¬ (false = true) by decide)] at H; exact H
              clear H
              have H := H1
              clear H1
              have H' := Aside0.mk H
              clear H
              have hcz35_0 : wr.cell? ⟨gb117, 0, none⟩ = some (.int .i64 a0_0) := (blk_cell BK117.out 0).trans rfl
              have hcz35_1 : wr.cell? ⟨gb117, 1, none⟩ = some (.int .i64 a0_1) := (blk_cell BK117.out 1).trans rfl
              have hcz35_2 : wr.cell? ⟨gb117, 2, none⟩ = some (.int .i64 a0_2) := (blk_cell BK117.out 2).trans rfl
              have hcz35_3 : wr.cell? ⟨gb117, 3, none⟩ = some (.int .i64 a0_3) := (blk_cell BK117.out 3).trans rfl
              have hcz35_4 : wr.cell? ⟨gb117, 4, none⟩ = some (.string a0_4) := (blk_cell BK117.out 4).trans rfl
              have hcz35_5 : wr.cell? ⟨gb117, 5, none⟩ = some (.string a0_5) := (blk_cell BK117.out 5).trans rfl
              have hcz35_6 : wr.cell? ⟨gb117, 6, none⟩ = some (.string a0_6) := (blk_cell BK117.out 6).trans rfl
              have hcz35_7 : wr.cell? ⟨gb117, 7, none⟩ = some (.string a0_7) := (blk_cell BK117.out 7).trans rfl
              have hcz35_8 : wr.cell? ⟨gb117, 8, none⟩ = some (.string a0_8) := (blk_cell BK117.out 8).trans rfl
              have hcz35_9 : wr.cell? ⟨gb117, 9, none⟩ = some (.string a0_9) := (blk_cell BK117.out 9).trans rfl
              have hcz35_10 : wr.cell? ⟨gb117, 10, none⟩ = some (.string a0_10) := (blk_cell BK117.out 10).trans rfl
              have hfz35_0 := blk_frozen BK117.out 0
              have hfz35_1 := blk_frozen BK117.out 1
              have hfz35_2 := blk_frozen BK117.out 2
              have hfz35_3 := blk_frozen BK117.out 3
              have hfz35_4 := blk_frozen BK117.out 4
              have hfz35_5 := blk_frozen BK117.out 5
              have hfz35_6 := blk_frozen BK117.out 6
              have hfz35_7 := blk_frozen BK117.out 7
              have hfz35_8 := blk_frozen BK117.out 8
              have hfz35_9 := blk_frozen BK117.out 9
              have hfz35_10 := blk_frozen BK117.out 10
              go_wp2_with (first | (go_at_call 51; (with_reducible refine (spec_printable.calls k1 a0_4 true false _ A19.out).mono ?_); rintro e w' ⟨rfl, ⟨nd, rfl⟩⟩))
              go_meet
              case rel => exact ⟨_, (true), (by first | rfl | (simp; done) | (simp [*]; done)), H', ⟨by have := HK1.out; first | omega | exact Nat.le_refl _⟩, ⟨by (with_reducible repeat (first | refine blk_drewN ?_ _ | refine blk_drew ?_ | refine blk_alloc ?_ _)); exact BK117.out⟩, ⟨by repeat (first | (with_reducible first | exact HB.out | apply below_alloc | apply pw_below_drewN | apply below_drew1 | refine below_set ?_ GE117.out) | exact HB.out)⟩⟩
     case rest =>
      clear HC12
      try clear c1
      try clear p1
      try clear q1
      try clear hx1
      try clear c2
      try clear p2
      try clear c3
      try clear p6
      try clear c7
      try clear c7b0
      try clear c8
      try clear c8b0
      try clear c9
      try clear c9b0
      try clear c10
      try clear c10b0
      try clear c11
      try clear c11b0
      try clear p12
      try clear q12
      try clear hx12
      try clear c13
      try clear c13b0
      try clear c13b1
      try clear c15
      try clear c15b0
      try clear c15b1
      try clear c17
      try clear c17b0
      try clear c17b1
      try clear c20
      try clear c22
      try clear c24
      try clear c26
      try clear c28
      try clear c31
      try clear hcz14_0
      try clear hcz14_1
      try clear hcz14_10
      try clear hcz14_2
      try clear hcz14_3
      try clear hcz14_4
      try clear hcz14_5
      try clear hcz14_6
      try clear hcz14_7
      try clear hcz14_8
      try clear hcz14_9
      try clear hcz16_0
      try clear hcz16_1
      try clear hcz16_10
      try clear hcz16_2
      try clear hcz16_3
      try clear hcz16_4
      try clear hcz16_5
      try clear hcz16_6
      try clear hcz16_7
      try clear hcz16_8
      try clear hcz16_9
      try clear hcz18_0
      try clear hcz18_1
      try clear hcz18_10
      try clear hcz18_2
      try clear hcz18_3
      try clear hcz18_4
      try clear hcz18_5
      try clear hcz18_6
      try clear hcz18_7
      try clear hcz18_8
      try clear hcz18_9
      try clear hcz30_0
      try clear hcz30_1
      try clear hcz30_10
      try clear hcz30_2
      try clear hcz30_3
      try clear hcz30_4
      try clear hcz30_5
      try clear hcz30_6
      try clear hcz30_7
      try clear hcz30_8
      try clear hcz30_9
      try clear hcz31_0
      try clear hcz31_1
      try clear hcz31_10
      try clear hcz31_2
      try clear hcz31_3
      try clear hcz31_4
      try clear hcz31_5
      try clear hcz31_6
      try clear hcz31_7
      try clear hcz31_8
      try clear hcz31_9
      try clear hcz32_0
      try clear hcz32_1
      try clear hcz32_10
      try clear hcz32_2
      try clear hcz32_3
      try clear hcz32_4
      try clear hcz32_5
      try clear hcz32_6
      try clear hcz32_7
      try clear hcz32_8
      try clear hcz32_9
      try clear hcz33_0
      try clear hcz33_1
      try clear hcz33_10
      try clear hcz33_2
      try clear hcz33_3
      try clear hcz33_4
      try clear hcz33_5
      try clear hcz33_6
      try clear hcz33_7
      try clear hcz33_8
      try clear hcz33_9
      try clear hcz34_0
      try clear hcz34_1
      try clear hcz34_10
      try clear hcz34_2
      try clear hcz34_3
      try clear hcz34_4
      try clear hcz34_5
      try clear hcz34_6
      try clear hcz34_7
      try clear hcz34_8
      try clear hcz34_9
      try clear hcz35_0
      try clear hcz35_1
      try clear hcz35_10
      try clear hcz35_2
      try clear hcz35_3
      try clear hcz35_4
      try clear hcz35_5
      try clear hcz35_6
      try clear hcz35_7
      try clear hcz35_8
      try clear hcz35_9
      try clear hcz3_0
      try clear hcz3_1
      try clear hcz3_10
      try clear hcz3_2
      try clear hcz3_3
      try clear hcz3_4
      try clear hcz3_5
      try clear hcz3_6
      try clear hcz3_7
      try clear hcz3_8
      try clear hcz3_9
      try clear hfz14_0
      try clear hfz14_1
      try clear hfz14_10
      try clear hfz14_2
      try clear hfz14_3
      try clear hfz14_4
      try clear hfz14_5
      try clear hfz14_6
      try clear hfz14_7
      try clear hfz14_8
      try clear hfz14_9
      try clear hfz16_0
      try clear hfz16_1
      try clear hfz16_10
      try clear hfz16_2
      try clear hfz16_3
      try clear hfz16_4
      try clear hfz16_5
      try clear hfz16_6
      try clear hfz16_7
      try clear hfz16_8
      try clear hfz16_9
      try clear hfz18_0
      try clear hfz18_1
      try clear hfz18_10
      try clear hfz18_2
      try clear hfz18_3
      try clear hfz18_4
      try clear hfz18_5
      try clear hfz18_6
      try clear hfz18_7
      try clear hfz18_8
      try clear hfz18_9
      try clear hfz30_0
      try clear hfz30_1
      try clear hfz30_10
      try clear hfz30_2
      try clear hfz30_3
      try clear hfz30_4
      try clear hfz30_5
      try clear hfz30_6
      try clear hfz30_7
      try clear hfz30_8
      try clear hfz30_9
      try clear hfz31_0
      try clear hfz31_1
      try clear hfz31_10
      try clear hfz31_2
      try clear hfz31_3
      try clear hfz31_4
      try clear hfz31_5
      try clear hfz31_6
      try clear hfz31_7
      try clear hfz31_8
      try clear hfz31_9
      try clear hfz32_0
      try clear hfz32_1
      try clear hfz32_10
      try clear hfz32_2
      try clear hfz32_3
      try clear hfz32_4
      try clear hfz32_5
      try clear hfz32_6
      try clear hfz32_7
      try clear hfz32_8
      try clear hfz32_9
      try clear hfz33_0
      try clear hfz33_1
      try clear hfz33_10
      try clear hfz33_2
      try clear hfz33_3
      try clear hfz33_4
      try clear hfz33_5
      try clear hfz33_6
      try clear hfz33_7
      try clear hfz33_8
      try clear hfz33_9
      try clear hfz34_0
      try clear hfz34_1
      try clear hfz34_10
      try clear hfz34_2
      try clear hfz34_3
      try clear hfz34_4
      try clear hfz34_5
      try clear hfz34_6
      try clear hfz34_7
      try clear hfz34_8
      try clear hfz34_9
      try clear hfz35_0
      try clear hfz35_1
      try clear hfz35_10
      try clear hfz35_2
      try clear hfz35_3
      try clear hfz35_4
      try clear hfz35_5
      try clear hfz35_6
      try clear hfz35_7
      try clear hfz35_8
      try clear hfz35_9
      try clear hfz3_0
      try clear hfz3_1
      try clear hfz3_10
      try clear hfz3_2
      try clear hfz3_3
      try clear hfz3_4
      try clear hfz3_5
      try clear hfz3_6
      try clear hfz3_7
      try clear hfz3_8
      try clear hfz3_9
      try clear hx121_0
      try clear p121
      try clear p2
      try clear q121
      obtain ⟨kq, x76_11, rfl, HA, HJ11, BK117, HB⟩ := hcut
      cases kq with
      | zero => exact absurd HA.out (by simp [spec_mountValid.j1])
      | succ kj11 =>
       have H := HA.out
       clear HA
       simp only [spec_mountValid.j1] at H
       by_cases c36 : x76_11 = true
       · subst c36
         have H1 : (some false) = some r := by rw [if_pos rfl] at H; exact H
         clear H
         have H := H1
         clear H1
         obtain rfl := Option.some.inj H
         go_wp2
         go_ret
         exact ⟨by first | rfl | (simp [errW_none, errW_some] <;> rfl) | (simp [*, errW_none, errW_some] <;> rfl), by repeat (first | (with_reducible first | exact HB.out | apply below_alloc | apply pw_below_drewN | apply below_drew1 | refine below_set ?_ GE117.out) | exact HB.out)⟩
       · replace c36 := Bool.eq_false_iff.mpr c36
         subst c36
         have H1 : (if a0_7.toList = ([] : List UInt8) then (some true) else ((spec_fields.f kj11 a0_7).bind fun t128 => (spec_mountValid.l1 kj11 t128 (t128.length : Int) 0))) = some r := by rw [if_neg (show ¬ (false = true) by decide)] at H; exact H
         clear H
         have H := H1
         clear H1
         by_cases c37 : a0_7.toList = ([] : List UInt8)
         · rw [if_pos c37] at H
           have c37b0 : (a0_7.toList == ([] : List UInt8)) = true := beq_iff_eq.mpr c37
           have c37b1 : (a0_7.toList != ([] : List UInt8)) = false := bne_eq_false_iff_eq.mpr c37
           clear c37
           obtain rfl := Option.some.inj H
           have hcz38_0 : wc.cell? ⟨gb117, 0, none⟩ = some (.int .i64 a0_0) := (blk_cell BK117.out 0).trans rfl
           have hcz38_1 : wc.cell? ⟨gb117, 1, none⟩ = some (.int .i64 a0_1) := (blk_cell BK117.out 1).trans rfl
           have hcz38_2 : wc.cell? ⟨gb117, 2, none⟩ = some (.int .i64 a0_2) := (blk_cell BK117.out 2).trans rfl
           have hcz38_3 : wc.cell? ⟨gb117, 3, none⟩ = some (.int .i64 a0_3) := (blk_cell BK117.out 3).trans rfl
           have hcz38_4 : wc.cell? ⟨gb117, 4, none⟩ = some (.string a0_4) := (blk_cell BK117.out 4).trans rfl
           have hcz38_5 : wc.cell? ⟨gb117, 5, none⟩ = some (.string a0_5) := (blk_cell BK117.out 5).trans rfl
           have hcz38_6 : wc.cell? ⟨gb117, 6, none⟩ = some (.string a0_6) := (blk_cell BK117.out 6).trans rfl
           have hcz38_7 : wc.cell? ⟨gb117, 7, none⟩ = some (.string a0_7) := (blk_cell BK117.out 7).trans rfl
           have hcz38_8 : wc.cell? ⟨gb117, 8, none⟩ = some (.string a0_8) := (blk_cell BK117.out 8).trans rfl
           have hcz38_9 : wc.cell? ⟨gb117, 9, none⟩ = some (.string a0_9) := (blk_cell BK117.out 9).trans rfl
           have hcz38_10 : wc.cell? ⟨gb117, 10, none⟩ = some (.string a0_10) := (blk_cell BK117.out 10).trans rfl
           have hfz38_0 := blk_frozen BK117.out 0
           have hfz38_1 := blk_frozen BK117.out 1
           have hfz38_2 := blk_frozen BK117.out 2
           have hfz38_3 := blk_frozen BK117.out 3
           have hfz38_4 := blk_frozen BK117.out 4
           have hfz38_5 := blk_frozen BK117.out 5
           have hfz38_6 := blk_frozen BK117.out 6
           have hfz38_7 := blk_frozen BK117.out 7
           have hfz38_8 := blk_frozen BK117.out 8
           have hfz38_9 := blk_frozen BK117.out 9
           have hfz38_10 := blk_frozen BK117.out 10
           go_wp2
           go_ret
           exact ⟨by first | rfl | (simp [errW_none, errW_some] <;> rfl) | (simp [*, errW_none, errW_some] <;> rfl), by repeat (first | (with_reducible first | exact HB.out | apply below_alloc | apply pw_below_drewN | apply below_drew1 | refine below_set ?_ GE117.out) | exact HB.out)⟩
         · rw [if_neg c37] at H
           have c37b0 : (a0_7.toList == ([] : List UInt8)) = false := beq_eq_false_iff_ne.mpr c37
           have c37b1 : (a0_7.toList != ([] : List UInt8)) = true := bne_iff_ne.mpr c37
           replace H := Option.bind_eq_some_iff.mp H
           obtain ⟨t128, A390, H⟩ := H
           replace H : (spec_mountValid.l1 kj11 t128 (t128.length : Int) 0) = some r := H
           have A39 := Aside0.mk A390
           clear A390
           have H' := Aside0.mk H
           clear H
           have hcz40_0 : wc.cell? ⟨gb117, 0, none⟩ = some (.int .i64 a0_0) := (blk_cell BK117.out 0).trans rfl
           have hcz40_1 : wc.cell? ⟨gb117, 1, none⟩ = some (.int .i64 a0_1) := (blk_cell BK117.out 1).trans rfl
           have hcz40_2 : wc.cell? ⟨gb117, 2, none⟩ = some (.int .i64 a0_2) := (blk_cell BK117.out 2).trans rfl
           have hcz40_3 : wc.cell? ⟨gb117, 3, none⟩ = some (.int .i64 a0_3) := (blk_cell BK117.out 3).trans rfl
           have hcz40_4 : wc.cell? ⟨gb117, 4, none⟩ = some (.string a0_4) := (blk_cell BK117.out 4).trans rfl
           have hcz40_5 : wc.cell? ⟨gb117, 5, none⟩ = some (.string a0_5) := (blk_cell BK117.out 5).trans rfl
           have hcz40_6 : wc.cell? ⟨gb117, 6, none⟩ = some (.string a0_6) := (blk_cell BK117.out 6).trans rfl
           have hcz40_7 : wc.cell? ⟨gb117, 7, none⟩ = some (.string a0_7) := (blk_cell BK117.out 7).trans rfl
           have hcz40_8 : wc.cell? ⟨gb117, 8, none⟩ = some (.string a0_8) := (blk_cell BK117.out 8).trans rfl
           have hcz40_9 : wc.cell? ⟨gb117, 9, none⟩ = some (.string a0_9) := (blk_cell BK117.out 9).trans rfl
           have hcz40_10 : wc.cell? ⟨gb117, 10, none⟩ = some (.string a0_10) := (blk_cell BK117.out 10).trans rfl
           have hfz40_0 := blk_frozen BK117.out 0
           have hfz40_1 := blk_frozen BK117.out 1
           have hfz40_2 := blk_frozen BK117.out 2
           have hfz40_3 := blk_frozen BK117.out 3
           have hfz40_4 := blk_frozen BK117.out 4
           have hfz40_5 := blk_frozen BK117.out 5
           have hfz40_6 := blk_frozen BK117.out 6
           have hfz40_7 := blk_frozen BK117.out 7
           have hfz40_8 := blk_frozen BK117.out 8
           have hfz40_9 := blk_frozen BK117.out 9
           have hfz40_10 := blk_frozen BK117.out 10
           go_wp2_with (first | ((with_reducible refine gate_callee (f := 53) rfl ?_); refine goesL_ (some 82) rfl rfl Tryd.func53 (by kernel_rfl) rfl #[.string a0_7] rfl (by (try simp only [List.map_toArray, List.map_cons, List.map_nil]); first | done | rfl | (simp only [List.length_drop, List.length_take]; rfl)) ?_; (with_reducible refine (spec_fields.calls kj11 a0_7 t128 _ A39.out).mono ?_); rintro e w41 ⟨v129, rfl, ho0, hb⟩; refine ⟨_, rfl, ?_⟩; have n0_ := Aside0.mk (Kd.R_lower ho0 (below_size (by repeat (first | (with_reducible first | exact HB.out | apply below_alloc | apply pw_below_drewN | apply below_drew1 | refine below_set ?_ GE117.out) | exact HB.out)))); have n1_ := Aside0.mk (blk_below (g := gb117) (o := .cells #[.int .i64 a0_0, .int .i64 a0_1, .int .i64 a0_2, .int .i64 a0_3, .string a0_4, .string a0_5, .string a0_6, .string a0_7, .string a0_8, .string a0_9, .string a0_10] 63 (0, 0)) (by (with_reducible repeat (first | refine blk_drewN ?_ _ | refine blk_drew ?_ | refine blk_alloc ?_ _)); exact BK117.out) hb); have n2_ := Aside0.mk (below_step (by repeat (first | (with_reducible first | exact HB.out | apply below_alloc | apply pw_below_drewN | apply below_drew1 | refine below_set ?_ GE117.out) | exact HB.out)) hb); clear BK117; clear HB; have HO130 := n0_; have BK117 := n1_; have HB := n2_; clear n0_ n1_ n2_; (try clear hb); (try clear hb2); (try clear hk); (try clear hi); (try clear ho0); obtain ⟨Ao42, co42, eo42⟩ := Kd.R_slice HO130.out; subst eo42))
           go_loopg [84] kj11 (fun kq v84 w' => ∃ (x84_3 : Int), v84 = .int .i64 x84_3 ∧ Aside0 (spec_mountValid.l1 kq t128 (t128.length : Int) x84_3 = some r) ∧ Aside0 (kq ≤ kj11) ∧ Aside0 (Kd.R Kd.string 9 w' w.heap.size (fun _ => True) (.slice Ao42 t128.length co42) t128) ∧ Aside0 (w'.heap[gb117]? = some (.cells #[.int .i64 a0_0, .int .i64 a0_1, .int .i64 a0_2, .int .i64 a0_3, .string a0_4, .string a0_5, .string a0_6, .string a0_7, .string a0_8, .string a0_9, .string a0_10] 63 (0, 0))) ∧ Aside0 (Below w.heap.size w w'))
           case atStart => exact ⟨(0), (by first | rfl | (simp; done) | (simp [*]; done)), H', ⟨Nat.le_refl _⟩, ⟨by (with_reducible repeat (first | apply Kd.R_alloc | apply Kd.R_drewN | apply Kd.R_drew)); exact HO130.out⟩, ⟨by (with_reducible repeat (first | refine blk_drewN ?_ _ | refine blk_drew ?_ | refine blk_alloc ?_ _)); exact BK117.out⟩, ⟨by repeat (first | (with_reducible first | exact HB.out | apply below_alloc | apply pw_below_drewN | apply below_drew1 | refine below_set ?_ GE117.out) | exact HB.out)⟩⟩
           case round =>
            clear H'
            try clear c1
            try clear p1
            try clear q1
            try clear hx1
            try clear c2
            try clear p2
            try clear c3
            try clear c5
            try clear p6
            try clear c7
            try clear c7b0
            try clear c8
            try clear c8b0
            try clear c9
            try clear c9b0
            try clear c10
            try clear c10b0
            try clear c11
            try clear c11b0
            try clear p12
            try clear q12
            try clear hx12
            try clear c13
            try clear c13b0
            try clear c13b1
            try clear c15
            try clear c15b0
            try clear c15b1
            try clear c17
            try clear c17b0
            try clear c17b1
            try clear c20
            try clear c22
            try clear c24
            try clear c26
            try clear c28
            try clear c31
            try clear c36
            try clear c37
            try clear c37b0
            try clear c37b1
            try clear hcz14_0
            try clear hcz14_1
            try clear hcz14_10
            try clear hcz14_2
            try clear hcz14_3
            try clear hcz14_4
            try clear hcz14_5
            try clear hcz14_6
            try clear hcz14_7
            try clear hcz14_8
            try clear hcz14_9
            try clear hcz16_0
            try clear hcz16_1
            try clear hcz16_10
            try clear hcz16_2
            try clear hcz16_3
            try clear hcz16_4
            try clear hcz16_5
            try clear hcz16_6
            try clear hcz16_7
            try clear hcz16_8
            try clear hcz16_9
            try clear hcz18_0
            try clear hcz18_1
            try clear hcz18_10
            try clear hcz18_2
            try clear hcz18_3
            try clear hcz18_4
            try clear hcz18_5
            try clear hcz18_6
            try clear hcz18_7
            try clear hcz18_8
            try clear hcz18_9
            try clear hcz30_0
            try clear hcz30_1
            try clear hcz30_10
            try clear hcz30_2
            try clear hcz30_3
            try clear hcz30_4
            try clear hcz30_5
            try clear hcz30_6
            try clear hcz30_7
            try clear hcz30_8
            try clear hcz30_9
            try clear hcz31_0
            try clear hcz31_1
            try clear hcz31_10
            try clear hcz31_2
            try clear hcz31_3
            try clear hcz31_4
            try clear hcz31_5
            try clear hcz31_6
            try clear hcz31_7
            try clear hcz31_8
            try clear hcz31_9
            try clear hcz32_0
            try clear hcz32_1
            try clear hcz32_10
            try clear hcz32_2
            try clear hcz32_3
            try clear hcz32_4
            try clear hcz32_5
            try clear hcz32_6
            try clear hcz32_7
            try clear hcz32_8
            try clear hcz32_9
            try clear hcz33_0
            try clear hcz33_1
            try clear hcz33_10
            try clear hcz33_2
            try clear hcz33_3
            try clear hcz33_4
            try clear hcz33_5
            try clear hcz33_6
            try clear hcz33_7
            try clear hcz33_8
            try clear hcz33_9
            try clear hcz34_0
            try clear hcz34_1
            try clear hcz34_10
            try clear hcz34_2
            try clear hcz34_3
            try clear hcz34_4
            try clear hcz34_5
            try clear hcz34_6
            try clear hcz34_7
            try clear hcz34_8
            try clear hcz34_9
            try clear hcz35_0
            try clear hcz35_1
            try clear hcz35_10
            try clear hcz35_2
            try clear hcz35_3
            try clear hcz35_4
            try clear hcz35_5
            try clear hcz35_6
            try clear hcz35_7
            try clear hcz35_8
            try clear hcz35_9
            try clear hcz38_0
            try clear hcz38_1
            try clear hcz38_10
            try clear hcz38_2
            try clear hcz38_3
            try clear hcz38_4
            try clear hcz38_5
            try clear hcz38_6
            try clear hcz38_7
            try clear hcz38_8
            try clear hcz38_9
            try clear hcz3_0
            try clear hcz3_1
            try clear hcz3_10
            try clear hcz3_2
            try clear hcz3_3
            try clear hcz3_4
            try clear hcz3_5
            try clear hcz3_6
            try clear hcz3_7
            try clear hcz3_8
            try clear hcz3_9
            try clear hcz40_0
            try clear hcz40_1
            try clear hcz40_10
            try clear hcz40_2
            try clear hcz40_3
            try clear hcz40_4
            try clear hcz40_5
            try clear hcz40_6
            try clear hcz40_7
            try clear hcz40_8
            try clear hcz40_9
            try clear hfz14_0
            try clear hfz14_1
            try clear hfz14_10
            try clear hfz14_2
            try clear hfz14_3
            try clear hfz14_4
            try clear hfz14_5
            try clear hfz14_6
            try clear hfz14_7
            try clear hfz14_8
            try clear hfz14_9
            try clear hfz16_0
            try clear hfz16_1
            try clear hfz16_10
            try clear hfz16_2
            try clear hfz16_3
            try clear hfz16_4
            try clear hfz16_5
            try clear hfz16_6
            try clear hfz16_7
            try clear hfz16_8
            try clear hfz16_9
            try clear hfz18_0
            try clear hfz18_1
            try clear hfz18_10
            try clear hfz18_2
            try clear hfz18_3
            try clear hfz18_4
            try clear hfz18_5
            try clear hfz18_6
            try clear hfz18_7
            try clear hfz18_8
            try clear hfz18_9
            try clear hfz30_0
            try clear hfz30_1
            try clear hfz30_10
            try clear hfz30_2
            try clear hfz30_3
            try clear hfz30_4
            try clear hfz30_5
            try clear hfz30_6
            try clear hfz30_7
            try clear hfz30_8
            try clear hfz30_9
            try clear hfz31_0
            try clear hfz31_1
            try clear hfz31_10
            try clear hfz31_2
            try clear hfz31_3
            try clear hfz31_4
            try clear hfz31_5
            try clear hfz31_6
            try clear hfz31_7
            try clear hfz31_8
            try clear hfz31_9
            try clear hfz32_0
            try clear hfz32_1
            try clear hfz32_10
            try clear hfz32_2
            try clear hfz32_3
            try clear hfz32_4
            try clear hfz32_5
            try clear hfz32_6
            try clear hfz32_7
            try clear hfz32_8
            try clear hfz32_9
            try clear hfz33_0
            try clear hfz33_1
            try clear hfz33_10
            try clear hfz33_2
            try clear hfz33_3
            try clear hfz33_4
            try clear hfz33_5
            try clear hfz33_6
            try clear hfz33_7
            try clear hfz33_8
            try clear hfz33_9
            try clear hfz34_0
            try clear hfz34_1
            try clear hfz34_10
            try clear hfz34_2
            try clear hfz34_3
            try clear hfz34_4
            try clear hfz34_5
            try clear hfz34_6
            try clear hfz34_7
            try clear hfz34_8
            try clear hfz34_9
            try clear hfz35_0
            try clear hfz35_1
            try clear hfz35_10
            try clear hfz35_2
            try clear hfz35_3
            try clear hfz35_4
            try clear hfz35_5
            try clear hfz35_6
            try clear hfz35_7
            try clear hfz35_8
            try clear hfz35_9
            try clear hfz38_0
            try clear hfz38_1
            try clear hfz38_10
            try clear hfz38_2
            try clear hfz38_3
            try clear hfz38_4
            try clear hfz38_5
            try clear hfz38_6
            try clear hfz38_7
            try clear hfz38_8
            try clear hfz38_9
            try clear hfz3_0
            try clear hfz3_1
            try clear hfz3_10
            try clear hfz3_2
            try clear hfz3_3
            try clear hfz3_4
            try clear hfz3_5
            try clear hfz3_6
            try clear hfz3_7
            try clear hfz3_8
            try clear hfz3_9
            try clear hfz40_0
            try clear hfz40_1
            try clear hfz40_10
            try clear hfz40_2
            try clear hfz40_3
            try clear hfz40_4
            try clear hfz40_5
            try clear hfz40_6
            try clear hfz40_7
            try clear hfz40_8
            try clear hfz40_9
            try clear hx121_0
            try clear p1
            try clear p12
            try clear p121
            try clear p2
            try clear p6
            try clear q1
            try clear q12
            try clear q121
            obtain ⟨x84_3, rfl, HA, HK3, HO_82, BK117, HB⟩ := hrel
            cases gk with
            | zero => exact absurd HA.out (by simp [spec_mountValid.l1])
            | succ k3 =>
             have H := HA.out
             clear HA
             simp only [spec_mountValid.l1] at H
             by_cases c43 : x84_3 < (t128.length : Int)
             · rw [if_pos c43] at H
               have c43b0 : decide (x84_3 < (t128.length : Int)) = true := decide_eq_true c43
               clear c43
               by_cases c44 : 0 ≤ x84_3
               · rw [if_pos c44] at H
                 have c44b0 : decide (0 ≤ x84_3) = true := decide_eq_true c44
                 clear c44
                 by_cases c45 : x84_3 < (t128.length : Int)
                 · rw [if_pos c45] at H
                   have c45b0 : decide (x84_3 < (t128.length : Int)) = true := decide_eq_true c45
                   clear c45
                   replace H := Option.bind_eq_some_iff.mp H
                   obtain ⟨t132, A460, H⟩ := H
                   (try dsimp only at H)
                   have A46 := Aside0.mk A460
                   clear A460
                   by_cases c47 : t132 = true
                   · subst c47
                     rw [if_pos rfl] at H
                     have H1 := H
                     clear H
                     have H := H1
                     clear H1
                     by_cases c48 : (rdOf ByteArray.empty t128 x84_3).toList = ([45] : List UInt8)
                     · rw [if_pos c48] at H
                       have c48b0 : ((rdOf ByteArray.empty t128 x84_3).toList == ([45] : List UInt8)) = true := beq_iff_eq.mpr c48
                       have c48b1 : ((rdOf ByteArray.empty t128 x84_3).toList != ([45] : List UInt8)) = false := bne_eq_false_iff_eq.mpr c48
                       clear c48
                       obtain rfl := Option.some.inj H
                       have p131 : 0 ≤ (x84_3 : Int) := of_decide_eq_true (by first | (with_reducible assumption) | assumption)
                       have q131 : x84_3 < (t128.length : Int) := of_decide_eq_true (by first | (with_reducible assumption) | assumption)
                       obtain ⟨ad131, e131, hx131_0⟩ := Kd.at_string (Kd.R_reads' HO_82.out).2.2 x84_3 p131 q131
                       cases e131
                       replace p131 := eq_true p131
                       replace q131 := eq_true q131
                       go_wp2_with (first | ((with_reducible refine gate_callee (f := 52) rfl ?_); refine goesL_ (some 89) rfl rfl Tryd.func52 (by kernel_rfl) rfl #[.string (rdOf ByteArray.empty t128 x84_3)] rfl (by (try simp only [List.map_toArray, List.map_cons, List.map_nil]); first | done | rfl | (simp only [List.length_drop, List.length_take]; rfl)) ?_; (with_reducible refine (spec_word.calls k3 (rdOf ByteArray.empty t128 x84_3) true _ A46.out).mono ?_); rintro e w' ⟨rfl, ⟨nd, rfl⟩⟩; refine ⟨_, rfl, ?_⟩))
                       go_ret
                       exact ⟨by first | rfl | (simp [errW_none, errW_some] <;> rfl) | (simp [*, errW_none, errW_some] <;> rfl), by repeat (first | (with_reducible first | exact HB.out | apply below_alloc | apply pw_below_drewN | apply below_drew1 | refine below_set ?_ GE117.out) | exact HB.out)⟩
                     · rw [if_neg c48] at H
                       have c48b0 : ((rdOf ByteArray.empty t128 x84_3).toList == ([45] : List UInt8)) = false := beq_eq_false_iff_ne.mpr c48
                       have c48b1 : ((rdOf ByteArray.empty t128 x84_3).toList != ([45] : List UInt8)) = true := bne_iff_ne.mpr c48
                       have H' := Aside0.mk H
                       clear H
                       have p131 : 0 ≤ (x84_3 : Int) := of_decide_eq_true (by first | (with_reducible assumption) | assumption)
                       have q131 : x84_3 < (t128.length : Int) := of_decide_eq_true (by first | (with_reducible assumption) | assumption)
                       obtain ⟨ad131, e131, hx131_0⟩ := Kd.at_string (Kd.R_reads' HO_82.out).2.2 x84_3 p131 q131
                       cases e131
                       replace p131 := eq_true p131
                       replace q131 := eq_true q131
                       go_wp2_with (first | ((with_reducible refine gate_callee (f := 52) rfl ?_); refine goesL_ (some 89) rfl rfl Tryd.func52 (by kernel_rfl) rfl #[.string (rdOf ByteArray.empty t128 x84_3)] rfl (by (try simp only [List.map_toArray, List.map_cons, List.map_nil]); first | done | rfl | (simp only [List.length_drop, List.length_take]; rfl)) ?_; (with_reducible refine (spec_word.calls k3 (rdOf ByteArray.empty t128 x84_3) true _ A46.out).mono ?_); rintro e w' ⟨rfl, ⟨nd, rfl⟩⟩; refine ⟨_, rfl, ?_⟩))
                       go_roundg k3
                       case measure => have := HK1.out; have := HJ11.out; have := HK3.out; omega
                       case rel => exact ⟨(wrap64 (x84_3 + 1)), (by first | rfl | (simp; done) | (simp [*]; done)), H', ⟨by have := HK1.out; have := HJ11.out; have := HK3.out; omega⟩, ⟨by (with_reducible repeat (first | apply Kd.R_alloc | apply Kd.R_drewN | apply Kd.R_drew)); exact HO_82.out⟩, ⟨by (with_reducible repeat (first | refine blk_drewN ?_ _ | refine blk_drew ?_ | refine blk_alloc ?_ _)); exact BK117.out⟩, ⟨by repeat (first | (with_reducible first | exact HB.out | apply below_alloc | apply pw_below_drewN | apply below_drew1 | refine below_set ?_ GE117.out) | exact HB.out)⟩⟩
                   · replace c47 := Bool.eq_false_iff.mpr c47
                     subst c47
                     have H1 : (some false) = some r := by rw [if_neg (show ¬ (false = true) by decide)] at H; exact H
                     clear H
                     have H := H1
                     clear H1
                     obtain rfl := Option.some.inj H
                     have p131 : 0 ≤ (x84_3 : Int) := of_decide_eq_true (by first | (with_reducible assumption) | assumption)
                     have q131 : x84_3 < (t128.length : Int) := of_decide_eq_true (by first | (with_reducible assumption) | assumption)
                     obtain ⟨ad131, e131, hx131_0⟩ := Kd.at_string (Kd.R_reads' HO_82.out).2.2 x84_3 p131 q131
                     cases e131
                     replace p131 := eq_true p131
                     replace q131 := eq_true q131
                     go_wp2_with (first | ((with_reducible refine gate_callee (f := 52) rfl ?_); refine goesL_ (some 89) rfl rfl Tryd.func52 (by kernel_rfl) rfl #[.string (rdOf ByteArray.empty t128 x84_3)] rfl (by (try simp only [List.map_toArray, List.map_cons, List.map_nil]); first | done | rfl | (simp only [List.length_drop, List.length_take]; rfl)) ?_; (with_reducible refine (spec_word.calls k3 (rdOf ByteArray.empty t128 x84_3) false _ A46.out).mono ?_); rintro e w' ⟨rfl, ⟨nd, rfl⟩⟩; refine ⟨_, rfl, ?_⟩))
                     go_ret
                     exact ⟨by first | rfl | (simp [errW_none, errW_some] <;> rfl) | (simp [*, errW_none, errW_some] <;> rfl), by repeat (first | (with_reducible first | exact HB.out | apply below_alloc | apply pw_below_drewN | apply below_drew1 | refine below_set ?_ GE117.out) | exact HB.out)⟩
                 · rw [if_neg c45] at H
                   exact absurd H (by simp)
               · rw [if_neg c44] at H
                 exact absurd H (by simp)
             · rw [if_neg c43] at H
               have c43b0 : decide (x84_3 < (t128.length : Int)) = false := decide_eq_false c43
               clear c43
               obtain rfl := Option.some.inj H
               go_wp2
               go_ret
               exact ⟨by first | rfl | (simp [errW_none, errW_some] <;> rfl) | (simp [*, errW_none, errW_some] <;> rfl), by repeat (first | (with_reducible first | exact HB.out | apply below_alloc | apply pw_below_drewN | apply below_drew1 | refine below_set ?_ GE117.out) | exact HB.out)⟩
end Go.Proofs.YtcpldcndhijecaaDoor.QM0
namespace Go.Proofs.YtcpldcndhijecaaDoor.QM0
open Go.RowKit Go.Proofs.YtcpldcndhijecaaDoorW.PrintWords Go.Proofs.YtcpldcndhijecaaDoorW.PrintLast Go.Proofs.YtcpldcndhijecaaDoorW.PrintMore
attribute [local go_sem] max2_int min2_int max_two min_two max_three min_three max_four min_four
set_option linter.unusedVariables false
set_option linter.unusedSimpArgs false
def spec_natural.f : Nat → Int → Option (ByteArray)
 | 0, _ => none
 | k + 1, a0 => if a0 < 10 then (some (strOfNums (([(wrap64 (48 + a0)) % 256] : List Int)))) else ((spec_natural.f k (wrap64 (Int.tdiv a0 10))).bind fun t136 => ((some (([(wrap64 (48 + (Int.tmod a0 10))) % 256] : List Int) : List Int)).bind fun y137 => (if t136.size + (strOfNums y137).size ≤ 9223372036854775807 then (some (t136 ++ (strOfNums y137))) else (none))))
def spec_natural.T3 : Bool × List (List Nat × List Nat) := (true, [([], []), ([0], [0]), ([1], [1]), ([], []), ([3], [3]), ([4], [4]), ([5], [5]), ([6], [6]), ([7], [7]), ([2, 8], [2, 8]), ([9, 2, 0, 1, 2, 3, 4, 5, 6, 7, 8, 9], [9])])
def spec_natural.B3 : List Nat := [0, 1, 3, 0, 8, 24, 56, 120, 248, 511, 1023]
theorem spec_natural.tab3 : rtab .any (opsOf Tryd.f32 3) = spec_natural.T3 := by kernel_rfl
theorem spec_natural.bits3 : waitsOk spec_natural.T3.2 spec_natural.B3 = true := by kernel_rfl
set_option maxHeartbeats 8000000 in
set_option maxRecDepth 100000 in
theorem spec_natural.calls (k : Nat) : ∀ (a0 : Int) (r : ByteArray) (w : World) (h : spec_natural.f k a0 = some r),
 Calls Tryd.prog 32 #[.int .i64 a0] w fun e w' => e = .returned (.string r) ∧ Below w.heap.size w w' := by
 induction k using Nat.strongRecOn with
 | _ k ih =>
 intro a0 r w h
 cases k with
 | zero => exact absurd h (by simp [spec_natural.f])
 | succ k =>
 simp only [spec_natural.f] at h
 have HB := Aside0.mk (Below.refl w.heap.size w)
 have H : (if a0 < 10 then (some (strOfNums (([(wrap64 (48 + a0)) % 256] : List Int)))) else ((spec_natural.f k (wrap64 (Int.tdiv a0 10))).bind fun t136 => ((some (([(wrap64 (48 + (Int.tmod a0 10))) % 256] : List Int) : List Int)).bind fun y137 => (if t136.size + (strOfNums y137).size ≤ 9223372036854775807 then (some (t136 ++ (strOfNums y137))) else (none))))) = some r := h
 clear h
 by_cases c2 : a0 < 10
 · rw [if_pos c2] at H
   have c2b0 : decide (a0 < 10) = true := decide_eq_true c2
   clear c2
   obtain ⟨y133, hy133⟩ : ∃ y_ : List Int, y_ = (([(wrap64 (48 + a0)) % 256] : List Int)) := ⟨_, rfl⟩
   replace H : (some (strOfNums y133)) = some r := by first | (rw [hy133]; with_reducible exact H) | (have H2_ := (Option.bind_some _ _).symm.trans H; rw [hy133]; with_reducible exact H2_) | (have H2_ := (Option.bind_some _ _).symm.trans H; with_reducible exact H2_) | with_reducible exact H | (rw [hy133]; exact H) | exact H
   have Ny133 := Aside0.mk hy133
   clear hy133
   obtain rfl := Option.some.inj H
   go_enter Tryd.func32, Tryd.ntmps32
   go_wp2_with (first | ((with_reducible refine gate_dst (N := 8) rfl ?_); refine Kd.R_lit (Kd.int .u8) _ 5 ?hg (N := 8) ?hd (xs := ([(wrap64 (48 + a0)) % 256] : List Int)) (inner := [.int .u8 ((wrap64 (48 + a0)) % 256)]) (ok := fun _ => True) (okp := fun _ => True) ?hr ?hp (fun _ hk => hk) trivial (Below.refl _ _) (Nat.le_refl _) (by simp) ?_; (case hd => rfl); (case hg => rfl); (case hr => first | (go_simp; done) | (go_simp; rfl)); (case hp => exact (Reps.one (show Kd.M (Kd.int .u8) _ _ _ ((wrap64 (48 + a0)) % 256) [.int .u8 ((wrap64 (48 + a0)) % 256)] from rfl) (Reps.none _ _))); intro v134 w3 ho4 hb hg_ hnew_; clear hg_ hnew_; (first | rw [← Ny133.out] at ho4 | (simp only [Int.reduceToNat] at ho4; rw [← Ny133.out] at ho4)); have n0_ := Aside0.mk (Kd.R_lower ho4 (below_size (by repeat (first | (with_reducible first | exact HB.out | apply below_alloc | apply pw_below_drewN | apply below_drew1) | exact HB.out)))); have n1_ := Aside0.mk (below_step (by repeat (first | (with_reducible first | exact HB.out | apply below_alloc | apply pw_below_drewN | apply below_drew1) | exact HB.out)) hb); clear HB; have HO135 := n0_; have HB := n1_; clear n0_ n1_; clear hb ho4; have hcv5 := own_string (P := Tryd.prog) Tryd.underlying83 Tryd.underlying5 Tryd.underlying9 (Kd.own_of_R HO135.out)))
   go_ret
   exact ⟨by first | rfl | (simp [errW_none, errW_some] <;> rfl) | (simp [*, errW_none, errW_some] <;> rfl), by repeat (first | (with_reducible first | exact HB.out | apply below_alloc | apply pw_below_drewN | apply below_drew1) | exact HB.out)⟩
 · rw [if_neg c2] at H
   have c2b0 : decide (a0 < 10) = false := decide_eq_false c2
   clear c2
   replace H := Option.bind_eq_some_iff.mp H
   obtain ⟨t136, A60, H⟩ := H
   replace H : ((some (([(wrap64 (48 + (Int.tmod a0 10))) % 256] : List Int) : List Int)).bind fun y137 => (if t136.size + (strOfNums y137).size ≤ 9223372036854775807 then (some (t136 ++ (strOfNums y137))) else (none))) = some r := H
   have A6 := Aside0.mk A60
   clear A60
   obtain ⟨y137, hy137⟩ : ∃ y_ : List Int, y_ = (([(wrap64 (48 + (Int.tmod a0 10))) % 256] : List Int)) := ⟨_, rfl⟩
   replace H : (if t136.size + (strOfNums y137).size ≤ 9223372036854775807 then (some (t136 ++ (strOfNums y137))) else (none)) = some r := by first | (rw [hy137]; with_reducible exact H) | (have H2_ := (Option.bind_some _ _).symm.trans H; rw [hy137]; with_reducible exact H2_) | (have H2_ := (Option.bind_some _ _).symm.trans H; with_reducible exact H2_) | with_reducible exact H | (rw [hy137]; exact H) | exact H
   have Ny137 := Aside0.mk hy137
   clear hy137
   by_cases c7 : t136.size + (strOfNums y137).size ≤ 9223372036854775807
   · rw [if_pos c7] at H
     have c7b0 := eq_true c7
     have c7b1 : decide (t136.size + (strOfNums y137).size ≤ 9223372036854775807) = true := decide_eq_true c7
     try have c7b2 : (9223372036854775807 < t136.size + (strOfNums y137).size) = False := eq_false (Nat.not_lt.2 c7)
     obtain rfl := Option.some.inj H
     go_enter Tryd.func32, Tryd.ntmps32
     try go_wp2
     have n0_ := Aside0.mk (below_drew1 HB.out)
     clear HB
     have HB := n0_
     clear n0_
     refine start_ (n := 11) (S := fun w' => True) (ds := []) #[false, false, false, false, false, false, false, false, false, false, false] (by kernel_rfl) rfl rfl trivial (fun hHeld => ?_); refine with_tabW spec_natural.tab3 spec_natural.bits3 (fun HT_ HW_ => ?_)
     generalize w.drew = w8 at HB hHeld ⊢
     refine pure_ (i := 0) (N := some 10) (v := ?_) (a' := ?_) #[true, false, false, false, false, false, false, false, false, false, false] rfl rfl (any_of HT_.out (by kernel_rfl)) (fun _ _ _ h => h) (Or.inl ⟨by rfl, ?_⟩) ?_ ?_
     rotate_left
     · intro w'
       go_simp
       with_reducible rfl
     rotate_left
     · simp only [Act.put, List.setIfInBounds_toArray, List.set_cons_zero, List.set_cons_succ, i64_w, i32_w]
       rfl
     refine pure_ (i := 1) (N := some 11) (v := ?_) (a' := ?_) #[true, true, false, false, false, false, false, false, false, false, false] rfl rfl (any_of HT_.out (by kernel_rfl)) (fun _ _ _ h => h) (Or.inl ⟨by rfl, ?_⟩) ?_ ?_
     rotate_left
     · intro w'
       go_simp
       with_reducible rfl
     rotate_left
     · simp only [Act.put, List.setIfInBounds_toArray, List.set_cons_zero, List.set_cons_succ, i64_w, i32_w]
       rfl
     refine pure_ (i := 3) (N := some 13) (v := ?_) (a' := ?_) #[true, true, false, true, false, false, false, false, false, false, false] rfl rfl (any_of HT_.out (by kernel_rfl)) (fun _ _ _ h => h) (Or.inl ⟨by rfl, ?_⟩) ?_ ?_
     rotate_left
     · intro w'
       go_simp
       with_reducible rfl
     rotate_left
     · simp only [Act.put, List.setIfInBounds_toArray, List.set_cons_zero, List.set_cons_succ, i64_w, i32_w]
       rfl
     refine pure_ (i := 4) (N := some 14) (v := ?_) (a' := ?_) #[true, true, false, true, true, false, false, false, false, false, false] rfl rfl (any_of HT_.out (by kernel_rfl)) (fun _ _ _ h => h) (Or.inl ⟨by rfl, ?_⟩) ?_ ?_
     rotate_left
     · intro w'
       go_simp
       with_reducible rfl
     rotate_left
     · simp only [Act.put, List.setIfInBounds_toArray, List.set_cons_zero, List.set_cons_succ, i64_w, i32_w]
       rfl
     refine pure_ (i := 5) (N := some 15) (v := ?_) (a' := ?_) #[true, true, false, true, true, true, false, false, false, false, false] rfl rfl (any_of HT_.out (by kernel_rfl)) (fun _ _ _ h => h) (Or.inl ⟨by rfl, ?_⟩) ?_ ?_
     rotate_left
     · intro w'
       go_simp
       with_reducible rfl
     rotate_left
     · simp only [Act.put, List.setIfInBounds_toArray, List.set_cons_zero, List.set_cons_succ, i64_w, i32_w]
       rfl
     refine pure_ (i := 6) (N := some 16) (v := ?_) (a' := ?_) #[true, true, false, true, true, true, true, false, false, false, false] rfl rfl (any_of HT_.out (by kernel_rfl)) (fun _ _ _ h => h) (Or.inl ⟨by rfl, ?_⟩) ?_ ?_
     rotate_left
     · intro w'
       go_simp
       with_reducible rfl
     rotate_left
     · simp only [Act.put, List.setIfInBounds_toArray, List.set_cons_zero, List.set_cons_succ, i64_w, i32_w]
       rfl
     refine join_ (σ := Value) 2 #[true, true, true, true, true, true, true, true, true, false, false] (fun s_ => [(12, .string t136), (17, s_), (18, .string (strOfNums y137))]) (fun s_ w' => (Kd.R (Kd.int .u8) 5 w' w.heap.size (fun _ => True) s_ y137) ∧ (Below w.heap.size w w')) ?_ ?_
     rotate_left
     · intro hCont
       refine two_ (i := 2) (j := 7) (Ni := some 12) (Nj := some 17) #[true, true, true, true, true, true, true, false, false, false, false] #[true, true, false, true, true, true, true, true, false, false, false] rfl rfl rfl rfl (two_of HT_.out (by kernel_rfl)) (by decide) (by decide) (fun K hK => ?_) (fun K hK => ?_)
       · skip
         refine goes_ Tryd.func32 (by kernel_rfl) rfl #[.int .i64 (wrap64 (Int.tdiv a0 10))] (by rfl) rfl rfl (by (try simp only [List.map_toArray, List.map_cons, List.map_nil]); first | done | rfl | (simp only [List.length_drop, List.length_take]; rfl)) ?_
         with_reducible refine (ih k (by omega) (wrap64 (Int.tdiv a0 10)) t136 _ A6.out).mono ?_
         rintro e w9 ⟨rfl, hb⟩
         refine ⟨_, rfl, ?_⟩
         have n0_ := Aside0.mk (below_step (by repeat (first | (with_reducible first | exact HB.out | apply below_alloc | apply pw_below_drewN | apply below_drew1) | exact HB.out)) hb)
         clear HB
         have HB := n0_
         clear n0_
         (try clear hb)
         (try clear hb2)
         (try clear hk)
         (try clear hi)
         refine hK.out _ _ trivial (fun hHeld => ?_)
         clear hK K
         refine norm_ (a' := ?_) ?_ ?_
         rotate_left
         · show Act.put _ (some 12) _ = _
           simp only [Act.put, List.setIfInBounds_toArray, List.set_cons_zero, List.set_cons_succ, i64_w, i32_w]
           rfl
         refine one_ (i := 7) (N := some 17) #[true, true, true, true, true, true, true, true, false, false, false] rfl rfl (one_of HT_.out (by kernel_rfl)) (by decide) (fun K hK => ?_)
         refine Kd.R_lit_step (Kd.int .u8) _ 5 ?hg (N := 17) ?hd (xs := ([(wrap64 (48 + (Int.tmod a0 10))) % 256] : List Int)) (inner := [.int .u8 ((wrap64 (48 + (Int.tmod a0 10))) % 256)]) (ok := fun _ => True) (okp := fun _ => True) ?hr ?hp (fun _ hk => hk) trivial (Below.refl _ _) (Nat.le_refl _) (by simp) ?_; (case hd => rfl); (case hg => rfl); (case hr => first | (go_simp; done) | (go_simp; rfl)); (case hp => exact (Reps.one (show Kd.M (Kd.int .u8) _ _ _ ((wrap64 (48 + (Int.tmod a0 10))) % 256) [.int .u8 ((wrap64 (48 + (Int.tmod a0 10))) % 256)] from rfl) (Reps.none _ _)))
         intro v138 w10 ho11 hb hg_ hnew_
         clear hg_ hnew_
         (first | rw [← Ny137.out] at ho11 | (simp only [Int.reduceToNat] at ho11; rw [← Ny137.out] at ho11))
         have n0_ := Aside0.mk (Kd.R_lower ho11 (below_size (by repeat (first | (with_reducible first | exact HB.out | apply below_alloc | apply pw_below_drewN | apply below_drew1) | exact HB.out))))
         have n1_ := Aside0.mk (below_step (by repeat (first | (with_reducible first | exact HB.out | apply below_alloc | apply pw_below_drewN | apply below_drew1) | exact HB.out)) hb)
         clear HB
         have HO139 := n0_
         have HB := n1_
         clear n0_ n1_
         clear hb ho11
         refine hK.out _ _ trivial (fun hHeld => ?_)
         clear hK K
         refine norm_ (a' := ?_) ?_ ?_
         rotate_left
         · show Act.put _ (some 17) _ = _
           simp only [Act.put, List.setIfInBounds_toArray, List.set_cons_zero, List.set_cons_succ, i64_w, i32_w]
           rfl
         refine one_ (i := 8) (N := some 18) #[true, true, true, true, true, true, true, true, true, false, false] rfl rfl (one_of HT_.out (by kernel_rfl)) (by decide) (fun K hK => ?_)
         have hcv12 := own_string (P := Tryd.prog) Tryd.underlying83 Tryd.underlying5 Tryd.underlying9 (Kd.own_of_R HO139.out)
         refine value_ (w1 := ?_) (v := ?_) (by rfl) rfl ?_ ?_
         rotate_left 2
         · go_simp
           constructor
           · rfl
           · rfl
         clear hcv12
         refine hK.out _ _ trivial (fun hHeld => ?_)
         clear hK K
         refine norm_ (a' := ?_) ?_ ?_
         rotate_left
         · show Act.put _ (some 18) _ = _
           simp only [Act.put, List.setIfInBounds_toArray, List.set_cons_zero, List.set_cons_succ, i64_w, i32_w]
           rfl
         exact norm_ (by simp only [putAll, Act.put, List.setIfInBounds_toArray, List.set_cons_zero, List.set_cons_succ]) (hCont (v138) _ ⟨(by (with_reducible repeat (first | apply Kd.R_alloc | apply Kd.R_drewN | apply Kd.R_drew)); exact HO139.out), (by repeat (first | (with_reducible first | exact HB.out | apply below_alloc | apply pw_below_drewN | apply below_drew1) | exact HB.out))⟩)
       · skip
         refine Kd.R_lit_step (Kd.int .u8) _ 5 ?hg (N := 17) ?hd (xs := ([(wrap64 (48 + (Int.tmod a0 10))) % 256] : List Int)) (inner := [.int .u8 ((wrap64 (48 + (Int.tmod a0 10))) % 256)]) (ok := fun _ => True) (okp := fun _ => True) ?hr ?hp (fun _ hk => hk) trivial (Below.refl _ _) (Nat.le_refl _) (by simp) ?_; (case hd => rfl); (case hg => rfl); (case hr => first | (go_simp; done) | (go_simp; rfl)); (case hp => exact (Reps.one (show Kd.M (Kd.int .u8) _ _ _ ((wrap64 (48 + (Int.tmod a0 10))) % 256) [.int .u8 ((wrap64 (48 + (Int.tmod a0 10))) % 256)] from rfl) (Reps.none _ _)))
         intro v138 w9 ho10 hb hg_ hnew_
         clear hg_ hnew_
         (first | rw [← Ny137.out] at ho10 | (simp only [Int.reduceToNat] at ho10; rw [← Ny137.out] at ho10))
         have n0_ := Aside0.mk (Kd.R_lower ho10 (below_size (by repeat (first | (with_reducible first | exact HB.out | apply below_alloc | apply pw_below_drewN | apply below_drew1) | exact HB.out))))
         have n1_ := Aside0.mk (below_step (by repeat (first | (with_reducible first | exact HB.out | apply below_alloc | apply pw_below_drewN | apply below_drew1) | exact HB.out)) hb)
         clear HB
         have HO139 := n0_
         have HB := n1_
         clear n0_ n1_
         clear hb ho10
         refine hK.out _ _ trivial (fun hHeld => ?_)
         clear hK K
         refine norm_ (a' := ?_) ?_ ?_
         rotate_left
         · show Act.put _ (some 17) _ = _
           simp only [Act.put, List.setIfInBounds_toArray, List.set_cons_zero, List.set_cons_succ, i64_w, i32_w]
           rfl
         refine two_ (i := 2) (j := 8) (Ni := some 12) (Nj := some 18) #[true, true, true, true, true, true, true, true, false, false, false] #[true, true, false, true, true, true, true, true, true, false, false] rfl rfl rfl rfl (two_of HT_.out (by kernel_rfl)) (by decide) (by decide) (fun K hK => ?_) (fun K hK => ?_)
         · skip
           refine goes_ Tryd.func32 (by kernel_rfl) rfl #[.int .i64 (wrap64 (Int.tdiv a0 10))] (by rfl) rfl rfl (by (try simp only [List.map_toArray, List.map_cons, List.map_nil]); first | done | rfl | (simp only [List.length_drop, List.length_take]; rfl)) ?_
           with_reducible refine (ih k (by omega) (wrap64 (Int.tdiv a0 10)) t136 _ A6.out).mono ?_
           rintro e w11 ⟨rfl, hb⟩
           refine ⟨_, rfl, ?_⟩
           have n0_ := Aside0.mk (Kd.R_below (by (with_reducible repeat (first | apply Kd.R_alloc | apply Kd.R_drewN | apply Kd.R_drew)); exact HO139.out) hb)
           have n1_ := Aside0.mk (below_step (by repeat (first | (with_reducible first | exact HB.out | apply below_alloc | apply pw_below_drewN | apply below_drew1) | exact HB.out)) hb)
           clear HO139
           clear HB
           have HO139 := n0_
           have HB := n1_
           clear n0_ n1_
           (try clear hb)
           (try clear hb2)
           (try clear hk)
           (try clear hi)
           refine hK.out _ _ trivial (fun hHeld => ?_)
           clear hK K
           refine norm_ (a' := ?_) ?_ ?_
           rotate_left
           · show Act.put _ (some 12) _ = _
             simp only [Act.put, List.setIfInBounds_toArray, List.set_cons_zero, List.set_cons_succ, i64_w, i32_w]
             rfl
           refine one_ (i := 8) (N := some 18) #[true, true, true, true, true, true, true, true, true, false, false] rfl rfl (one_of HT_.out (by kernel_rfl)) (by decide) (fun K hK => ?_)
           have hcv12 := own_string (P := Tryd.prog) Tryd.underlying83 Tryd.underlying5 Tryd.underlying9 (Kd.own_of_R HO139.out)
           refine value_ (w1 := ?_) (v := ?_) (by rfl) rfl ?_ ?_
           rotate_left 2
           · go_simp
             constructor
             · rfl
             · rfl
           clear hcv12
           refine hK.out _ _ trivial (fun hHeld => ?_)
           clear hK K
           refine norm_ (a' := ?_) ?_ ?_
           rotate_left
           · show Act.put _ (some 18) _ = _
             simp only [Act.put, List.setIfInBounds_toArray, List.set_cons_zero, List.set_cons_succ, i64_w, i32_w]
             rfl
           exact norm_ (by simp only [putAll, Act.put, List.setIfInBounds_toArray, List.set_cons_zero, List.set_cons_succ]) (hCont (v138) _ ⟨(by (with_reducible repeat (first | apply Kd.R_alloc | apply Kd.R_drewN | apply Kd.R_drew)); exact HO139.out), (by repeat (first | (with_reducible first | exact HB.out | apply below_alloc | apply pw_below_drewN | apply below_drew1) | exact HB.out))⟩)
         · skip
           have hcv11 := own_string (P := Tryd.prog) Tryd.underlying83 Tryd.underlying5 Tryd.underlying9 (Kd.own_of_R HO139.out)
           refine value_ (w1 := ?_) (v := ?_) (by rfl) rfl ?_ ?_
           rotate_left 2
           · go_simp
             constructor
             · rfl
             · rfl
           clear hcv11
           refine hK.out _ _ trivial (fun hHeld => ?_)
           clear hK K
           refine norm_ (a' := ?_) ?_ ?_
           rotate_left
           · show Act.put _ (some 18) _ = _
             simp only [Act.put, List.setIfInBounds_toArray, List.set_cons_zero, List.set_cons_succ, i64_w, i32_w]
             rfl
           refine one_ (i := 2) (N := some 12) #[true, true, true, true, true, true, true, true, true, false, false] rfl rfl (one_of HT_.out (by kernel_rfl)) (by decide) (fun K hK => ?_)
           refine goes_ Tryd.func32 (by kernel_rfl) rfl #[.int .i64 (wrap64 (Int.tdiv a0 10))] (by rfl) rfl rfl (by (try simp only [List.map_toArray, List.map_cons, List.map_nil]); first | done | rfl | (simp only [List.length_drop, List.length_take]; rfl)) ?_
           with_reducible refine (ih k (by omega) (wrap64 (Int.tdiv a0 10)) t136 _ A6.out).mono ?_
           rintro e w12 ⟨rfl, hb⟩
           refine ⟨_, rfl, ?_⟩
           have n0_ := Aside0.mk (Kd.R_below (by (with_reducible repeat (first | apply Kd.R_alloc | apply Kd.R_drewN | apply Kd.R_drew)); exact HO139.out) hb)
           have n1_ := Aside0.mk (below_step (by repeat (first | (with_reducible first | exact HB.out | apply below_alloc | apply pw_below_drewN | apply below_drew1) | exact HB.out)) hb)
           clear HO139
           clear HB
           have HO139 := n0_
           have HB := n1_
           clear n0_ n1_
           (try clear hb)
           (try clear hb2)
           (try clear hk)
           (try clear hi)
           refine hK.out _ _ trivial (fun hHeld => ?_)
           clear hK K
           refine norm_ (a' := ?_) ?_ ?_
           rotate_left
           · show Act.put _ (some 12) _ = _
             simp only [Act.put, List.setIfInBounds_toArray, List.set_cons_zero, List.set_cons_succ, i64_w, i32_w]
             rfl
           exact norm_ (by simp only [putAll, Act.put, List.setIfInBounds_toArray, List.set_cons_zero, List.set_cons_succ]) (hCont (v138) _ ⟨(by (with_reducible repeat (first | apply Kd.R_alloc | apply Kd.R_drewN | apply Kd.R_drew)); exact HO139.out), (by repeat (first | (with_reducible first | exact HB.out | apply below_alloc | apply pw_below_drewN | apply below_drew1) | exact HB.out))⟩)
     rintro v138 w13 ⟨h0_, h1_⟩
     have n0_ : Aside0 (Kd.R (Kd.int .u8) 5 w13 w.heap.size (fun _ => True) v138 y137) := ⟨h0_⟩
     have n1_ : Aside0 (Below w.heap.size w w13) := ⟨h1_⟩
     clear HB
     clear h0_ h1_
     have HO139 := n0_
     have HB := n1_
     clear n0_ n1_
     have hHeld := trivial
     refine norm_ (a' := ?_) ?_ ?_
     rotate_left
     · simp only [putAll, Act.put, List.setIfInBounds_toArray, List.set_cons_zero, List.set_cons_succ]
       rfl
     refine pure_ (i := 9) (N := some 19) (v := ?_) (a' := ?_) #[true, true, true, true, true, true, true, true, true, true, false] rfl rfl (any_of HT_.out (by kernel_rfl)) (fun _ _ _ h => h) (Or.inl ⟨by rfl, ?_⟩) ?_ ?_
     rotate_left
     · intro w'
       go_simp
       with_reducible rfl
     rotate_left
     · simp only [Act.put, List.setIfInBounds_toArray, List.set_cons_zero, List.set_cons_succ, i64_w, i32_w]
       rfl
     refine pure_ (i := 10) (N := some 2) (v := ?_) (a' := ?_) #[true, true, true, true, true, true, true, true, true, true, true] rfl rfl (any_of HT_.out (by kernel_rfl)) (fun _ _ _ h => h) (Or.inl ⟨by rfl, ?_⟩) ?_ ?_
     rotate_left
     · intro w'
       go_simp
       with_reducible rfl
     rotate_left
     · simp only [Act.put, List.setIfInBounds_toArray, List.set_cons_zero, List.set_cons_succ, i64_w, i32_w]
       rfl
     refine done_ (done_of HT_.out (by kernel_rfl)) ?_
     try go_wp2
     go_ret
     exact ⟨by first | rfl | (simp [errW_none, errW_some] <;> rfl) | (simp [*, errW_none, errW_some] <;> rfl), by repeat (first | (with_reducible first | exact HB.out | apply below_alloc | apply pw_below_drewN | apply below_drew1) | exact HB.out)⟩
   · rw [if_neg c7] at H
     exact absurd H (by simp)
def spec_octal.l0 : Nat → ByteArray → ByteArray → Int → Int → Option (ByteArray)
 | 0, _, _, _, _ => none
 | k + 1, x0, x3, x7, x8 => if x8 < x7 then (if 0 ≤ x8 then (if x8 < (x0.size : Int) then (if (bt x0 x8) = 32 then ((some (([(48 + ((bt x0 x8) / 64)) % 256, (48 + (Go.bits .and .u8 ((bt x0 x8) / 8) 7)) % 256, (48 + (Go.bits .and .u8 (bt x0 x8) 7)) % 256] : List Int) : List Int)).bind fun y140 => (if 1 + (strOfNums y140).size ≤ 9223372036854775807 then (if x3.size + ((⟨#[92]⟩ : ByteArray) ++ (strOfNums y140)).size ≤ 9223372036854775807 then (spec_octal.l0 k x0 (x3 ++ ((⟨#[92]⟩ : ByteArray) ++ (strOfNums y140))) x7 (wrap64 (x8 + 1))) else (none)) else (none))) else (if (bt x0 x8) = 9 then ((some (([(48 + ((bt x0 x8) / 64)) % 256, (48 + (Go.bits .and .u8 ((bt x0 x8) / 8) 7)) % 256, (48 + (Go.bits .and .u8 (bt x0 x8) 7)) % 256] : List Int) : List Int)).bind fun y143 => (if 1 + (strOfNums y143).size ≤ 9223372036854775807 then (if x3.size + ((⟨#[92]⟩ : ByteArray) ++ (strOfNums y143)).size ≤ 9223372036854775807 then (spec_octal.l0 k x0 (x3 ++ ((⟨#[92]⟩ : ByteArray) ++ (strOfNums y143))) x7 (wrap64 (x8 + 1))) else (none)) else (none))) else (if (bt x0 x8) = 10 then ((some (([(48 + ((bt x0 x8) / 64)) % 256, (48 + (Go.bits .and .u8 ((bt x0 x8) / 8) 7)) % 256, (48 + (Go.bits .and .u8 (bt x0 x8) 7)) % 256] : List Int) : List Int)).bind fun y146 => (if 1 + (strOfNums y146).size ≤ 9223372036854775807 then (if x3.size + ((⟨#[92]⟩ : ByteArray) ++ (strOfNums y146)).size ≤ 9223372036854775807 then (spec_octal.l0 k x0 (x3 ++ ((⟨#[92]⟩ : ByteArray) ++ (strOfNums y146))) x7 (wrap64 (x8 + 1))) else (none)) else (none))) else (if (bt x0 x8) = 92 then ((some (([(48 + ((bt x0 x8) / 64)) % 256, (48 + (Go.bits .and .u8 ((bt x0 x8) / 8) 7)) % 256, (48 + (Go.bits .and .u8 (bt x0 x8) 7)) % 256] : List Int) : List Int)).bind fun y149 => (if 1 + (strOfNums y149).size ≤ 9223372036854775807 then (if x3.size + ((⟨#[92]⟩ : ByteArray) ++ (strOfNums y149)).size ≤ 9223372036854775807 then (spec_octal.l0 k x0 (x3 ++ ((⟨#[92]⟩ : ByteArray) ++ (strOfNums y149))) x7 (wrap64 (x8 + 1))) else (none)) else (none))) else (if x8 ≤ (wrap64 (x8 + 1)) then (if (wrap64 (x8 + 1)) ≤ (x0.size : Int) then (if x3.size + (x0.extract (x8 : Int).toNat ((wrap64 (x8 + 1)) : Int).toNat).size ≤ 9223372036854775807 then (spec_octal.l0 k x0 (x3 ++ (x0.extract (x8 : Int).toNat ((wrap64 (x8 + 1)) : Int).toNat)) x7 (wrap64 (x8 + 1))) else (none)) else (none)) else (none)))))) else (none)) else (none)) else (some x3)
def spec_octal.f (k : Nat) (a0 : ByteArray) : Option (ByteArray) := spec_octal.l0 k a0 (⟨#[]⟩ : ByteArray) (a0.size : Int) 0
set_option maxHeartbeats 8000000 in
set_option maxRecDepth 100000 in
theorem spec_octal.calls (k : Nat) (a0 : ByteArray) (r : ByteArray) (w : World) (h : spec_octal.f k a0 = some r) :
 Calls Tryd.prog 33 #[.string a0] w fun e w' => e = .returned (.string r) ∧ Below w.heap.size w w' := by
 have HB := Aside0.mk (Below.refl w.heap.size w)
 have H : (spec_octal.l0 k a0 (⟨#[]⟩ : ByteArray) (a0.size : Int) 0) = some r := h
 clear h
 have H' := Aside0.mk H
 clear H
 go_enter Tryd.func33, Tryd.ntmps33
 go_wp2
 go_loopg [3, 8] k (fun kq v3 v8 w' => ∃ (x3_1 : ByteArray) (x8_1 : Int), v3 = .string x3_1 ∧ v8 = .int .i64 x8_1 ∧ Aside0 (spec_octal.l0 kq a0 x3_1 (a0.size : Int) x8_1 = some r) ∧ Aside0 (kq ≤ k) ∧ Aside0 (Below w.heap.size w w'))
 case atStart => exact ⟨((⟨#[]⟩ : ByteArray)), (0), (by first | rfl | (simp; done) | (simp [*]; done)), (by first | rfl | (simp; done) | (simp [*]; done)), H', ⟨Nat.le_refl _⟩, ⟨by repeat (first | (with_reducible first | exact HB.out | apply below_alloc | apply pw_below_drewN | apply below_drew1) | exact HB.out)⟩⟩
 case round =>
  clear H'
  obtain ⟨x3_1, x8_1, rfl, rfl, HA, HK1, HB⟩ := hrel
  cases gk with
  | zero => exact absurd HA.out (by simp [spec_octal.l0])
  | succ k1 =>
   have H := HA.out
   clear HA
   simp only [spec_octal.l0] at H
   by_cases c2 : x8_1 < (a0.size : Int)
   · rw [if_pos c2] at H
     have c2b0 : decide (x8_1 < (a0.size : Int)) = true := decide_eq_true c2
     clear c2
     by_cases c3 : 0 ≤ x8_1
     · rw [if_pos c3] at H
       have c3b0 : decide (0 ≤ x8_1) = true := decide_eq_true c3
       clear c3
       by_cases c4 : x8_1 < (a0.size : Int)
       · rw [if_pos c4] at H
         have c4b0 : decide (x8_1 < (a0.size : Int)) = true := decide_eq_true c4
         clear c4
         by_cases c6 : (bt a0 x8_1) = 32
         · rw [if_pos c6] at H
           have c6b0 : ((bt a0 x8_1) == 32) = true := beq_iff_eq.mpr c6
           have c6b1 : ((bt a0 x8_1) != 32) = false := bne_eq_false_iff_eq.mpr c6
           clear c6
           obtain ⟨y140, hy140⟩ : ∃ y_ : List Int, y_ = (([(48 + ((bt a0 x8_1) / 64)) % 256, (48 + (Go.bits .and .u8 ((bt a0 x8_1) / 8) 7)) % 256, (48 + (Go.bits .and .u8 (bt a0 x8_1) 7)) % 256] : List Int)) := ⟨_, rfl⟩
           replace H : (if 1 + (strOfNums y140).size ≤ 9223372036854775807 then (if x3_1.size + ((⟨#[92]⟩ : ByteArray) ++ (strOfNums y140)).size ≤ 9223372036854775807 then (spec_octal.l0 k1 a0 (x3_1 ++ ((⟨#[92]⟩ : ByteArray) ++ (strOfNums y140))) (a0.size : Int) (wrap64 (x8_1 + 1))) else (none)) else (none)) = some r := by first | (rw [hy140]; with_reducible exact H) | (have H2_ := (Option.bind_some _ _).symm.trans H; rw [hy140]; with_reducible exact H2_) | (have H2_ := (Option.bind_some _ _).symm.trans H; with_reducible exact H2_) | with_reducible exact H | (rw [hy140]; exact H) | exact H
           have Ny140 := Aside0.mk hy140
           clear hy140
           by_cases c7 : 1 + (strOfNums y140).size ≤ 9223372036854775807
           · rw [if_pos c7] at H
             have c7b0 := eq_true c7
             have c7b1 : decide (1 + (strOfNums y140).size ≤ 9223372036854775807) = true := decide_eq_true c7
             try have c7b2 : (9223372036854775807 < 1 + (strOfNums y140).size) = False := eq_false (Nat.not_lt.2 c7)
             by_cases c8 : x3_1.size + ((⟨#[92]⟩ : ByteArray) ++ (strOfNums y140)).size ≤ 9223372036854775807
             · rw [if_pos c8] at H
               have c8b0 := eq_true c8
               have c8b1 : decide (x3_1.size + ((⟨#[92]⟩ : ByteArray) ++ (strOfNums y140)).size ≤ 9223372036854775807) = true := decide_eq_true c8
               try have c8b2 : (9223372036854775807 < x3_1.size + ((⟨#[92]⟩ : ByteArray) ++ (strOfNums y140)).size) = False := eq_false (Nat.not_lt.2 c8)
               have c8b3 : (9223372036854775807 < x3_1.size + (1 + (strOfNums y140).size)) = False := by have h_ := c8b2; simp only [ByteArray.size_append] at h_; exact h_
               have H' := Aside0.mk H
               clear H
               have p5 : 0 ≤ (x8_1 : Int) := of_decide_eq_true (by first | (with_reducible assumption) | assumption)
               have q5 : x8_1 < (a0.size : Int) := of_decide_eq_true (by first | (with_reducible assumption) | assumption)
               have hx5 := bt_at a0 x8_1
               replace p5 := eq_true p5
               replace q5 := eq_true q5
               go_wp2_with (first | ((with_reducible refine gate_dst (N := 38) rfl ?_); refine Kd.R_lit (Kd.int .u8) _ 5 ?hg (N := 38) ?hd (xs := ([(48 + ((bt a0 x8_1) / 64)) % 256, (48 + (Go.bits .and .u8 ((bt a0 x8_1) / 8) 7)) % 256, (48 + (Go.bits .and .u8 (bt a0 x8_1) 7)) % 256] : List Int)) (inner := [.int .u8 ((48 + ((bt a0 x8_1) / 64)) % 256), .int .u8 ((48 + (Go.bits .and .u8 ((bt a0 x8_1) / 8) 7)) % 256), .int .u8 ((48 + (Go.bits .and .u8 (bt a0 x8_1) 7)) % 256)]) (ok := fun _ => True) (okp := fun _ => True) ?hr ?hp (fun _ hk => hk) trivial (Below.refl _ _) (Nat.le_refl _) (by simp) ?_; (case hd => rfl); (case hg => rfl); (case hr => first | (go_simp; done) | (go_simp; rfl)); (case hp => exact (Reps.one (show Kd.M (Kd.int .u8) _ _ _ ((48 + ((bt a0 x8_1) / 64)) % 256) [.int .u8 ((48 + ((bt a0 x8_1) / 64)) % 256)] from rfl) (Reps.one (show Kd.M (Kd.int .u8) _ _ _ ((48 + (Go.bits .and .u8 ((bt a0 x8_1) / 8) 7)) % 256) [.int .u8 ((48 + (Go.bits .and .u8 ((bt a0 x8_1) / 8) 7)) % 256)] from rfl) (Reps.one (show Kd.M (Kd.int .u8) _ _ _ ((48 + (Go.bits .and .u8 (bt a0 x8_1) 7)) % 256) [.int .u8 ((48 + (Go.bits .and .u8 (bt a0 x8_1) 7)) % 256)] from rfl) (Reps.none _ _))))); intro v141 w9 ho10 hb hg_ hnew_; clear hg_ hnew_; (first | rw [← Ny140.out] at ho10 | (simp only [Int.reduceToNat] at ho10; rw [← Ny140.out] at ho10)); have n0_ := Aside0.mk (Kd.R_lower ho10 (below_size (by repeat (first | (with_reducible first | exact HB.out | apply below_alloc | apply pw_below_drewN | apply below_drew1) | exact HB.out)))); have n1_ := Aside0.mk (below_step (by repeat (first | (with_reducible first | exact HB.out | apply below_alloc | apply pw_below_drewN | apply below_drew1) | exact HB.out)) hb); clear HB; have HO142 := n0_; have HB := n1_; clear n0_ n1_; clear hb ho10; have hcv11 := own_string (P := Tryd.prog) Tryd.underlying83 Tryd.underlying5 Tryd.underlying9 (Kd.own_of_R HO142.out)))
               go_roundg k1
               case measure => have := HK1.out; omega
               case rel => exact ⟨(x3_1 ++ ((⟨#[92]⟩ : ByteArray) ++ (strOfNums y140))), (wrap64 (x8_1 + 1)), (by first | rfl | (simp; done) | (simp [*]; done)), (by first | rfl | (simp; done) | (simp [*]; done)), H', ⟨by have := HK1.out; omega⟩, ⟨by repeat (first | (with_reducible first | exact HB.out | apply below_alloc | apply pw_below_drewN | apply below_drew1) | exact HB.out)⟩⟩
             · rw [if_neg c8] at H
               exact absurd H (by simp)
           · rw [if_neg c7] at H
             exact absurd H (by simp)
         · rw [if_neg c6] at H
           have c6b0 : ((bt a0 x8_1) == 32) = false := beq_eq_false_iff_ne.mpr c6
           have c6b1 : ((bt a0 x8_1) != 32) = true := bne_iff_ne.mpr c6
           by_cases c12 : (bt a0 x8_1) = 9
           · rw [if_pos c12] at H
             have c12b0 : ((bt a0 x8_1) == 9) = true := beq_iff_eq.mpr c12
             have c12b1 : ((bt a0 x8_1) != 9) = false := bne_eq_false_iff_eq.mpr c12
             clear c12
             obtain ⟨y143, hy143⟩ : ∃ y_ : List Int, y_ = (([(48 + ((bt a0 x8_1) / 64)) % 256, (48 + (Go.bits .and .u8 ((bt a0 x8_1) / 8) 7)) % 256, (48 + (Go.bits .and .u8 (bt a0 x8_1) 7)) % 256] : List Int)) := ⟨_, rfl⟩
             replace H : (if 1 + (strOfNums y143).size ≤ 9223372036854775807 then (if x3_1.size + ((⟨#[92]⟩ : ByteArray) ++ (strOfNums y143)).size ≤ 9223372036854775807 then (spec_octal.l0 k1 a0 (x3_1 ++ ((⟨#[92]⟩ : ByteArray) ++ (strOfNums y143))) (a0.size : Int) (wrap64 (x8_1 + 1))) else (none)) else (none)) = some r := by first | (rw [hy143]; with_reducible exact H) | (have H2_ := (Option.bind_some _ _).symm.trans H; rw [hy143]; with_reducible exact H2_) | (have H2_ := (Option.bind_some _ _).symm.trans H; with_reducible exact H2_) | with_reducible exact H | (rw [hy143]; exact H) | exact H
             have Ny143 := Aside0.mk hy143
             clear hy143
             by_cases c13 : 1 + (strOfNums y143).size ≤ 9223372036854775807
             · rw [if_pos c13] at H
               have c13b0 := eq_true c13
               have c13b1 : decide (1 + (strOfNums y143).size ≤ 9223372036854775807) = true := decide_eq_true c13
               try have c13b2 : (9223372036854775807 < 1 + (strOfNums y143).size) = False := eq_false (Nat.not_lt.2 c13)
               by_cases c14 : x3_1.size + ((⟨#[92]⟩ : ByteArray) ++ (strOfNums y143)).size ≤ 9223372036854775807
               · rw [if_pos c14] at H
                 have c14b0 := eq_true c14
                 have c14b1 : decide (x3_1.size + ((⟨#[92]⟩ : ByteArray) ++ (strOfNums y143)).size ≤ 9223372036854775807) = true := decide_eq_true c14
                 try have c14b2 : (9223372036854775807 < x3_1.size + ((⟨#[92]⟩ : ByteArray) ++ (strOfNums y143)).size) = False := eq_false (Nat.not_lt.2 c14)
                 have c14b3 : (9223372036854775807 < x3_1.size + (1 + (strOfNums y143).size)) = False := by have h_ := c14b2; simp only [ByteArray.size_append] at h_; exact h_
                 have H' := Aside0.mk H
                 clear H
                 have p5 : 0 ≤ (x8_1 : Int) := of_decide_eq_true (by first | (with_reducible assumption) | assumption)
                 have q5 : x8_1 < (a0.size : Int) := of_decide_eq_true (by first | (with_reducible assumption) | assumption)
                 have hx5 := bt_at a0 x8_1
                 replace p5 := eq_true p5
                 replace q5 := eq_true q5
                 go_wp2_with (first | ((with_reducible refine gate_dst (N := 38) rfl ?_); refine Kd.R_lit (Kd.int .u8) _ 5 ?hg (N := 38) ?hd (xs := ([(48 + ((bt a0 x8_1) / 64)) % 256, (48 + (Go.bits .and .u8 ((bt a0 x8_1) / 8) 7)) % 256, (48 + (Go.bits .and .u8 (bt a0 x8_1) 7)) % 256] : List Int)) (inner := [.int .u8 ((48 + ((bt a0 x8_1) / 64)) % 256), .int .u8 ((48 + (Go.bits .and .u8 ((bt a0 x8_1) / 8) 7)) % 256), .int .u8 ((48 + (Go.bits .and .u8 (bt a0 x8_1) 7)) % 256)]) (ok := fun _ => True) (okp := fun _ => True) ?hr ?hp (fun _ hk => hk) trivial (Below.refl _ _) (Nat.le_refl _) (by simp) ?_; (case hd => rfl); (case hg => rfl); (case hr => first | (go_simp; done) | (go_simp; rfl)); (case hp => exact (Reps.one (show Kd.M (Kd.int .u8) _ _ _ ((48 + ((bt a0 x8_1) / 64)) % 256) [.int .u8 ((48 + ((bt a0 x8_1) / 64)) % 256)] from rfl) (Reps.one (show Kd.M (Kd.int .u8) _ _ _ ((48 + (Go.bits .and .u8 ((bt a0 x8_1) / 8) 7)) % 256) [.int .u8 ((48 + (Go.bits .and .u8 ((bt a0 x8_1) / 8) 7)) % 256)] from rfl) (Reps.one (show Kd.M (Kd.int .u8) _ _ _ ((48 + (Go.bits .and .u8 (bt a0 x8_1) 7)) % 256) [.int .u8 ((48 + (Go.bits .and .u8 (bt a0 x8_1) 7)) % 256)] from rfl) (Reps.none _ _))))); intro v144 w15 ho16 hb hg_ hnew_; clear hg_ hnew_; (first | rw [← Ny143.out] at ho16 | (simp only [Int.reduceToNat] at ho16; rw [← Ny143.out] at ho16)); have n0_ := Aside0.mk (Kd.R_lower ho16 (below_size (by repeat (first | (with_reducible first | exact HB.out | apply below_alloc | apply pw_below_drewN | apply below_drew1) | exact HB.out)))); have n1_ := Aside0.mk (below_step (by repeat (first | (with_reducible first | exact HB.out | apply below_alloc | apply pw_below_drewN | apply below_drew1) | exact HB.out)) hb); clear HB; have HO145 := n0_; have HB := n1_; clear n0_ n1_; clear hb ho16; have hcv17 := own_string (P := Tryd.prog) Tryd.underlying83 Tryd.underlying5 Tryd.underlying9 (Kd.own_of_R HO145.out)))
                 go_roundg k1
                 case measure => have := HK1.out; omega
                 case rel => exact ⟨(x3_1 ++ ((⟨#[92]⟩ : ByteArray) ++ (strOfNums y143))), (wrap64 (x8_1 + 1)), (by first | rfl | (simp; done) | (simp [*]; done)), (by first | rfl | (simp; done) | (simp [*]; done)), H', ⟨by have := HK1.out; omega⟩, ⟨by repeat (first | (with_reducible first | exact HB.out | apply below_alloc | apply pw_below_drewN | apply below_drew1) | exact HB.out)⟩⟩
               · rw [if_neg c14] at H
                 exact absurd H (by simp)
             · rw [if_neg c13] at H
               exact absurd H (by simp)
           · rw [if_neg c12] at H
             have c12b0 : ((bt a0 x8_1) == 9) = false := beq_eq_false_iff_ne.mpr c12
             have c12b1 : ((bt a0 x8_1) != 9) = true := bne_iff_ne.mpr c12
             by_cases c18 : (bt a0 x8_1) = 10
             · rw [if_pos c18] at H
               have c18b0 : ((bt a0 x8_1) == 10) = true := beq_iff_eq.mpr c18
               have c18b1 : ((bt a0 x8_1) != 10) = false := bne_eq_false_iff_eq.mpr c18
               clear c18
               obtain ⟨y146, hy146⟩ : ∃ y_ : List Int, y_ = (([(48 + ((bt a0 x8_1) / 64)) % 256, (48 + (Go.bits .and .u8 ((bt a0 x8_1) / 8) 7)) % 256, (48 + (Go.bits .and .u8 (bt a0 x8_1) 7)) % 256] : List Int)) := ⟨_, rfl⟩
               replace H : (if 1 + (strOfNums y146).size ≤ 9223372036854775807 then (if x3_1.size + ((⟨#[92]⟩ : ByteArray) ++ (strOfNums y146)).size ≤ 9223372036854775807 then (spec_octal.l0 k1 a0 (x3_1 ++ ((⟨#[92]⟩ : ByteArray) ++ (strOfNums y146))) (a0.size : Int) (wrap64 (x8_1 + 1))) else (none)) else (none)) = some r := by first | (rw [hy146]; with_reducible exact H) | (have H2_ := (Option.bind_some _ _).symm.trans H; rw [hy146]; with_reducible exact H2_) | (have H2_ := (Option.bind_some _ _).symm.trans H; with_reducible exact H2_) | with_reducible exact H | (rw [hy146]; exact H) | exact H
               have Ny146 := Aside0.mk hy146
               clear hy146
               by_cases c19 : 1 + (strOfNums y146).size ≤ 9223372036854775807
               · rw [if_pos c19] at H
                 have c19b0 := eq_true c19
                 have c19b1 : decide (1 + (strOfNums y146).size ≤ 9223372036854775807) = true := decide_eq_true c19
                 try have c19b2 : (9223372036854775807 < 1 + (strOfNums y146).size) = False := eq_false (Nat.not_lt.2 c19)
                 by_cases c20 : x3_1.size + ((⟨#[92]⟩ : ByteArray) ++ (strOfNums y146)).size ≤ 9223372036854775807
                 · rw [if_pos c20] at H
                   have c20b0 := eq_true c20
                   have c20b1 : decide (x3_1.size + ((⟨#[92]⟩ : ByteArray) ++ (strOfNums y146)).size ≤ 9223372036854775807) = true := decide_eq_true c20
                   try have c20b2 : (9223372036854775807 < x3_1.size + ((⟨#[92]⟩ : ByteArray) ++ (strOfNums y146)).size) = False := eq_false (Nat.not_lt.2 c20)
                   have c20b3 : (9223372036854775807 < x3_1.size + (1 + (strOfNums y146).size)) = False := by have h_ := c20b2; simp only [ByteArray.size_append] at h_; exact h_
                   have H' := Aside0.mk H
                   clear H
                   have p5 : 0 ≤ (x8_1 : Int) := of_decide_eq_true (by first | (with_reducible assumption) | assumption)
                   have q5 : x8_1 < (a0.size : Int) := of_decide_eq_true (by first | (with_reducible assumption) | assumption)
                   have hx5 := bt_at a0 x8_1
                   replace p5 := eq_true p5
                   replace q5 := eq_true q5
                   go_wp2_with (first | ((with_reducible refine gate_dst (N := 38) rfl ?_); refine Kd.R_lit (Kd.int .u8) _ 5 ?hg (N := 38) ?hd (xs := ([(48 + ((bt a0 x8_1) / 64)) % 256, (48 + (Go.bits .and .u8 ((bt a0 x8_1) / 8) 7)) % 256, (48 + (Go.bits .and .u8 (bt a0 x8_1) 7)) % 256] : List Int)) (inner := [.int .u8 ((48 + ((bt a0 x8_1) / 64)) % 256), .int .u8 ((48 + (Go.bits .and .u8 ((bt a0 x8_1) / 8) 7)) % 256), .int .u8 ((48 + (Go.bits .and .u8 (bt a0 x8_1) 7)) % 256)]) (ok := fun _ => True) (okp := fun _ => True) ?hr ?hp (fun _ hk => hk) trivial (Below.refl _ _) (Nat.le_refl _) (by simp) ?_; (case hd => rfl); (case hg => rfl); (case hr => first | (go_simp; done) | (go_simp; rfl)); (case hp => exact (Reps.one (show Kd.M (Kd.int .u8) _ _ _ ((48 + ((bt a0 x8_1) / 64)) % 256) [.int .u8 ((48 + ((bt a0 x8_1) / 64)) % 256)] from rfl) (Reps.one (show Kd.M (Kd.int .u8) _ _ _ ((48 + (Go.bits .and .u8 ((bt a0 x8_1) / 8) 7)) % 256) [.int .u8 ((48 + (Go.bits .and .u8 ((bt a0 x8_1) / 8) 7)) % 256)] from rfl) (Reps.one (show Kd.M (Kd.int .u8) _ _ _ ((48 + (Go.bits .and .u8 (bt a0 x8_1) 7)) % 256) [.int .u8 ((48 + (Go.bits .and .u8 (bt a0 x8_1) 7)) % 256)] from rfl) (Reps.none _ _))))); intro v147 w21 ho22 hb hg_ hnew_; clear hg_ hnew_; (first | rw [← Ny146.out] at ho22 | (simp only [Int.reduceToNat] at ho22; rw [← Ny146.out] at ho22)); have n0_ := Aside0.mk (Kd.R_lower ho22 (below_size (by repeat (first | (with_reducible first | exact HB.out | apply below_alloc | apply pw_below_drewN | apply below_drew1) | exact HB.out)))); have n1_ := Aside0.mk (below_step (by repeat (first | (with_reducible first | exact HB.out | apply below_alloc | apply pw_below_drewN | apply below_drew1) | exact HB.out)) hb); clear HB; have HO148 := n0_; have HB := n1_; clear n0_ n1_; clear hb ho22; have hcv23 := own_string (P := Tryd.prog) Tryd.underlying83 Tryd.underlying5 Tryd.underlying9 (Kd.own_of_R HO148.out)))
                   go_roundg k1
                   case measure => have := HK1.out; omega
                   case rel => exact ⟨(x3_1 ++ ((⟨#[92]⟩ : ByteArray) ++ (strOfNums y146))), (wrap64 (x8_1 + 1)), (by first | rfl | (simp; done) | (simp [*]; done)), (by first | rfl | (simp; done) | (simp [*]; done)), H', ⟨by have := HK1.out; omega⟩, ⟨by repeat (first | (with_reducible first | exact HB.out | apply below_alloc | apply pw_below_drewN | apply below_drew1) | exact HB.out)⟩⟩
                 · rw [if_neg c20] at H
                   exact absurd H (by simp)
               · rw [if_neg c19] at H
                 exact absurd H (by simp)
             · rw [if_neg c18] at H
               have c18b0 : ((bt a0 x8_1) == 10) = false := beq_eq_false_iff_ne.mpr c18
               have c18b1 : ((bt a0 x8_1) != 10) = true := bne_iff_ne.mpr c18
               by_cases c24 : (bt a0 x8_1) = 92
               · rw [if_pos c24] at H
                 have c24b0 : ((bt a0 x8_1) == 92) = true := beq_iff_eq.mpr c24
                 have c24b1 : ((bt a0 x8_1) != 92) = false := bne_eq_false_iff_eq.mpr c24
                 clear c24
                 obtain ⟨y149, hy149⟩ : ∃ y_ : List Int, y_ = (([(48 + ((bt a0 x8_1) / 64)) % 256, (48 + (Go.bits .and .u8 ((bt a0 x8_1) / 8) 7)) % 256, (48 + (Go.bits .and .u8 (bt a0 x8_1) 7)) % 256] : List Int)) := ⟨_, rfl⟩
                 replace H : (if 1 + (strOfNums y149).size ≤ 9223372036854775807 then (if x3_1.size + ((⟨#[92]⟩ : ByteArray) ++ (strOfNums y149)).size ≤ 9223372036854775807 then (spec_octal.l0 k1 a0 (x3_1 ++ ((⟨#[92]⟩ : ByteArray) ++ (strOfNums y149))) (a0.size : Int) (wrap64 (x8_1 + 1))) else (none)) else (none)) = some r := by first | (rw [hy149]; with_reducible exact H) | (have H2_ := (Option.bind_some _ _).symm.trans H; rw [hy149]; with_reducible exact H2_) | (have H2_ := (Option.bind_some _ _).symm.trans H; with_reducible exact H2_) | with_reducible exact H | (rw [hy149]; exact H) | exact H
                 have Ny149 := Aside0.mk hy149
                 clear hy149
                 by_cases c25 : 1 + (strOfNums y149).size ≤ 9223372036854775807
                 · rw [if_pos c25] at H
                   have c25b0 := eq_true c25
                   have c25b1 : decide (1 + (strOfNums y149).size ≤ 9223372036854775807) = true := decide_eq_true c25
                   try have c25b2 : (9223372036854775807 < 1 + (strOfNums y149).size) = False := eq_false (Nat.not_lt.2 c25)
                   by_cases c26 : x3_1.size + ((⟨#[92]⟩ : ByteArray) ++ (strOfNums y149)).size ≤ 9223372036854775807
                   · rw [if_pos c26] at H
                     have c26b0 := eq_true c26
                     have c26b1 : decide (x3_1.size + ((⟨#[92]⟩ : ByteArray) ++ (strOfNums y149)).size ≤ 9223372036854775807) = true := decide_eq_true c26
                     try have c26b2 : (9223372036854775807 < x3_1.size + ((⟨#[92]⟩ : ByteArray) ++ (strOfNums y149)).size) = False := eq_false (Nat.not_lt.2 c26)
                     have c26b3 : (9223372036854775807 < x3_1.size + (1 + (strOfNums y149).size)) = False := by have h_ := c26b2; simp only [ByteArray.size_append] at h_; exact h_
                     have H' := Aside0.mk H
                     clear H
                     have p5 : 0 ≤ (x8_1 : Int) := of_decide_eq_true (by first | (with_reducible assumption) | assumption)
                     have q5 : x8_1 < (a0.size : Int) := of_decide_eq_true (by first | (with_reducible assumption) | assumption)
                     have hx5 := bt_at a0 x8_1
                     replace p5 := eq_true p5
                     replace q5 := eq_true q5
                     go_wp2_with (first | ((with_reducible refine gate_dst (N := 38) rfl ?_); refine Kd.R_lit (Kd.int .u8) _ 5 ?hg (N := 38) ?hd (xs := ([(48 + ((bt a0 x8_1) / 64)) % 256, (48 + (Go.bits .and .u8 ((bt a0 x8_1) / 8) 7)) % 256, (48 + (Go.bits .and .u8 (bt a0 x8_1) 7)) % 256] : List Int)) (inner := [.int .u8 ((48 + ((bt a0 x8_1) / 64)) % 256), .int .u8 ((48 + (Go.bits .and .u8 ((bt a0 x8_1) / 8) 7)) % 256), .int .u8 ((48 + (Go.bits .and .u8 (bt a0 x8_1) 7)) % 256)]) (ok := fun _ => True) (okp := fun _ => True) ?hr ?hp (fun _ hk => hk) trivial (Below.refl _ _) (Nat.le_refl _) (by simp) ?_; (case hd => rfl); (case hg => rfl); (case hr => first | (go_simp; done) | (go_simp; rfl)); (case hp => exact (Reps.one (show Kd.M (Kd.int .u8) _ _ _ ((48 + ((bt a0 x8_1) / 64)) % 256) [.int .u8 ((48 + ((bt a0 x8_1) / 64)) % 256)] from rfl) (Reps.one (show Kd.M (Kd.int .u8) _ _ _ ((48 + (Go.bits .and .u8 ((bt a0 x8_1) / 8) 7)) % 256) [.int .u8 ((48 + (Go.bits .and .u8 ((bt a0 x8_1) / 8) 7)) % 256)] from rfl) (Reps.one (show Kd.M (Kd.int .u8) _ _ _ ((48 + (Go.bits .and .u8 (bt a0 x8_1) 7)) % 256) [.int .u8 ((48 + (Go.bits .and .u8 (bt a0 x8_1) 7)) % 256)] from rfl) (Reps.none _ _))))); intro v150 w27 ho28 hb hg_ hnew_; clear hg_ hnew_; (first | rw [← Ny149.out] at ho28 | (simp only [Int.reduceToNat] at ho28; rw [← Ny149.out] at ho28)); have n0_ := Aside0.mk (Kd.R_lower ho28 (below_size (by repeat (first | (with_reducible first | exact HB.out | apply below_alloc | apply pw_below_drewN | apply below_drew1) | exact HB.out)))); have n1_ := Aside0.mk (below_step (by repeat (first | (with_reducible first | exact HB.out | apply below_alloc | apply pw_below_drewN | apply below_drew1) | exact HB.out)) hb); clear HB; have HO151 := n0_; have HB := n1_; clear n0_ n1_; clear hb ho28; have hcv29 := own_string (P := Tryd.prog) Tryd.underlying83 Tryd.underlying5 Tryd.underlying9 (Kd.own_of_R HO151.out)))
                     go_roundg k1
                     case measure => have := HK1.out; omega
                     case rel => exact ⟨(x3_1 ++ ((⟨#[92]⟩ : ByteArray) ++ (strOfNums y149))), (wrap64 (x8_1 + 1)), (by first | rfl | (simp; done) | (simp [*]; done)), (by first | rfl | (simp; done) | (simp [*]; done)), H', ⟨by have := HK1.out; omega⟩, ⟨by repeat (first | (with_reducible first | exact HB.out | apply below_alloc | apply pw_below_drewN | apply below_drew1) | exact HB.out)⟩⟩
                   · rw [if_neg c26] at H
                     exact absurd H (by simp)
                 · rw [if_neg c25] at H
                   exact absurd H (by simp)
               · rw [if_neg c24] at H
                 have c24b0 : ((bt a0 x8_1) == 92) = false := beq_eq_false_iff_ne.mpr c24
                 have c24b1 : ((bt a0 x8_1) != 92) = true := bne_iff_ne.mpr c24
                 have c30b0 := eq_true (of_decide_eq_true (by first | (with_reducible assumption) | assumption) : 0 ≤ x8_1)
                 by_cases c31 : x8_1 ≤ (wrap64 (x8_1 + 1))
                 · rw [if_pos c31] at H
                   have c31b0 := eq_true c31
                   have c31b1 : decide (x8_1 ≤ (wrap64 (x8_1 + 1))) = true := decide_eq_true c31
                   by_cases c32 : (wrap64 (x8_1 + 1)) ≤ (a0.size : Int)
                   · rw [if_pos c32] at H
                     have c32b0 := eq_true c32
                     have c32b1 : decide ((wrap64 (x8_1 + 1)) ≤ (a0.size : Int)) = true := decide_eq_true c32
                     by_cases c33 : x3_1.size + (a0.extract (x8_1 : Int).toNat ((wrap64 (x8_1 + 1)) : Int).toNat).size ≤ 9223372036854775807
                     · rw [if_pos c33] at H
                       have c33b0 := eq_true c33
                       have c33b1 : decide (x3_1.size + (a0.extract (x8_1 : Int).toNat ((wrap64 (x8_1 + 1)) : Int).toNat).size ≤ 9223372036854775807) = true := decide_eq_true c33
                       try have c33b2 : (9223372036854775807 < x3_1.size + (a0.extract (x8_1 : Int).toNat ((wrap64 (x8_1 + 1)) : Int).toNat).size) = False := eq_false (Nat.not_lt.2 c33)
                       have H' := Aside0.mk H
                       clear H
                       have p5 : 0 ≤ (x8_1 : Int) := of_decide_eq_true (by first | (with_reducible assumption) | assumption)
                       have q5 : x8_1 < (a0.size : Int) := of_decide_eq_true (by first | (with_reducible assumption) | assumption)
                       have hx5 := bt_at a0 x8_1
                       replace p5 := eq_true p5
                       replace q5 := eq_true q5
                       go_wp2
                       go_roundg k1
                       case measure => have := HK1.out; omega
                       case rel => exact ⟨(x3_1 ++ (a0.extract (x8_1 : Int).toNat ((wrap64 (x8_1 + 1)) : Int).toNat)), (wrap64 (x8_1 + 1)), (by first | rfl | (simp; done) | (simp [*]; done)), (by first | rfl | (simp; done) | (simp [*]; done)), H', ⟨by have := HK1.out; omega⟩, ⟨by repeat (first | (with_reducible first | exact HB.out | apply below_alloc | apply pw_below_drewN | apply below_drew1) | exact HB.out)⟩⟩
                     · rw [if_neg c33] at H
                       exact absurd H (by simp)
                   · rw [if_neg c32] at H
                     exact absurd H (by simp)
                 · rw [if_neg c31] at H
                   exact absurd H (by simp)
       · rw [if_neg c4] at H
         exact absurd H (by simp)
     · rw [if_neg c3] at H
       exact absurd H (by simp)
   · rw [if_neg c2] at H
     have c2b0 : decide (x8_1 < (a0.size : Int)) = false := decide_eq_false c2
     clear c2
     obtain rfl := Option.some.inj H
     go_wp2
     go_ret
     exact ⟨by first | rfl | (simp [errW_none, errW_some] <;> rfl) | (simp [*, errW_none, errW_some] <;> rfl), by repeat (first | (with_reducible first | exact HB.out | apply below_alloc | apply pw_below_drewN | apply below_drew1) | exact HB.out)⟩
end Go.Proofs.YtcpldcndhijecaaDoor.QM0
