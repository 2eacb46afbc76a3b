/- The texts Us, Ut, Uv, Va, Vb, Vc, Vd, without what the claims do not use, laid together by a program of this session (wip/tools/bundle.py). Conditions: those of each theorem. -/
import Derived.Test.YtocdnceckljnaaaDoorYc3
import Derived.WideShapes
import Derived.Maps.OwnOps
import Derived.Maps.OwnSet
import Derived.Maps.Views
namespace Go.Proofs.YtocdnceckljnaaaDoor.U
open Go.RowKit Go.Proofs.YtocdnceckljnaaaDoorW.PrintWords Go.Proofs.YtocdnceckljnaaaDoorW.PrintLast Go.Proofs.YtocdnceckljnaaaDoorW.PrintMore
set_option linter.unusedVariables false
set_option linter.unusedSimpArgs false
theorem kOpt_open {w : World} {x : Bs × Bs × Bs} {cs : List Value} (h : kOpt.K w x cs) : cs = [.string (B x.1), .string (B x.2.1), .string (B x.2.2)] := by
  obtain ⟨_, _, rfl, rfl, ⟨_, _, rfl, rfl, rfl⟩⟩ := h
  rfl
set_option maxHeartbeats 4000000 in
set_option maxRecDepth 100000 in
theorem new_option (s n v : Bs) (W : World) : Calls Tryd.prog 49 #[.string (B s), .string (B n), .string (B v)] W fun e w' => ∃ k, e = .returned (pt k) ∧ OptAt w' ⟨k, s, n, v⟩ ∧ Below W.heap.size W w' ∧ W.heap.size ≤ k := by
  have HB := Aside0.mk (below_new W (Obj.cells #[.string (B s), .string (B n), .string (B v)] 64))
  have HN := Aside0.mk (show OptAt (W.alloc (Obj.cells #[.string (B s), .string (B n), .string (B v)] 64)) ⟨W.heap.size, s, n, v⟩ from heap_alloc_new W _)
  go_enter Tryd.func49, Tryd.ntmps49
  go_wp2
  go_ret
  exact ⟨_, rfl, HN.out, HB.out, Nat.le_refl _⟩
theorem opt_cells {w : World} {A : Option Addr} {l : List (Bs × Bs × Bs)} (hC : Kd.C kOpt w A l.length l) (i : Nat) (x : Bs × Bs × Bs) (hx : l[i]? = some x) : ∃ ad, A = some ad ∧ w.cell? (ad.add (i * 3)) = some (.string (B x.1)) ∧ w.cell? ⟨(ad.add (i * 3)).block, (ad.add (i * 3)).off + 1, none⟩ = some (.string (B x.2.1)) ∧ w.cell? ⟨(ad.add (i * 3)).block, (ad.add (i * 3)).off + 2, none⟩ = some (.string (B x.2.2)) := by
  have hi : i < l.length := (List.getElem?_eq_some_iff.1 hx).1
  obtain ⟨ad, cs, hA, _, hK, hc⟩ := Kd.C_get hC ([], [], []) (i : Int) (by omega) (by omega)
  rw [Int.toNat_natCast, List.getD_eq_getElem?_getD, hx] at hK
  have hK' := kOpt_open hK
  simp only [Option.getD_some] at hK'
  subst hK'
  have h0 : w.cell? (ad.add (i * 3 + 0)) = some (.string (B x.1)) := hc 0 _ rfl
  have h1 : w.cell? (ad.add (i * 3 + 1)) = some (.string (B x.2.1)) := hc 1 _ rfl
  have h2 : w.cell? (ad.add (i * 3 + 2)) = some (.string (B x.2.2)) := hc 2 _ rfl
  have e1 : (ad.add (i * 3)).block = ad.block := by unfold Addr.add; split <;> rfl
  have e2 : (ad.add (i * 3)).off = ad.off + i * 3 := by
    unfold Addr.add
    split
    · rename_i h; rw [h]; rfl
    · rfl
  have e3 : ∀ k, ad.add (k + 1) = ⟨ad.block, ad.off + (k + 1), none⟩ := fun k => by
    unfold Addr.add
    split
    · rename_i h; omega
    · rfl
  refine ⟨ad, hA, h0, ?_, ?_⟩
  · rw [e1, e2, Nat.add_assoc, ← e3]; exact h1
  · rw [e1, e2, Nat.add_assoc, ← e3]; exact h2
set_option maxHeartbeats 40000000 in
set_option maxRecDepth 100000 in
theorem options_calls (A : Option Addr) (cap : Nat) (l : List (Bs × Bs × Bs)) (w : World) (hC : Kd.C kOpt w A l.length l) (hl : l.length < 900000000) :
    Calls Tryd.prog 35 #[.slice A l.length cap] w fun e w' => ∃ (v7 : Value) (Os : List OptB), e = .returned v7 ∧ Below w.heap.size w w' ∧ kPtr.R 55 w' w.heap.size (fun _ => True) v7 (Os.map (·.k)) ∧ (∀ x ∈ Os, OptAt w' x) ∧ Os.map OptB.op = l := by
  have HC := Aside0.mk hC
  have HL := Aside0.mk hl
  have HB0 := Aside0.mk (Below.refl w.heap.size w)
  clear hC hl
  go_enter Tryd.func35, Tryd.ntmps35
  go_wp2
  go_loopg [8, 3] l.length (fun kq v8 v3 w' => ∃ (i : Nat) (Os : List OptB), v8 = .int .i64 i ∧ Aside0 (i + kq = l.length) ∧ Aside0 (Below w.heap.size w w') ∧ Aside0 (kPtr.R 55 w' w.heap.size (fun _ => True) v3 (Os.map (·.k))) ∧ Aside0 (∀ x ∈ Os, OptAt w' x) ∧ Aside0 (Os.map OptB.op = l.take i))
  case atStart => exact ⟨0, [], rfl, ⟨by omega⟩, HB0, ⟨Kd.R_nil _ _ _ _ _⟩, ⟨fun x hx => by simp at hx⟩, ⟨by simp⟩⟩
  case round =>
    clear HB0
    obtain ⟨i, Os, rfl, HI, HB, HR, HO, HM⟩ := hrel
    cases gk with
    | zero =>
      obtain rfl : i = l.length := by have := HI.out; omega
      have q1 : decide ((l.length : Int) < (l.length : Int)) = false := by simp
      go_wp2
      go_ret
      exact ⟨_, Os, rfl, HB.out, HR.out, HO.out, by rw [HM.out, List.take_length]⟩
    | succ k1 =>
      have hi : i < l.length := by have := HI.out; omega
      obtain ⟨x, hx⟩ : ∃ x, l[i]? = some x := ⟨_, List.getElem?_eq_getElem hi⟩
      obtain ⟨ad, rfl, c0, c1, c2⟩ := opt_cells HC.out i x hx
      have d0 := keepcell HB.out c0
      have d1 := keepcell HB.out c1
      have d2 := keepcell HB.out c2
      clear c0 c1 c2
      have q1 : decide (i < l.length) = true := by simp; omega
      have z1 : (i : Int) < (l.length : Int) := by omega
      have HX := Aside0.mk hx
      have HI0 := Aside0.mk hi
      clear hx hi
      go_upto_region 5 with (fail)
      have HB3 := Aside0.mk (below_over HB.out (below_new wr (Obj.cells #[Value.string (B x.1), Value.string (B x.2.1), Value.string (B x.2.2)] 29)))
      have HR3 := Aside0.mk (Kd.R_below HR.out (below_new wr (Obj.cells #[Value.string (B x.1), Value.string (B x.2.1), Value.string (B x.2.2)] 29)))
      have HO3 := Aside0.mk (fun (y : OptB) (hy : y ∈ Os) => (show OptAt (wr.alloc (Obj.cells #[Value.string (B x.1), Value.string (B x.2.1), Value.string (B x.2.2)] 29)) y from ((below_new wr _).block y.k (blk_lt (HO.out y hy))).trans (HO.out y hy)))
      have hb3 := heap_alloc_new wr (Obj.cells #[Value.string (B x.1), Value.string (B x.2.1), Value.string (B x.2.2)] 29)
      have f0 := cell_of_blk hb3 0 _ rfl
      have f1 := cell_of_blk hb3 1 _ rfl
      have f2 := cell_of_blk hb3 2 _ rfl
      clear HB HR HO d0 d1 d2 hb3
      generalize (wr.alloc (Obj.cells #[Value.string (B x.1), Value.string (B x.2.1), Value.string (B x.2.2)] 29)) = w3 at HB3 HR3 HO3 f0 f1 f2 ⊢
      generalize wr.heap.size = xb at *
      have hw1 := Aside0.mk (show wrap64 ((i : Int) + 1) = ((i + 1 : Nat) : Int) from wr1 i (by have := HI0.out; have := HL.out; omega))
      have hlm := Aside0.mk (show Os.length = i by have h := congrArg List.length HM.out; rw [List.length_map, List.length_take] at h; have := HI0.out; omega)
      go_wp2_with (first
        | (go_at_call 49; refine (new_option x.1 x.2.1 x.2.2 _).mono ?_; rintro e w4 ⟨k, rfl, ho, hb, _⟩; unfold pt; have HB4 := Aside0.mk (below_over HB3.out hb); have HR4 := Aside0.mk (Kd.R_below HR3.out hb); have HO4 := Aside0.mk (fun (y : OptB) (hy : y ∈ Os) => (show OptAt w4 y from (hb.block y.k (blk_lt (HO3.out y hy))).trans (HO3.out y hy))); have HN4 := Aside0.mk ho; clear ho hb)
        | ((with_reducible refine gate_builtin (b := .append) (xs := #[.tmp 12, .tmp 20]) rfl ?_); at_builtin; refine Kd.R_append kPtr (w0 := w) w.heap.size rfl (.tmp 12) (.tmp 20) 56 55 (.pointer none) 8 rfl Tryd.underlying56 (by kernel_rfl) rfl (by decide) (by decide) u3 (Os.map (·.k)) k [.pointer (some ⟨k, 0, none⟩)] (fun _ => True) (fun _ => False) rfl rfl rfl (fun _ h => h.elim) (fun _ _ => trivial) HR4.out HB4.out HB4.out.size (by rw [List.length_map, hlm.out]; have := HI0.out; have := HL.out; omega) ?_; intro v7 w5 ho hb hg hat; have HR5 := Aside0.mk ho; have HB5 := Aside0.mk hb; have HO5 := Aside0.mk (fun (y : OptB) (hy : OptAt w4 y) => (show OptAt w5 y from blk_grown hy hg (Kd.R_ne HR4.out hy (by decide)))); clear ho hb hg hat))
      go_roundg k1
      case measure => omega
      case rel =>
        refine ⟨i + 1, Os ++ [⟨k, x.1, x.2.1, x.2.2⟩], by first | rfl | (simp; done) | (rw [← hw1.out]), ⟨by have := HI.out; omega⟩, HB5, ⟨by rw [List.map_append]; exact HR5.out⟩, ⟨fun y hy => ?_⟩, ⟨?_⟩⟩
        · rcases List.mem_append.1 hy with hy | hy
          · exact HO5.out y (HO4.out y hy)
          · rw [List.mem_singleton.1 hy]
            exact HO5.out _ HN4.out
        · rw [List.map_append, HM.out, List.take_add_one, HX.out]
          rfl
end Go.Proofs.YtocdnceckljnaaaDoor.U
namespace Go.Proofs.YtocdnceckljnaaaDoor.U
open Go.RowKit Go.Proofs.YtocdnceckljnaaaDoorW.PrintWords Go.Proofs.YtocdnceckljnaaaDoorW.PrintLast Go.Proofs.YtocdnceckljnaaaDoorW.PrintMore
set_option linter.unusedVariables false
set_option linter.unusedSimpArgs false
theorem B_toList (l : Bs) : (B l).toList = l := Lib.toList_data (B l)
abbrev Op3 := Bs × Bs × Bs
def cellsOf (a : Op3) : Array Value := #[.string (B a.1), .string (B a.2.1), .string (B a.2.2)]
theorem OptAt.more {W W1 : World} {x : OptB} (h : OptAt W x) (hb : Below W.heap.size W W1) : OptAt W1 x := (hb.block x.k (blk_lt h)).trans h
theorem blk_more {W W1 : World} {k : Nat} {o : Obj} (h : W.heap[k]? = some o) (hb : Below W.heap.size W W1) : W1.heap[k]? = some o := (hb.block k (blk_lt h)).trans h
end Go.Proofs.YtocdnceckljnaaaDoor.U
namespace Go.Proofs.YtocdnceckljnaaaDoor.U
open Go.RowKit Go.Proofs.YtocdnceckljnaaaDoorW.PrintWords Go.Proofs.YtocdnceckljnaaaDoorW.PrintLast Go.Proofs.YtocdnceckljnaaaDoorW.PrintMore
set_option linter.unusedVariables false
set_option linter.unusedSimpArgs false
theorem addr0 (a : Addr) : a.add (0 * 3) = a := by cases a; simp [Addr.add]
def sanity : Bs := [91, 85, 110, 105, 116, 93, 10, 65, 102, 116, 101, 114, 61, 97, 46, 116, 97, 114, 103, 101, 116, 10]
theorem sanity_read : readF sanity = some ([([85, 110, 105, 116], [([65, 102, 116, 101, 114], [97, 46, 116, 97, 114, 103, 101, 116])])], [([85, 110, 105, 116], [65, 102, 116, 101, 114], [97, 46, 116, 97, 114, 103, 101, 116])]) := by kernel_rfl
theorem sanity_asc : ∀ c ∈ sanity, c.toNat < 128 := by decide +kernel
set_option maxHeartbeats 4000000 in
set_option maxRecDepth 100000 in
theorem reads_calls (w : World) (ht : Tabs w) : Calls Tryd.prog 16 #[] w fun e w' => e = .returned (.bool true) ∧ Below w.heap.size w w' := by
  have HU := Aside0.mk (unit_read (B sanity) w _ _ ht sanity_asc (by decide +kernel) sanity_read (by decide))
  have heq : ∀ w : World, (binOp .eql 29 (.agg #[.string (B [85, 110, 105, 116]), .string (B [65, 102, 116, 101, 114]), .string (B [97, 46, 116, 97, 114, 103, 101, 116])]) (.agg #[.string ⟨#[85, 110, 105, 116]⟩, .string ⟨#[65, 102, 116, 101, 114]⟩, .string ⟨#[97, 46, 116, 97, 114, 103, 101, 116]⟩])).run Tryd.prog w = .ok (.bool true) w := fun _ => rfl
  clear ht
  unfold sanity B at HU
  go_enter Tryd.func16, Tryd.ntmps16
  go_wp2_with (go_at_call 22; refine HU.out.mono ?_; rintro e w1 ⟨v0, rfl, hR, hb⟩; have HB := Aside0.mk hb; obtain ⟨A, c, hv, _, hC⟩ := Kd.R_reads hR; subst hv; obtain ⟨ad, rfl, c0, c1, c2⟩ := opt_cells hC 0 _ rfl; rw [addr0] at c0 c1 c2; clear hb hR hC)
  go_ret
  exact ⟨rfl, HB.out⟩
end Go.Proofs.YtocdnceckljnaaaDoor.U
namespace Go.Proofs.YtocdnceckljnaaaDoor.U
open Go.RowKit Go.Maps Go.Proofs.YtocdnceckljnaaaDoorW.PrintWords Go.Proofs.YtocdnceckljnaaaDoorW.PrintLast Go.Proofs.YtocdnceckljnaaaDoorW.PrintMore
set_option linter.unusedVariables false
set_option linter.unusedSimpArgs false
def TxAt (W : World) (g : Nat) (l : Bs) : Prop := W.heap[g]? = some (.cells #[.string (B l)] 9 (0, 0))
theorem TxAt.c0 {W : World} {g : Nat} {l : Bs} (h : TxAt W g l) : W.cell? ⟨g, 0, none⟩ = some (.string (B l)) := by rw [blk_cell h]; rfl
theorem TxAt.set {W : World} {g : Nat} {l : Bs} (h : TxAt W g l) (l2 : Bs) : TxAt (W.setCell ⟨g, 0, none⟩ (.string (B l2))) g l2 := by
  show _ = _
  rw [blk_set h]
  rfl
theorem grown_set (W : World) (g j : Nat) (v : Value) : W.grownBy (W.setCell ⟨g, j, none⟩ v) (some g) := ⟨rfl, rfl, rfl, by simp [World.setCell], fun k _ hk => Below.heap_setCell W ⟨g, j, none⟩ v k (fun e => hk (by rw [e]))⟩
set_option maxHeartbeats 4000000 in
set_option maxRecDepth 100000 in
theorem w_newline (g : Nat) (l : Bs) (w : World) (h : TxAt w g l) (hl : l.length < 4000000000000) :
    Calls Tryd.prog 52 #[.pointer (some ⟨g, 0, none⟩)] w fun e w' => e = .returned (.tuple #[]) ∧ TxAt w' g (l ++ [10]) ∧ w.grownBy w' (some g) := by
  have HT := Aside0.mk h
  have hc := h.c0
  have hf := blk_frozen h 0
  have e1 : B l ++ (⟨#[10]⟩ : ByteArray) = B (l ++ [10]) := B_append l [10]
  have z1 : ¬ (9223372036854775807 < (B l).size + 1) := by rw [B_size]; omega
  clear h hl
  go_enter Tryd.func52, Tryd.ntmps52
  go_wp2
  go_end0
  exact ⟨rfl, HT.out.set _, grown_set _ _ _ _⟩
theorem TxAt.set' {W : World} {g : Nat} {l : Bs} (h : TxAt W g l) {S : ByteArray} (l2 : Bs) (hS : S = B l2) : TxAt (W.setCell ⟨g, 0, none⟩ (.string S)) g l2 := hS ▸ h.set l2
theorem grown_drew {W W1 : World} {row : Option Nat} (h : W.grownBy W1 row) : W.grownBy W1.drew row := ⟨h.os, h.tape, h.output, h.size, h.block⟩
theorem TxAt.drew {W : World} {g : Nat} {l : Bs} (h : TxAt W g l) : TxAt W.drew g l := h
set_option maxHeartbeats 4000000 in
set_option maxRecDepth 100000 in
theorem w_header (g : Nat) (l n : Bs) (w : World) (h : TxAt w g l) (hl : l.length + n.length < 4000000000000) :
    Calls Tryd.prog 51 #[.pointer (some ⟨g, 0, none⟩), .string (B n)] w fun e w' => e = .returned (.tuple #[]) ∧ TxAt w' g (l ++ [91] ++ n ++ [93]) ∧ w.grownBy w' (some g) := by
  have HT := Aside0.mk h
  have hc := h.c0
  have hf := blk_frozen h 0
  obtain ⟨S1, hS1⟩ : ∃ S, S = B (l ++ [91]) := ⟨_, rfl⟩
  obtain ⟨S2, hS2⟩ : ∃ S, S = B (l ++ [91] ++ n) := ⟨_, rfl⟩
  obtain ⟨S3, hS3⟩ : ∃ S, S = B (l ++ [91] ++ n ++ [93]) := ⟨_, rfl⟩
  have e1 : B l ++ (⟨#[91]⟩ : ByteArray) = S1 := hS1 ▸ B_append l [91]
  have e2 : S1 ++ B n = S2 := by rw [hS1, hS2]; exact B_append _ _
  have e3 : S2 ++ (⟨#[93]⟩ : ByteArray) = S3 := by rw [hS2, hS3]; exact B_append _ [93]
  have z1 : ¬ (9223372036854775807 < (B l).size + 1) := by rw [B_size]; omega
  have z2 : ¬ (9223372036854775807 < S1.size + (B n).size) := by rw [hS1, B_size, B_size]; simp; omega
  have z3 : ¬ (9223372036854775807 < S2.size + 1) := by rw [hS2, B_size]; simp; omega
  have H1 := Aside0.mk hS1
  have H2 := Aside0.mk hS2
  have H3 := Aside0.mk hS3
  clear h hl hS1 hS2 hS3
  go_enter Tryd.func51, Tryd.ntmps51
  go_wp2
  go_end0
  exact ⟨rfl, ((HT.out.set' _ H1.out).set' _ H2.out).set' _ H3.out, (grown_set _ _ _ _).trans ((grown_set _ _ _ _).trans (grown_set _ _ _ _))⟩
set_option maxHeartbeats 8000000 in
set_option maxRecDepth 100000 in
theorem w_option (g k : Nat) (l s n v : Bs) (w : World) (h : TxAt w g l) (ho : OptAt w ⟨k, s, n, v⟩) (hl : l.length + n.length + v.length < 4000000000000) :
    Calls Tryd.prog 53 #[.pointer (some ⟨g, 0, none⟩), .pointer (some ⟨k, 0, none⟩)] w fun e w' => e = .returned (.tuple #[]) ∧ TxAt w' g (l ++ n ++ [61] ++ v) ∧ w.grownBy w' (some g) := by
  have HT := Aside0.mk h
  have hc := h.c0
  have hf := blk_frozen h 0
  have hn : w.cell? ⟨k, 1, none⟩ = some (.string (B n)) := cell_of_blk ho 1 _ rfl
  have hv : w.cell? ⟨k, 2, none⟩ = some (.string (B v)) := cell_of_blk ho 2 _ rfl
  have hne : g ≠ k := fun e => by
    subst e
    have h2 : w.heap[g]? = _ := h
    have h3 : w.heap[g]? = _ := ho
    rw [h3] at h2
    simp at h2
  obtain ⟨S1, hS1⟩ : ∃ S, S = B (l ++ n) := ⟨_, rfl⟩
  obtain ⟨S2, hS2⟩ : ∃ S, S = B (l ++ n ++ [61]) := ⟨_, rfl⟩
  obtain ⟨S3, hS3⟩ : ∃ S, S = B (l ++ n ++ [61] ++ v) := ⟨_, rfl⟩
  have e1 : B l ++ B n = S1 := hS1 ▸ B_append l n
  have e2 : S1 ++ (⟨#[61]⟩ : ByteArray) = S2 := by rw [hS1, hS2]; exact B_append _ [61]
  have e3 : S2 ++ B v = S3 := by rw [hS2, hS3]; exact B_append _ _
  have z1 : ¬ (9223372036854775807 < (B l).size + (B n).size) := by rw [B_size, B_size]; omega
  have z2 : ¬ (9223372036854775807 < S1.size + 1) := by rw [hS1, B_size]; simp; omega
  have z3 : ¬ (9223372036854775807 < S2.size + (B v).size) := by rw [hS2, B_size, B_size]; simp; omega
  have H1 := Aside0.mk hS1
  have H2 := Aside0.mk hS2
  have H3 := Aside0.mk hS3
  clear h ho hl hS1 hS2 hS3
  go_enter Tryd.func53, Tryd.ntmps53
  go_wp2
  go_region
  go_wp2
  go_region
  go_wp2
  go_end0
  exact ⟨rfl, ((HT.out.set' _ H1.out).set' _ H2.out).set' _ H3.out, grown_drew (grown_drew ((grown_set _ _ _ _).trans ((grown_set _ _ _ _).trans (grown_set _ _ _ _))))⟩
def Rv (v : Value) : Option (DataW Value × List MemPlace) := some (.held v, [])
abbrev kLit (s : Bs) : Lit := .string s
theorem law9 : Keyed Tryd.prog 9 := string_keyed Tryd.underlying9
theorem zero56 (w : World) : (zeroValue 56).run Tryd.prog w = .ok (.slice none 0 0) w := by kernel_rfl
theorem key9 (s : Bs) (h : s.length ≤ 1000000) : keyOf Tryd.prog 9 (.string (B s)) = some (kLit s) :=
  Go.WideMaps.keyOf_string_mk Tryd.underlying9 (by rw [B_size]; unfold maxLen; omega)
def MS (W : World) (gm n : Nat) (val : Bs → Value) (hs : Bs → Bool) : Prop :=
  ∃ D : DataW Value, W.ownsMap Tryd.prog 9 Rv gm n D ∧ IsMap D ∧ ∀ s, has D (kLit s) = hs s ∧ D.atKey (kLit s) (.held (.slice none 0 0)) = .held (val s)
theorem MS.lt {W : World} {gm n : Nat} {val : Bs → Value} {hs : Bs → Bool} (h : MS W gm n val hs) : gm < W.heap.size := by
  obtain ⟨D, h, _⟩ := h
  exact h.lt
theorem MS.kept {W W1 : World} {gm n : Nat} {val : Bs → Value} {hs : Bs → Bool} (h : MS W gm n val hs) {row : Option Nat} (hg : W.grownBy W1 row) (hne : some gm ≠ row) : MS W1 gm n val hs := by
  obtain ⟨D, h, h2⟩ := h
  exact ⟨D, h.kept hg hne, h2⟩
theorem MS.block {W : World} {gm n : Nat} {val : Bs → Value} {hs : Bs → Bool} (h : MS W gm n val hs) : ∃ es clock, W.heap[gm]? = some (.map es clock) := by
  obtain ⟨D, ⟨es, clock, h, _⟩, _⟩ := h
  exact ⟨es, clock, h⟩
theorem MS_made (W : World) : MS (W.alloc (.map #[] 0)) W.heap.size 0 (fun _ => .slice none 0 0) (fun _ => false) :=
  ⟨_, World.ownsMap_made _ _ _ _, ⟨_, rfl⟩, fun s => ⟨rfl, rfl⟩⟩
section
variable {P : Program} (w : World) {ops : Array Oper} {rest : List Oper} {o : Oper} {a : Act} {Q : Exit → Act → World → Prop}
theorem wpList_ms_ok (hg : o.guard = none) (m x : Operand) (hop : o.op = Op.lookup 88 m x true) (gm n : Nat) (val : Bs → Value) (hs : Bs → Bool)
    (hm : a.eval m = .map (some gm)) (hown : MS w gm n val hs) (s : Bs) (hx : a.eval x = .string (B s)) (hl : s.length ≤ 1000000)
    (hK : wpList Tryd.prog ops Q rest (a.put o.dst (.tuple #[val s, .bool (hs s)])) w) : wpList Tryd.prog ops Q (o :: rest) a w := by
  obtain ⟨D, hown, _, hD⟩ := hown
  refine wpList_lookup_own_ok w hg m x 88 hop 9 56 law9 Tryd.underlying88 Rv (zero56 w) (.held (.slice none 0 0)) [] rfl gm n D hm hown _ (kLit s) hx (key9 s hl) ?_
  intro v ps hv
  rw [(hD s).1]
  rw [(hD s).2] at hv
  simp only [Rv, Option.some.injEq, Prod.mk.injEq, DataW.held.injEq] at hv
  rw [hv.1]
  exact hK
theorem wpList_ms (hg : o.guard = none) (m x : Operand) (hop : o.op = Op.lookup 88 m x false) (gm n : Nat) (val : Bs → Value) (hs : Bs → Bool)
    (hm : a.eval m = .map (some gm)) (hown : MS w gm n val hs) (s : Bs) (hx : a.eval x = .string (B s)) (hl : s.length ≤ 1000000)
    (hK : wpList Tryd.prog ops Q rest (a.put o.dst (val s)) w) : wpList Tryd.prog ops Q (o :: rest) a w := by
  obtain ⟨D, hown, _, hD⟩ := hown
  refine wpList_plain hg fun K' hK' => ?_
  obtain ⟨v, ps, hrun, hv⟩ := hown.lookup law9 Tryd.underlying88 (zero56 w) (zd := .held (.slice none 0 0)) (zp := []) rfl (key9 s hl)
  rw [(hD s).2] at hv
  simp only [Rv, Option.some.injEq, Prod.mk.injEq, DataW.held.injEq] at hv
  unfold Oper.wp
  simp [execOp, hop, hm, hx, hrun, Result.andThen]
  rw [hv.1]
  exact hK' _ _ hK
theorem wpList_ms_put (hg : o.guard = none) (m x v : Operand) (hop : o.op = Op.mapUpdate 88 m x v) (gm n : Nat) (val : Bs → Value) (hs : Bs → Bool)
    (hm : a.eval m = .map (some gm)) (hown : MS w gm n val hs) (hn : n < 1000000000) (s : Bs) (hx : a.eval x = .string (B s)) (hl : s.length ≤ 1000000) (vv : Value) (hv : a.eval v = vv)
    (hK : ∀ w', MS w' gm (n + 1) (fun t => if t = s then vv else val t) (fun t => decide (t = s) || hs t) → w.grownBy w' (some gm) → wpList Tryd.prog ops Q rest (a.put o.dst undef) w') : wpList Tryd.prog ops Q (o :: rest) a w := by
  obtain ⟨D, hown, hM, hD⟩ := hown
  refine wpList_mapUpdate_own w hg m x v 88 hop 9 56 law9 Tryd.underlying88 Rv gm n D hm hown (by unfold maxLen; omega) _ vv (kLit s) hx hv (key9 s hl) (.held vv) [] rfl ?_
  intro w' ho hg'
  refine hK w' ⟨_, ho, ?_, fun t => ?_⟩ hg'
  · obtain ⟨es, rfl⟩ := hM
    exact ⟨_, rfl⟩
  · by_cases hts : t = s
    · subst hts
      rw [has_put_same hM (show WideAt.IsKeyLit (.string t) from trivial), atKey_put_same hM (show WideAt.IsKeyLit (.string t) from trivial)]
      simp
    · have hne : kLit t ≠ kLit s := fun e => hts (by simpa [kLit] using e)
      rw [has_put_other hne, atKey_put_other hne, (hD t).1, (hD t).2]
      simp [hts]
end
end Go.Proofs.YtocdnceckljnaaaDoor.U
namespace Go.Proofs.YtocdnceckljnaaaDoor.U
open Go.RowKit Go.Maps Go.Proofs.YtocdnceckljnaaaDoorW.PrintWords Go.Proofs.YtocdnceckljnaaaDoorW.PrintLast Go.Proofs.YtocdnceckljnaaaDoorW.PrintMore
set_option linter.unusedVariables false
set_option linter.unusedSimpArgs false
abbrev Op3' := Bs × Bs × Bs
theorem snoc_ind {α : Type} {P : List α → Prop} (h0 : P []) (h1 : ∀ l a, P l → P (l ++ [a])) (l : List α) : P l := by
  rw [← List.reverse_reverse l]
  induction l.reverse with
  | nil => exact h0
  | cons a t ih => rw [List.reverse_cons]; exact h1 _ _ ih
def addKey (ks : List Bs) (s : Bs) : List Bs := if s ∈ ks then ks else ks ++ [s]
def keysF (l : List Op3') : List Bs := l.foldl (fun ks o => addKey ks o.1) []
theorem mem_addKey (ks : List Bs) (s t : Bs) : t ∈ addKey ks s ↔ t = s ∨ t ∈ ks := by
  unfold addKey
  split
  · rename_i h
    exact ⟨.inr, fun e => e.elim (fun e => e ▸ h) id⟩
  · rw [List.mem_append, List.mem_singleton]
    exact ⟨fun e => e.symm, fun e => e.symm⟩
theorem keysF_snoc (l : List Op3') (o : Op3') : keysF (l ++ [o]) = addKey (keysF l) o.1 := by
  unfold keysF
  rw [List.foldl_append]
  rfl
theorem mem_keysF (l : List Op3') (s : Bs) : s ∈ keysF l ↔ s ∈ l.map (·.1) := by
  induction l using snoc_ind with
  | h0 => simp [keysF]
  | h1 l o ih =>
    rw [keysF_snoc, mem_addKey, ih, List.map_append, List.mem_append]
    simp only [List.map_cons, List.map_nil, List.mem_singleton]
    exact ⟨fun e => e.symm, fun e => e.symm⟩
theorem keysF_len (l : List Op3') : (keysF l).length ≤ l.length := by
  induction l using snoc_ind with
  | h0 => simp [keysF]
  | h1 l o ih =>
    rw [keysF_snoc, List.length_append]
    unfold addKey
    split
    · simp; omega
    · simp; omega
def lineF (o : Op3') : Bs := o.2.1 ++ [61] ++ o.2.2 ++ [10]
def linesF (l : List Op3') : Bs := l.flatMap lineF
def secF (l : List Op3') (s : Bs) : Bs := [91] ++ s ++ [93] ++ [10] ++ linesF (l.filter (fun o => o.1 = s))
def accF (l : List Op3') (ks : List Bs) (j : Nat) : Bs := (List.range j).flatMap fun i => secF l (ks.getD i []) ++ if i + 1 < ks.length then [10] else []
def writeF (l : List Op3') : Bs := accF l (keysF l) (keysF l).length
theorem accF_succ (l : List Op3') (ks : List Bs) (j : Nat) : accF l ks (j + 1) = accF l ks j ++ (secF l (ks.getD j []) ++ if j + 1 < ks.length then [10] else []) := by
  unfold accF
  rw [List.range_succ, List.flatMap_append]
  simp
def Short (l : List Op3') : Prop := l.length ≤ 1000 ∧ ∀ o ∈ l, o.1.length ≤ 1000 ∧ o.2.1.length ≤ 1000 ∧ o.2.2.length ≤ 1000
theorem linesF_len (l : List Op3') (h : ∀ o ∈ l, o.1.length ≤ 1000 ∧ o.2.1.length ≤ 1000 ∧ o.2.2.length ≤ 1000) : (linesF l).length ≤ 2002 * l.length := by
  induction l with
  | nil => simp [linesF]
  | cons o l ih =>
    have h1 := ih (fun o ho => h o (List.mem_cons_of_mem _ ho))
    have h2 := h o List.mem_cons_self
    unfold linesF at h1 ⊢
    rw [List.flatMap_cons, List.length_append, List.length_cons]
    have : (lineF o).length ≤ 2002 := by simp [lineF]; omega
    omega
theorem filter_short {l : List Op3'} (h : Short l) (p : Op3' → Bool) : Short (l.filter p) :=
  ⟨Nat.le_trans (List.length_filter_le _ _) h.1, fun o ho => h.2 o (List.mem_filter.1 ho).1⟩
theorem secF_len {l : List Op3'} (h : Short l) (s : Bs) (hs : s.length ≤ 1000) : (secF l s).length ≤ 2010000 := by
  have h1 := filter_short h (fun o => o.1 = s)
  have h2 := linesF_len _ h1.2
  have h3 := h1.1
  unfold secF
  simp
  omega
theorem key_short {l : List Op3'} (h : Short l) {s : Bs} (hs : s ∈ keysF l) : s.length ≤ 1000 := by
  rw [mem_keysF] at hs
  obtain ⟨o, ho, rfl⟩ := List.mem_map.1 hs
  exact (h.2 o ho).1
theorem keys_getD {l : List Op3'} (h : Short l) (j : Nat) : ((keysF l).getD j []).length ≤ 1000 := by
  by_cases hj : j < (keysF l).length
  · rw [List.getD_eq_getElem?_getD, List.getElem?_eq_getElem hj]
    exact key_short h (List.getElem_mem hj)
  · rw [List.getD_eq_getElem?_getD, List.getElem?_eq_none (by omega)]
    simp
theorem accF_len {l : List Op3'} (h : Short l) (j : Nat) : (accF l (keysF l) j).length ≤ 2010001 * j := by
  induction j with
  | zero => simp [accF]
  | succ j ih =>
    rw [accF_succ, List.length_append, List.length_append]
    have h1 := secF_len h _ (keys_getD h j)
    have h2 : (if j + 1 < (keysF l).length then ([10] : Bs) else []).length ≤ 1 := by split <;> simp
    omega
theorem sR_at {e base : Nat} {ok : Nat → Prop} {W : World} {v : Value} {xs : List ByteArray} (h : Kd.string.R e W base ok v xs) (hp : 0 < xs.length) : ∃ g cap, v = .slice (some ⟨g, 0, none⟩) xs.length cap ∧ v.ownBlock = some g ∧ xs.length ≤ cap ∧ ∀ i x, xs[i]? = some x → W.cell? ⟨g, i, none⟩ = some (.string x) := by
  obtain ⟨g, cap, rfl, hg, hlt, _⟩ := Kd.R_form h hp
  obtain ⟨A, c, hv, hl, hC⟩ := Kd.R_reads h
  injection hv with hA _ hcap
  subst hA hcap
  refine ⟨g, cap, rfl, rfl, hl, fun i x hx => ?_⟩
  have hi : i < xs.length := (List.getElem?_eq_some_iff.1 hx).1
  obtain ⟨ad, cs, hA, _, hK, hc⟩ := Kd.C_get hC ⟨#[]⟩ (i : Int) (by omega) (by omega)
  obtain rfl := Option.some.inj hA
  have hK' : cs = [.string (xs.getD (i : Int).toNat ⟨#[]⟩)] := hK
  rw [Int.toNat_natCast, List.getD_eq_getElem?_getD, hx] at hK'
  have := hc 0 (.string x) (by rw [hK']; rfl)
  by_cases h0 : i = 0
  · subst h0; simpa [Addr.add, Kd.string, Kd.scalar] using this
  · simpa [Addr.add, Kd.string, Kd.scalar, h0] using this
theorem sR_typed {e base : Nat} {ok : Nat → Prop} {W : World} {v : Value} {xs : List ByteArray} (h : Kd.string.R e W base ok v xs) (k : Nat) (hk : v.ownBlock = some k) : ∃ c, W.heap[k]? = some (Obj.cells c e (0, 0)) := by
  obtain ⟨_, inner, ho, _⟩ := h
  exact own_typed ho k hk
def seen (Os : List OptB) (i : Nat) (s : Bs) : Bool := decide (s ∈ keysF ((Os.take i).map OptB.op))
def ofSec (Os : List OptB) (s : Bs) : List OptB := Os.filter (fun o => o.s = s)
structure SZ (w0 W : World) (gm gb : Nat) (Os : List OptB) (i : Nat) (ks : List Bs) (v5 : Value) (val : Bs → Value) : Prop where
  below : Below w0.heap.size w0 W
  gmb : w0.heap.size ≤ gm
  gbb : w0.heap.size ≤ gb
  buf : TxAt W gb []
  mp : MS W gm i val (seen Os i)
  secs : Kd.string.R 9 W w0.heap.size (fun k => k ≠ gb) v5 (ks.map B)
  rows : ∀ s, kPtr.R 55 W w0.heap.size (fun _ => True) (val s) ((ofSec (Os.take i) s).map (·.k))
  apart : ∀ s t k, s ≠ t → (val s).ownBlock = some k → (val t).ownBlock ≠ some k
namespace SZ
variable {w0 W W1 W2 : World} {gm gb i : Nat} {Os : List OptB} {ks : List Bs} {v5 : Value} {val : Bs → Value}
theorem gm_cells (h : SZ w0 W gm gb Os i ks v5 val) {g : Nat} {c : Array Value} {t : TypeId} (hc : W.heap[g]? = some (.cells c t (0, 0))) : gm ≠ g := fun e => by
  subst e
  obtain ⟨es, clock, hm⟩ := h.mp.block
  rw [hc] at hm
  injection hm with hm
  cases hm
theorem more (h : SZ w0 W gm gb Os i ks v5 val) (hb : Below W.heap.size W W1) : SZ w0 W1 gm gb Os i ks v5 val where
  below := below_over h.below hb
  gmb := h.gmb
  gbb := h.gbb
  buf := (hb.block gb (blk_lt h.buf)).trans h.buf
  mp := h.mp.kept (grown_of_below hb none) (by simp)
  secs := Kd.R_below h.secs hb
  rows := fun s => Kd.R_below (h.rows s) hb
  apart := h.apart
theorem addKey (h : SZ w0 W gm gb Os i ks v5 val) {v5' : Value} {s : Bs} (HR : Kd.string.R 9 W1 w0.heap.size (fun k => k ≠ gb) v5' (ks.map B ++ [B s])) (HB : Below w0.heap.size w0 W1) (hg : W.grownBy W1 v5.ownBlock) :
    SZ w0 W1 gm gb Os i (ks ++ [s]) v5' val where
  below := HB
  gmb := h.gmb
  gbb := h.gbb
  buf := blk_grown h.buf hg (fun e => h.secs.1 gb e.symm rfl)
  mp := h.mp.kept hg (fun e => by
    obtain ⟨c, hc⟩ := sR_typed h.secs gm e.symm
    exact h.gm_cells hc rfl)
  secs := by rw [List.map_append]; exact HR
  rows := fun t => Kd.R_over (h.rows t) h.secs (fun q hq => by
    have : q = 55 := by simpa [kPtr, Kd.scalar] using hq
    subst this; decide) hg
  apart := h.apart
theorem mpRow (h : SZ w0 W gm gb Os i ks v5 val) {s : Bs} (hg : W.grownBy W1 (val s).ownBlock) : MS W1 gm i val (seen Os i) :=
  h.mp.kept hg (fun e => by
    obtain ⟨c, hc⟩ := kR_typed (h.rows s) gm e.symm
    exact h.gm_cells hc rfl)
theorem addRow (h : SZ w0 W gm gb Os i ks v5 val) {x : OptB} (hx : Os[i]? = some x) {v1 : Value} (HR : kPtr.R 55 W1 w0.heap.size (fun _ => True) v1 ((ofSec (Os.take i) x.s).map (·.k) ++ [x.k])) (HB : Below w0.heap.size w0 W1)
    (hg : W.grownBy W1 (val x.s).ownBlock) (hat : v1.ownBlock = (val x.s).ownBlock ∨ ∃ b, v1.ownBlock = some b ∧ W.heap.size ≤ b)
    (hm : MS W2 gm (i + 1) (fun t => if t = x.s then v1 else val t) (fun t => decide (t = x.s) || seen Os i t)) (hg2 : W1.grownBy W2 (some gm)) :
    SZ w0 W2 gm gb Os (i + 1) ks v5 (fun t => if t = x.s then v1 else val t) := by
  have htk : Os.take (i + 1) = Os.take i ++ [x] := by rw [List.take_add_one, hx]; rfl
  have hgmlt : gm < W.heap.size := h.mp.lt
  have hm1 : ∃ es clock, W1.heap[gm]? = some (.map es clock) := by
    obtain ⟨es, clock, hb⟩ := h.mp.block
    refine ⟨es, clock, (hg.block gm hgmlt (fun e => ?_)).trans hb⟩
    obtain ⟨c, hc⟩ := kR_typed (h.rows x.s) gm e.symm
    exact h.gm_cells hc rfl
  have hne : ∀ {g : Nat} {c : Array Value} {t : TypeId}, W1.heap[g]? = some (.cells c t (0, 0)) → some g ≠ some gm := fun hc e => by
    obtain ⟨es, clock, hb⟩ := hm1
    injection e with e
    subst e
    rw [hc] at hb
    injection hb with hb
    cases hb
  have hbuf1 : TxAt W1 gb [] := blk_grown h.buf hg (Kd.R_ne (h.rows x.s) h.buf (by decide))
  have hsec1 := Kd.R_over h.secs (h.rows x.s) (fun q hq => by
    have : q = 9 := by simpa [Kd.string, Kd.scalar] using hq
    subst this; decide) hg
  refine ⟨pw_below_grown HB _ (Nat.le_trans h.below.size hg.size |> fun e => HB.size) hg2 (fun k e => by injection e with e; rw [← e]; exact h.gmb), h.gmb, h.gbb, blk_grown hbuf1 hg2 (hne hbuf1), ?_, ?_, ?_, ?_⟩
  · have e1 : (fun t => decide (t = x.s) || seen Os i t) = seen Os (i + 1) := by
      funext t
      unfold seen
      rw [htk, List.map_append, List.map_cons, List.map_nil, keysF_snoc, Bool.eq_iff_iff]
      simp only [Bool.or_eq_true, decide_eq_true_eq, mem_addKey]
      rfl
    rw [← e1]
    exact hm
  · refine Kd.R_grown2 hsec1 rfl hg2 (fun k e e2 => ?_)
    injection e with e
    subst e
    obtain ⟨c, hc⟩ := sR_typed hsec1 _ e2.symm
    exact hne hc rfl
  · intro t
    have hof : ofSec (Os.take (i + 1)) t = ofSec (Os.take i) t ++ if x.s = t then [x] else [] := by
      unfold ofSec
      rw [htk, List.filter_append]
      by_cases hxt : x.s = t
      · simp [hxt]
      · simp [hxt]
    rw [hof]
    by_cases hts : t = x.s
    · subst hts
      rw [if_pos rfl, if_pos rfl, List.map_append]
      exact kR_grown HR hg2 (fun k hk => by
        obtain ⟨c, hc⟩ := kR_typed HR k hk
        exact hne hc)
    · rw [if_neg hts, if_neg (fun e => hts e.symm), List.append_nil]
      have h1 := kR_grown (h.rows t) hg (fun k hk e => h.apart t x.s k hts hk e.symm)
      exact kR_grown h1 hg2 (fun k hk => by
        obtain ⟨c, hc⟩ := kR_typed h1 k hk
        exact hne hc)
  · intro s t k hst hs ht
    have hlt : ∀ t, (val t).ownBlock = some k → k < W.heap.size := fun t e => Kd.R_lt (h.rows t) k e
    by_cases h1 : s = x.s
    · subst h1
      rw [if_pos rfl] at hs
      rw [if_neg (fun e => hst e.symm)] at ht
      rcases hat with e | ⟨b, e, hb⟩
      · exact h.apart x.s t k hst (e ▸ hs) ht
      · rw [e] at hs
        injection hs with hs
        have := hlt t ht
        omega
    · rw [if_neg h1] at hs
      by_cases h2 : t = x.s
      · subst h2
        rw [if_pos rfl] at ht
        rcases hat with e | ⟨b, e, hb⟩
        · exact h.apart s x.s k h1 hs (e ▸ ht)
        · rw [e] at ht
          injection ht with ht
          have := hlt s hs
          omega
      · rw [if_neg h2] at ht
        exact h.apart s t k hst hs ht
end SZ
end Go.Proofs.YtocdnceckljnaaaDoor.U
namespace Go.Proofs.YtocdnceckljnaaaDoor.U
open Go.RowKit Go.Maps Go.Proofs.YtocdnceckljnaaaDoorW.PrintWords Go.Proofs.YtocdnceckljnaaaDoorW.PrintLast Go.Proofs.YtocdnceckljnaaaDoorW.PrintMore
set_option linter.unusedVariables false
set_option linter.unusedSimpArgs false
theorem sR_fresh {e base g : Nat} {ok : Nat → Prop} {W : World} (hok : ok g) (hb : base ≤ g) (h : W.heap[g]? = some (Obj.cells #[] e (0, 0))) : Kd.string.R e W base ok (.slice (some ⟨g, 0, none⟩) 0 0) [] :=
  ⟨fun k hk => by simp [Value.ownBlock] at hk; subst hk; exact hok, [], ⟨rfl, .inr ⟨g, 0, #[], rfl, hb, h, Nat.le_refl _, by decide, by simp, rfl⟩⟩, ⟨rfl, fun j p hj => by simp at hj⟩⟩
theorem sz_start (w : World) (Os : List OptB) : SZ w (((w.alloc (.cells #[.string ⟨#[]⟩] 9)).alloc (.map #[] 0)).alloc (.cells #[] 9)) (w.heap.size + 1) w.heap.size Os 0 [] (.slice (some ⟨w.heap.size + 1 + 1, 0, none⟩) 0 0) (fun _ => .slice none 0 0) := by
  have e1 : (w.alloc (.cells #[.string ⟨#[]⟩] 9)).heap.size = w.heap.size + 1 := by simp
  have e2 : ((w.alloc (.cells #[.string ⟨#[]⟩] 9)).alloc (.map #[] 0)).heap.size = w.heap.size + 1 + 1 := by simp
  have b1 := below_new w (.cells #[.string ⟨#[]⟩] 9)
  have b2 := below_new (w.alloc (.cells #[.string ⟨#[]⟩] 9)) (.map #[] 0)
  have b3 := below_new ((w.alloc (.cells #[.string ⟨#[]⟩] 9)).alloc (.map #[] 0)) (.cells #[] 9)
  refine ⟨below_over (below_over b1 b2) b3, by omega, Nat.le_refl _, ?_, ?_, ?_, fun s => Kd.R_nil _ _ _ _ _, fun s t k _ h => by simp [Value.ownBlock] at h⟩
  · have h0 := heap_alloc_new w (.cells #[.string ⟨#[]⟩] 9)
    show _ = _
    rw [b3.block _ (by omega), b2.block _ (by omega)]
    exact h0
  · have h1 := MS_made (w.alloc (.cells #[.string ⟨#[]⟩] 9))
    rw [e1] at h1
    exact h1.kept (grown_of_below b3 none) (by simp)
  · have h2 := heap_alloc_new ((w.alloc (.cells #[.string ⟨#[]⟩] 9)).alloc (.map #[] 0)) (.cells #[] 9)
    rw [e2] at h2
    exact sR_fresh (by omega) (by omega) h2
theorem ofSec_op (Os : List OptB) (s : Bs) : (ofSec Os s).map OptB.op = (Os.map OptB.op).filter (fun o => o.1 = s) := by
  unfold ofSec
  rw [List.filter_map]
  rfl
theorem lines_snoc (F : List OptB) (q : Nat) (x : OptB) (hx : F[q]? = some x) : linesF ((F.take (q + 1)).map OptB.op) = linesF ((F.take q).map OptB.op) ++ x.n ++ [61] ++ x.v ++ [10] := by
  rw [List.take_add_one, hx]
  simp [linesF, lineF, OptB.op]
set_option maxHeartbeats 40000000 in
set_option maxRecDepth 100000 in
theorem serialize_calls (g cap : Nat) (Os : List OptB) (w : World) (hE : ∀ i x, Os[i]? = some x → w.cell? ⟨g, i, none⟩ = some (.pointer (some ⟨x.k, 0, none⟩))) (hO : ∀ x ∈ Os, OptAt w x) (hp : 0 < Os.length) (hS : Short (Os.map OptB.op)) :
    Calls Tryd.prog 38 #[.slice (some ⟨g, 0, none⟩) Os.length cap] w fun e w' => e = .returned (.string (B (writeF (Os.map OptB.op)))) ∧ Below w.heap.size w w' := by
  have HE := Aside0.mk hE
  have HO := Aside0.mk hO
  have HS := Aside0.mk hS
  have hmm := @run_makeMap Tryd.prog
  have HL := Aside0.mk (show Os.length ≤ 1000 by have := hS.1; rwa [List.length_map] at this)
  have q0 : ((Os.length : Int) == 0) = false := by
    rw [beq_eq_false_iff_ne]
    omega
  have HZ0 := Aside0.mk (sz_start w Os)
  have HBS := Aside0.mk (below_over (below_over (below_new w (.cells #[.string ⟨#[]⟩] 9)) (below_new _ (.map #[] 0))) (below_new _ (.cells #[] 9)))
  clear hE hO hS
  go_enter Tryd.func38, Tryd.ntmps38
  go_wp2
  generalize (((w.alloc (Obj.cells #[Value.string ⟨#[]⟩] 9)).alloc (Obj.map #[] 0)).alloc (Obj.cells #[] 9)) = W at HZ0 HBS ⊢
  generalize (Value.slice (some { block := w.heap.size + 1 + 1, off := 0 }) 0 0) = v50 at HZ0 ⊢
  obtain ⟨gm, hgm⟩ : ∃ k, k = w.heap.size + 1 := ⟨_, rfl⟩
  obtain ⟨gb, hgb⟩ : ∃ k, k = w.heap.size := ⟨_, rfl⟩
  obtain ⟨base, hba⟩ : ∃ k, k = w.heap.size := ⟨_, rfl⟩
  rw [← hgm] at HZ0 ⊢
  replace HZ0 := Aside0.mk (show SZ w W gm gb Os 0 [] v50 (fun _ => .slice none 0 0) by rw [hgb]; exact HZ0.out)
  rw [← hgb]
  clear hgm hba
  have HGB := Aside0.mk hgb
  clear hgb
  go_loopg [24, 5] Os.length (fun kq v24 v5 w' => ∃ (i : Nat) (ks : List Bs) (val : Bs → Value), v24 = .int .i64 i ∧ Aside0 (i + kq = Os.length) ∧ Aside0 (ks = keysF ((Os.take i).map OptB.op)) ∧ Aside0 (SZ w w' gm gb Os i ks v5 val))
  case atStart => exact ⟨0, [], _, rfl, ⟨by omega⟩, ⟨by simp [keysF]⟩, HZ0⟩
  case round =>
    clear HZ0
    obtain ⟨i, ks, val, rfl, HK, HKS, HZ⟩ := hrel
    cases gk with
    | zero =>
      obtain rfl : i = Os.length := by have := HK.out; omega
      have q1 : decide ((Os.length : Int) < (Os.length : Int)) = false := by simp
      have hks := Aside0.mk (show ks = keysF (Os.map OptB.op) by have h := HKS.out; rwa [List.take_length] at h)
      have hkl := Aside0.mk (show ks.length ≤ 1000 by have h := keysF_len (Os.map OptB.op); rw [← hks.out, List.length_map] at h; have := HL.out; omega)
      obtain ⟨A5, c5, h5⟩ := Kd.R_slice HZ.out.secs
      rw [List.length_map] at h5
      subst h5
      obtain ⟨W2, hW2⟩ : ∃ W2, W2 = wr := ⟨_, rfl⟩
      subst hW2
      have HBF := Aside0.mk HZ.out.buf
      have HT0 := Aside0.mk (show TxAt W2 gb (accF (Os.map OptB.op) ks 0) from HBF.out)
      clear HKS HK HBS
      go_wp2
      go_loopg [55] ks.length (fun kq v55 w' => ∃ (j : Nat), v55 = .int .i64 j ∧ Aside0 (j + kq = ks.length) ∧ Aside0 (TxAt w' gb (accF (Os.map OptB.op) ks j)) ∧ Aside0 (W2.grownBy w' (some gb)))
      case atStart => exact ⟨0, rfl, ⟨by omega⟩, HT0, ⟨World.grownBy.refl _ _⟩⟩
      case round =>
        clear HT0
        obtain ⟨j, rfl, HJ, HT, HG⟩ := hrel
        cases gk with
        | zero =>
          obtain rfl : j = ks.length := by have := HJ.out; omega
          have q2 : decide ((ks.length : Int) < (ks.length : Int)) = false := by simp
          have hc := HT.out.c0
          have hlt := World.block_lt_of_cell? _ _ hc
          go_wp2
          go_ret
          refine ⟨by unfold writeF; rw [← hks.out]; rfl, pw_below_grown HZ.out.below _ HZ.out.below.size HG.out (fun k e => by injection e with e; rw [← e]; exact HZ.out.gbb)⟩
        | succ k2 =>
          have hj : j < ks.length := by have := HJ.out; omega
          obtain ⟨s, hs⟩ : ∃ s, ks[j]? = some s := ⟨_, List.getElem?_eq_getElem hj⟩
          have hmem : s ∈ ks := List.mem_of_getElem? hs
          have hsl := Aside0.mk (show s.length ≤ 1000 by rw [hks.out] at hmem; exact key_short HS.out hmem)
          have hsl2 := Aside0.mk (show s.length ≤ 1000000 by have := hsl.out; omega)
          have hgd := Aside0.mk (show ks.getD j [] = s by rw [List.getD_eq_getElem?_getD, hs]; rfl)
          obtain ⟨gs, cs, hA5, hob, h5x, hcs⟩ := sR_at HZ.out.secs (by rw [List.length_map]; omega)
          injection hA5 with hA5 h5y h5z
          clear h5x h5y h5z
          subst hA5
          have hgs : gs ≠ gb := HZ.out.secs.1 gs hob
          have c0 : wr.cell? ⟨gs, j, none⟩ = some (.string (B s)) := by
            have h := hcs j (B s) (by rw [List.getElem?_map, hs]; rfl)
            exact HG.out.cell h (fun e => hgs (by injection e with e))
          have q2 : decide (j < ks.length) = true := by simp; omega
          have z2 : (j : Int) < (ks.length : Int) := by omega
          have hacc := Aside0.mk (show (accF (Os.map OptB.op) ks j).length ≤ 2010001 * j by rw [hks.out]; exact accF_len HS.out j)
          have hjl := Aside0.mk (show j ≤ 1000 by have := hkl.out; omega)
          have hw2 := Aside0.mk (show wrap64 ((j : Int) + 1) = ((j + 1 : Nat) : Int) from wr1 j (by have := hjl.out; omega))
          clear hs hmem hcs hob hj
          obtain ⟨Fo, hF⟩ : ∃ F, F = ofSec Os s := ⟨_, rfl⟩
          have HRow := Aside0.mk (show kPtr.R 55 W2 w.heap.size (fun _ => True) (val s) (Fo.map (·.k)) by have h := HZ.out.rows s; rw [List.take_length] at h; rw [hF]; exact h)
          obtain ⟨A6, c6, h6⟩ := Kd.R_slice HRow.out
          rw [List.length_map] at h6
          have HFl := Aside0.mk (show Fo.length ≤ 1000 by rw [hF]; unfold ofSec; have := List.length_filter_le (fun o : OptB => decide (o.s = s)) Os; have := HL.out; omega)
          have HFm := Aside0.mk (show ∀ x ∈ Fo, x ∈ Os by rw [hF]; intro x hx; exact (List.mem_filter.1 hx).1)
          have HF := Aside0.mk hF
          have HRb := Aside0.mk (Kd.R_ne HRow.out HBF.out (by decide))
          clear hF
          have H6 := Aside0.mk h6
          clear h6
          have HGM := Aside0.mk (show some gm ≠ some gb from fun e => HZ.out.gm_cells HBF.out (Option.some.inj e))
          have HJ5 := HJ
          have hgmw := Aside0.mk HZ.out.mp
          have hb1 := Aside0.mk (show (accF (Os.map OptB.op) ks j).length + s.length < 4000000000000 by have := hacc.out; have := hjl.out; have := hsl.out; omega)
          go_wp2_with (first
            | (go_at_call 51; refine (w_header gb (accF (Os.map OptB.op) ks j) s _ HT.out hb1.out).mono ?_; rintro e w3 ⟨rfl, ht, hg⟩; have HT3 := Aside0.mk ht; have HG3 := Aside0.mk (HG.out.trans hg); clear ht hg)
            | (go_at_call 52; refine (w_newline gb (accF (Os.map OptB.op) ks j ++ [91] ++ s ++ [93]) _ HT3.out (by have := hb1.out; have := hacc.out; have := hjl.out; have := hsl.out; simp; omega)).mono ?_; rintro e w4 ⟨rfl, ht, hg⟩; have HT4 := Aside0.mk ht; have HG4 := Aside0.mk (HG3.out.trans hg); clear ht hg)
            | (at_lookup; refine wpList_ms _ rfl _ _ rfl gm Os.length val (seen Os Os.length) rfl (hgmw.out.kept HG4.out HGM.out) s rfl hsl2.out ?_; rw [H6.out]))
          obtain ⟨acc2, hac2⟩ : ∃ x, x = accF (Os.map OptB.op) ks j ++ [91] ++ s ++ [93] ++ [10] := ⟨_, rfl⟩
          rw [← hac2] at HT4
          have HAC := Aside0.mk hac2
          have hac2l := Aside0.mk (show acc2.length ≤ 2010001 * j + 1003 by have := hacc.out; have := hsl.out; rw [hac2]; simp; omega)
          clear hac2 HT HT3 HG HG3 c0
          have HT5 := Aside0.mk (show TxAt w4 gb (acc2 ++ linesF ((Fo.take 0).map OptB.op)) by have h := HT4.out; simpa [linesF] using h)
          clear HT4
          go_loopg [68] Fo.length (fun kq v68 w' => ∃ (q : Nat), v68 = .int .i64 q ∧ Aside0 (q + kq = Fo.length) ∧ Aside0 (TxAt w' gb (acc2 ++ linesF ((Fo.take q).map OptB.op))) ∧ Aside0 (W2.grownBy w' (some gb)))
          case atStart => exact ⟨0, rfl, ⟨by omega⟩, HT5, HG4⟩
          case round =>
            clear HT5 HG4
            obtain ⟨q, rfl, HQ, HT, HG⟩ := hrel
            cases gk with
            | zero =>
              obtain rfl : q = Fo.length := by have := HQ.out; omega
              have q5 : decide ((Fo.length : Int) < (Fo.length : Int)) = false := by simp
              have hll := Aside0.mk (show (acc2 ++ linesF ((Fo.take Fo.length).map OptB.op)).length < 3000000000 by
                have h1 := hac2l.out
                have h2 : (linesF ((Fo.take Fo.length).map OptB.op)).length ≤ 2002 * ((Fo.take Fo.length).map OptB.op).length := linesF_len _ (fun o ho => by
                  obtain ⟨y, hy, rfl⟩ := List.mem_map.1 ho
                  exact HS.out.2 _ (List.mem_map_of_mem (HFm.out y (List.mem_of_mem_take hy))))
                rw [List.length_map, List.length_take] at h2
                have := HFl.out
                have := hjl.out
                rw [List.length_append]; omega)
              have hse := Aside0.mk (show acc2 ++ linesF ((Fo.take Fo.length).map OptB.op) = accF (Os.map OptB.op) ks j ++ secF (Os.map OptB.op) s by
                rw [List.take_length, HF.out, ofSec_op, HAC.out]
                unfold secF
                simp only [List.append_assoc])
              have hsc := Aside0.mk (accF_succ (Os.map OptB.op) ks j)
              by_cases hlast : j + 1 < ks.length
              · have q6 : decide ((j : Int) < (ks.length : Int) - 1) = true := by simp; omega
                have HLa := Aside0.mk hlast
                have hws : wrap64 ((ks.length : Int) - 1) = (ks.length : Int) - 1 := by have := hkl.out; unfold wrap64; omega
                clear hlast
                go_wp2_with (go_at_call 52; refine (w_newline gb (acc2 ++ linesF ((Fo.take Fo.length).map OptB.op)) _ HT.out (by have := hll.out; omega)).mono ?_; rintro e w6 ⟨rfl, ht, hg⟩; have HT6 := Aside0.mk ht; have HG6 := Aside0.mk (HG.out.trans hg); clear ht hg)
                clear hws
                go_roundg k2
                case measure => omega
                case rel => exact ⟨j + 1, by first | rfl | (simp; done) | (rw [← hw2.out]), ⟨by have := HJ5.out; omega⟩, ⟨by rw [hsc.out, hgd.out, if_pos HLa.out, ← List.append_assoc, ← hse.out]; exact HT6.out⟩, HG6⟩
              · have q6 : decide ((j : Int) < (ks.length : Int) - 1) = false := by simp; omega
                have HLa := Aside0.mk hlast
                have hws : wrap64 ((ks.length : Int) - 1) = (ks.length : Int) - 1 := by have := hkl.out; unfold wrap64; omega
                clear hlast
                go_wp2
                clear hws
                go_roundg k2
                case measure => omega
                case rel => exact ⟨j + 1, by first | rfl | (simp; done) | (rw [← hw2.out]), ⟨by have := HJ5.out; omega⟩, ⟨by rw [hsc.out, hgd.out, if_neg HLa.out, List.append_nil, ← hse.out]; exact HT.out⟩, HG⟩
            | succ k3 =>
              have hq : q < Fo.length := by have := HQ.out; omega
              obtain ⟨x, hx⟩ : ∃ x, Fo[q]? = some x := ⟨_, List.getElem?_eq_getElem hq⟩
              have hmem : x ∈ Os := HFm.out x (List.mem_of_getElem? hx)
              have hk := HRow.out
              rw [H6.out] at hk
              obtain ⟨g6, c7, hA6, h6x, hcs⟩ := kR_at hk (by rw [List.length_map]; omega)
              injection hA6 with hA6 h6y h6z
              clear h6x h6y h6z
              subst hA6
              have hg6 : gb ≠ g6 := fun e => HRb.out (by rw [H6.out, e]; rfl)
              have c0 : wr.cell? ⟨g6, q, none⟩ = some (.pointer (some ⟨x.k, 0, none⟩)) := by
                have h := hcs q x.k (by rw [List.getElem?_map, hx]; rfl)
                exact HG.out.cell h (fun e => hg6 (by injection e with e; exact e.symm))
              have HOx := Aside0.mk (show OptAt wr x by
                have h2 : OptAt W2 x := (HZ.out.below.block x.k (blk_lt (HO.out x hmem))).trans (HO.out x hmem)
                exact blk_grown h2 HG.out (fun e => by
                  injection e with e
                  have h3 : W2.heap[gb]? = _ := HBF.out
                  have h4 : W2.heap[x.k]? = _ := h2
                  rw [e, h3] at h4
                  simp at h4))
              have q7 : decide (q < Fo.length) = true := by simp; omega
              have z7 : (q : Int) < (Fo.length : Int) := by omega
              have hls := Aside0.mk (lines_snoc Fo q x hx)
              have hxs := Aside0.mk (HS.out.2 x.op (List.mem_map_of_mem hmem))
              have hll := Aside0.mk (show (acc2 ++ linesF ((Fo.take q).map OptB.op)).length < 3000000000 by
                have h1 := hac2l.out
                have h2 : (linesF ((Fo.take q).map OptB.op)).length ≤ 2002 * ((Fo.take q).map OptB.op).length := linesF_len _ (fun o ho => by
                  obtain ⟨y, hy, rfl⟩ := List.mem_map.1 ho
                  exact HS.out.2 _ (List.mem_map_of_mem (HFm.out y (List.mem_of_mem_take hy))))
                rw [List.length_map, List.length_take] at h2
                have := HFl.out
                have := hjl.out
                rw [List.length_append]; omega)
              have hw7 := Aside0.mk (show wrap64 ((q : Int) + 1) = ((q + 1 : Nat) : Int) from wr1 q (by have := HFl.out; omega))
              clear hx hmem hk hcs hq
              obtain ⟨accq, hacq⟩ : ∃ y, y = acc2 ++ linesF ((Fo.take q).map OptB.op) := ⟨_, rfl⟩
              rw [← hacq] at HT hll
              have HAQ := Aside0.mk hacq
              clear hacq
              have hxn := Aside0.mk (show x.n.length ≤ 1000 ∧ x.v.length ≤ 1000 from hxs.out.2)
              go_wp2_with (first
                | (go_at_call 53; refine (w_option gb x.k accq x.s x.n x.v _ HT.out HOx.out (by have := hll.out; have := hxn.out; omega)).mono ?_; rintro e w5 ⟨rfl, ht, hg⟩; have HT5 := Aside0.mk ht; have HG5 := Aside0.mk (HG.out.trans hg); clear ht hg)
                | (go_at_call 52; refine (w_newline gb (accq ++ x.n ++ [61] ++ x.v) _ HT5.out (by have := hll.out; have := hxn.out; simp; omega)).mono ?_; rintro e w6 ⟨rfl, ht, hg⟩; have HT6 := Aside0.mk ht; have HG6 := Aside0.mk (HG5.out.trans hg); clear ht hg))
              go_roundg k3
              case measure => omega
              case rel => exact ⟨q + 1, by first | rfl | (simp; done) | (rw [← hw7.out]), ⟨by have := HQ.out; omega⟩, ⟨by rw [hls.out]; have h := HT6.out; rw [HAQ.out] at h; simpa only [List.append_assoc] using h⟩, HG6⟩
    | succ k1 =>
      have hi : i < Os.length := by have := HK.out; omega
      obtain ⟨x, hx⟩ : ∃ x, Os[i]? = some x := ⟨_, List.getElem?_eq_getElem hi⟩
      have hmem : x ∈ Os := List.mem_of_getElem? hx
      have c0 := keepcell HZ.out.below (HE.out i x hx)
      have ho := (HZ.out.below.block x.k (blk_lt (HO.out x hmem))).trans (HO.out x hmem)
      have c1 : wr.cell? ⟨x.k, 0, none⟩ = some (.string (B x.s)) := cell_of_blk ho 0 _ rfl
      have q1 : decide (i < Os.length) = true := by simp; omega
      have z1 : (i : Int) < (Os.length : Int) := by omega
      have HX := Aside0.mk hx
      have hsl := Aside0.mk (show x.s.length ≤ 1000000 by have := (HS.out.2 x.op (List.mem_map_of_mem hmem)).1; have e : x.op.1 = x.s := rfl; rw [e] at this; omega)
      have hw1 := Aside0.mk (show wrap64 ((i : Int) + 1) = ((i + 1 : Nat) : Int) from wr1 i (by have := HK.out; have := HL.out; omega))
      have hkl := Aside0.mk (show ks.length ≤ 1000 by have h := keysF_len ((Os.take i).map OptB.op); rw [← HKS.out, List.length_map, List.length_take] at h; have := HL.out; omega)
      have hrl := Aside0.mk (show ((ofSec (Os.take i) x.s).map (·.k)).length ≤ 1000 by rw [List.length_map]; unfold ofSec; have h := List.length_filter_le (fun o : OptB => decide (o.s = x.s)) (Os.take i); rw [List.length_take] at h; have := HL.out; omega)
      have hkn := Aside0.mk (show keysF ((Os.take (i + 1)).map OptB.op) = addKey ks x.s by rw [List.take_add_one, HX.out, HKS.out]; simp only [Option.toList_some, List.map_append, List.map_cons, List.map_nil]; exact keysF_snoc _ _)
      have hgbw := Aside0.mk (blk_lt HZ.out.buf)
      clear hx hmem ho hi
      by_cases hsn : seen Os i x.s = true
      · have hin := Aside0.mk (show x.s ∈ ks by rw [HKS.out]; unfold seen at hsn; exact of_decide_eq_true hsn)
        have HZ2 := HZ
        go_wp2_with (first
          | (at_lookup; refine wpList_ms_ok _ rfl _ _ rfl gm i val (seen Os i) rfl HZ.out.mp x.s rfl hsl.out ?_)
          | (at_lookup; refine wpList_ms _ rfl _ _ rfl gm i val (seen Os i) rfl HZ2.out.mp x.s rfl hsl.out ?_)
          | ((with_reducible refine gate_builtin (b := .append) (xs := #[.tmp 48, .tmp 50]) rfl ?_); at_builtin; refine Kd.R_append kPtr (w0 := w) w.heap.size rfl (.tmp 48) (.tmp 50) 56 55 (.pointer none) 8 rfl Tryd.underlying56 (by kernel_rfl) rfl (by decide) (by decide) (val x.s) ((ofSec (Os.take i) x.s).map (·.k)) x.k [.pointer (some ⟨x.k, 0, none⟩)] (fun _ => True) (fun _ => False) rfl rfl rfl (fun _ h => h.elim) (fun _ _ => trivial) (HZ2.out.rows x.s) HZ2.out.below HZ2.out.below.size (by have := hrl.out; omega) ?_; intro v8 w6 ho hb hg hat; have HR6 := Aside0.mk ho; have HB6 := Aside0.mk hb; have HG6 := Aside0.mk hg; have HA6 := Aside0.mk hat; have HM6 := Aside0.mk (HZ2.out.mpRow hg); clear ho hb hg hat)
          | (at_mapUpdate; refine wpList_ms_put _ rfl _ _ _ rfl gm i val (seen Os i) rfl HM6.out (by have := HK.out; have := HL.out; omega) x.s rfl hsl.out v8 rfl ?_; intro w7 hm hg2; have HZ3 := Aside0.mk (HZ2.out.addRow HX.out HR6.out HB6.out HG6.out HA6.out hm hg2); clear hm hg2))
        go_roundg k1
        case measure => omega
        case rel => exact ⟨i + 1, ks, _, by first | rfl | (simp; done) | (rw [← hw1.out]), ⟨by have := HK.out; omega⟩, ⟨by rw [hkn.out]; unfold addKey; rw [if_pos hin.out]⟩, HZ3⟩
      · have hsf : seen Os i x.s = false := by simpa using hsn
        have hin := Aside0.mk (show x.s ∉ ks by rw [HKS.out]; unfold seen at hsf; exact of_decide_eq_false hsf)
        clear hsn
        go_wp2_with (first
          | (at_lookup; refine wpList_ms_ok _ rfl _ _ rfl gm i val (seen Os i) rfl HZ.out.mp x.s rfl hsl.out ?_)
          | ((with_reducible refine gate_builtin (b := .append) (xs := #[.tmp 40, .tmp 42]) rfl ?_); at_builtin; refine Kd.R_append Kd.string (w0 := w) w.heap.size rfl (.tmp 40) (.tmp 42) 22 9 (.string ⟨#[]⟩) 16 rfl Tryd.underlying22 (by kernel_rfl) rfl (by decide) (by decide) u5 (ks.map B) (B x.s) [.string (B x.s)] (fun k => k ≠ gb) (fun _ => False) rfl rfl rfl (fun _ h => h.elim) (fun k hk => by have := hgbw.out; omega) HZ.out.secs HZ.out.below HZ.out.below.size (by rw [List.length_map]; have := hkl.out; omega) ?_; intro v7 w5 ho hb hg hat; have HZ2 := Aside0.mk (HZ.out.addKey ho hb hg); clear ho hb hg hat)
          | (at_lookup; refine wpList_ms _ rfl _ _ rfl gm i val (seen Os i) rfl HZ2.out.mp x.s rfl hsl.out ?_)
          | ((with_reducible refine gate_builtin (b := .append) (xs := #[.tmp 48, .tmp 50]) rfl ?_); at_builtin; refine Kd.R_append kPtr (w0 := w) w.heap.size rfl (.tmp 48) (.tmp 50) 56 55 (.pointer none) 8 rfl Tryd.underlying56 (by kernel_rfl) rfl (by decide) (by decide) (val x.s) ((ofSec (Os.take i) x.s).map (·.k)) x.k [.pointer (some ⟨x.k, 0, none⟩)] (fun _ => True) (fun _ => False) rfl rfl rfl (fun _ h => h.elim) (fun _ _ => trivial) (HZ2.out.rows x.s) HZ2.out.below HZ2.out.below.size (by have := hrl.out; omega) ?_; intro v8 w6 ho hb hg hat; have HR6 := Aside0.mk ho; have HB6 := Aside0.mk hb; have HG6 := Aside0.mk hg; have HA6 := Aside0.mk hat; have HM6 := Aside0.mk (HZ2.out.mpRow hg); clear ho hb hg hat)
          | (at_mapUpdate; refine wpList_ms_put _ rfl _ _ _ rfl gm i val (seen Os i) rfl HM6.out (by have := HK.out; have := HL.out; omega) x.s rfl hsl.out v8 rfl ?_; intro w7 hm hg2; have HZ3 := Aside0.mk (HZ2.out.addRow HX.out HR6.out HB6.out HG6.out HA6.out hm hg2); clear hm hg2))
        go_roundg k1
        case measure => omega
        case rel => exact ⟨i + 1, ks ++ [x.s], _, by first | rfl | (simp; done) | (rw [← hw1.out]), ⟨by have := HK.out; omega⟩, ⟨by rw [hkn.out]; unfold addKey; rw [if_neg hin.out]⟩, HZ3⟩
end Go.Proofs.YtocdnceckljnaaaDoor.U
namespace Go.Proofs.YtocdnceckljnaaaDoor.U
open Go.RowKit Go.Maps Go.Proofs.YtocdnceckljnaaaDoorW.PrintWords Go.Proofs.YtocdnceckljnaaaDoorW.PrintLast Go.Proofs.YtocdnceckljnaaaDoorW.PrintMore
set_option linter.unusedVariables false
set_option linter.unusedSimpArgs false
set_option maxHeartbeats 4000000 in
set_option maxRecDepth 100000 in
theorem serialize_nil (A : Option Addr) (cap : Nat) (w : World) :
    Calls Tryd.prog 38 #[.slice A 0 cap] w fun e w' => e = .returned (.string (B [])) ∧ Below w.heap.size w w' := by
  have hc := cell_new w (.string ⟨#[]⟩) 9
  have HB := Aside0.mk (below_new w (.cells #[.string ⟨#[]⟩] 9))
  go_enter Tryd.func38, Tryd.ntmps38
  go_wp2
  go_ret
  exact ⟨rfl, HB.out⟩
set_option maxHeartbeats 4000000 in
set_option maxRecDepth 100000 in
theorem unit_write (A : Option Addr) (cap : Nat) (l : List (Bs × Bs × Bs)) (w : World) (hC : Kd.C kOpt w A l.length l) (hS : Short l) :
    Calls Tryd.prog 19 #[.slice A l.length cap] w fun e w' => e = .returned (.string (B (writeF l))) ∧ Below w.heap.size w w' := by
  have HC := Aside0.mk hC
  have HS := Aside0.mk hS
  have HL := Aside0.mk (show l.length < 900000000 by have := hS.1; omega)
  clear hC hS
  cases l with
  | nil =>
    go_enter Tryd.func19, Tryd.ntmps19
    go_wp2_with (first
      | (go_at_call 35; refine (options_calls A cap [] w HC.out HL.out).mono ?_; rintro e w1 ⟨v7, Os, rfl, hb, hR, hO, hm⟩; obtain rfl : Os = [] := List.map_eq_nil_iff.1 hm; obtain ⟨A7, c7, rfl⟩ := Kd.R_slice hR; have HB1 := Aside0.mk hb; clear hb hR hO hm)
      | (go_at_call 38; refine (serialize_nil A7 c7 _).mono ?_; rintro e w2 ⟨rfl, hb⟩; have HB2 := Aside0.mk (below_over HB1.out hb); clear hb))
    go_ret
    exact ⟨rfl, HB2.out⟩
  | cons o l =>
    generalize hl : o :: l = L at *
    have hp : 0 < L.length := by rw [← hl]; simp
    clear hl o l
    go_enter Tryd.func19, Tryd.ntmps19
    go_wp2_with (first
      | (go_at_call 35; refine (options_calls A cap L w HC.out HL.out).mono ?_; rintro e w1 ⟨v7, Os, rfl, hb, hR, hO, hm⟩; have hp2 : 0 < (Os.map (·.k)).length := by rw [List.length_map, ← List.length_map OptB.op, hm]; exact hp
         obtain ⟨g, c, rfl, _, hcs⟩ := kR_at hR hp2; have HB1 := Aside0.mk hb; have HM1 := Aside0.mk hm; have HO1 := Aside0.mk hO; have hlen : (Os.map (·.k)).length = Os.length := List.length_map _; rw [hlen] at hp2; rw [hlen]
         have HCS := Aside0.mk (show ∀ (i : Nat) (x : OptB), Os[i]? = some x → w1.cell? ⟨g, i, none⟩ = some (.pointer (some ⟨x.k, 0, none⟩)) from fun i x hx => hcs i x.k (by rw [List.getElem?_map, hx]; rfl)); clear hb hR hO hm hcs hlen)
      | (go_at_call 38; refine (serialize_calls g c Os _ HCS.out HO1.out hp2 (by rw [HM1.out]; exact HS.out)).mono ?_; rintro e w2 ⟨rfl, hb⟩; have HB2 := Aside0.mk (below_over HB1.out hb); clear hb; rw [HM1.out]))
    go_ret
    exact ⟨rfl, HB2.out⟩
end Go.Proofs.YtocdnceckljnaaaDoor.U
