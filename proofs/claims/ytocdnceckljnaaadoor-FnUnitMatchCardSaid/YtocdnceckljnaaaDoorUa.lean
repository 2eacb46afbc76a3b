/- The buffer of the unit reader (zzBuf): what fill, ReadRune, UnreadRune, ReadBytes, Buffered and Peek do at a text of bytes below 128. Conditions: see each theorem. -/
import Derived.Test.YtocdnceckljnaaaDoorProg
import Derived.Below
import Derived.Deep.Draws
import Derived.Deep.AppendLies
import Derived.Maps.AppendAt
import Derived.OwnWalk
import Derived.Laws.BytesArg
import Derived.Laws.MakeOwn
import Derived.Laws.OwnMore
import Derived.Deep.OwnRows
import Derived.Tactics
import Derived.Lib.ConvBytes
import Derived.Laws.Slices
import Derived.WalkKit
import Derived.KernelRfl
import Derived.RowKit3
import Derived.Deep.LoopGhost
import Derived.Deep.QuietTactic
import Derived.BigQuiet
import Derived.BigRegion
import Derived.WideLaws
import Derived.Deep.DeepCutAuto
import Derived.Deep.CutBlock
import Derived.Deep.RegionHeld3
import Derived.Laws.Rows
import Derived.Lib.AppendStr
import Derived.ArgAppend
import Derived.Laws.IdiomCopy
import Derived.OrdersHeld
import Derived.Laws.BitsLemmas
import Derived.RowKit
import Derived.Lib.SlBytesConst
import Derived.Lib.Strings
import Derived.Test.YtocdnceckljnaaaDoorWWords
import Derived.Test.YtocdnceckljnaaaDoorWLast
import Derived.Test.YtocdnceckljnaaaDoorWTab
import Derived.Test.YtocdnceckljnaaaDoorWFour
import Derived.Test.YtocdnceckljnaaaDoorWQPut
import Derived.Test.YtocdnceckljnaaaDoorWApart
import Derived.Test.YtocdnceckljnaaaDoorWArr
import Derived.Test.YtocdnceckljnaaaDoorWZeros
import Derived.Test.YtocdnceckljnaaaDoorWFoot
import Derived.Test.YtocdnceckljnaaaDoorWKept
import Derived.Test.YtocdnceckljnaaaDoorWShare
import Derived.Test.YtocdnceckljnaaaDoorWN
import Derived.Test.YtocdnceckljnaaaDoorWFootNe
import Derived.Test.YtocdnceckljnaaaDoorWAt
import Derived.Test.YtocdnceckljnaaaDoorWEqStruct
import Derived.Test.YtocdnceckljnaaaDoorWRepsOne
import Derived.Test.YtocdnceckljnaaaDoorWInv
import Derived.Test.YtocdnceckljnaaaDoorWInvWords
import Derived.Test.YtocdnceckljnaaaDoorWGuard
import Derived.Test.YtocdnceckljnaaaDoorWNEv
import Derived.Test.YtocdnceckljnaaaDoorWMore
namespace Go.Proofs.YtocdnceckljnaaaDoor.U
open Go.RowKit Go.Proofs.YtocdnceckljnaaaDoorW.PrintWords Go.Proofs.YtocdnceckljnaaaDoorW.PrintLast Go.Proofs.YtocdnceckljnaaaDoorW.PrintMore
attribute [local go_sem] min2_int min_two
set_option linter.unusedVariables false
set_option linter.unusedSimpArgs false
/-- From W to W' nothing has turned but the blocks of S. -/
structure Turned (W W' : World) (S : Nat → Prop) : Prop where
  os : W'.os = W.os
  tape : W'.tape = W.tape
  output : W'.output = W.output
  kept : Kept W W' S
namespace Turned
variable {W W1 W2 : World} {S S2 : Nat → Prop}
theorem refl (W : World) (S : Nat → Prop) : Turned W W S := ⟨rfl, rfl, rfl, Kept.refl W S⟩
theorem trans (h : Turned W W1 S) (k : Turned W1 W2 S) : Turned W W2 S := ⟨k.os.trans h.os, k.tape.trans h.tape, k.output.trans h.output, h.kept.then_ k.kept (fun _ h => .inl h)⟩
theorem then_ (h : Turned W W1 S) (k : Turned W1 W2 S2) (hs : ∀ k, S2 k → S k ∨ W.heap.size ≤ k) : Turned W W2 S := ⟨k.os.trans h.os, k.tape.trans h.tape, k.output.trans h.output, h.kept.then_ k.kept hs⟩
theorem mono (h : Turned W W1 S) (hs : ∀ k, S k → S2 k) : Turned W W1 S2 := ⟨h.os, h.tape, h.output, h.kept.mono hs⟩
theorem of_below (h : Below W.heap.size W W1) (S : Nat → Prop) : Turned W W1 S := ⟨h.os, h.tape, h.output, Kept.of_below h S⟩
theorem below (h : Turned W W1 S) (hb : Below W1.heap.size W1 W2) : Turned W W2 S := h.then_ (of_below hb (fun _ => False)) (fun _ hk => hk.elim)
theorem alloc (h : Turned W W1 S) (o : Obj) : Turned W (W1.alloc o) S := h.below (below_alloc (Below.refl _ _) o)
theorem drew (h : Turned W W1 S) : Turned W W1.drew S := ⟨h.os, h.tape, h.output, h.kept⟩
theorem drewN (h : Turned W W1 S) (m : Nat) : Turned W (W1.drewN m) S := ⟨h.os, h.tape, h.output, h.kept⟩
theorem setCell (h : Turned W W1 S) {p : Addr} (hp : S p.block ∨ W.heap.size ≤ p.block) (u : Value) : Turned W (W1.setCell p u) S := ⟨h.os, h.tape, h.output, h.kept.setCell hp u⟩
theorem size (h : Turned W W1 S) : W.heap.size ≤ W1.heap.size := h.kept.1
theorem blk (h : Turned W W1 S) {g : Nat} {o : Obj} (hb : W.heap[g]? = some o) (hn : ¬ S g) : W1.heap[g]? = some o := blk_kept hb h.kept hn
theorem cell (h : Turned W W1 S) {a : Addr} {v : Value} (hb : W.cell? a = some v) (hn : ¬ S a.block) : W1.cell? a = some v := cell_kept hb h.kept hn
/-- Behind w0 all stays as it was, where S lies behind it. -/
theorem over {w0 : World} (h : Turned W W1 S) (hb : Below w0.heap.size w0 W) (hs : ∀ k, S k → w0.heap.size ≤ k) : Below w0.heap.size w0 W1 :=
  ⟨h.os.trans hb.os, h.tape.trans hb.tape, h.output.trans hb.output, Nat.le_trans hb.size h.size, fun i hi => (h.kept.2 i (Nat.lt_of_lt_of_le hi hb.size) (fun hk => by have := hs i hk; omega)).trans (hb.block i hi)⟩
end Turned
/-- The buffer's variable. -/
structure BufAt (W : World) (g : Nat) (T : ByteArray) (r wd : Nat) (last : Int) (done : Bool) : Prop where
  blk : W.heap[g]? = some (.cells #[.string T, .int .i64 r, .int .i64 wd, .int .i64 last, .bool done] 114 (0, 0))
  le : r ≤ wd
  lew : wd ≤ T.size
  big : T.size ≤ 4611686018427387904
namespace BufAt
variable {W W1 : World} {g : Nat} {T : ByteArray} {r wd : Nat} {last : Int} {done : Bool}
theorem c0 (h : BufAt W g T r wd last done) : W.cell? ⟨g, 0, none⟩ = some (.string T) := by rw [blk_cell h.blk]; rfl
theorem c1 (h : BufAt W g T r wd last done) : W.cell? ⟨g, 1, none⟩ = some (.int .i64 r) := by rw [blk_cell h.blk]; rfl
theorem c2 (h : BufAt W g T r wd last done) : W.cell? ⟨g, 2, none⟩ = some (.int .i64 wd) := by rw [blk_cell h.blk]; rfl
theorem c3 (h : BufAt W g T r wd last done) : W.cell? ⟨g, 3, none⟩ = some (.int .i64 last) := by rw [blk_cell h.blk]; rfl
theorem c4 (h : BufAt W g T r wd last done) : W.cell? ⟨g, 4, none⟩ = some (.bool done) := by rw [blk_cell h.blk]; rfl
theorem drewN (h : BufAt W g T r wd last done) (m : Nat) : BufAt (W.drewN m) g T r wd last done := ⟨h.blk, h.le, h.lew, h.big⟩
theorem drew (h : BufAt W g T r wd last done) : BufAt W.drew g T r wd last done := ⟨h.blk, h.le, h.lew, h.big⟩
theorem set1 (h : BufAt W g T r wd last done) (k : Nat) (hk : k ≤ wd) : BufAt (W.setCell ⟨g, 1, none⟩ (.int .i64 k)) g T k wd last done := ⟨by rw [blk_set h.blk]; rfl, hk, h.lew, h.big⟩
theorem set2 (h : BufAt W g T r wd last done) (k : Nat) (hk : r ≤ k) (hl : k ≤ T.size) : BufAt (W.setCell ⟨g, 2, none⟩ (.int .i64 k)) g T r k last done := ⟨by rw [blk_set h.blk]; rfl, hk, hl, h.big⟩
theorem set3 (h : BufAt W g T r wd last done) (k : Int) : BufAt (W.setCell ⟨g, 3, none⟩ (.int .i64 k)) g T r wd k done := ⟨by rw [blk_set h.blk]; rfl, h.le, h.lew, h.big⟩
theorem set4 (h : BufAt W g T r wd last done) (b : Bool) : BufAt (W.setCell ⟨g, 4, none⟩ (.bool b)) g T r wd last b := ⟨by rw [blk_set h.blk]; rfl, h.le, h.lew, h.big⟩
theorem below (h : BufAt W g T r wd last done) (hb : Below W.heap.size W W1) : BufAt W1 g T r wd last done := ⟨(hb.block g (blk_lt h.blk)).trans h.blk, h.le, h.lew, h.big⟩
theorem turned {S : Nat → Prop} (h : BufAt W g T r wd last done) (ht : Turned W W1 S) (hn : ¬ S g) : BufAt W1 g T r wd last done := ⟨ht.blk h.blk hn, h.le, h.lew, h.big⟩
end BufAt
abbrev at_ (g : Nat) : Nat → Prop := fun k => k = g
set_option maxHeartbeats 4000000 in
set_option maxRecDepth 100000 in
theorem fill_end (g : Nat) (T : ByteArray) (r : Nat) (last : Int) (w : World) (hB : BufAt w g T r T.size last false) :
    Calls Tryd.prog 85 #[.pointer (some ⟨g, 0, none⟩)] w fun e w' => e = .returned (.tuple #[]) ∧ BufAt w' g T r T.size last true ∧ Turned w w' (at_ g) := by
  have HB := Aside0.mk hB
  have HT := Aside0.mk (Turned.refl w (at_ g))
  have h0 := hB.c0
  have h2 := hB.c2
  have h4 := hB.c4
  have hf2 := blk_frozen hB.blk 4
  clear hB
  have q1 : ((T.size : Int) == (T.size : Int)) = true := by simp
  go_enter Tryd.func85, Tryd.ntmps85
  go_wp2
  go_quiet (fail)
  go_wp2
  refine bodyPost_ret (results_none rfl _ _ _) rfl ?_
  exact ⟨rfl, (HB.out.drewN _).set4 true, (HT.out.drewN _).setCell (.inl rfl) _⟩
set_option maxHeartbeats 4000000 in
set_option maxRecDepth 100000 in
theorem fill_more (g : Nat) (T : ByteArray) (r wd : Nat) (last : Int) (dn : Bool) (w : World) (hB : BufAt w g T r wd last dn) (hlt : wd < T.size) (m : Nat) (hm : min T.size (r + 4096) = m) :
    Calls Tryd.prog 85 #[.pointer (some ⟨g, 0, none⟩)] w fun e w' => e = .returned (.tuple #[]) ∧ BufAt w' g T r m last dn ∧ Turned w w' (at_ g) := by
  have HB := Aside0.mk hB
  have HT := Aside0.mk (Turned.refl w (at_ g))
  have h0 := hB.c0
  have h1 := hB.c1
  have h2 := hB.c2
  have hf2 := blk_frozen hB.blk 2
  have hbig := hB.big
  have hle := hB.le
  have q1 : ((wd : Int) == (T.size : Int)) = false := by rw [beq_eq_false_iff_ne]; omega
  have hr1 : r ≤ m := by omega
  have hr2 : m ≤ T.size := by omega
  have v1 : IntKind.i64.wrap ((r : Int) + 4096) = (r : Int) + 4096 := by unfold IntKind.wrap; simp [IntKind.bits, IntKind.signed]; omega
  have v2 : min (T.size : Int) ((r : Int) + 4096) = (m : Int) := by omega
  clear hB hbig hle hlt hm
  go_enter Tryd.func85, Tryd.ntmps85
  go_wp2
  go_quiet (fail)
  go_wp2
  go_region
  go_wp2
  · have e : (r : Int) + 4096 = (m : Int) := by omega
    rw [e]
    go_end0
    exact ⟨rfl, (HB.out.drewN _).set2 m hr1 hr2, (HT.out.drewN _).setCell (.inl rfl) _⟩
  · have e : (T.size : Int) = (m : Int) := by omega
    rw [e]
    go_end0
    exact ⟨rfl, (HB.out.drewN _).set2 m hr1 hr2, (HT.out.drewN _).setCell (.inl rfl) _⟩
/-! #### runes below 128 -/
set_option maxHeartbeats 4000000 in
set_option maxRecDepth 100000 in
theorem full_nil (w : World) : Calls Tryd.prog 90 #[.string ⟨#[]⟩] w fun e w' => e = .returned (.bool false) ∧ w' = w := by
  go_enter Tryd.func90, Tryd.ntmps90
  go_wp2
  go_ret
  exact ⟨rfl, rfl⟩
set_option maxHeartbeats 4000000 in
set_option maxRecDepth 100000 in
theorem full_ascii (s : ByteArray) (c : Nat) (w : World) (h0 : 0 < s.size) (hc : bt s 0 = (c : Int)) (hT : w.cell? ⟨3, c, none⟩ = some (.int .u8 240)) (hc1 : c < 128) :
    Calls Tryd.prog 90 #[.string s] w fun e w' => e = .returned (.bool true) ∧ w' = w := by
  have hx : ∀ h : 0 < s.size, ((s[0]'h).toNat : Int) = (c : Int) := fun h => by rw [← hc]; simp [bt, h]
  have q1 : ((s.size : Int) == 0) = false := by rw [beq_eq_false_iff_ne]; omega
  have q3 : ¬ s.size = 0 := by omega
  have q2 : (c : Int) < 256 := by omega
  clear hc hc1
  go_enter Tryd.func90, Tryd.ntmps90
  go_wp2
  go_ret
  exact ⟨rfl, rfl⟩
set_option maxHeartbeats 4000000 in
set_option maxRecDepth 100000 in
theorem decode_ascii (s : ByteArray) (c : Nat) (w : World) (h0 : 0 < s.size) (hc : bt s 0 = (c : Int)) (hc1 : c < 128) :
    Calls Tryd.prog 91 #[.string s] w fun e w' => e = .returned (.tuple #[.int .i32 c, .int .i64 1]) ∧ w' = w := by
  have hx : ∀ h : 0 < s.size, ((s[0]'h).toNat : Int) = (c : Int) := fun h => by rw [← hc]; simp [bt, h]
  have qn : s.toList.isEmpty = false := by
    rw [Lib.toList_data]
    rw [Lib.size_eq] at h0
    cases h : s.data.toList with
    | nil => rw [h] at h0; simp at h0
    | cons a l => rfl
  have q3 : ¬ s.size = 0 := by omega
  have q2 : (c : Int) < 128 := by omega
  clear hc
  go_enter Tryd.func91, Tryd.ntmps91
  go_wp2
  go_ret2
  exact ⟨rfl, rfl⟩
end Go.Proofs.YtocdnceckljnaaaDoor.U
