/- The texts QA0x24, QA0x25, without what the claims do not use, laid together by a program of this session (wip/tools/bundle.py). Conditions: those of each theorem. -/
import Derived.Test.YtabfehcpcjcomaaGreatDoorYc4
namespace Go.Proofs.YtabfehcpcjcomaaGreatDoor.QA0
open Go.RowKit Go.Proofs.YtabfehcpcjcomaaGreatDoorW.PrintWords Go.Proofs.YtabfehcpcjcomaaGreatDoorW.PrintLast Go.Proofs.YtabfehcpcjcomaaGreatDoorW.PrintMore
attribute [local go_sem] max2_int min2_int max_two min_two max_three min_three max_four min_four
set_option linter.unusedVariables false
set_option linter.unusedSimpArgs false
def spec_told.f (a0 : Bool) : Option (Int) := if a0 = true then (some 1) else (some 2)
set_option maxHeartbeats 8000000 in
set_option maxRecDepth 100000 in
theorem spec_told.calls (a0 : Bool) (r : Int) (w : World) (h : spec_told.f a0 = some r) :
 Calls Tryz.prog 69 #[.bool a0] w fun e w' => e = .returned (.int .i64 r) ∧ Drawn0 w w' := by
 have H : (if a0 = true then (some 1) else (some 2)) = some r := h; clear h
 by_cases c2 : a0 = true
 · subst c2
   have H1 : (some 1) = some r := by rw [if_pos rfl] at H; exact H
   clear H; have H := H1; clear H1; obtain rfl := Option.some.inj H
   go_enter Tryz.func69, Tryz.ntmps69
   go_wp2
   go_ret
   exact ⟨by first | rfl | (simp; done) | (simp [*]; done) | (simp; cases a0.toList <;> rfl), by repeat (first | exact Drawn0.refl _ | apply Drawn0.step)⟩
 · replace c2 := Bool.eq_false_iff.mpr c2; subst c2
   have H1 : (some 2) = some r := by rw [if_neg (show ¬ (false = true) by decide)] at H; exact H
   clear H; have H := H1; clear H1; obtain rfl := Option.some.inj H
   go_enter Tryz.func69, Tryz.ntmps69
   go_wp2
   go_ret
   exact ⟨by first | rfl | (simp; done) | (simp [*]; done) | (simp; cases a0.toList <;> rfl), by repeat (first | exact Drawn0.refl _ | apply Drawn0.step)⟩
def spec_counted.l0 : Nat → Int → Int → Int → List Int → Int → Int → ByteArray → List Int → List ByteArray → Option (Bool)
 | 0, _, _, _, _, _, _, _, _, _ => none
 | k + 1, x1, x2, x3, x12, x13, x14, x941000, x941001, x941002 => if x14 < x13 then (if 0 ≤ x14 then (if x14 < (x12.length : Int) then (if 0 ≤ (wrap64 (x2 - 1)) then (if (rd x12 x14) > (IntKind.u64.wrap ((IntKind.u64.wrap ((shl .u64 1 (wrap64 (x2 - 1))) * 2)) - 1)) then (some false) else (spec_counted.l0 k x1 x2 x3 x12 x13 (wrap64 (x14 + 1)) x941000 x941001 x941002)) else (none)) else (none)) else (none)) else (if (x941001.length : Int) = x1 then (some ((x941002.length : Int) == x3)) else (some false))
def spec_counted.f (k : Nat) (a0_0 : ByteArray) (l0_1 : List Int) (l0_2 : List ByteArray) (a1 : Int) (a2 : Int) (a3 : Int) : Option (Bool) := spec_counted.l0 k a1 a2 a3 l0_1 (l0_1.length : Int) 0 a0_0 l0_1 l0_2
set_option maxHeartbeats 8000000 in
set_option maxRecDepth 100000 in
theorem spec_counted.calls (k : Nat) (a0_0 : ByteArray) (A0_1 : Option Addr) (c0_1 : Nat) (l0_1 : List Int) (A0_2 : Option Addr) (c0_2 : Nat) (l0_2 : List ByteArray) (a1 : Int) (a2 : Int) (a3 : Int) (r : Bool) (w : World) (hr0_1 : Kd.C (Kd.int .u64) w A0_1 l0_1.length l0_1) (hc0_1 : l0_1.length ≤ c0_1) (hr0_2 : Kd.C Kd.string w A0_2 l0_2.length l0_2) (hc0_2 : l0_2.length ≤ c0_2) (h : spec_counted.f k a0_0 l0_1 l0_2 a1 a2 a3 = some r) :
 Calls Tryz.prog 120 #[.agg #[.string a0_0, .slice A0_1 l0_1.length c0_1, .slice A0_2 l0_2.length c0_2], .int .i64 a1, .int .i64 a2, .int .i64 a3] w fun e w' => e = .returned (.bool r) ∧ Below w.heap.size w w' := by
 have hu48 := Tryz.underlying48; have HR0_1 := Aside0.mk hr0_1; have HC0_1 := Aside0.mk hc0_1; clear hr0_1 hc0_1; have HR0_2 := Aside0.mk hr0_2; have HC0_2 := Aside0.mk hc0_2; clear hr0_2 hc0_2; have HB := Aside0.mk (Below.refl w.heap.size w); have H : (spec_counted.l0 k a1 a2 a3 l0_1 (l0_1.length : Int) 0 a0_0 l0_1 l0_2) = some r := h; clear h; have H' := Aside0.mk H; clear H
 go_enter Tryz.func120, Tryz.ntmps120
 go_wp2_with (first | ((with_reducible refine gate_dst (N := 4) rfl ?_); (try (refine gate_guard (by rfl) ?_; dsimp only)); refine box_event ?hg (N := 4) ?hd (cs := #[.string a0_0, .slice A0_1 l0_1.length c0_1, .slice A0_2 l0_2.length c0_2]) (t := 48) ?hr ?_; (case hd => rfl); (case hg => rfl); (case hr => first | (go_simp; done) | (go_simp; rfl)); intro gb940 hg w5 hbox hb; have n0_ := Aside0.mk (below_step (by repeat (first | (with_reducible first | exact HB.out | apply below_alloc | apply pw_below_drewN | apply below_drew1) | exact HB.out)) hb); have n1_ := Aside0.mk (hbox); have n2_ := Aside0.mk ((by rw [hg]; exact (below_size (by repeat (first | (with_reducible first | exact HB.out | apply below_alloc | apply pw_below_drewN | apply below_drew1) | exact HB.out))) : w.heap.size ≤ gb940)); have n3_ := Aside0.mk ((by rw [hg]; exact (below_size (by repeat (first | (with_reducible first | exact HB.out | apply below_alloc | apply pw_below_drewN | apply below_drew1) | exact HB.out))) : w.heap.size ≤ gb940)); clear HB; have HB := n0_; have BK940 := n1_; have GW940 := n2_; have GE940 := n3_; clear n0_ n1_ n2_ n3_; clear hb hbox hg; have hcz6_0 : w5.cell? ⟨gb940, 0, none⟩ = some (.string a0_0) := (blk_cell BK940.out 0).trans rfl; have hcz6_1 : w5.cell? ⟨gb940, 1, none⟩ = some (.slice A0_1 l0_1.length c0_1) := (blk_cell BK940.out 1).trans rfl; have hcz6_2 : w5.cell? ⟨gb940, 2, none⟩ = some (.slice A0_2 l0_2.length c0_2) := (blk_cell BK940.out 2).trans rfl; have hfz6_0 := blk_frozen BK940.out 0; have hfz6_1 := blk_frozen BK940.out 1; have hfz6_2 := blk_frozen BK940.out 2))
 go_loopg [14] k (fun kq v14 w' => ∃ (x14_1 : Int), v14 = .int .i64 x14_1 ∧ Aside0 (spec_counted.l0 kq a1 a2 a3 l0_1 (l0_1.length : Int) x14_1 a0_0 l0_1 l0_2 = some r) ∧ Aside0 (kq ≤ k) ∧ Aside0 (w'.heap[gb940]? = some (.cells #[.string a0_0, (.slice A0_1 l0_1.length c0_1), (.slice A0_2 l0_2.length c0_2)] 48 (0, 0))) ∧ Aside0 (Below w.heap.size w w'))
 case atStart => exact ⟨(0), (by first | rfl | (simp; done) | (simp [*]; done)), H', ⟨Nat.le_refl _⟩, ⟨by (with_reducible repeat (first | refine blk_drewN ?_ _ | refine blk_drew ?_ | refine blk_alloc ?_ _)); exact BK940.out⟩, ⟨by repeat (first | (with_reducible first | exact HB.out | apply below_alloc | apply pw_below_drewN | apply below_drew1 | refine below_set ?_ GE940.out) | exact HB.out)⟩⟩
 case round =>
  clear H'; try clear c1
  try clear p2
  try clear hcz6_0
  try clear hcz6_1
  try clear hcz6_2
  try clear hfz6_0
  try clear hfz6_1
  try clear hfz6_2
  obtain ⟨x14_1, rfl, HA, HK1, BK940, HB⟩ := hrel; cases gk with
  | zero => exact absurd HA.out (by simp [spec_counted.l0])
  | succ k1 =>
   have H := HA.out; clear HA; simp only [spec_counted.l0] at H
   by_cases c7 : x14_1 < (l0_1.length : Int)
   · rw [if_pos c7] at H; have c7b0 : decide (x14_1 < (l0_1.length : Int)) = true := decide_eq_true c7; clear c7
     by_cases c8 : 0 ≤ x14_1
     · rw [if_pos c8] at H; have c8b0 : decide (0 ≤ x14_1) = true := decide_eq_true c8; clear c8
       by_cases c9 : x14_1 < (l0_1.length : Int)
       · rw [if_pos c9] at H; have c9b0 : decide (x14_1 < (l0_1.length : Int)) = true := decide_eq_true c9; clear c9; obtain ⟨ji10, hji10⟩ : ∃ j_ : Int, (wrap64 (a2 - 1)) = j_ := ⟨_, rfl⟩
         replace H : (if 0 ≤ (ji10) then (if (rd l0_1 x14_1) > (IntKind.u64.wrap ((IntKind.u64.wrap ((shl .u64 1 (ji10)) * 2)) - 1)) then (some false) else (spec_counted.l0 k1 a1 a2 a3 l0_1 (l0_1.length : Int) (wrap64 (x14_1 + 1)) a0_0 l0_1 l0_2)) else (none)) = some r := by first | (rw [hji10] at H; exact H) | (simp only [hji10] at H ⊢; exact H)
         have hji10w : (IntKind.i64.wrap (a2 - 1)) = ji10 := (i64_w _).trans hji10
         by_cases c11 : 0 ≤ (ji10)
         · rw [if_pos c11] at H; have c11b0 := eq_true c11; have c11b1 : decide (0 ≤ (ji10)) = true := decide_eq_true c11; clear c11; obtain ⟨ji12, hji12⟩ : ∃ j_ : Int, (shl .u64 1 (ji10)) = j_ := ⟨_, rfl⟩
           replace H : (if (rd l0_1 x14_1) > (IntKind.u64.wrap ((IntKind.u64.wrap ((ji12) * 2)) - 1)) then (some false) else (spec_counted.l0 k1 a1 a2 a3 l0_1 (l0_1.length : Int) (wrap64 (x14_1 + 1)) a0_0 l0_1 l0_2)) = some r := by first | (rw [hji12] at H; exact H) | (simp only [hji12] at H ⊢; exact H)
           have hji12_ : (IntKind.u64.wrap (1 * 2 ^ min (ji10).toNat 64)) = ji12 := hji12; have hji12z : (ji10) ≤ 64 → (IntKind.u64.wrap (1 * 2 ^ (ji10).toNat)) = ji12 := shl_small hji12
           have hji12u : (IntKind.u64.wrap (2 ^ min (ji10).toNat 64)) = ji12 := by have h_ := hji12_; rw [Int.one_mul] at h_; exact h_
           have hji12v : (ji10) ≤ 64 → (IntKind.u64.wrap (2 ^ (ji10).toNat)) = ji12 := fun hle_ => by have h_ := hji12z hle_; rw [Int.one_mul] at h_; exact h_
           by_cases c13 : (rd l0_1 x14_1) > (IntKind.u64.wrap ((IntKind.u64.wrap ((ji12) * 2)) - 1))
           · rw [if_pos c13] at H; have c13b0 : decide ((IntKind.u64.wrap ((IntKind.u64.wrap ((ji12) * 2)) - 1)) < (rd l0_1 x14_1)) = true := decide_eq_true c13; clear c13; obtain rfl := Option.some.inj H; have p941 : 0 ≤ (x14_1 : Int) := of_decide_eq_true (by first | (with_reducible assumption) | assumption); have q941 : x14_1 < (l0_1.length : Int) := of_decide_eq_true (by first | (with_reducible assumption) | assumption); obtain ⟨ad941, e941, hx941_0⟩ := Kd.at_int HR0_1.out x14_1 p941 q941; cases e941; replace hx941_0 := (HB.out.cell (World.block_lt_of_cell? w _ hx941_0)).trans hx941_0; replace p941 := eq_true p941; replace q941 := eq_true q941; go_wp2
             go_ret
             exact ⟨by first | rfl | (simp [errW_none, errW_some] <;> rfl) | (simp only [← hji10, ← hji12]; first | rfl | (simp [errW_none, errW_some] <;> rfl)) | (simp [*, errW_none, errW_some] <;> rfl), by repeat (first | (with_reducible first | exact HB.out | apply below_alloc | apply pw_below_drewN | apply below_drew1 | refine below_set ?_ GE940.out) | exact HB.out)⟩
           · rw [if_neg c13] at H; have c13b0 : decide ((IntKind.u64.wrap ((IntKind.u64.wrap ((ji12) * 2)) - 1)) < (rd l0_1 x14_1)) = false := decide_eq_false c13; clear c13; have H' := Aside0.mk H; clear H; have p941 : 0 ≤ (x14_1 : Int) := of_decide_eq_true (by first | (with_reducible assumption) | assumption); have q941 : x14_1 < (l0_1.length : Int) := of_decide_eq_true (by first | (with_reducible assumption) | assumption); obtain ⟨ad941, e941, hx941_0⟩ := Kd.at_int HR0_1.out x14_1 p941 q941; cases e941; replace hx941_0 := (HB.out.cell (World.block_lt_of_cell? w _ hx941_0)).trans hx941_0; replace p941 := eq_true p941; replace q941 := eq_true q941; go_wp2
             go_roundg k1
             case measure => have := HK1.out; omega
             case rel => exact ⟨(wrap64 (x14_1 + 1)), (by first | rfl | (simp; done) | (simp [*]; done)), H', ⟨by have := HK1.out; omega⟩, ⟨by (with_reducible repeat (first | refine blk_drewN ?_ _ | refine blk_drew ?_ | refine blk_alloc ?_ _)); exact BK940.out⟩, ⟨by repeat (first | (with_reducible first | exact HB.out | apply below_alloc | apply pw_below_drewN | apply below_drew1 | refine below_set ?_ GE940.out) | exact HB.out)⟩⟩
         · rw [if_neg c11] at H; exact absurd H (by simp)
       · rw [if_neg c9] at H; exact absurd H (by simp)
     · rw [if_neg c8] at H; exact absurd H (by simp)
   · rw [if_neg c7] at H; have c7b0 : decide (x14_1 < (l0_1.length : Int)) = false := decide_eq_false c7; clear c7
     by_cases c14 : (l0_1.length : Int) = a1
     · rw [if_pos c14] at H; have c14b0 : ((l0_1.length : Int) == a1) = true := beq_iff_eq.mpr c14; have c14b1 : ((l0_1.length : Int) != a1) = false := bne_eq_false_iff_eq.mpr c14; clear c14; obtain rfl := Option.some.inj H; have hcz15_0 : wr.cell? ⟨gb940, 0, none⟩ = some (.string a0_0) := (blk_cell BK940.out 0).trans rfl; have hcz15_1 : wr.cell? ⟨gb940, 1, none⟩ = some (.slice A0_1 l0_1.length c0_1) := (blk_cell BK940.out 1).trans rfl; have hcz15_2 : wr.cell? ⟨gb940, 2, none⟩ = some (.slice A0_2 l0_2.length c0_2) := (blk_cell BK940.out 2).trans rfl; have hfz15_0 := blk_frozen BK940.out 0; have hfz15_1 := blk_frozen BK940.out 1; have hfz15_2 := blk_frozen BK940.out 2; go_wp2
       go_ret
       exact ⟨by first | rfl | (simp [errW_none, errW_some] <;> rfl) | (simp [*, errW_none, errW_some] <;> rfl), by repeat (first | (with_reducible first | exact HB.out | apply below_alloc | apply pw_below_drewN | apply below_drew1 | refine below_set ?_ GE940.out) | exact HB.out)⟩
     · rw [if_neg c14] at H; have c14b0 : ((l0_1.length : Int) == a1) = false := beq_eq_false_iff_ne.mpr c14; have c14b1 : ((l0_1.length : Int) != a1) = true := bne_iff_ne.mpr c14; obtain rfl := Option.some.inj H; have hcz16_0 : wr.cell? ⟨gb940, 0, none⟩ = some (.string a0_0) := (blk_cell BK940.out 0).trans rfl; have hcz16_1 : wr.cell? ⟨gb940, 1, none⟩ = some (.slice A0_1 l0_1.length c0_1) := (blk_cell BK940.out 1).trans rfl; have hcz16_2 : wr.cell? ⟨gb940, 2, none⟩ = some (.slice A0_2 l0_2.length c0_2) := (blk_cell BK940.out 2).trans rfl; have hfz16_0 := blk_frozen BK940.out 0; have hfz16_1 := blk_frozen BK940.out 1; have hfz16_2 := blk_frozen BK940.out 2; go_wp2
       go_ret
       exact ⟨by first | rfl | (simp [errW_none, errW_some] <;> rfl) | (simp [*, errW_none, errW_some] <;> rfl), by repeat (first | (with_reducible first | exact HB.out | apply below_alloc | apply pw_below_drewN | apply below_drew1 | refine below_set ?_ GE940.out) | exact HB.out)⟩
end Go.Proofs.YtabfehcpcjcomaaGreatDoor.QA0
namespace Go.Proofs.YtabfehcpcjcomaaGreatDoor.QA0
open Go.RowKit Go.Proofs.YtabfehcpcjcomaaGreatDoorW.PrintWords Go.Proofs.YtabfehcpcjcomaaGreatDoorW.PrintLast Go.Proofs.YtabfehcpcjcomaaGreatDoorW.PrintMore
attribute [local go_sem] max2_int min2_int max_two min_two max_three min_three max_four min_four
set_option linter.unusedVariables false
set_option linter.unusedSimpArgs false
def spec_softnetFine.l0 : Nat → List (S48) → List (S48) → Int → Int → Option (Bool)
 | 0, _, _, _, _ => none
 | k + 1, x0, x5, x6, x7 => if x7 < x6 then (if 0 ≤ x7 then (if x7 < (x5.length : Int) then (if ((rd_T48 x5 x7).f0).toList = ([] : List UInt8) then (if (((rd_T48 x5 x7).f1).length : Int) = 13 then (if 0 < (x0.length : Int) then (if (((rd_T48 x5 x7).f1).length : Int) = (((rd_T48 x0 0).f1).length : Int) then ((spec_counted.f k ((rd_T48 x5 x7).f0) ((rd_T48 x5 x7).f1) ((rd_T48 x5 x7).f2) (((rd_T48 x5 x7).f1).length : Int) 32 0).bind fun t945 => (if t945 = true then (spec_softnetFine.l0 k x0 x5 x6 (wrap64 (x7 + 1))) else (some false))) else (some false)) else (none)) else (if (((rd_T48 x5 x7).f1).length : Int) = 15 then (if 0 < (x0.length : Int) then (if (((rd_T48 x5 x7).f1).length : Int) = (((rd_T48 x0 0).f1).length : Int) then ((spec_counted.f k ((rd_T48 x5 x7).f0) ((rd_T48 x5 x7).f1) ((rd_T48 x5 x7).f2) (((rd_T48 x5 x7).f1).length : Int) 32 0).bind fun t947 => (if t947 = true then (spec_softnetFine.l0 k x0 x5 x6 (wrap64 (x7 + 1))) else (some false))) else (some false)) else (none)) else (some false))) else (some false)) else (none)) else (none)) else (some true)
def spec_softnetFine.f (k : Nat) (l0 : List (S48)) : Option (Bool) := spec_softnetFine.l0 k l0 l0 (l0.length : Int) 0
def spec_softnetFine.T4 : Bool × List (List Nat × List Nat) := (true, [([], []), ([0], [0]), ([1], [1]), ([2], [2]), ([3], [3]), ([4, 3], [3, 4]), ([5, 3], [3, 5]), ([6, 3], [3, 6]), ([7, 3, 3], [3, 7]), ([8], [8]), ([9, 8], [8, 9]), ([10, 8], [8, 10]), ([11, 8], [8, 11]), ([8, 12, 3], [3, 8, 12]), ([3, 13], [3, 13]), ([14, 8], [14]), ([15], [15]), ([16, 15], [15, 16]), ([17, 15], [15, 17]), ([15], [15]), ([19, 15], [15, 19]), ([20, 15], [15, 20]), ([21, 15], [15, 21]), ([22, 15], [15, 22]), ([18, 23, 15], [15, 18, 23]), ([15, 24], [15, 24]), ([25, 15], [25]), ([26], [26]), ([26], [26]), ([28, 26], [26, 28]), ([29, 26], [26, 29]), ([27, 30, 26, 26], [26, 27, 30]), ([31, 26], [26, 31]), ([26, 32], [26, 32])])
def spec_softnetFine.B4 : List Nat := [0, 1, 3, 7, 15, 31, 63, 127, 255, 511, 1023, 2047, 4095, 8191, 16383, 32767, 65535, 131071, 262143, 65535, 589823, 1638399, 3735551, 7929855, 16777215, 33554431, 67108863, 134217727, 134217727, 402653183, 939524095, 2147483647, 4294967295, 8589934591]
theorem spec_softnetFine.tab4 : rtab .any (opsOf Tryz.f78 4) = spec_softnetFine.T4 := by kernel_rfl
theorem spec_softnetFine.bits4 : waitsOk spec_softnetFine.T4.2 spec_softnetFine.B4 = true := by kernel_rfl
set_option maxHeartbeats 8000000 in
set_option maxRecDepth 100000 in
theorem spec_softnetFine.calls (k : Nat) (A0 : Option Addr) (c0 : Nat) (l0 : List (S48)) (r : Bool) (w : World) (hr0 : Kd.C k48 w A0 l0.length l0) (hc0 : l0.length ≤ c0) (h : spec_softnetFine.f k l0 = some r) :
 Calls Tryz.prog 78 #[.slice A0 l0.length c0] w fun e w' => e = .returned (.bool r) ∧ Below w.heap.size w w' := by
 have hu48 := Tryz.underlying48; have HR0 := Aside0.mk hr0; have HC0 := Aside0.mk hc0; clear hr0 hc0; have HB := Aside0.mk (Below.refl w.heap.size w); have H : (spec_softnetFine.l0 k l0 l0 (l0.length : Int) 0) = some r := h; clear h; have H' := Aside0.mk H; clear H
 go_enter Tryz.func78, Tryz.ntmps78
 go_wp2
 go_loopg [7] k (fun kq v7 w' => ∃ (x7_1 : Int), v7 = .int .i64 x7_1 ∧ Aside0 (spec_softnetFine.l0 kq l0 l0 (l0.length : Int) x7_1 = some r) ∧ Aside0 (kq ≤ k) ∧ Aside0 (Below w.heap.size w w'))
 case atStart => exact ⟨(0), (by first | rfl | (simp; done) | (simp [*]; done)), H', ⟨Nat.le_refl _⟩, ⟨by repeat (first | (with_reducible first | exact HB.out | apply below_alloc | apply pw_below_drewN | apply below_drew1) | exact HB.out)⟩⟩
 case round =>
  clear H'; obtain ⟨x7_1, rfl, HA, HK1, HB⟩ := hrel; cases gk with
  | zero => exact absurd HA.out (by simp [spec_softnetFine.l0])
  | succ k1 =>
   have H := HA.out; clear HA; simp only [spec_softnetFine.l0] at H
   by_cases c2 : x7_1 < (l0.length : Int)
   · rw [if_pos c2] at H; have c2b0 : decide (x7_1 < (l0.length : Int)) = true := decide_eq_true c2; clear c2
     by_cases c3 : 0 ≤ x7_1
     · rw [if_pos c3] at H; have c3b0 : decide (0 ≤ x7_1) = true := decide_eq_true c3; clear c3
       by_cases c4 : x7_1 < (l0.length : Int)
       · rw [if_pos c4] at H; have c4b0 : decide (x7_1 < (l0.length : Int)) = true := decide_eq_true c4; clear c4
         by_cases c5 : ((rd_T48 l0 x7_1).f0).toList = ([] : List UInt8)
         · rw [if_pos c5] at H; have c5b0 : (((rd_T48 l0 x7_1).f0).toList == ([] : List UInt8)) = true := beq_iff_eq.mpr c5; have c5b1 : (((rd_T48 l0 x7_1).f0).toList != ([] : List UInt8)) = false := bne_eq_false_iff_eq.mpr c5; clear c5
           by_cases c6 : (((rd_T48 l0 x7_1).f1).length : Int) = 13
           · rw [if_pos c6] at H; have c6b0 : ((((rd_T48 l0 x7_1).f1).length : Int) == 13) = true := beq_iff_eq.mpr c6; have c6b1 : ((((rd_T48 l0 x7_1).f1).length : Int) != 13) = false := bne_eq_false_iff_eq.mpr c6; clear c6
             by_cases c7 : 0 < (l0.length : Int)
             · rw [if_pos c7] at H; have c7b0 : decide (0 < (l0.length : Int)) = true := decide_eq_true c7; have c7b1 : decide (0 < l0.length) = true := decide_eq_true (by omega); clear c7
               by_cases c8 : (((rd_T48 l0 x7_1).f1).length : Int) = (((rd_T48 l0 0).f1).length : Int)
               · rw [if_pos c8] at H; have c8b0 : ((((rd_T48 l0 x7_1).f1).length : Int) == (((rd_T48 l0 0).f1).length : Int)) = true := beq_iff_eq.mpr c8; have c8b1 : ((((rd_T48 l0 x7_1).f1).length : Int) != (((rd_T48 l0 0).f1).length : Int)) = false := bne_eq_false_iff_eq.mpr c8
                 have c8b2 : (((rd_T48 l0 x7_1).f1).length == ((rd_T48 l0 0).f1).length) = true := by first | simpa using c8 | (simp at c8 ⊢; omega)
                 clear c8; replace H := Option.bind_eq_some_iff.mp H; obtain ⟨t945, A90, H⟩ := H; replace H : (if t945 = true then (spec_softnetFine.l0 k1 l0 l0 (l0.length : Int) (wrap64 (x7_1 + 1))) else (some false)) = some r := H; have A9 := Aside0.mk A90; clear A90
                 by_cases c10 : t945 = true
                 · subst c10
                   have H1 : (spec_softnetFine.l0 k1 l0 l0 (l0.length : Int) (wrap64 (x7_1 + 1))) = some r := by rw [if_pos rfl] at H; exact H
                   clear H; have H := H1; clear H1; have H' := Aside0.mk H; clear H; have p942 : 0 ≤ (x7_1 : Int) := of_decide_eq_true (by first | (with_reducible assumption) | assumption); have q942 : x7_1 < (l0.length : Int) := of_decide_eq_true (by first | (with_reducible assumption) | assumption); obtain ⟨ad942, A942_1, c942_1, A942_2, c942_2, e942, hx942_0, hx942_1, hx942_2, hl942_1, hi942_1, hl942_2, hi942_2⟩ := at_T48 HR0.out x7_1 p942 q942; cases e942; replace hx942_0 := (HB.out.cell (World.block_lt_of_cell? w _ hx942_0)).trans hx942_0; replace hx942_1 := (HB.out.cell (World.block_lt_of_cell? w _ hx942_1)).trans hx942_1; replace hx942_2 := (HB.out.cell (World.block_lt_of_cell? w _ hx942_2)).trans hx942_2; have HR942_1 := Aside0.mk hi942_1; have HC942_1 := Aside0.mk hl942_1; clear hi942_1 hl942_1; have HR942_2 := Aside0.mk hi942_2; have HC942_2 := Aside0.mk hl942_2; clear hi942_2 hl942_2; replace p942 := eq_true p942; replace q942 := eq_true q942; try go_wp2_with (first | ((with_reducible refine gate_dst (N := 4) rfl ?_); (try (refine gate_guard (by rfl) ?_; dsimp only)); refine box_event ?hg (N := 4) ?hd (cs := #[.string (⟨#[]⟩ : ByteArray), .slice none 0 0, .slice none 0 0]) (t := 48) ?hr ?_; (case hd => rfl); (case hg => rfl); (case hr => first | (go_simp; done) | (go_simp; rfl)); intro gb943 hg w11 hbox hb; have n0_ := Aside0.mk (below_step (by repeat (first | (with_reducible first | exact HB.out | apply below_alloc | apply pw_below_drewN | apply below_drew1) | exact HB.out)) hb); have n1_ := Aside0.mk (hbox); have n2_ := Aside0.mk ((by rw [hg]; exact (below_size (by repeat (first | (with_reducible first | exact HB.out | apply below_alloc | apply pw_below_drewN | apply below_drew1) | exact HB.out))) : w.heap.size ≤ gb943)); have n3_ := Aside0.mk ((by rw [hg]; exact (below_size (by repeat (first | (with_reducible first | exact HB.out | apply below_alloc | apply pw_below_drewN | apply below_drew1) | exact HB.out))) : w.heap.size ≤ gb943)); clear HB; have HB := n0_; have BK943 := n1_; have GW943 := n2_; have GE943 := n3_; clear n0_ n1_ n2_ n3_; clear hb hbox hg; have hcz12_0 : w11.cell? ⟨gb943, 0, none⟩ = some (.string (⟨#[]⟩ : ByteArray)) := (blk_cell BK943.out 0).trans rfl; have hcz12_1 : w11.cell? ⟨gb943, 1, none⟩ = some (.slice none 0 0) := (blk_cell BK943.out 1).trans rfl; have hcz12_2 : w11.cell? ⟨gb943, 2, none⟩ = some (.slice none 0 0) := (blk_cell BK943.out 2).trans rfl; have hfz12_0 := blk_frozen BK943.out 0; have hfz12_1 := blk_frozen BK943.out 1; have hfz12_2 := blk_frozen BK943.out 2))
                   have n0_ : Aside0 ((((w11.setCell ⟨gb943, 0, none⟩ (.string ((rd_T48 l0 x7_1).f0))).setCell ⟨gb943, 1, none⟩ (.slice A942_1 ((rd_T48 l0 x7_1).f1).length c942_1)).setCell ⟨gb943, 2, none⟩ (.slice A942_2 ((rd_T48 l0 x7_1).f2).length c942_2)).heap[gb943]? = some (.cells #[.string ((rd_T48 l0 x7_1).f0), .slice A942_1 ((rd_T48 l0 x7_1).f1).length c942_1, .slice A942_2 ((rd_T48 l0 x7_1).f2).length c942_2] 48 (0, 0))) := ⟨by (with_reducible repeat (first | refine blk_drewN ?_ _ | refine blk_drew ?_ | refine blk_alloc ?_ _)); refine blk_put (cs := #[.string ((rd_T48 l0 x7_1).f0), .slice A942_1 ((rd_T48 l0 x7_1).f1).length c942_1, .slice none 0 0]) ?_ 2 _ rfl; (with_reducible repeat (first | refine blk_drewN ?_ _ | refine blk_drew ?_ | refine blk_alloc ?_ _)); refine blk_put (cs := #[.string ((rd_T48 l0 x7_1).f0), .slice none 0 0, .slice none 0 0]) ?_ 1 _ rfl; (with_reducible repeat (first | refine blk_drewN ?_ _ | refine blk_drew ?_ | refine blk_alloc ?_ _)); refine blk_put (cs := #[.string (⟨#[]⟩ : ByteArray), .slice none 0 0, .slice none 0 0]) ?_ 0 _ rfl; (with_reducible repeat (first | refine blk_drewN ?_ _ | refine blk_drew ?_ | refine blk_alloc ?_ _)); exact BK943.out⟩; have n1_ : Aside0 (Below w.heap.size w (((w11.setCell ⟨gb943, 0, none⟩ (.string ((rd_T48 l0 x7_1).f0))).setCell ⟨gb943, 1, none⟩ (.slice A942_1 ((rd_T48 l0 x7_1).f1).length c942_1)).setCell ⟨gb943, 2, none⟩ (.slice A942_2 ((rd_T48 l0 x7_1).f2).length c942_2))) := ⟨by repeat (first | (with_reducible first | exact HB.out | apply below_alloc | apply pw_below_drewN | apply below_drew1 | refine below_set ?_ GE943.out) | exact HB.out)⟩; (try clear BK943); (try clear HB); generalize (((w11.setCell ⟨gb943, 0, none⟩ (.string ((rd_T48 l0 x7_1).f0))).setCell ⟨gb943, 1, none⟩ (.slice A942_1 ((rd_T48 l0 x7_1).f1).length c942_1)).setCell ⟨gb943, 2, none⟩ (.slice A942_2 ((rd_T48 l0 x7_1).f2).length c942_2)) = w13 at n0_ n1_ ⊢; have BK943 := n0_; have HB := n1_; clear n0_ n1_; have n0_ := Aside0.mk (blk_drew BK943.out); have n1_ := Aside0.mk (below_drew1 HB.out); clear BK943; clear HB; have BK943 := n0_; have HB := n1_; clear n0_ n1_; have p944 : 0 ≤ (0 : Int) := (by omega); have q944 : 0 < (l0.length : Int) := of_decide_eq_true (by first | (with_reducible assumption) | assumption); obtain ⟨ad944, A944_1, c944_1, A944_2, c944_2, e944, hx944_0, hx944_1, hx944_2, hl944_1, hi944_1, hl944_2, hi944_2⟩ := at_T48 HR0.out 0 p944 q944; have hw944_2 := hx944_2; (try rw [show ((0 : Int)).toNat = 0 from rfl] at hw944_2); (try rw [show 0 * 3 = 0 from rfl] at hw944_2); (try rw [Addr.add_zero'] at hw944_2); have hw944_1 := hx944_1; (try rw [show ((0 : Int)).toNat = 0 from rfl] at hw944_1); (try rw [show 0 * 3 = 0 from rfl] at hw944_1); (try rw [Addr.add_zero'] at hw944_1); have hw944_0 := hx944_0; (try rw [show ((0 : Int)).toNat = 0 from rfl] at hw944_0); (try rw [show 0 * 3 = 0 from rfl] at hw944_0); (try rw [Addr.add_zero'] at hw944_0); obtain rfl : ad942 = ad944 := (by injection e944); have qi944 : (0 < l0.length) = True := eq_true (by omega); (try rw [show ((0 : Int)).toNat = 0 from rfl] at hx944_0); (try rw [show 0 * 3 = 0 from rfl] at hx944_0); (try rw [Addr.add_zero'] at hx944_0); (try rw [show ((0 : Int)).toNat = 0 from rfl] at hx944_1); (try rw [show 0 * 3 = 0 from rfl] at hx944_1); (try rw [Addr.add_zero'] at hx944_1); (try rw [show ((0 : Int)).toNat = 0 from rfl] at hx944_2); (try rw [show 0 * 3 = 0 from rfl] at hx944_2); (try rw [Addr.add_zero'] at hx944_2); replace hx944_0 := (HB.out.cell (World.block_lt_of_cell? w _ hx944_0)).trans hx944_0; replace hx944_1 := (HB.out.cell (World.block_lt_of_cell? w _ hx944_1)).trans hx944_1; replace hx944_2 := (HB.out.cell (World.block_lt_of_cell? w _ hx944_2)).trans hx944_2; have HR944_1 := Aside0.mk hi944_1; have HC944_1 := Aside0.mk hl944_1; clear hi944_1 hl944_1; have HR944_2 := Aside0.mk hi944_2; have HC944_2 := Aside0.mk hl944_2; clear hi944_2 hl944_2; replace p944 := eq_true p944; replace q944 := eq_true q944; refine start_ (n := 34) (S := fun w' => w'.cell? ⟨gb943, 0, none⟩ = some (.string ((rd_T48 l0 x7_1).f0)) ∧ w'.cell? ⟨gb943, 1, none⟩ = some (.slice A942_1 ((rd_T48 l0 x7_1).f1).length c942_1) ∧ w'.cell? ⟨gb943, 2, none⟩ = some (.slice A942_2 ((rd_T48 l0 x7_1).f2).length c942_2) ∧ w'.cell? ad942 = some (.string ((rd_T48 l0 0).f0)) ∧ w'.cell? ⟨ad942.block, ad942.off + 1, none⟩ = some (.slice A944_1 ((rd_T48 l0 0).f1).length c944_1) ∧ w'.cell? ⟨ad942.block, ad942.off + 2, none⟩ = some (.slice A944_2 ((rd_T48 l0 0).f2).length c944_2)) (ds := []) (R.tf 0 34) (by kernel_rfl) rfl rfl ⟨(blk_cell BK943.out 0).trans rfl, (blk_cell BK943.out 1).trans rfl, (blk_cell BK943.out 2).trans rfl, ((HB.out.cell (World.block_lt_of_cell? w _ hw944_0)).trans hw944_0), ((HB.out.cell (World.block_lt_of_cell? w _ hw944_1)).trans hw944_1), ((HB.out.cell (World.block_lt_of_cell? w _ hw944_2)).trans hw944_2)⟩ (fun hHeld => ?_); refine with_tabW spec_softnetFine.tab4 spec_softnetFine.bits4 (fun HT_ HW_ => ?_); generalize w13.drew = w14 at BK943 HB HR944_1 HR944_2 hx944_0 hx944_1 hx944_2 hHeld ⊢; refine pure_ (i := 0) (N := some 11) (v := ?_) (a' := ?_) (R.tf 1 33) rfl rfl (any_of HT_.out (by kernel_rfl)) (fun _ _ _ h => h) (Or.inl ⟨by rfl, ?_⟩) ?_ ?_; rotate_left
                   · intro w'; go_simp; with_reducible rfl
                   rotate_left
                   · simp only [Act.put, R.sa, R.sb, R.sc, i64_w, i32_w]; rfl
                   refine take_ (i := 1) (N := some 12) (v := ?_) (a' := ?_) (R.tf 2 32) rfl rfl (take_ofW HT_.out HW_.out (by kernel_rfl)) (fun _ _ _ h => h) (Or.inl ⟨by rfl, ?_⟩) hHeld ?_ ?_; rotate_left
                   · rintro w' ⟨s0, s1, s2, s3, s4, s5⟩; go_simp; with_reducible rfl
                   rotate_left
                   · simp only [Act.put, R.sa, R.sb, R.sc, i64_w, i32_w]; rfl
                   refine pure_ (i := 2) (N := some 13) (v := ?_) (a' := ?_) (R.tf 3 31) rfl rfl (any_of HT_.out (by kernel_rfl)) (fun _ _ _ h => h) (Or.inl ⟨by rfl, ?_⟩) ?_ ?_; rotate_left
                   · intro w'; go_simp; with_reducible rfl
                   rotate_left
                   · simp only [Act.put, R.sa, R.sb, R.sc, i64_w, i32_w]; rfl
                   refine pure_ (i := 3) (N := some 14) (v := ?_) (a' := ?_) (R.tf 4 30) rfl rfl (any_of HT_.out (by kernel_rfl)) (fun _ _ _ h => h) (Or.inl ⟨by rfl, ?_⟩) ?_ ?_; rotate_left
                   · intro w'; go_simp; with_reducible rfl
                   rotate_left
                   · simp only [Act.put, R.sa, R.sb, R.sc, i64_w, i32_w]; rfl
                   refine pure_ (i := 4) (N := some 15) (v := ?_) (a' := ?_) (R.tf 5 29) rfl rfl (any_of HT_.out (by kernel_rfl)) (fun _ _ _ h => h) (Or.inl ⟨by rfl, ?_⟩) ?_ ?_; rotate_left
                   · intro w'; go_simp; with_reducible rfl
                   rotate_left
                   · simp only [Act.put, R.sa, R.sb, R.sc, i64_w, i32_w]; rfl
                   refine take_ (i := 5) (N := some 16) (v := ?_) (a' := ?_) (R.tf 6 28) rfl rfl (take_ofW HT_.out HW_.out (by kernel_rfl)) (fun _ _ _ h => h) (Or.inl ⟨by rfl, ?_⟩) hHeld ?_ ?_; rotate_left
                   · rintro w' ⟨s0, s1, s2, s3, s4, s5⟩; go_simp; with_reducible rfl
                   rotate_left
                   · simp only [Act.put, R.sa, R.sb, R.sc, i64_w, i32_w]; rfl
                   refine pure_ (i := 6) (N := some 17) (v := ?_) (a' := ?_) (R.tf 7 27) rfl rfl (any_of HT_.out (by kernel_rfl)) (fun _ _ _ h => h) (Or.inl ⟨by rfl, ?_⟩) ?_ ?_; rotate_left
                   · intro w'; go_simp; with_reducible rfl
                   rotate_left
                   · simp only [Act.put, R.sa, R.sb, R.sc, i64_w, i32_w]; rfl
                   refine pure_ (i := 7) (N := some 18) (v := ?_) (a' := ?_) (R.tf 8 26) rfl rfl (any_of HT_.out (by kernel_rfl)) (fun _ _ _ h => h) (Or.inl ⟨by rfl, ?_⟩) ?_ ?_; rotate_left
                   · intro w'; go_simp; with_reducible rfl
                   rotate_left
                   · simp only [Act.put, R.sa, R.sb, R.sc, i64_w, i32_w]; rfl
                   refine pure_ (i := 8) (N := some 19) (v := ?_) (a' := ?_) (R.tf 9 25) rfl rfl (any_of HT_.out (by kernel_rfl)) (fun _ _ _ h => h) (Or.inl ⟨by rfl, ?_⟩) ?_ ?_; rotate_left
                   · intro w'; go_simp; with_reducible rfl
                   rotate_left
                   · simp only [Act.put, R.sa, R.sb, R.sc, i64_w, i32_w]; rfl
                   refine pure_ (i := 9) (N := some 20) (v := undef) (a' := ?_) (R.tf 10 24) rfl rfl (any_of HT_.out (by kernel_rfl)) (fun _ _ _ h => h) (Or.inr ⟨by rfl, rfl⟩) ?_ ?_; rotate_left
                   · simp only [Act.put, R.sa, R.sb, R.sc, i64_w, i32_w]; rfl
                   refine pure_ (i := 10) (N := some 21) (v := undef) (a' := ?_) (R.tf 11 23) rfl rfl (any_of HT_.out (by kernel_rfl)) (fun _ _ _ h => h) (Or.inr ⟨by rfl, rfl⟩) ?_ ?_; rotate_left
                   · simp only [Act.put, R.sa, R.sb, R.sc, i64_w, i32_w]; rfl
                   refine pure_ (i := 11) (N := some 22) (v := undef) (a' := ?_) (R.tf 12 22) rfl rfl (any_of HT_.out (by kernel_rfl)) (fun _ _ _ h => h) (Or.inr ⟨by rfl, rfl⟩) ?_ ?_; rotate_left
                   · simp only [Act.put, R.sa, R.sb, R.sc, i64_w, i32_w]; rfl
                   refine pure_ (i := 12) (N := some 23) (v := undef) (a' := ?_) (R.tf 13 21) rfl rfl (any_of HT_.out (by kernel_rfl)) (fun _ _ _ h => h) (Or.inr ⟨by rfl, rfl⟩) ?_ ?_; rotate_left
                   · simp only [Act.put, R.sa, R.sb, R.sc, i64_w, i32_w]; rfl
                   refine pure_ (i := 13) (N := some 24) (v := ?_) (a' := ?_) (R.tf 14 20) rfl rfl (any_of HT_.out (by kernel_rfl)) (fun _ _ _ h => h) (Or.inl ⟨by rfl, ?_⟩) ?_ ?_; rotate_left
                   · intro w'; go_simp; with_reducible rfl
                   rotate_left
                   · simp only [Act.put, R.sa, R.sb, R.sc, i64_w, i32_w]; rfl
                   refine pure_ (i := 14) (N := some 25) (v := ?_) (a' := ?_) (R.tf 15 19) rfl rfl (any_of HT_.out (by kernel_rfl)) (fun _ _ _ h => h) (Or.inl ⟨by rfl, ?_⟩) ?_ ?_; rotate_left
                   · intro w'; go_simp; with_reducible rfl
                   rotate_left
                   · simp only [Act.put, R.sa, R.sb, R.sc, i64_w, i32_w]; rfl
                   refine pure_ (i := 15) (N := some 26) (v := ?_) (a' := ?_) (R.tf 16 18) rfl rfl (any_of HT_.out (by kernel_rfl)) (fun _ _ _ h => h) (Or.inl ⟨by rfl, ?_⟩) ?_ ?_; rotate_left
                   · intro w'; go_simp; with_reducible rfl
                   rotate_left
                   · simp only [Act.put, R.sa, R.sb, R.sc, i64_w, i32_w]; rfl
                   refine pure_ (i := 16) (N := some 27) (v := ?_) (a' := ?_) (R.tf 17 17) rfl rfl (any_of HT_.out (by kernel_rfl)) (fun _ _ _ h => h) (Or.inl ⟨by rfl, ?_⟩) ?_ ?_; rotate_left
                   · intro w'; go_simp; with_reducible rfl
                   rotate_left
                   · simp only [Act.put, R.sa, R.sb, R.sc, i64_w, i32_w]; rfl
                   refine pure_ (i := 19) (N := some 30) (v := ?_) (a' := ?_) #[true, true, true, true, true, true, true, true, true, true, true, true, true, true, true, true, true, false, false, true, false, false, false, false, false, false, false, false, false, false, false, false, false, false] rfl rfl (any_of HT_.out (by kernel_rfl)) (fun _ _ _ h => h) (Or.inl ⟨by rfl, ?_⟩) ?_ ?_; rotate_left
                   · intro w'; go_simp; with_reducible rfl
                   rotate_left
                   · simp only [Act.put, R.sa, R.sb, R.sc, i64_w, i32_w]; rfl
                   refine pure_ (i := 20) (N := some 31) (v := ?_) (a' := ?_) #[true, true, true, true, true, true, true, true, true, true, true, true, true, true, true, true, true, false, false, true, true, false, false, false, false, false, false, false, false, false, false, false, false, false] rfl rfl (any_of HT_.out (by kernel_rfl)) (fun _ _ _ h => h) (Or.inl ⟨by rfl, ?_⟩) ?_ ?_; rotate_left
                   · intro w'; go_simp; with_reducible rfl
                   rotate_left
                   · simp only [Act.put, R.sa, R.sb, R.sc, i64_w, i32_w]; rfl
                   refine pure_ (i := 21) (N := some 32) (v := ?_) (a' := ?_) #[true, true, true, true, true, true, true, true, true, true, true, true, true, true, true, true, true, false, false, true, true, true, false, false, false, false, false, false, false, false, false, false, false, false] rfl rfl (any_of HT_.out (by kernel_rfl)) (fun _ _ _ h => h) (Or.inl ⟨by rfl, ?_⟩) ?_ ?_; rotate_left
                   · intro w'; go_simp; with_reducible rfl
                   rotate_left
                   · simp only [Act.put, R.sa, R.sb, R.sc, i64_w, i32_w]; rfl
                   refine take_ (i := 17) (N := some 28) (v := ?_) (a' := ?_) #[true, true, true, true, true, true, true, true, true, true, true, true, true, true, true, true, true, true, false, true, true, true, false, false, false, false, false, false, false, false, false, false, false, false] rfl rfl (take_ofW HT_.out HW_.out (by kernel_rfl)) (fun _ _ _ h => h) (Or.inl ⟨by rfl, ?_⟩) hHeld ?_ ?_; rotate_left
                   · rintro w' ⟨s0, s1, s2, s3, s4, s5⟩; go_simp; with_reducible rfl
                   rotate_left
                   · simp only [Act.put, R.sa, R.sb, R.sc, i64_w, i32_w]; rfl
                   refine pure_ (i := 18) (N := some 29) (v := ?_) (a' := ?_) (R.tf 22 12) rfl rfl (any_of HT_.out (by kernel_rfl)) (fun _ _ _ h => h) (Or.inl ⟨by rfl, ?_⟩) ?_ ?_; rotate_left
                   · intro w'; go_simp; with_reducible rfl
                   rotate_left
                   · simp only [Act.put, R.sa, R.sb, R.sc, i64_w, i32_w]; rfl
                   refine take_ (i := 22) (N := some 33) (v := ?_) (a' := ?_) (R.tf 23 11) rfl rfl (take_ofW HT_.out HW_.out (by kernel_rfl)) (fun _ _ _ h => h) (Or.inl ⟨by rfl, ?_⟩) hHeld ?_ ?_; rotate_left
                   · rintro w' ⟨s0, s1, s2, s3, s4, s5⟩; go_simp; with_reducible rfl
                   rotate_left
                   · simp only [Act.put, R.sa, R.sb, R.sc, i64_w, i32_w]; rfl
                   refine pure_ (i := 23) (N := some 34) (v := ?_) (a' := ?_) (R.tf 24 10) rfl rfl (any_of HT_.out (by kernel_rfl)) (fun _ _ _ h => h) (Or.inl ⟨by rfl, ?_⟩) ?_ ?_; rotate_left
                   · intro w'; go_simp; with_reducible rfl
                   rotate_left
                   · simp only [Act.put, R.sa, R.sb, R.sc, i64_w, i32_w]; rfl
                   refine pure_ (i := 24) (N := some 35) (v := ?_) (a' := ?_) (R.tf 25 9) rfl rfl (any_of HT_.out (by kernel_rfl)) (fun _ _ _ h => h) (Or.inl ⟨by rfl, ?_⟩) ?_ ?_; rotate_left
                   · intro w'; go_simp; with_reducible rfl
                   rotate_left
                   · simp only [Act.put, R.sa, R.sb, R.sc, i64_w, i32_w]; rfl
                   refine pure_ (i := 25) (N := some 36) (v := ?_) (a' := ?_) (R.tf 26 8) rfl rfl (any_of HT_.out (by kernel_rfl)) (fun _ _ _ h => h) (Or.inl ⟨by rfl, ?_⟩) ?_ ?_; rotate_left
                   · intro w'; go_simp; with_reducible rfl
                   rotate_left
                   · simp only [Act.put, R.sa, R.sb, R.sc, i64_w, i32_w]; rfl
                   refine pure_ (i := 26) (N := some 37) (v := ?_) (a' := ?_) (R.tf 27 7) rfl rfl (any_of HT_.out (by kernel_rfl)) (fun _ _ _ h => h) (Or.inl ⟨by rfl, ?_⟩) ?_ ?_; rotate_left
                   · intro w'; go_simp; with_reducible rfl
                   rotate_left
                   · simp only [Act.put, R.sa, R.sb, R.sc, i64_w, i32_w]; rfl
                   refine pure_ (i := 28) (N := some 39) (v := ?_) (a' := ?_) #[true, true, true, true, true, true, true, true, true, true, true, true, true, true, true, true, true, true, true, true, true, true, true, true, true, true, true, false, true, false, false, false, false, false] rfl rfl (any_of HT_.out (by kernel_rfl)) (fun _ _ _ h => h) (Or.inl ⟨by rfl, ?_⟩) ?_ ?_; rotate_left
                   · intro w'; go_simp; with_reducible rfl
                   rotate_left
                   · simp only [Act.put, R.sa, R.sb, R.sc, i64_w, i32_w]; rfl
                   refine take_ (i := 27) (N := some 38) (v := ?_) (a' := ?_) (R.tf 29 5) rfl rfl (take_ofW HT_.out HW_.out (by kernel_rfl)) (fun _ _ _ h => h) (Or.inl ⟨by rfl, ?_⟩) hHeld ?_ ?_; rotate_left
                   · rintro w' ⟨s0, s1, s2, s3, s4, s5⟩; go_simp; with_reducible rfl
                   rotate_left
                   · simp only [Act.put, R.sa, R.sb, R.sc, i64_w, i32_w]; rfl
                   refine take_ (i := 29) (N := some 40) (v := ?_) (a' := ?_) (R.tf 30 4) rfl rfl (take_ofW HT_.out HW_.out (by kernel_rfl)) (fun _ _ _ h => h) (Or.inl ⟨by rfl, ?_⟩) hHeld ?_ ?_; rotate_left
                   · rintro w' ⟨s0, s1, s2, s3, s4, s5⟩; go_simp; with_reducible rfl
                   rotate_left
                   · simp only [Act.put, R.sa, R.sb, R.sc, i64_w, i32_w]; rfl
                   refine pure_ (i := 30) (N := some 41) (v := ?_) (a' := ?_) (R.tf 31 3) rfl rfl (any_of HT_.out (by kernel_rfl)) (fun _ _ _ h => h) (Or.inl ⟨by rfl, ?_⟩) ?_ ?_; rotate_left
                   · intro w'; go_simp; with_reducible rfl
                   rotate_left
                   · simp only [Act.put, R.sa, R.sb, R.sc, i64_w, i32_w]; rfl
                   refine one_ (i := 31) (N := some 42) (R.tf 32 2) rfl rfl (one_of HT_.out (by kernel_rfl)) (by decide) (fun K hK => ?_); refine goes_ Tryz.func120 (by kernel_rfl) rfl #[.agg #[.string ((rd_T48 l0 x7_1).f0), .slice A942_1 ((rd_T48 l0 x7_1).f1).length c942_1, .slice A942_2 ((rd_T48 l0 x7_1).f2).length c942_2], .int .i64 (((rd_T48 l0 x7_1).f1).length : Int), .int .i64 32, .int .i64 0] (by rfl) rfl rfl (by (try simp only [List.map_toArray, List.map_cons, List.map_nil]); first | done | rfl | (simp only [List.length_drop, List.length_take]; rfl)) ?_; with_reducible refine (spec_counted.calls k1 ((rd_T48 l0 x7_1).f0) _ _ ((rd_T48 l0 x7_1).f1) _ _ ((rd_T48 l0 x7_1).f2) (((rd_T48 l0 x7_1).f1).length : Int) 32 0 true _ ?side1 ?side2 ?side3 ?side4 A9.out).mono ?_
                   (case side1 => repeat (first | exact (Kd.C_below HR942_1.out HB.out) | (with_reducible refine Kd.C_alloc ?_ _) | (with_reducible refine Kd.C_drewN ?_ _) | (with_reducible refine Kd.C_drew ?_)))
                   (case side2 => exact HC942_1.out)
                   (case side3 => repeat (first | exact (Kd.C_below HR942_2.out HB.out) | (with_reducible refine Kd.C_alloc ?_ _) | (with_reducible refine Kd.C_drewN ?_ _) | (with_reducible refine Kd.C_drew ?_)))
                   (case side4 => exact HC942_2.out)
                   rintro e w15 ⟨rfl, hb⟩; refine ⟨_, rfl, ?_⟩; have n0_ := Aside0.mk (blk_below (g := gb943) (o := .cells #[.string ((rd_T48 l0 x7_1).f0), .slice A942_1 ((rd_T48 l0 x7_1).f1).length c942_1, .slice A942_2 ((rd_T48 l0 x7_1).f2).length c942_2] 48 (0, 0)) (by (with_reducible repeat (first | refine blk_drewN ?_ _ | refine blk_drew ?_ | refine blk_alloc ?_ _)); exact BK943.out) hb); have n1_ := Aside0.mk (below_step (by repeat (first | (with_reducible first | exact HB.out | apply below_alloc | apply pw_below_drewN | apply below_drew1 | refine below_set ?_ GE943.out) | exact HB.out)) hb); clear BK943; clear HB; have BK943 := n0_; have HB := n1_; clear n0_ n1_; (try clear hb); (try clear hb2); (try clear hk); (try clear hi); refine hK.out _ _ ⟨(blk_cell BK943.out 0).trans rfl, (blk_cell BK943.out 1).trans rfl, (blk_cell BK943.out 2).trans rfl, ((HB.out.cell (World.block_lt_of_cell? w _ hw944_0)).trans hw944_0), ((HB.out.cell (World.block_lt_of_cell? w _ hw944_1)).trans hw944_1), ((HB.out.cell (World.block_lt_of_cell? w _ hw944_2)).trans hw944_2)⟩ (fun hHeld => ?_); clear hK K; refine norm_ (a' := ?_) ?_ ?_; rotate_left
                   · show Act.put _ (some 42) _ = _
                     simp only [Act.put, R.sa, R.sb, R.sc, i64_w, i32_w]; rfl
                   refine pure_ (i := 32) (N := some 43) (v := ?_) (a' := ?_) (R.tf 33 1) rfl rfl (any_of HT_.out (by kernel_rfl)) (fun _ _ _ h => h) (Or.inl ⟨by rfl, ?_⟩) ?_ ?_; rotate_left
                   · intro w'; go_simp; with_reducible rfl
                   rotate_left
                   · simp only [Act.put, R.sa, R.sb, R.sc, i64_w, i32_w]; rfl
                   refine pure_ (i := 33) (N := some 44) (v := ?_) (a' := ?_) (R.tf 34 0) rfl rfl (any_of HT_.out (by kernel_rfl)) (fun _ _ _ h => h) (Or.inl ⟨by rfl, ?_⟩) ?_ ?_; rotate_left
                   · intro w'; go_simp; with_reducible rfl
                   rotate_left
                   · simp only [Act.put, R.sa, R.sb, R.sc, i64_w, i32_w]; rfl
                   refine done_ (done_of HT_.out (by kernel_rfl)) ?_; try go_wp2
                   go_roundg k1
                   case measure => have := HK1.out; omega
                   case rel => exact ⟨(wrap64 (x7_1 + 1)), (by first | rfl | (simp; done) | (simp [*]; done)), H', ⟨by have := HK1.out; omega⟩, ⟨by repeat (first | (with_reducible first | exact HB.out | apply below_alloc | apply pw_below_drewN | apply below_drew1 | refine below_set ?_ GE943.out) | exact HB.out)⟩⟩
                 · replace c10 := Bool.eq_false_iff.mpr c10; subst c10
                   have H1 : (some false) = some r := by rw [if_neg (show ¬ (false = true) by decide)] at H; exact H
                   clear H; have H := H1; clear H1; obtain rfl := Option.some.inj H; have p942 : 0 ≤ (x7_1 : Int) := of_decide_eq_true (by first | (with_reducible assumption) | assumption); have q942 : x7_1 < (l0.length : Int) := of_decide_eq_true (by first | (with_reducible assumption) | assumption); obtain ⟨ad942, A942_1, c942_1, A942_2, c942_2, e942, hx942_0, hx942_1, hx942_2, hl942_1, hi942_1, hl942_2, hi942_2⟩ := at_T48 HR0.out x7_1 p942 q942; cases e942; replace hx942_0 := (HB.out.cell (World.block_lt_of_cell? w _ hx942_0)).trans hx942_0; replace hx942_1 := (HB.out.cell (World.block_lt_of_cell? w _ hx942_1)).trans hx942_1; replace hx942_2 := (HB.out.cell (World.block_lt_of_cell? w _ hx942_2)).trans hx942_2; have HR942_1 := Aside0.mk hi942_1; have HC942_1 := Aside0.mk hl942_1; clear hi942_1 hl942_1; have HR942_2 := Aside0.mk hi942_2; have HC942_2 := Aside0.mk hl942_2; clear hi942_2 hl942_2; replace p942 := eq_true p942; replace q942 := eq_true q942; try go_wp2_with (first | ((with_reducible refine gate_dst (N := 4) rfl ?_); (try (refine gate_guard (by rfl) ?_; dsimp only)); refine box_event ?hg (N := 4) ?hd (cs := #[.string (⟨#[]⟩ : ByteArray), .slice none 0 0, .slice none 0 0]) (t := 48) ?hr ?_; (case hd => rfl); (case hg => rfl); (case hr => first | (go_simp; done) | (go_simp; rfl)); intro gb943 hg w16 hbox hb; have n0_ := Aside0.mk (below_step (by repeat (first | (with_reducible first | exact HB.out | apply below_alloc | apply pw_below_drewN | apply below_drew1) | exact HB.out)) hb); have n1_ := Aside0.mk (hbox); have n2_ := Aside0.mk ((by rw [hg]; exact (below_size (by repeat (first | (with_reducible first | exact HB.out | apply below_alloc | apply pw_below_drewN | apply below_drew1) | exact HB.out))) : w.heap.size ≤ gb943)); have n3_ := Aside0.mk ((by rw [hg]; exact (below_size (by repeat (first | (with_reducible first | exact HB.out | apply below_alloc | apply pw_below_drewN | apply below_drew1) | exact HB.out))) : w.heap.size ≤ gb943)); clear HB; have HB := n0_; have BK943 := n1_; have GW943 := n2_; have GE943 := n3_; clear n0_ n1_ n2_ n3_; clear hb hbox hg; have hcz17_0 : w16.cell? ⟨gb943, 0, none⟩ = some (.string (⟨#[]⟩ : ByteArray)) := (blk_cell BK943.out 0).trans rfl; have hcz17_1 : w16.cell? ⟨gb943, 1, none⟩ = some (.slice none 0 0) := (blk_cell BK943.out 1).trans rfl; have hcz17_2 : w16.cell? ⟨gb943, 2, none⟩ = some (.slice none 0 0) := (blk_cell BK943.out 2).trans rfl; have hfz17_0 := blk_frozen BK943.out 0; have hfz17_1 := blk_frozen BK943.out 1; have hfz17_2 := blk_frozen BK943.out 2))
                   have n0_ : Aside0 ((((w16.setCell ⟨gb943, 0, none⟩ (.string ((rd_T48 l0 x7_1).f0))).setCell ⟨gb943, 1, none⟩ (.slice A942_1 ((rd_T48 l0 x7_1).f1).length c942_1)).setCell ⟨gb943, 2, none⟩ (.slice A942_2 ((rd_T48 l0 x7_1).f2).length c942_2)).heap[gb943]? = some (.cells #[.string ((rd_T48 l0 x7_1).f0), .slice A942_1 ((rd_T48 l0 x7_1).f1).length c942_1, .slice A942_2 ((rd_T48 l0 x7_1).f2).length c942_2] 48 (0, 0))) := ⟨by (with_reducible repeat (first | refine blk_drewN ?_ _ | refine blk_drew ?_ | refine blk_alloc ?_ _)); refine blk_put (cs := #[.string ((rd_T48 l0 x7_1).f0), .slice A942_1 ((rd_T48 l0 x7_1).f1).length c942_1, .slice none 0 0]) ?_ 2 _ rfl; (with_reducible repeat (first | refine blk_drewN ?_ _ | refine blk_drew ?_ | refine blk_alloc ?_ _)); refine blk_put (cs := #[.string ((rd_T48 l0 x7_1).f0), .slice none 0 0, .slice none 0 0]) ?_ 1 _ rfl; (with_reducible repeat (first | refine blk_drewN ?_ _ | refine blk_drew ?_ | refine blk_alloc ?_ _)); refine blk_put (cs := #[.string (⟨#[]⟩ : ByteArray), .slice none 0 0, .slice none 0 0]) ?_ 0 _ rfl; (with_reducible repeat (first | refine blk_drewN ?_ _ | refine blk_drew ?_ | refine blk_alloc ?_ _)); exact BK943.out⟩; have n1_ : Aside0 (Below w.heap.size w (((w16.setCell ⟨gb943, 0, none⟩ (.string ((rd_T48 l0 x7_1).f0))).setCell ⟨gb943, 1, none⟩ (.slice A942_1 ((rd_T48 l0 x7_1).f1).length c942_1)).setCell ⟨gb943, 2, none⟩ (.slice A942_2 ((rd_T48 l0 x7_1).f2).length c942_2))) := ⟨by repeat (first | (with_reducible first | exact HB.out | apply below_alloc | apply pw_below_drewN | apply below_drew1 | refine below_set ?_ GE943.out) | exact HB.out)⟩; (try clear BK943); (try clear HB); generalize (((w16.setCell ⟨gb943, 0, none⟩ (.string ((rd_T48 l0 x7_1).f0))).setCell ⟨gb943, 1, none⟩ (.slice A942_1 ((rd_T48 l0 x7_1).f1).length c942_1)).setCell ⟨gb943, 2, none⟩ (.slice A942_2 ((rd_T48 l0 x7_1).f2).length c942_2)) = w18 at n0_ n1_ ⊢; have BK943 := n0_; have HB := n1_; clear n0_ n1_; have n0_ := Aside0.mk (blk_drew BK943.out); have n1_ := Aside0.mk (below_drew1 HB.out); clear BK943; clear HB; have BK943 := n0_; have HB := n1_; clear n0_ n1_; have p944 : 0 ≤ (0 : Int) := (by omega); have q944 : 0 < (l0.length : Int) := of_decide_eq_true (by first | (with_reducible assumption) | assumption); obtain ⟨ad944, A944_1, c944_1, A944_2, c944_2, e944, hx944_0, hx944_1, hx944_2, hl944_1, hi944_1, hl944_2, hi944_2⟩ := at_T48 HR0.out 0 p944 q944; have hw944_2 := hx944_2; (try rw [show ((0 : Int)).toNat = 0 from rfl] at hw944_2); (try rw [show 0 * 3 = 0 from rfl] at hw944_2); (try rw [Addr.add_zero'] at hw944_2); have hw944_1 := hx944_1; (try rw [show ((0 : Int)).toNat = 0 from rfl] at hw944_1); (try rw [show 0 * 3 = 0 from rfl] at hw944_1); (try rw [Addr.add_zero'] at hw944_1); have hw944_0 := hx944_0; (try rw [show ((0 : Int)).toNat = 0 from rfl] at hw944_0); (try rw [show 0 * 3 = 0 from rfl] at hw944_0); (try rw [Addr.add_zero'] at hw944_0); obtain rfl : ad942 = ad944 := (by injection e944); have qi944 : (0 < l0.length) = True := eq_true (by omega); (try rw [show ((0 : Int)).toNat = 0 from rfl] at hx944_0); (try rw [show 0 * 3 = 0 from rfl] at hx944_0); (try rw [Addr.add_zero'] at hx944_0); (try rw [show ((0 : Int)).toNat = 0 from rfl] at hx944_1); (try rw [show 0 * 3 = 0 from rfl] at hx944_1); (try rw [Addr.add_zero'] at hx944_1); (try rw [show ((0 : Int)).toNat = 0 from rfl] at hx944_2); (try rw [show 0 * 3 = 0 from rfl] at hx944_2); (try rw [Addr.add_zero'] at hx944_2); replace hx944_0 := (HB.out.cell (World.block_lt_of_cell? w _ hx944_0)).trans hx944_0; replace hx944_1 := (HB.out.cell (World.block_lt_of_cell? w _ hx944_1)).trans hx944_1; replace hx944_2 := (HB.out.cell (World.block_lt_of_cell? w _ hx944_2)).trans hx944_2; have HR944_1 := Aside0.mk hi944_1; have HC944_1 := Aside0.mk hl944_1; clear hi944_1 hl944_1; have HR944_2 := Aside0.mk hi944_2; have HC944_2 := Aside0.mk hl944_2; clear hi944_2 hl944_2; replace p944 := eq_true p944; replace q944 := eq_true q944; refine start_ (n := 34) (S := fun w' => w'.cell? ⟨gb943, 0, none⟩ = some (.string ((rd_T48 l0 x7_1).f0)) ∧ w'.cell? ⟨gb943, 1, none⟩ = some (.slice A942_1 ((rd_T48 l0 x7_1).f1).length c942_1) ∧ w'.cell? ⟨gb943, 2, none⟩ = some (.slice A942_2 ((rd_T48 l0 x7_1).f2).length c942_2) ∧ w'.cell? ad942 = some (.string ((rd_T48 l0 0).f0)) ∧ w'.cell? ⟨ad942.block, ad942.off + 1, none⟩ = some (.slice A944_1 ((rd_T48 l0 0).f1).length c944_1) ∧ w'.cell? ⟨ad942.block, ad942.off + 2, none⟩ = some (.slice A944_2 ((rd_T48 l0 0).f2).length c944_2)) (ds := []) (R.tf 0 34) (by kernel_rfl) rfl rfl ⟨(blk_cell BK943.out 0).trans rfl, (blk_cell BK943.out 1).trans rfl, (blk_cell BK943.out 2).trans rfl, ((HB.out.cell (World.block_lt_of_cell? w _ hw944_0)).trans hw944_0), ((HB.out.cell (World.block_lt_of_cell? w _ hw944_1)).trans hw944_1), ((HB.out.cell (World.block_lt_of_cell? w _ hw944_2)).trans hw944_2)⟩ (fun hHeld => ?_); refine with_tabW spec_softnetFine.tab4 spec_softnetFine.bits4 (fun HT_ HW_ => ?_); generalize w18.drew = w19 at BK943 HB HR944_1 HR944_2 hx944_0 hx944_1 hx944_2 hHeld ⊢; refine pure_ (i := 0) (N := some 11) (v := ?_) (a' := ?_) (R.tf 1 33) rfl rfl (any_of HT_.out (by kernel_rfl)) (fun _ _ _ h => h) (Or.inl ⟨by rfl, ?_⟩) ?_ ?_; rotate_left
                   · intro w'; go_simp; with_reducible rfl
                   rotate_left
                   · simp only [Act.put, R.sa, R.sb, R.sc, i64_w, i32_w]; rfl
                   refine take_ (i := 1) (N := some 12) (v := ?_) (a' := ?_) (R.tf 2 32) rfl rfl (take_ofW HT_.out HW_.out (by kernel_rfl)) (fun _ _ _ h => h) (Or.inl ⟨by rfl, ?_⟩) hHeld ?_ ?_; rotate_left
                   · rintro w' ⟨s0, s1, s2, s3, s4, s5⟩; go_simp; with_reducible rfl
                   rotate_left
                   · simp only [Act.put, R.sa, R.sb, R.sc, i64_w, i32_w]; rfl
                   refine pure_ (i := 2) (N := some 13) (v := ?_) (a' := ?_) (R.tf 3 31) rfl rfl (any_of HT_.out (by kernel_rfl)) (fun _ _ _ h => h) (Or.inl ⟨by rfl, ?_⟩) ?_ ?_; rotate_left
                   · intro w'; go_simp; with_reducible rfl
                   rotate_left
                   · simp only [Act.put, R.sa, R.sb, R.sc, i64_w, i32_w]; rfl
                   refine pure_ (i := 3) (N := some 14) (v := ?_) (a' := ?_) (R.tf 4 30) rfl rfl (any_of HT_.out (by kernel_rfl)) (fun _ _ _ h => h) (Or.inl ⟨by rfl, ?_⟩) ?_ ?_; rotate_left
                   · intro w'; go_simp; with_reducible rfl
                   rotate_left
                   · simp only [Act.put, R.sa, R.sb, R.sc, i64_w, i32_w]; rfl
                   refine pure_ (i := 4) (N := some 15) (v := ?_) (a' := ?_) (R.tf 5 29) rfl rfl (any_of HT_.out (by kernel_rfl)) (fun _ _ _ h => h) (Or.inl ⟨by rfl, ?_⟩) ?_ ?_; rotate_left
                   · intro w'; go_simp; with_reducible rfl
                   rotate_left
                   · simp only [Act.put, R.sa, R.sb, R.sc, i64_w, i32_w]; rfl
                   refine take_ (i := 5) (N := some 16) (v := ?_) (a' := ?_) (R.tf 6 28) rfl rfl (take_ofW HT_.out HW_.out (by kernel_rfl)) (fun _ _ _ h => h) (Or.inl ⟨by rfl, ?_⟩) hHeld ?_ ?_; rotate_left
                   · rintro w' ⟨s0, s1, s2, s3, s4, s5⟩; go_simp; with_reducible rfl
                   rotate_left
                   · simp only [Act.put, R.sa, R.sb, R.sc, i64_w, i32_w]; rfl
                   refine pure_ (i := 6) (N := some 17) (v := ?_) (a' := ?_) (R.tf 7 27) rfl rfl (any_of HT_.out (by kernel_rfl)) (fun _ _ _ h => h) (Or.inl ⟨by rfl, ?_⟩) ?_ ?_; rotate_left
                   · intro w'; go_simp; with_reducible rfl
                   rotate_left
                   · simp only [Act.put, R.sa, R.sb, R.sc, i64_w, i32_w]; rfl
                   refine pure_ (i := 7) (N := some 18) (v := ?_) (a' := ?_) (R.tf 8 26) rfl rfl (any_of HT_.out (by kernel_rfl)) (fun _ _ _ h => h) (Or.inl ⟨by rfl, ?_⟩) ?_ ?_; rotate_left
                   · intro w'; go_simp; with_reducible rfl
                   rotate_left
                   · simp only [Act.put, R.sa, R.sb, R.sc, i64_w, i32_w]; rfl
                   refine pure_ (i := 8) (N := some 19) (v := ?_) (a' := ?_) (R.tf 9 25) rfl rfl (any_of HT_.out (by kernel_rfl)) (fun _ _ _ h => h) (Or.inl ⟨by rfl, ?_⟩) ?_ ?_; rotate_left
                   · intro w'; go_simp; with_reducible rfl
                   rotate_left
                   · simp only [Act.put, R.sa, R.sb, R.sc, i64_w, i32_w]; rfl
                   refine pure_ (i := 9) (N := some 20) (v := undef) (a' := ?_) (R.tf 10 24) rfl rfl (any_of HT_.out (by kernel_rfl)) (fun _ _ _ h => h) (Or.inr ⟨by rfl, rfl⟩) ?_ ?_; rotate_left
                   · simp only [Act.put, R.sa, R.sb, R.sc, i64_w, i32_w]; rfl
                   refine pure_ (i := 10) (N := some 21) (v := undef) (a' := ?_) (R.tf 11 23) rfl rfl (any_of HT_.out (by kernel_rfl)) (fun _ _ _ h => h) (Or.inr ⟨by rfl, rfl⟩) ?_ ?_; rotate_left
                   · simp only [Act.put, R.sa, R.sb, R.sc, i64_w, i32_w]; rfl
                   refine pure_ (i := 11) (N := some 22) (v := undef) (a' := ?_) (R.tf 12 22) rfl rfl (any_of HT_.out (by kernel_rfl)) (fun _ _ _ h => h) (Or.inr ⟨by rfl, rfl⟩) ?_ ?_; rotate_left
                   · simp only [Act.put, R.sa, R.sb, R.sc, i64_w, i32_w]; rfl
                   refine pure_ (i := 12) (N := some 23) (v := undef) (a' := ?_) (R.tf 13 21) rfl rfl (any_of HT_.out (by kernel_rfl)) (fun _ _ _ h => h) (Or.inr ⟨by rfl, rfl⟩) ?_ ?_; rotate_left
                   · simp only [Act.put, R.sa, R.sb, R.sc, i64_w, i32_w]; rfl
                   refine pure_ (i := 13) (N := some 24) (v := ?_) (a' := ?_) (R.tf 14 20) rfl rfl (any_of HT_.out (by kernel_rfl)) (fun _ _ _ h => h) (Or.inl ⟨by rfl, ?_⟩) ?_ ?_; rotate_left
                   · intro w'; go_simp; with_reducible rfl
                   rotate_left
                   · simp only [Act.put, R.sa, R.sb, R.sc, i64_w, i32_w]; rfl
                   refine pure_ (i := 14) (N := some 25) (v := ?_) (a' := ?_) (R.tf 15 19) rfl rfl (any_of HT_.out (by kernel_rfl)) (fun _ _ _ h => h) (Or.inl ⟨by rfl, ?_⟩) ?_ ?_; rotate_left
                   · intro w'; go_simp; with_reducible rfl
                   rotate_left
                   · simp only [Act.put, R.sa, R.sb, R.sc, i64_w, i32_w]; rfl
                   refine pure_ (i := 15) (N := some 26) (v := ?_) (a' := ?_) (R.tf 16 18) rfl rfl (any_of HT_.out (by kernel_rfl)) (fun _ _ _ h => h) (Or.inl ⟨by rfl, ?_⟩) ?_ ?_; rotate_left
                   · intro w'; go_simp; with_reducible rfl
                   rotate_left
                   · simp only [Act.put, R.sa, R.sb, R.sc, i64_w, i32_w]; rfl
                   refine pure_ (i := 16) (N := some 27) (v := ?_) (a' := ?_) (R.tf 17 17) rfl rfl (any_of HT_.out (by kernel_rfl)) (fun _ _ _ h => h) (Or.inl ⟨by rfl, ?_⟩) ?_ ?_; rotate_left
                   · intro w'; go_simp; with_reducible rfl
                   rotate_left
                   · simp only [Act.put, R.sa, R.sb, R.sc, i64_w, i32_w]; rfl
                   refine pure_ (i := 19) (N := some 30) (v := ?_) (a' := ?_) #[true, true, true, true, true, true, true, true, true, true, true, true, true, true, true, true, true, false, false, true, false, false, false, false, false, false, false, false, false, false, false, false, false, false] rfl rfl (any_of HT_.out (by kernel_rfl)) (fun _ _ _ h => h) (Or.inl ⟨by rfl, ?_⟩) ?_ ?_; rotate_left
                   · intro w'; go_simp; with_reducible rfl
                   rotate_left
                   · simp only [Act.put, R.sa, R.sb, R.sc, i64_w, i32_w]; rfl
                   refine pure_ (i := 20) (N := some 31) (v := ?_) (a' := ?_) #[true, true, true, true, true, true, true, true, true, true, true, true, true, true, true, true, true, false, false, true, true, false, false, false, false, false, false, false, false, false, false, false, false, false] rfl rfl (any_of HT_.out (by kernel_rfl)) (fun _ _ _ h => h) (Or.inl ⟨by rfl, ?_⟩) ?_ ?_; rotate_left
                   · intro w'; go_simp; with_reducible rfl
                   rotate_left
                   · simp only [Act.put, R.sa, R.sb, R.sc, i64_w, i32_w]; rfl
                   refine pure_ (i := 21) (N := some 32) (v := ?_) (a' := ?_) #[true, true, true, true, true, true, true, true, true, true, true, true, true, true, true, true, true, false, false, true, true, true, false, false, false, false, false, false, false, false, false, false, false, false] rfl rfl (any_of HT_.out (by kernel_rfl)) (fun _ _ _ h => h) (Or.inl ⟨by rfl, ?_⟩) ?_ ?_; rotate_left
                   · intro w'; go_simp; with_reducible rfl
                   rotate_left
                   · simp only [Act.put, R.sa, R.sb, R.sc, i64_w, i32_w]; rfl
                   refine take_ (i := 17) (N := some 28) (v := ?_) (a' := ?_) #[true, true, true, true, true, true, true, true, true, true, true, true, true, true, true, true, true, true, false, true, true, true, false, false, false, false, false, false, false, false, false, false, false, false] rfl rfl (take_ofW HT_.out HW_.out (by kernel_rfl)) (fun _ _ _ h => h) (Or.inl ⟨by rfl, ?_⟩) hHeld ?_ ?_; rotate_left
                   · rintro w' ⟨s0, s1, s2, s3, s4, s5⟩; go_simp; with_reducible rfl
                   rotate_left
                   · simp only [Act.put, R.sa, R.sb, R.sc, i64_w, i32_w]; rfl
                   refine pure_ (i := 18) (N := some 29) (v := ?_) (a' := ?_) (R.tf 22 12) rfl rfl (any_of HT_.out (by kernel_rfl)) (fun _ _ _ h => h) (Or.inl ⟨by rfl, ?_⟩) ?_ ?_; rotate_left
                   · intro w'; go_simp; with_reducible rfl
                   rotate_left
                   · simp only [Act.put, R.sa, R.sb, R.sc, i64_w, i32_w]; rfl
                   refine take_ (i := 22) (N := some 33) (v := ?_) (a' := ?_) (R.tf 23 11) rfl rfl (take_ofW HT_.out HW_.out (by kernel_rfl)) (fun _ _ _ h => h) (Or.inl ⟨by rfl, ?_⟩) hHeld ?_ ?_; rotate_left
                   · rintro w' ⟨s0, s1, s2, s3, s4, s5⟩; go_simp; with_reducible rfl
                   rotate_left
                   · simp only [Act.put, R.sa, R.sb, R.sc, i64_w, i32_w]; rfl
                   refine pure_ (i := 23) (N := some 34) (v := ?_) (a' := ?_) (R.tf 24 10) rfl rfl (any_of HT_.out (by kernel_rfl)) (fun _ _ _ h => h) (Or.inl ⟨by rfl, ?_⟩) ?_ ?_; rotate_left
                   · intro w'; go_simp; with_reducible rfl
                   rotate_left
                   · simp only [Act.put, R.sa, R.sb, R.sc, i64_w, i32_w]; rfl
                   refine pure_ (i := 24) (N := some 35) (v := ?_) (a' := ?_) (R.tf 25 9) rfl rfl (any_of HT_.out (by kernel_rfl)) (fun _ _ _ h => h) (Or.inl ⟨by rfl, ?_⟩) ?_ ?_; rotate_left
                   · intro w'; go_simp; with_reducible rfl
                   rotate_left
                   · simp only [Act.put, R.sa, R.sb, R.sc, i64_w, i32_w]; rfl
                   refine pure_ (i := 25) (N := some 36) (v := ?_) (a' := ?_) (R.tf 26 8) rfl rfl (any_of HT_.out (by kernel_rfl)) (fun _ _ _ h => h) (Or.inl ⟨by rfl, ?_⟩) ?_ ?_; rotate_left
                   · intro w'; go_simp; with_reducible rfl
                   rotate_left
                   · simp only [Act.put, R.sa, R.sb, R.sc, i64_w, i32_w]; rfl
                   refine pure_ (i := 26) (N := some 37) (v := ?_) (a' := ?_) (R.tf 27 7) rfl rfl (any_of HT_.out (by kernel_rfl)) (fun _ _ _ h => h) (Or.inl ⟨by rfl, ?_⟩) ?_ ?_; rotate_left
                   · intro w'; go_simp; with_reducible rfl
                   rotate_left
                   · simp only [Act.put, R.sa, R.sb, R.sc, i64_w, i32_w]; rfl
                   refine pure_ (i := 28) (N := some 39) (v := ?_) (a' := ?_) #[true, true, true, true, true, true, true, true, true, true, true, true, true, true, true, true, true, true, true, true, true, true, true, true, true, true, true, false, true, false, false, false, false, false] rfl rfl (any_of HT_.out (by kernel_rfl)) (fun _ _ _ h => h) (Or.inl ⟨by rfl, ?_⟩) ?_ ?_; rotate_left
                   · intro w'; go_simp; with_reducible rfl
                   rotate_left
                   · simp only [Act.put, R.sa, R.sb, R.sc, i64_w, i32_w]; rfl
                   refine take_ (i := 27) (N := some 38) (v := ?_) (a' := ?_) (R.tf 29 5) rfl rfl (take_ofW HT_.out HW_.out (by kernel_rfl)) (fun _ _ _ h => h) (Or.inl ⟨by rfl, ?_⟩) hHeld ?_ ?_; rotate_left
                   · rintro w' ⟨s0, s1, s2, s3, s4, s5⟩; go_simp; with_reducible rfl
                   rotate_left
                   · simp only [Act.put, R.sa, R.sb, R.sc, i64_w, i32_w]; rfl
                   refine take_ (i := 29) (N := some 40) (v := ?_) (a' := ?_) (R.tf 30 4) rfl rfl (take_ofW HT_.out HW_.out (by kernel_rfl)) (fun _ _ _ h => h) (Or.inl ⟨by rfl, ?_⟩) hHeld ?_ ?_; rotate_left
                   · rintro w' ⟨s0, s1, s2, s3, s4, s5⟩; go_simp; with_reducible rfl
                   rotate_left
                   · simp only [Act.put, R.sa, R.sb, R.sc, i64_w, i32_w]; rfl
                   refine pure_ (i := 30) (N := some 41) (v := ?_) (a' := ?_) (R.tf 31 3) rfl rfl (any_of HT_.out (by kernel_rfl)) (fun _ _ _ h => h) (Or.inl ⟨by rfl, ?_⟩) ?_ ?_; rotate_left
                   · intro w'; go_simp; with_reducible rfl
                   rotate_left
                   · simp only [Act.put, R.sa, R.sb, R.sc, i64_w, i32_w]; rfl
                   refine one_ (i := 31) (N := some 42) (R.tf 32 2) rfl rfl (one_of HT_.out (by kernel_rfl)) (by decide) (fun K hK => ?_); refine goes_ Tryz.func120 (by kernel_rfl) rfl #[.agg #[.string ((rd_T48 l0 x7_1).f0), .slice A942_1 ((rd_T48 l0 x7_1).f1).length c942_1, .slice A942_2 ((rd_T48 l0 x7_1).f2).length c942_2], .int .i64 (((rd_T48 l0 x7_1).f1).length : Int), .int .i64 32, .int .i64 0] (by rfl) rfl rfl (by (try simp only [List.map_toArray, List.map_cons, List.map_nil]); first | done | rfl | (simp only [List.length_drop, List.length_take]; rfl)) ?_; with_reducible refine (spec_counted.calls k1 ((rd_T48 l0 x7_1).f0) _ _ ((rd_T48 l0 x7_1).f1) _ _ ((rd_T48 l0 x7_1).f2) (((rd_T48 l0 x7_1).f1).length : Int) 32 0 false _ ?side1 ?side2 ?side3 ?side4 A9.out).mono ?_
                   (case side1 => repeat (first | exact (Kd.C_below HR942_1.out HB.out) | (with_reducible refine Kd.C_alloc ?_ _) | (with_reducible refine Kd.C_drewN ?_ _) | (with_reducible refine Kd.C_drew ?_)))
                   (case side2 => exact HC942_1.out)
                   (case side3 => repeat (first | exact (Kd.C_below HR942_2.out HB.out) | (with_reducible refine Kd.C_alloc ?_ _) | (with_reducible refine Kd.C_drewN ?_ _) | (with_reducible refine Kd.C_drew ?_)))
                   (case side4 => exact HC942_2.out)
                   rintro e w20 ⟨rfl, hb⟩; refine ⟨_, rfl, ?_⟩; have n0_ := Aside0.mk (blk_below (g := gb943) (o := .cells #[.string ((rd_T48 l0 x7_1).f0), .slice A942_1 ((rd_T48 l0 x7_1).f1).length c942_1, .slice A942_2 ((rd_T48 l0 x7_1).f2).length c942_2] 48 (0, 0)) (by (with_reducible repeat (first | refine blk_drewN ?_ _ | refine blk_drew ?_ | refine blk_alloc ?_ _)); exact BK943.out) hb); have n1_ := Aside0.mk (below_step (by repeat (first | (with_reducible first | exact HB.out | apply below_alloc | apply pw_below_drewN | apply below_drew1 | refine below_set ?_ GE943.out) | exact HB.out)) hb); clear BK943; clear HB; have BK943 := n0_; have HB := n1_; clear n0_ n1_; (try clear hb); (try clear hb2); (try clear hk); (try clear hi); refine hK.out _ _ ⟨(blk_cell BK943.out 0).trans rfl, (blk_cell BK943.out 1).trans rfl, (blk_cell BK943.out 2).trans rfl, ((HB.out.cell (World.block_lt_of_cell? w _ hw944_0)).trans hw944_0), ((HB.out.cell (World.block_lt_of_cell? w _ hw944_1)).trans hw944_1), ((HB.out.cell (World.block_lt_of_cell? w _ hw944_2)).trans hw944_2)⟩ (fun hHeld => ?_); clear hK K; refine norm_ (a' := ?_) ?_ ?_; rotate_left
                   · show Act.put _ (some 42) _ = _
                     simp only [Act.put, R.sa, R.sb, R.sc, i64_w, i32_w]; rfl
                   refine pure_ (i := 32) (N := some 43) (v := ?_) (a' := ?_) (R.tf 33 1) rfl rfl (any_of HT_.out (by kernel_rfl)) (fun _ _ _ h => h) (Or.inl ⟨by rfl, ?_⟩) ?_ ?_; rotate_left
                   · intro w'; go_simp; with_reducible rfl
                   rotate_left
                   · simp only [Act.put, R.sa, R.sb, R.sc, i64_w, i32_w]; rfl
                   refine pure_ (i := 33) (N := some 44) (v := ?_) (a' := ?_) (R.tf 34 0) rfl rfl (any_of HT_.out (by kernel_rfl)) (fun _ _ _ h => h) (Or.inl ⟨by rfl, ?_⟩) ?_ ?_; rotate_left
                   · intro w'; go_simp; with_reducible rfl
                   rotate_left
                   · simp only [Act.put, R.sa, R.sb, R.sc, i64_w, i32_w]; rfl
                   refine done_ (done_of HT_.out (by kernel_rfl)) ?_; try go_wp2
                   go_ret
                   exact ⟨by first | rfl | (simp [errW_none, errW_some] <;> rfl) | (simp [*, errW_none, errW_some] <;> rfl), by repeat (first | (with_reducible first | exact HB.out | apply below_alloc | apply pw_below_drewN | apply below_drew1 | refine below_set ?_ GE943.out) | exact HB.out)⟩
               · rw [if_neg c8] at H; have c8b0 : ((((rd_T48 l0 x7_1).f1).length : Int) == (((rd_T48 l0 0).f1).length : Int)) = false := beq_eq_false_iff_ne.mpr c8; have c8b1 : ((((rd_T48 l0 x7_1).f1).length : Int) != (((rd_T48 l0 0).f1).length : Int)) = true := bne_iff_ne.mpr c8
                 have c8b2 : (((rd_T48 l0 x7_1).f1).length == ((rd_T48 l0 0).f1).length) = false := by first | simpa using c8 | (simp at c8 ⊢; omega)
                 obtain rfl := Option.some.inj H; have p942 : 0 ≤ (x7_1 : Int) := of_decide_eq_true (by first | (with_reducible assumption) | assumption); have q942 : x7_1 < (l0.length : Int) := of_decide_eq_true (by first | (with_reducible assumption) | assumption); obtain ⟨ad942, A942_1, c942_1, A942_2, c942_2, e942, hx942_0, hx942_1, hx942_2, hl942_1, hi942_1, hl942_2, hi942_2⟩ := at_T48 HR0.out x7_1 p942 q942; cases e942; replace hx942_0 := (HB.out.cell (World.block_lt_of_cell? w _ hx942_0)).trans hx942_0; replace hx942_1 := (HB.out.cell (World.block_lt_of_cell? w _ hx942_1)).trans hx942_1; replace hx942_2 := (HB.out.cell (World.block_lt_of_cell? w _ hx942_2)).trans hx942_2; have HR942_1 := Aside0.mk hi942_1; have HC942_1 := Aside0.mk hl942_1; clear hi942_1 hl942_1; have HR942_2 := Aside0.mk hi942_2; have HC942_2 := Aside0.mk hl942_2; clear hi942_2 hl942_2; replace p942 := eq_true p942; replace q942 := eq_true q942; try go_wp2_with (first | ((with_reducible refine gate_dst (N := 4) rfl ?_); (try (refine gate_guard (by rfl) ?_; dsimp only)); refine box_event ?hg (N := 4) ?hd (cs := #[.string (⟨#[]⟩ : ByteArray), .slice none 0 0, .slice none 0 0]) (t := 48) ?hr ?_; (case hd => rfl); (case hg => rfl); (case hr => first | (go_simp; done) | (go_simp; rfl)); intro gb943 hg w21 hbox hb; have n0_ := Aside0.mk (below_step (by repeat (first | (with_reducible first | exact HB.out | apply below_alloc | apply pw_below_drewN | apply below_drew1) | exact HB.out)) hb); have n1_ := Aside0.mk (hbox); have n2_ := Aside0.mk ((by rw [hg]; exact (below_size (by repeat (first | (with_reducible first | exact HB.out | apply below_alloc | apply pw_below_drewN | apply below_drew1) | exact HB.out))) : w.heap.size ≤ gb943)); have n3_ := Aside0.mk ((by rw [hg]; exact (below_size (by repeat (first | (with_reducible first | exact HB.out | apply below_alloc | apply pw_below_drewN | apply below_drew1) | exact HB.out))) : w.heap.size ≤ gb943)); clear HB; have HB := n0_; have BK943 := n1_; have GW943 := n2_; have GE943 := n3_; clear n0_ n1_ n2_ n3_; clear hb hbox hg; have hcz22_0 : w21.cell? ⟨gb943, 0, none⟩ = some (.string (⟨#[]⟩ : ByteArray)) := (blk_cell BK943.out 0).trans rfl; have hcz22_1 : w21.cell? ⟨gb943, 1, none⟩ = some (.slice none 0 0) := (blk_cell BK943.out 1).trans rfl; have hcz22_2 : w21.cell? ⟨gb943, 2, none⟩ = some (.slice none 0 0) := (blk_cell BK943.out 2).trans rfl; have hfz22_0 := blk_frozen BK943.out 0; have hfz22_1 := blk_frozen BK943.out 1; have hfz22_2 := blk_frozen BK943.out 2))
                 have n0_ : Aside0 ((((w21.setCell ⟨gb943, 0, none⟩ (.string ((rd_T48 l0 x7_1).f0))).setCell ⟨gb943, 1, none⟩ (.slice A942_1 ((rd_T48 l0 x7_1).f1).length c942_1)).setCell ⟨gb943, 2, none⟩ (.slice A942_2 ((rd_T48 l0 x7_1).f2).length c942_2)).heap[gb943]? = some (.cells #[.string ((rd_T48 l0 x7_1).f0), .slice A942_1 ((rd_T48 l0 x7_1).f1).length c942_1, .slice A942_2 ((rd_T48 l0 x7_1).f2).length c942_2] 48 (0, 0))) := ⟨by (with_reducible repeat (first | refine blk_drewN ?_ _ | refine blk_drew ?_ | refine blk_alloc ?_ _)); refine blk_put (cs := #[.string ((rd_T48 l0 x7_1).f0), .slice A942_1 ((rd_T48 l0 x7_1).f1).length c942_1, .slice none 0 0]) ?_ 2 _ rfl; (with_reducible repeat (first | refine blk_drewN ?_ _ | refine blk_drew ?_ | refine blk_alloc ?_ _)); refine blk_put (cs := #[.string ((rd_T48 l0 x7_1).f0), .slice none 0 0, .slice none 0 0]) ?_ 1 _ rfl; (with_reducible repeat (first | refine blk_drewN ?_ _ | refine blk_drew ?_ | refine blk_alloc ?_ _)); refine blk_put (cs := #[.string (⟨#[]⟩ : ByteArray), .slice none 0 0, .slice none 0 0]) ?_ 0 _ rfl; (with_reducible repeat (first | refine blk_drewN ?_ _ | refine blk_drew ?_ | refine blk_alloc ?_ _)); exact BK943.out⟩; have n1_ : Aside0 (Below w.heap.size w (((w21.setCell ⟨gb943, 0, none⟩ (.string ((rd_T48 l0 x7_1).f0))).setCell ⟨gb943, 1, none⟩ (.slice A942_1 ((rd_T48 l0 x7_1).f1).length c942_1)).setCell ⟨gb943, 2, none⟩ (.slice A942_2 ((rd_T48 l0 x7_1).f2).length c942_2))) := ⟨by repeat (first | (with_reducible first | exact HB.out | apply below_alloc | apply pw_below_drewN | apply below_drew1 | refine below_set ?_ GE943.out) | exact HB.out)⟩; (try clear BK943); (try clear HB); generalize (((w21.setCell ⟨gb943, 0, none⟩ (.string ((rd_T48 l0 x7_1).f0))).setCell ⟨gb943, 1, none⟩ (.slice A942_1 ((rd_T48 l0 x7_1).f1).length c942_1)).setCell ⟨gb943, 2, none⟩ (.slice A942_2 ((rd_T48 l0 x7_1).f2).length c942_2)) = w23 at n0_ n1_ ⊢; have BK943 := n0_; have HB := n1_; clear n0_ n1_; have n0_ := Aside0.mk (blk_drew BK943.out); have n1_ := Aside0.mk (below_drew1 HB.out); clear BK943; clear HB; have BK943 := n0_; have HB := n1_; clear n0_ n1_; have p944 : 0 ≤ (0 : Int) := (by omega); have q944 : 0 < (l0.length : Int) := of_decide_eq_true (by first | (with_reducible assumption) | assumption); obtain ⟨ad944, A944_1, c944_1, A944_2, c944_2, e944, hx944_0, hx944_1, hx944_2, hl944_1, hi944_1, hl944_2, hi944_2⟩ := at_T48 HR0.out 0 p944 q944; have hw944_2 := hx944_2; (try rw [show ((0 : Int)).toNat = 0 from rfl] at hw944_2); (try rw [show 0 * 3 = 0 from rfl] at hw944_2); (try rw [Addr.add_zero'] at hw944_2); have hw944_1 := hx944_1; (try rw [show ((0 : Int)).toNat = 0 from rfl] at hw944_1); (try rw [show 0 * 3 = 0 from rfl] at hw944_1); (try rw [Addr.add_zero'] at hw944_1); have hw944_0 := hx944_0; (try rw [show ((0 : Int)).toNat = 0 from rfl] at hw944_0); (try rw [show 0 * 3 = 0 from rfl] at hw944_0); (try rw [Addr.add_zero'] at hw944_0); obtain rfl : ad942 = ad944 := (by injection e944); have qi944 : (0 < l0.length) = True := eq_true (by omega); (try rw [show ((0 : Int)).toNat = 0 from rfl] at hx944_0); (try rw [show 0 * 3 = 0 from rfl] at hx944_0); (try rw [Addr.add_zero'] at hx944_0); (try rw [show ((0 : Int)).toNat = 0 from rfl] at hx944_1); (try rw [show 0 * 3 = 0 from rfl] at hx944_1); (try rw [Addr.add_zero'] at hx944_1); (try rw [show ((0 : Int)).toNat = 0 from rfl] at hx944_2); (try rw [show 0 * 3 = 0 from rfl] at hx944_2); (try rw [Addr.add_zero'] at hx944_2); replace hx944_0 := (HB.out.cell (World.block_lt_of_cell? w _ hx944_0)).trans hx944_0; replace hx944_1 := (HB.out.cell (World.block_lt_of_cell? w _ hx944_1)).trans hx944_1; replace hx944_2 := (HB.out.cell (World.block_lt_of_cell? w _ hx944_2)).trans hx944_2; have HR944_1 := Aside0.mk hi944_1; have HC944_1 := Aside0.mk hl944_1; clear hi944_1 hl944_1; have HR944_2 := Aside0.mk hi944_2; have HC944_2 := Aside0.mk hl944_2; clear hi944_2 hl944_2; replace p944 := eq_true p944; replace q944 := eq_true q944; refine start_ (n := 34) (S := fun w' => w'.cell? ⟨gb943, 0, none⟩ = some (.string ((rd_T48 l0 x7_1).f0)) ∧ w'.cell? ⟨gb943, 1, none⟩ = some (.slice A942_1 ((rd_T48 l0 x7_1).f1).length c942_1) ∧ w'.cell? ⟨gb943, 2, none⟩ = some (.slice A942_2 ((rd_T48 l0 x7_1).f2).length c942_2) ∧ w'.cell? ad942 = some (.string ((rd_T48 l0 0).f0)) ∧ w'.cell? ⟨ad942.block, ad942.off + 1, none⟩ = some (.slice A944_1 ((rd_T48 l0 0).f1).length c944_1) ∧ w'.cell? ⟨ad942.block, ad942.off + 2, none⟩ = some (.slice A944_2 ((rd_T48 l0 0).f2).length c944_2)) (ds := []) (R.tf 0 34) (by kernel_rfl) rfl rfl ⟨(blk_cell BK943.out 0).trans rfl, (blk_cell BK943.out 1).trans rfl, (blk_cell BK943.out 2).trans rfl, ((HB.out.cell (World.block_lt_of_cell? w _ hw944_0)).trans hw944_0), ((HB.out.cell (World.block_lt_of_cell? w _ hw944_1)).trans hw944_1), ((HB.out.cell (World.block_lt_of_cell? w _ hw944_2)).trans hw944_2)⟩ (fun hHeld => ?_); refine with_tabW spec_softnetFine.tab4 spec_softnetFine.bits4 (fun HT_ HW_ => ?_); generalize w23.drew = w24 at BK943 HB HR944_1 HR944_2 hx944_0 hx944_1 hx944_2 hHeld ⊢; refine pure_ (i := 0) (N := some 11) (v := ?_) (a' := ?_) (R.tf 1 33) rfl rfl (any_of HT_.out (by kernel_rfl)) (fun _ _ _ h => h) (Or.inl ⟨by rfl, ?_⟩) ?_ ?_; rotate_left
                 · intro w'; go_simp; with_reducible rfl
                 rotate_left
                 · simp only [Act.put, R.sa, R.sb, R.sc, i64_w, i32_w]; rfl
                 refine take_ (i := 1) (N := some 12) (v := ?_) (a' := ?_) (R.tf 2 32) rfl rfl (take_ofW HT_.out HW_.out (by kernel_rfl)) (fun _ _ _ h => h) (Or.inl ⟨by rfl, ?_⟩) hHeld ?_ ?_; rotate_left
                 · rintro w' ⟨s0, s1, s2, s3, s4, s5⟩; go_simp; with_reducible rfl
                 rotate_left
                 · simp only [Act.put, R.sa, R.sb, R.sc, i64_w, i32_w]; rfl
                 refine pure_ (i := 2) (N := some 13) (v := ?_) (a' := ?_) (R.tf 3 31) rfl rfl (any_of HT_.out (by kernel_rfl)) (fun _ _ _ h => h) (Or.inl ⟨by rfl, ?_⟩) ?_ ?_; rotate_left
                 · intro w'; go_simp; with_reducible rfl
                 rotate_left
                 · simp only [Act.put, R.sa, R.sb, R.sc, i64_w, i32_w]; rfl
                 refine pure_ (i := 3) (N := some 14) (v := ?_) (a' := ?_) (R.tf 4 30) rfl rfl (any_of HT_.out (by kernel_rfl)) (fun _ _ _ h => h) (Or.inl ⟨by rfl, ?_⟩) ?_ ?_; rotate_left
                 · intro w'; go_simp; with_reducible rfl
                 rotate_left
                 · simp only [Act.put, R.sa, R.sb, R.sc, i64_w, i32_w]; rfl
                 refine pure_ (i := 4) (N := some 15) (v := ?_) (a' := ?_) (R.tf 5 29) rfl rfl (any_of HT_.out (by kernel_rfl)) (fun _ _ _ h => h) (Or.inl ⟨by rfl, ?_⟩) ?_ ?_; rotate_left
                 · intro w'; go_simp; with_reducible rfl
                 rotate_left
                 · simp only [Act.put, R.sa, R.sb, R.sc, i64_w, i32_w]; rfl
                 refine take_ (i := 5) (N := some 16) (v := ?_) (a' := ?_) (R.tf 6 28) rfl rfl (take_ofW HT_.out HW_.out (by kernel_rfl)) (fun _ _ _ h => h) (Or.inl ⟨by rfl, ?_⟩) hHeld ?_ ?_; rotate_left
                 · rintro w' ⟨s0, s1, s2, s3, s4, s5⟩; go_simp; with_reducible rfl
                 rotate_left
                 · simp only [Act.put, R.sa, R.sb, R.sc, i64_w, i32_w]; rfl
                 refine pure_ (i := 6) (N := some 17) (v := ?_) (a' := ?_) (R.tf 7 27) rfl rfl (any_of HT_.out (by kernel_rfl)) (fun _ _ _ h => h) (Or.inl ⟨by rfl, ?_⟩) ?_ ?_; rotate_left
                 · intro w'; go_simp; with_reducible rfl
                 rotate_left
                 · simp only [Act.put, R.sa, R.sb, R.sc, i64_w, i32_w]; rfl
                 refine pure_ (i := 7) (N := some 18) (v := ?_) (a' := ?_) (R.tf 8 26) rfl rfl (any_of HT_.out (by kernel_rfl)) (fun _ _ _ h => h) (Or.inl ⟨by rfl, ?_⟩) ?_ ?_; rotate_left
                 · intro w'; go_simp; with_reducible rfl
                 rotate_left
                 · simp only [Act.put, R.sa, R.sb, R.sc, i64_w, i32_w]; rfl
                 refine pure_ (i := 8) (N := some 19) (v := ?_) (a' := ?_) (R.tf 9 25) rfl rfl (any_of HT_.out (by kernel_rfl)) (fun _ _ _ h => h) (Or.inl ⟨by rfl, ?_⟩) ?_ ?_; rotate_left
                 · intro w'; go_simp; with_reducible rfl
                 rotate_left
                 · simp only [Act.put, R.sa, R.sb, R.sc, i64_w, i32_w]; rfl
                 refine pure_ (i := 9) (N := some 20) (v := undef) (a' := ?_) (R.tf 10 24) rfl rfl (any_of HT_.out (by kernel_rfl)) (fun _ _ _ h => h) (Or.inr ⟨by rfl, rfl⟩) ?_ ?_; rotate_left
                 · simp only [Act.put, R.sa, R.sb, R.sc, i64_w, i32_w]; rfl
                 refine pure_ (i := 10) (N := some 21) (v := undef) (a' := ?_) (R.tf 11 23) rfl rfl (any_of HT_.out (by kernel_rfl)) (fun _ _ _ h => h) (Or.inr ⟨by rfl, rfl⟩) ?_ ?_; rotate_left
                 · simp only [Act.put, R.sa, R.sb, R.sc, i64_w, i32_w]; rfl
                 refine pure_ (i := 11) (N := some 22) (v := undef) (a' := ?_) (R.tf 12 22) rfl rfl (any_of HT_.out (by kernel_rfl)) (fun _ _ _ h => h) (Or.inr ⟨by rfl, rfl⟩) ?_ ?_; rotate_left
                 · simp only [Act.put, R.sa, R.sb, R.sc, i64_w, i32_w]; rfl
                 refine pure_ (i := 12) (N := some 23) (v := undef) (a' := ?_) (R.tf 13 21) rfl rfl (any_of HT_.out (by kernel_rfl)) (fun _ _ _ h => h) (Or.inr ⟨by rfl, rfl⟩) ?_ ?_; rotate_left
                 · simp only [Act.put, R.sa, R.sb, R.sc, i64_w, i32_w]; rfl
                 refine pure_ (i := 13) (N := some 24) (v := ?_) (a' := ?_) (R.tf 14 20) rfl rfl (any_of HT_.out (by kernel_rfl)) (fun _ _ _ h => h) (Or.inl ⟨by rfl, ?_⟩) ?_ ?_; rotate_left
                 · intro w'; go_simp; with_reducible rfl
                 rotate_left
                 · simp only [Act.put, R.sa, R.sb, R.sc, i64_w, i32_w]; rfl
                 refine pure_ (i := 14) (N := some 25) (v := ?_) (a' := ?_) (R.tf 15 19) rfl rfl (any_of HT_.out (by kernel_rfl)) (fun _ _ _ h => h) (Or.inl ⟨by rfl, ?_⟩) ?_ ?_; rotate_left
                 · intro w'; go_simp; with_reducible rfl
                 rotate_left
                 · simp only [Act.put, R.sa, R.sb, R.sc, i64_w, i32_w]; rfl
                 refine pure_ (i := 15) (N := some 26) (v := ?_) (a' := ?_) (R.tf 16 18) rfl rfl (any_of HT_.out (by kernel_rfl)) (fun _ _ _ h => h) (Or.inl ⟨by rfl, ?_⟩) ?_ ?_; rotate_left
                 · intro w'; go_simp; with_reducible rfl
                 rotate_left
                 · simp only [Act.put, R.sa, R.sb, R.sc, i64_w, i32_w]; rfl
                 refine pure_ (i := 16) (N := some 27) (v := ?_) (a' := ?_) (R.tf 17 17) rfl rfl (any_of HT_.out (by kernel_rfl)) (fun _ _ _ h => h) (Or.inl ⟨by rfl, ?_⟩) ?_ ?_; rotate_left
                 · intro w'; go_simp; with_reducible rfl
                 rotate_left
                 · simp only [Act.put, R.sa, R.sb, R.sc, i64_w, i32_w]; rfl
                 refine pure_ (i := 19) (N := some 30) (v := ?_) (a' := ?_) #[true, true, true, true, true, true, true, true, true, true, true, true, true, true, true, true, true, false, false, true, false, false, false, false, false, false, false, false, false, false, false, false, false, false] rfl rfl (any_of HT_.out (by kernel_rfl)) (fun _ _ _ h => h) (Or.inl ⟨by rfl, ?_⟩) ?_ ?_; rotate_left
                 · intro w'; go_simp; with_reducible rfl
                 rotate_left
                 · simp only [Act.put, R.sa, R.sb, R.sc, i64_w, i32_w]; rfl
                 refine pure_ (i := 20) (N := some 31) (v := ?_) (a' := ?_) #[true, true, true, true, true, true, true, true, true, true, true, true, true, true, true, true, true, false, false, true, true, false, false, false, false, false, false, false, false, false, false, false, false, false] rfl rfl (any_of HT_.out (by kernel_rfl)) (fun _ _ _ h => h) (Or.inl ⟨by rfl, ?_⟩) ?_ ?_; rotate_left
                 · intro w'; go_simp; with_reducible rfl
                 rotate_left
                 · simp only [Act.put, R.sa, R.sb, R.sc, i64_w, i32_w]; rfl
                 refine pure_ (i := 21) (N := some 32) (v := ?_) (a' := ?_) #[true, true, true, true, true, true, true, true, true, true, true, true, true, true, true, true, true, false, false, true, true, true, false, false, false, false, false, false, false, false, false, false, false, false] rfl rfl (any_of HT_.out (by kernel_rfl)) (fun _ _ _ h => h) (Or.inl ⟨by rfl, ?_⟩) ?_ ?_; rotate_left
                 · intro w'; go_simp; with_reducible rfl
                 rotate_left
                 · simp only [Act.put, R.sa, R.sb, R.sc, i64_w, i32_w]; rfl
                 refine take_ (i := 17) (N := some 28) (v := ?_) (a' := ?_) #[true, true, true, true, true, true, true, true, true, true, true, true, true, true, true, true, true, true, false, true, true, true, false, false, false, false, false, false, false, false, false, false, false, false] rfl rfl (take_ofW HT_.out HW_.out (by kernel_rfl)) (fun _ _ _ h => h) (Or.inl ⟨by rfl, ?_⟩) hHeld ?_ ?_; rotate_left
                 · rintro w' ⟨s0, s1, s2, s3, s4, s5⟩; go_simp; with_reducible rfl
                 rotate_left
                 · simp only [Act.put, R.sa, R.sb, R.sc, i64_w, i32_w]; rfl
                 refine pure_ (i := 18) (N := some 29) (v := ?_) (a' := ?_) (R.tf 22 12) rfl rfl (any_of HT_.out (by kernel_rfl)) (fun _ _ _ h => h) (Or.inl ⟨by rfl, ?_⟩) ?_ ?_; rotate_left
                 · intro w'; go_simp; with_reducible rfl
                 rotate_left
                 · simp only [Act.put, R.sa, R.sb, R.sc, i64_w, i32_w]; rfl
                 refine take_ (i := 22) (N := some 33) (v := ?_) (a' := ?_) (R.tf 23 11) rfl rfl (take_ofW HT_.out HW_.out (by kernel_rfl)) (fun _ _ _ h => h) (Or.inl ⟨by rfl, ?_⟩) hHeld ?_ ?_; rotate_left
                 · rintro w' ⟨s0, s1, s2, s3, s4, s5⟩; go_simp; with_reducible rfl
                 rotate_left
                 · simp only [Act.put, R.sa, R.sb, R.sc, i64_w, i32_w]; rfl
                 refine pure_ (i := 23) (N := some 34) (v := ?_) (a' := ?_) (R.tf 24 10) rfl rfl (any_of HT_.out (by kernel_rfl)) (fun _ _ _ h => h) (Or.inl ⟨by rfl, ?_⟩) ?_ ?_; rotate_left
                 · intro w'; go_simp; with_reducible rfl
                 rotate_left
                 · simp only [Act.put, R.sa, R.sb, R.sc, i64_w, i32_w]; rfl
                 refine pure_ (i := 24) (N := some 35) (v := ?_) (a' := ?_) (R.tf 25 9) rfl rfl (any_of HT_.out (by kernel_rfl)) (fun _ _ _ h => h) (Or.inl ⟨by rfl, ?_⟩) ?_ ?_; rotate_left
                 · intro w'; go_simp; with_reducible rfl
                 rotate_left
                 · simp only [Act.put, R.sa, R.sb, R.sc, i64_w, i32_w]; rfl
                 refine pure_ (i := 25) (N := some 36) (v := ?_) (a' := ?_) (R.tf 26 8) rfl rfl (any_of HT_.out (by kernel_rfl)) (fun _ _ _ h => h) (Or.inl ⟨by rfl, ?_⟩) ?_ ?_; rotate_left
                 · intro w'; go_simp; with_reducible rfl
                 rotate_left
                 · simp only [Act.put, R.sa, R.sb, R.sc, i64_w, i32_w]; rfl
                 refine pure_ (i := 26) (N := some 37) (v := ?_) (a' := ?_) (R.tf 27 7) rfl rfl (any_of HT_.out (by kernel_rfl)) (fun _ _ _ h => h) (Or.inl ⟨by rfl, ?_⟩) ?_ ?_; rotate_left
                 · intro w'; go_simp; with_reducible rfl
                 rotate_left
                 · simp only [Act.put, R.sa, R.sb, R.sc, i64_w, i32_w]; rfl
                 refine pure_ (i := 27) (N := some 38) (v := undef) (a' := ?_) (R.tf 28 6) rfl rfl (any_of HT_.out (by kernel_rfl)) (fun _ _ _ h => h) (Or.inr ⟨by rfl, rfl⟩) ?_ ?_; rotate_left
                 · simp only [Act.put, R.sa, R.sb, R.sc, i64_w, i32_w]; rfl
                 refine pure_ (i := 28) (N := some 39) (v := undef) (a' := ?_) (R.tf 29 5) rfl rfl (any_of HT_.out (by kernel_rfl)) (fun _ _ _ h => h) (Or.inr ⟨by rfl, rfl⟩) ?_ ?_; rotate_left
                 · simp only [Act.put, R.sa, R.sb, R.sc, i64_w, i32_w]; rfl
                 refine pure_ (i := 29) (N := some 40) (v := undef) (a' := ?_) (R.tf 30 4) rfl rfl (any_of HT_.out (by kernel_rfl)) (fun _ _ _ h => h) (Or.inr ⟨by rfl, rfl⟩) ?_ ?_; rotate_left
                 · simp only [Act.put, R.sa, R.sb, R.sc, i64_w, i32_w]; rfl
                 refine pure_ (i := 30) (N := some 41) (v := undef) (a' := ?_) (R.tf 31 3) rfl rfl (any_of HT_.out (by kernel_rfl)) (fun _ _ _ h => h) (Or.inr ⟨by rfl, rfl⟩) ?_ ?_; rotate_left
                 · simp only [Act.put, R.sa, R.sb, R.sc, i64_w, i32_w]; rfl
                 refine pure_ (i := 31) (N := some 42) (v := undef) (a' := ?_) (R.tf 32 2) rfl rfl (any_of HT_.out (by kernel_rfl)) (fun _ _ _ h => h) (Or.inr ⟨by rfl, rfl⟩) ?_ ?_; rotate_left
                 · simp only [Act.put, R.sa, R.sb, R.sc, i64_w, i32_w]; rfl
                 refine pure_ (i := 32) (N := some 43) (v := undef) (a' := ?_) (R.tf 33 1) rfl rfl (any_of HT_.out (by kernel_rfl)) (fun _ _ _ h => h) (Or.inr ⟨by rfl, rfl⟩) ?_ ?_; rotate_left
                 · simp only [Act.put, R.sa, R.sb, R.sc, i64_w, i32_w]; rfl
                 refine pure_ (i := 33) (N := some 44) (v := ?_) (a' := ?_) (R.tf 34 0) rfl rfl (any_of HT_.out (by kernel_rfl)) (fun _ _ _ h => h) (Or.inl ⟨by rfl, ?_⟩) ?_ ?_; rotate_left
                 · intro w'; go_simp; with_reducible rfl
                 rotate_left
                 · simp only [Act.put, R.sa, R.sb, R.sc, i64_w, i32_w]; rfl
                 refine done_ (done_of HT_.out (by kernel_rfl)) ?_; try go_wp2
                 go_ret
                 exact ⟨by first | rfl | (simp [errW_none, errW_some] <;> rfl) | (simp [*, errW_none, errW_some] <;> rfl), by repeat (first | (with_reducible first | exact HB.out | apply below_alloc | apply pw_below_drewN | apply below_drew1 | refine below_set ?_ GE943.out) | exact HB.out)⟩
             · rw [if_neg c7] at H; exact absurd H (by simp)
           · rw [if_neg c6] at H; have c6b0 : ((((rd_T48 l0 x7_1).f1).length : Int) == 13) = false := beq_eq_false_iff_ne.mpr c6; have c6b1 : ((((rd_T48 l0 x7_1).f1).length : Int) != 13) = true := bne_iff_ne.mpr c6
             by_cases c25 : (((rd_T48 l0 x7_1).f1).length : Int) = 15
             · rw [if_pos c25] at H; have c25b0 : ((((rd_T48 l0 x7_1).f1).length : Int) == 15) = true := beq_iff_eq.mpr c25; have c25b1 : ((((rd_T48 l0 x7_1).f1).length : Int) != 15) = false := bne_eq_false_iff_eq.mpr c25; clear c25
               by_cases c26 : 0 < (l0.length : Int)
               · rw [if_pos c26] at H; have c26b0 : decide (0 < (l0.length : Int)) = true := decide_eq_true c26; have c26b1 : decide (0 < l0.length) = true := decide_eq_true (by omega); clear c26
                 by_cases c27 : (((rd_T48 l0 x7_1).f1).length : Int) = (((rd_T48 l0 0).f1).length : Int)
                 · rw [if_pos c27] at H; have c27b0 : ((((rd_T48 l0 x7_1).f1).length : Int) == (((rd_T48 l0 0).f1).length : Int)) = true := beq_iff_eq.mpr c27; have c27b1 : ((((rd_T48 l0 x7_1).f1).length : Int) != (((rd_T48 l0 0).f1).length : Int)) = false := bne_eq_false_iff_eq.mpr c27
                   have c27b2 : (((rd_T48 l0 x7_1).f1).length == ((rd_T48 l0 0).f1).length) = true := by first | simpa using c27 | (simp at c27 ⊢; omega)
                   clear c27; replace H := Option.bind_eq_some_iff.mp H; obtain ⟨t947, A280, H⟩ := H; replace H : (if t947 = true then (spec_softnetFine.l0 k1 l0 l0 (l0.length : Int) (wrap64 (x7_1 + 1))) else (some false)) = some r := H; have A28 := Aside0.mk A280; clear A280
                   by_cases c29 : t947 = true
                   · subst c29
                     have H1 : (spec_softnetFine.l0 k1 l0 l0 (l0.length : Int) (wrap64 (x7_1 + 1))) = some r := by rw [if_pos rfl] at H; exact H
                     clear H; have H := H1; clear H1; have H' := Aside0.mk H; clear H; have p942 : 0 ≤ (x7_1 : Int) := of_decide_eq_true (by first | (with_reducible assumption) | assumption); have q942 : x7_1 < (l0.length : Int) := of_decide_eq_true (by first | (with_reducible assumption) | assumption); obtain ⟨ad942, A942_1, c942_1, A942_2, c942_2, e942, hx942_0, hx942_1, hx942_2, hl942_1, hi942_1, hl942_2, hi942_2⟩ := at_T48 HR0.out x7_1 p942 q942; cases e942; replace hx942_0 := (HB.out.cell (World.block_lt_of_cell? w _ hx942_0)).trans hx942_0; replace hx942_1 := (HB.out.cell (World.block_lt_of_cell? w _ hx942_1)).trans hx942_1; replace hx942_2 := (HB.out.cell (World.block_lt_of_cell? w _ hx942_2)).trans hx942_2; have HR942_1 := Aside0.mk hi942_1; have HC942_1 := Aside0.mk hl942_1; clear hi942_1 hl942_1; have HR942_2 := Aside0.mk hi942_2; have HC942_2 := Aside0.mk hl942_2; clear hi942_2 hl942_2; replace p942 := eq_true p942; replace q942 := eq_true q942; try go_wp2_with (first | ((with_reducible refine gate_dst (N := 4) rfl ?_); (try (refine gate_guard (by rfl) ?_; dsimp only)); refine box_event ?hg (N := 4) ?hd (cs := #[.string (⟨#[]⟩ : ByteArray), .slice none 0 0, .slice none 0 0]) (t := 48) ?hr ?_; (case hd => rfl); (case hg => rfl); (case hr => first | (go_simp; done) | (go_simp; rfl)); intro gb943 hg w30 hbox hb; have n0_ := Aside0.mk (below_step (by repeat (first | (with_reducible first | exact HB.out | apply below_alloc | apply pw_below_drewN | apply below_drew1) | exact HB.out)) hb); have n1_ := Aside0.mk (hbox); have n2_ := Aside0.mk ((by rw [hg]; exact (below_size (by repeat (first | (with_reducible first | exact HB.out | apply below_alloc | apply pw_below_drewN | apply below_drew1) | exact HB.out))) : w.heap.size ≤ gb943)); have n3_ := Aside0.mk ((by rw [hg]; exact (below_size (by repeat (first | (with_reducible first | exact HB.out | apply below_alloc | apply pw_below_drewN | apply below_drew1) | exact HB.out))) : w.heap.size ≤ gb943)); clear HB; have HB := n0_; have BK943 := n1_; have GW943 := n2_; have GE943 := n3_; clear n0_ n1_ n2_ n3_; clear hb hbox hg; have hcz31_0 : w30.cell? ⟨gb943, 0, none⟩ = some (.string (⟨#[]⟩ : ByteArray)) := (blk_cell BK943.out 0).trans rfl; have hcz31_1 : w30.cell? ⟨gb943, 1, none⟩ = some (.slice none 0 0) := (blk_cell BK943.out 1).trans rfl; have hcz31_2 : w30.cell? ⟨gb943, 2, none⟩ = some (.slice none 0 0) := (blk_cell BK943.out 2).trans rfl; have hfz31_0 := blk_frozen BK943.out 0; have hfz31_1 := blk_frozen BK943.out 1; have hfz31_2 := blk_frozen BK943.out 2))
                     have n0_ : Aside0 ((((w30.setCell ⟨gb943, 0, none⟩ (.string ((rd_T48 l0 x7_1).f0))).setCell ⟨gb943, 1, none⟩ (.slice A942_1 ((rd_T48 l0 x7_1).f1).length c942_1)).setCell ⟨gb943, 2, none⟩ (.slice A942_2 ((rd_T48 l0 x7_1).f2).length c942_2)).heap[gb943]? = some (.cells #[.string ((rd_T48 l0 x7_1).f0), .slice A942_1 ((rd_T48 l0 x7_1).f1).length c942_1, .slice A942_2 ((rd_T48 l0 x7_1).f2).length c942_2] 48 (0, 0))) := ⟨by (with_reducible repeat (first | refine blk_drewN ?_ _ | refine blk_drew ?_ | refine blk_alloc ?_ _)); refine blk_put (cs := #[.string ((rd_T48 l0 x7_1).f0), .slice A942_1 ((rd_T48 l0 x7_1).f1).length c942_1, .slice none 0 0]) ?_ 2 _ rfl; (with_reducible repeat (first | refine blk_drewN ?_ _ | refine blk_drew ?_ | refine blk_alloc ?_ _)); refine blk_put (cs := #[.string ((rd_T48 l0 x7_1).f0), .slice none 0 0, .slice none 0 0]) ?_ 1 _ rfl; (with_reducible repeat (first | refine blk_drewN ?_ _ | refine blk_drew ?_ | refine blk_alloc ?_ _)); refine blk_put (cs := #[.string (⟨#[]⟩ : ByteArray), .slice none 0 0, .slice none 0 0]) ?_ 0 _ rfl; (with_reducible repeat (first | refine blk_drewN ?_ _ | refine blk_drew ?_ | refine blk_alloc ?_ _)); exact BK943.out⟩; have n1_ : Aside0 (Below w.heap.size w (((w30.setCell ⟨gb943, 0, none⟩ (.string ((rd_T48 l0 x7_1).f0))).setCell ⟨gb943, 1, none⟩ (.slice A942_1 ((rd_T48 l0 x7_1).f1).length c942_1)).setCell ⟨gb943, 2, none⟩ (.slice A942_2 ((rd_T48 l0 x7_1).f2).length c942_2))) := ⟨by repeat (first | (with_reducible first | exact HB.out | apply below_alloc | apply pw_below_drewN | apply below_drew1 | refine below_set ?_ GE943.out) | exact HB.out)⟩; (try clear BK943); (try clear HB); generalize (((w30.setCell ⟨gb943, 0, none⟩ (.string ((rd_T48 l0 x7_1).f0))).setCell ⟨gb943, 1, none⟩ (.slice A942_1 ((rd_T48 l0 x7_1).f1).length c942_1)).setCell ⟨gb943, 2, none⟩ (.slice A942_2 ((rd_T48 l0 x7_1).f2).length c942_2)) = w32 at n0_ n1_ ⊢; have BK943 := n0_; have HB := n1_; clear n0_ n1_; have n0_ := Aside0.mk (blk_drew BK943.out); have n1_ := Aside0.mk (below_drew1 HB.out); clear BK943; clear HB; have BK943 := n0_; have HB := n1_; clear n0_ n1_; have p946 : 0 ≤ (0 : Int) := (by omega); have q946 : 0 < (l0.length : Int) := of_decide_eq_true (by first | (with_reducible assumption) | assumption); obtain ⟨ad946, A946_1, c946_1, A946_2, c946_2, e946, hx946_0, hx946_1, hx946_2, hl946_1, hi946_1, hl946_2, hi946_2⟩ := at_T48 HR0.out 0 p946 q946; have hw946_2 := hx946_2; (try rw [show ((0 : Int)).toNat = 0 from rfl] at hw946_2); (try rw [show 0 * 3 = 0 from rfl] at hw946_2); (try rw [Addr.add_zero'] at hw946_2); have hw946_1 := hx946_1; (try rw [show ((0 : Int)).toNat = 0 from rfl] at hw946_1); (try rw [show 0 * 3 = 0 from rfl] at hw946_1); (try rw [Addr.add_zero'] at hw946_1); have hw946_0 := hx946_0; (try rw [show ((0 : Int)).toNat = 0 from rfl] at hw946_0); (try rw [show 0 * 3 = 0 from rfl] at hw946_0); (try rw [Addr.add_zero'] at hw946_0); obtain rfl : ad942 = ad946 := (by injection e946); have qi946 : (0 < l0.length) = True := eq_true (by omega); (try rw [show ((0 : Int)).toNat = 0 from rfl] at hx946_0); (try rw [show 0 * 3 = 0 from rfl] at hx946_0); (try rw [Addr.add_zero'] at hx946_0); (try rw [show ((0 : Int)).toNat = 0 from rfl] at hx946_1); (try rw [show 0 * 3 = 0 from rfl] at hx946_1); (try rw [Addr.add_zero'] at hx946_1); (try rw [show ((0 : Int)).toNat = 0 from rfl] at hx946_2); (try rw [show 0 * 3 = 0 from rfl] at hx946_2); (try rw [Addr.add_zero'] at hx946_2); replace hx946_0 := (HB.out.cell (World.block_lt_of_cell? w _ hx946_0)).trans hx946_0; replace hx946_1 := (HB.out.cell (World.block_lt_of_cell? w _ hx946_1)).trans hx946_1; replace hx946_2 := (HB.out.cell (World.block_lt_of_cell? w _ hx946_2)).trans hx946_2; have HR946_1 := Aside0.mk hi946_1; have HC946_1 := Aside0.mk hl946_1; clear hi946_1 hl946_1; have HR946_2 := Aside0.mk hi946_2; have HC946_2 := Aside0.mk hl946_2; clear hi946_2 hl946_2; replace p946 := eq_true p946; replace q946 := eq_true q946; refine start_ (n := 34) (S := fun w' => w'.cell? ⟨gb943, 0, none⟩ = some (.string ((rd_T48 l0 x7_1).f0)) ∧ w'.cell? ⟨gb943, 1, none⟩ = some (.slice A942_1 ((rd_T48 l0 x7_1).f1).length c942_1) ∧ w'.cell? ⟨gb943, 2, none⟩ = some (.slice A942_2 ((rd_T48 l0 x7_1).f2).length c942_2) ∧ w'.cell? ad942 = some (.string ((rd_T48 l0 0).f0)) ∧ w'.cell? ⟨ad942.block, ad942.off + 1, none⟩ = some (.slice A946_1 ((rd_T48 l0 0).f1).length c946_1) ∧ w'.cell? ⟨ad942.block, ad942.off + 2, none⟩ = some (.slice A946_2 ((rd_T48 l0 0).f2).length c946_2)) (ds := []) (R.tf 0 34) (by kernel_rfl) rfl rfl ⟨(blk_cell BK943.out 0).trans rfl, (blk_cell BK943.out 1).trans rfl, (blk_cell BK943.out 2).trans rfl, ((HB.out.cell (World.block_lt_of_cell? w _ hw946_0)).trans hw946_0), ((HB.out.cell (World.block_lt_of_cell? w _ hw946_1)).trans hw946_1), ((HB.out.cell (World.block_lt_of_cell? w _ hw946_2)).trans hw946_2)⟩ (fun hHeld => ?_); refine with_tabW spec_softnetFine.tab4 spec_softnetFine.bits4 (fun HT_ HW_ => ?_); generalize w32.drew = w33 at BK943 HB HR946_1 HR946_2 hx946_0 hx946_1 hx946_2 hHeld ⊢; refine pure_ (i := 0) (N := some 11) (v := ?_) (a' := ?_) (R.tf 1 33) rfl rfl (any_of HT_.out (by kernel_rfl)) (fun _ _ _ h => h) (Or.inl ⟨by rfl, ?_⟩) ?_ ?_; rotate_left
                     · intro w'; go_simp; with_reducible rfl
                     rotate_left
                     · simp only [Act.put, R.sa, R.sb, R.sc, i64_w, i32_w]; rfl
                     refine take_ (i := 1) (N := some 12) (v := ?_) (a' := ?_) (R.tf 2 32) rfl rfl (take_ofW HT_.out HW_.out (by kernel_rfl)) (fun _ _ _ h => h) (Or.inl ⟨by rfl, ?_⟩) hHeld ?_ ?_; rotate_left
                     · rintro w' ⟨s0, s1, s2, s3, s4, s5⟩; go_simp; with_reducible rfl
                     rotate_left
                     · simp only [Act.put, R.sa, R.sb, R.sc, i64_w, i32_w]; rfl
                     refine pure_ (i := 2) (N := some 13) (v := ?_) (a' := ?_) (R.tf 3 31) rfl rfl (any_of HT_.out (by kernel_rfl)) (fun _ _ _ h => h) (Or.inl ⟨by rfl, ?_⟩) ?_ ?_; rotate_left
                     · intro w'; go_simp; with_reducible rfl
                     rotate_left
                     · simp only [Act.put, R.sa, R.sb, R.sc, i64_w, i32_w]; rfl
                     refine pure_ (i := 3) (N := some 14) (v := ?_) (a' := ?_) (R.tf 4 30) rfl rfl (any_of HT_.out (by kernel_rfl)) (fun _ _ _ h => h) (Or.inl ⟨by rfl, ?_⟩) ?_ ?_; rotate_left
                     · intro w'; go_simp; with_reducible rfl
                     rotate_left
                     · simp only [Act.put, R.sa, R.sb, R.sc, i64_w, i32_w]; rfl
                     refine pure_ (i := 4) (N := some 15) (v := ?_) (a' := ?_) (R.tf 5 29) rfl rfl (any_of HT_.out (by kernel_rfl)) (fun _ _ _ h => h) (Or.inl ⟨by rfl, ?_⟩) ?_ ?_; rotate_left
                     · intro w'; go_simp; with_reducible rfl
                     rotate_left
                     · simp only [Act.put, R.sa, R.sb, R.sc, i64_w, i32_w]; rfl
                     refine take_ (i := 5) (N := some 16) (v := ?_) (a' := ?_) (R.tf 6 28) rfl rfl (take_ofW HT_.out HW_.out (by kernel_rfl)) (fun _ _ _ h => h) (Or.inl ⟨by rfl, ?_⟩) hHeld ?_ ?_; rotate_left
                     · rintro w' ⟨s0, s1, s2, s3, s4, s5⟩; go_simp; with_reducible rfl
                     rotate_left
                     · simp only [Act.put, R.sa, R.sb, R.sc, i64_w, i32_w]; rfl
                     refine pure_ (i := 6) (N := some 17) (v := ?_) (a' := ?_) (R.tf 7 27) rfl rfl (any_of HT_.out (by kernel_rfl)) (fun _ _ _ h => h) (Or.inl ⟨by rfl, ?_⟩) ?_ ?_; rotate_left
                     · intro w'; go_simp; with_reducible rfl
                     rotate_left
                     · simp only [Act.put, R.sa, R.sb, R.sc, i64_w, i32_w]; rfl
                     refine pure_ (i := 7) (N := some 18) (v := ?_) (a' := ?_) (R.tf 8 26) rfl rfl (any_of HT_.out (by kernel_rfl)) (fun _ _ _ h => h) (Or.inl ⟨by rfl, ?_⟩) ?_ ?_; rotate_left
                     · intro w'; go_simp; with_reducible rfl
                     rotate_left
                     · simp only [Act.put, R.sa, R.sb, R.sc, i64_w, i32_w]; rfl
                     refine pure_ (i := 8) (N := some 19) (v := ?_) (a' := ?_) (R.tf 9 25) rfl rfl (any_of HT_.out (by kernel_rfl)) (fun _ _ _ h => h) (Or.inl ⟨by rfl, ?_⟩) ?_ ?_; rotate_left
                     · intro w'; go_simp; with_reducible rfl
                     rotate_left
                     · simp only [Act.put, R.sa, R.sb, R.sc, i64_w, i32_w]; rfl
                     refine pure_ (i := 9) (N := some 20) (v := ?_) (a' := ?_) (R.tf 10 24) rfl rfl (any_of HT_.out (by kernel_rfl)) (fun _ _ _ h => h) (Or.inl ⟨by rfl, ?_⟩) ?_ ?_; rotate_left
                     · intro w'; go_simp; with_reducible rfl
                     rotate_left
                     · simp only [Act.put, R.sa, R.sb, R.sc, i64_w, i32_w]; rfl
                     refine take_ (i := 10) (N := some 21) (v := ?_) (a' := ?_) (R.tf 11 23) rfl rfl (take_ofW HT_.out HW_.out (by kernel_rfl)) (fun _ _ _ h => h) (Or.inl ⟨by rfl, ?_⟩) hHeld ?_ ?_; rotate_left
                     · rintro w' ⟨s0, s1, s2, s3, s4, s5⟩; go_simp; with_reducible rfl
                     rotate_left
                     · simp only [Act.put, R.sa, R.sb, R.sc, i64_w, i32_w]; rfl
                     refine pure_ (i := 11) (N := some 22) (v := ?_) (a' := ?_) (R.tf 12 22) rfl rfl (any_of HT_.out (by kernel_rfl)) (fun _ _ _ h => h) (Or.inl ⟨by rfl, ?_⟩) ?_ ?_; rotate_left
                     · intro w'; go_simp; with_reducible rfl
                     rotate_left
                     · simp only [Act.put, R.sa, R.sb, R.sc, i64_w, i32_w]; rfl
                     refine pure_ (i := 12) (N := some 23) (v := ?_) (a' := ?_) (R.tf 13 21) rfl rfl (any_of HT_.out (by kernel_rfl)) (fun _ _ _ h => h) (Or.inl ⟨by rfl, ?_⟩) ?_ ?_; rotate_left
                     · intro w'; go_simp; with_reducible rfl
                     rotate_left
                     · simp only [Act.put, R.sa, R.sb, R.sc, i64_w, i32_w]; rfl
                     refine pure_ (i := 13) (N := some 24) (v := ?_) (a' := ?_) (R.tf 14 20) rfl rfl (any_of HT_.out (by kernel_rfl)) (fun _ _ _ h => h) (Or.inl ⟨by rfl, ?_⟩) ?_ ?_; rotate_left
                     · intro w'; go_simp; with_reducible rfl
                     rotate_left
                     · simp only [Act.put, R.sa, R.sb, R.sc, i64_w, i32_w]; rfl
                     refine pure_ (i := 14) (N := some 25) (v := ?_) (a' := ?_) (R.tf 15 19) rfl rfl (any_of HT_.out (by kernel_rfl)) (fun _ _ _ h => h) (Or.inl ⟨by rfl, ?_⟩) ?_ ?_; rotate_left
                     · intro w'; go_simp; with_reducible rfl
                     rotate_left
                     · simp only [Act.put, R.sa, R.sb, R.sc, i64_w, i32_w]; rfl
                     refine pure_ (i := 15) (N := some 26) (v := ?_) (a' := ?_) (R.tf 16 18) rfl rfl (any_of HT_.out (by kernel_rfl)) (fun _ _ _ h => h) (Or.inl ⟨by rfl, ?_⟩) ?_ ?_; rotate_left
                     · intro w'; go_simp; with_reducible rfl
                     rotate_left
                     · simp only [Act.put, R.sa, R.sb, R.sc, i64_w, i32_w]; rfl
                     refine pure_ (i := 16) (N := some 27) (v := ?_) (a' := ?_) (R.tf 17 17) rfl rfl (any_of HT_.out (by kernel_rfl)) (fun _ _ _ h => h) (Or.inl ⟨by rfl, ?_⟩) ?_ ?_; rotate_left
                     · intro w'; go_simp; with_reducible rfl
                     rotate_left
                     · simp only [Act.put, R.sa, R.sb, R.sc, i64_w, i32_w]; rfl
                     refine pure_ (i := 19) (N := some 30) (v := ?_) (a' := ?_) #[true, true, true, true, true, true, true, true, true, true, true, true, true, true, true, true, true, false, false, true, false, false, false, false, false, false, false, false, false, false, false, false, false, false] rfl rfl (any_of HT_.out (by kernel_rfl)) (fun _ _ _ h => h) (Or.inl ⟨by rfl, ?_⟩) ?_ ?_; rotate_left
                     · intro w'; go_simp; with_reducible rfl
                     rotate_left
                     · simp only [Act.put, R.sa, R.sb, R.sc, i64_w, i32_w]; rfl
                     refine pure_ (i := 20) (N := some 31) (v := ?_) (a' := ?_) #[true, true, true, true, true, true, true, true, true, true, true, true, true, true, true, true, true, false, false, true, true, false, false, false, false, false, false, false, false, false, false, false, false, false] rfl rfl (any_of HT_.out (by kernel_rfl)) (fun _ _ _ h => h) (Or.inl ⟨by rfl, ?_⟩) ?_ ?_; rotate_left
                     · intro w'; go_simp; with_reducible rfl
                     rotate_left
                     · simp only [Act.put, R.sa, R.sb, R.sc, i64_w, i32_w]; rfl
                     refine pure_ (i := 21) (N := some 32) (v := ?_) (a' := ?_) #[true, true, true, true, true, true, true, true, true, true, true, true, true, true, true, true, true, false, false, true, true, true, false, false, false, false, false, false, false, false, false, false, false, false] rfl rfl (any_of HT_.out (by kernel_rfl)) (fun _ _ _ h => h) (Or.inl ⟨by rfl, ?_⟩) ?_ ?_; rotate_left
                     · intro w'; go_simp; with_reducible rfl
                     rotate_left
                     · simp only [Act.put, R.sa, R.sb, R.sc, i64_w, i32_w]; rfl
                     refine take_ (i := 17) (N := some 28) (v := ?_) (a' := ?_) #[true, true, true, true, true, true, true, true, true, true, true, true, true, true, true, true, true, true, false, true, true, true, false, false, false, false, false, false, false, false, false, false, false, false] rfl rfl (take_ofW HT_.out HW_.out (by kernel_rfl)) (fun _ _ _ h => h) (Or.inl ⟨by rfl, ?_⟩) hHeld ?_ ?_; rotate_left
                     · rintro w' ⟨s0, s1, s2, s3, s4, s5⟩; go_simp; with_reducible rfl
                     rotate_left
                     · simp only [Act.put, R.sa, R.sb, R.sc, i64_w, i32_w]; rfl
                     refine pure_ (i := 18) (N := some 29) (v := ?_) (a' := ?_) (R.tf 22 12) rfl rfl (any_of HT_.out (by kernel_rfl)) (fun _ _ _ h => h) (Or.inl ⟨by rfl, ?_⟩) ?_ ?_; rotate_left
                     · intro w'; go_simp; with_reducible rfl
                     rotate_left
                     · simp only [Act.put, R.sa, R.sb, R.sc, i64_w, i32_w]; rfl
                     refine take_ (i := 22) (N := some 33) (v := ?_) (a' := ?_) (R.tf 23 11) rfl rfl (take_ofW HT_.out HW_.out (by kernel_rfl)) (fun _ _ _ h => h) (Or.inl ⟨by rfl, ?_⟩) hHeld ?_ ?_; rotate_left
                     · rintro w' ⟨s0, s1, s2, s3, s4, s5⟩; go_simp; with_reducible rfl
                     rotate_left
                     · simp only [Act.put, R.sa, R.sb, R.sc, i64_w, i32_w]; rfl
                     refine pure_ (i := 23) (N := some 34) (v := ?_) (a' := ?_) (R.tf 24 10) rfl rfl (any_of HT_.out (by kernel_rfl)) (fun _ _ _ h => h) (Or.inl ⟨by rfl, ?_⟩) ?_ ?_; rotate_left
                     · intro w'; go_simp; with_reducible rfl
                     rotate_left
                     · simp only [Act.put, R.sa, R.sb, R.sc, i64_w, i32_w]; rfl
                     refine pure_ (i := 24) (N := some 35) (v := ?_) (a' := ?_) (R.tf 25 9) rfl rfl (any_of HT_.out (by kernel_rfl)) (fun _ _ _ h => h) (Or.inl ⟨by rfl, ?_⟩) ?_ ?_; rotate_left
                     · intro w'; go_simp; with_reducible rfl
                     rotate_left
                     · simp only [Act.put, R.sa, R.sb, R.sc, i64_w, i32_w]; rfl
                     refine pure_ (i := 25) (N := some 36) (v := ?_) (a' := ?_) (R.tf 26 8) rfl rfl (any_of HT_.out (by kernel_rfl)) (fun _ _ _ h => h) (Or.inl ⟨by rfl, ?_⟩) ?_ ?_; rotate_left
                     · intro w'; go_simp; with_reducible rfl
                     rotate_left
                     · simp only [Act.put, R.sa, R.sb, R.sc, i64_w, i32_w]; rfl
                     refine pure_ (i := 26) (N := some 37) (v := ?_) (a' := ?_) (R.tf 27 7) rfl rfl (any_of HT_.out (by kernel_rfl)) (fun _ _ _ h => h) (Or.inl ⟨by rfl, ?_⟩) ?_ ?_; rotate_left
                     · intro w'; go_simp; with_reducible rfl
                     rotate_left
                     · simp only [Act.put, R.sa, R.sb, R.sc, i64_w, i32_w]; rfl
                     refine pure_ (i := 28) (N := some 39) (v := ?_) (a' := ?_) #[true, true, true, true, true, true, true, true, true, true, true, true, true, true, true, true, true, true, true, true, true, true, true, true, true, true, true, false, true, false, false, false, false, false] rfl rfl (any_of HT_.out (by kernel_rfl)) (fun _ _ _ h => h) (Or.inl ⟨by rfl, ?_⟩) ?_ ?_; rotate_left
                     · intro w'; go_simp; with_reducible rfl
                     rotate_left
                     · simp only [Act.put, R.sa, R.sb, R.sc, i64_w, i32_w]; rfl
                     refine take_ (i := 27) (N := some 38) (v := ?_) (a' := ?_) (R.tf 29 5) rfl rfl (take_ofW HT_.out HW_.out (by kernel_rfl)) (fun _ _ _ h => h) (Or.inl ⟨by rfl, ?_⟩) hHeld ?_ ?_; rotate_left
                     · rintro w' ⟨s0, s1, s2, s3, s4, s5⟩; go_simp; with_reducible rfl
                     rotate_left
                     · simp only [Act.put, R.sa, R.sb, R.sc, i64_w, i32_w]; rfl
                     refine take_ (i := 29) (N := some 40) (v := ?_) (a' := ?_) (R.tf 30 4) rfl rfl (take_ofW HT_.out HW_.out (by kernel_rfl)) (fun _ _ _ h => h) (Or.inl ⟨by rfl, ?_⟩) hHeld ?_ ?_; rotate_left
                     · rintro w' ⟨s0, s1, s2, s3, s4, s5⟩; go_simp; with_reducible rfl
                     rotate_left
                     · simp only [Act.put, R.sa, R.sb, R.sc, i64_w, i32_w]; rfl
                     refine pure_ (i := 30) (N := some 41) (v := ?_) (a' := ?_) (R.tf 31 3) rfl rfl (any_of HT_.out (by kernel_rfl)) (fun _ _ _ h => h) (Or.inl ⟨by rfl, ?_⟩) ?_ ?_; rotate_left
                     · intro w'; go_simp; with_reducible rfl
                     rotate_left
                     · simp only [Act.put, R.sa, R.sb, R.sc, i64_w, i32_w]; rfl
                     refine one_ (i := 31) (N := some 42) (R.tf 32 2) rfl rfl (one_of HT_.out (by kernel_rfl)) (by decide) (fun K hK => ?_); refine goes_ Tryz.func120 (by kernel_rfl) rfl #[.agg #[.string ((rd_T48 l0 x7_1).f0), .slice A942_1 ((rd_T48 l0 x7_1).f1).length c942_1, .slice A942_2 ((rd_T48 l0 x7_1).f2).length c942_2], .int .i64 (((rd_T48 l0 x7_1).f1).length : Int), .int .i64 32, .int .i64 0] (by rfl) rfl rfl (by (try simp only [List.map_toArray, List.map_cons, List.map_nil]); first | done | rfl | (simp only [List.length_drop, List.length_take]; rfl)) ?_; with_reducible refine (spec_counted.calls k1 ((rd_T48 l0 x7_1).f0) _ _ ((rd_T48 l0 x7_1).f1) _ _ ((rd_T48 l0 x7_1).f2) (((rd_T48 l0 x7_1).f1).length : Int) 32 0 true _ ?side1 ?side2 ?side3 ?side4 A28.out).mono ?_
                     (case side1 => repeat (first | exact (Kd.C_below HR942_1.out HB.out) | (with_reducible refine Kd.C_alloc ?_ _) | (with_reducible refine Kd.C_drewN ?_ _) | (with_reducible refine Kd.C_drew ?_)))
                     (case side2 => exact HC942_1.out)
                     (case side3 => repeat (first | exact (Kd.C_below HR942_2.out HB.out) | (with_reducible refine Kd.C_alloc ?_ _) | (with_reducible refine Kd.C_drewN ?_ _) | (with_reducible refine Kd.C_drew ?_)))
                     (case side4 => exact HC942_2.out)
                     rintro e w34 ⟨rfl, hb⟩; refine ⟨_, rfl, ?_⟩; have n0_ := Aside0.mk (blk_below (g := gb943) (o := .cells #[.string ((rd_T48 l0 x7_1).f0), .slice A942_1 ((rd_T48 l0 x7_1).f1).length c942_1, .slice A942_2 ((rd_T48 l0 x7_1).f2).length c942_2] 48 (0, 0)) (by (with_reducible repeat (first | refine blk_drewN ?_ _ | refine blk_drew ?_ | refine blk_alloc ?_ _)); exact BK943.out) hb); have n1_ := Aside0.mk (below_step (by repeat (first | (with_reducible first | exact HB.out | apply below_alloc | apply pw_below_drewN | apply below_drew1 | refine below_set ?_ GE943.out) | exact HB.out)) hb); clear BK943; clear HB; have BK943 := n0_; have HB := n1_; clear n0_ n1_; (try clear hb); (try clear hb2); (try clear hk); (try clear hi); refine hK.out _ _ ⟨(blk_cell BK943.out 0).trans rfl, (blk_cell BK943.out 1).trans rfl, (blk_cell BK943.out 2).trans rfl, ((HB.out.cell (World.block_lt_of_cell? w _ hw946_0)).trans hw946_0), ((HB.out.cell (World.block_lt_of_cell? w _ hw946_1)).trans hw946_1), ((HB.out.cell (World.block_lt_of_cell? w _ hw946_2)).trans hw946_2)⟩ (fun hHeld => ?_); clear hK K; refine norm_ (a' := ?_) ?_ ?_; rotate_left
                     · show Act.put _ (some 42) _ = _
                       simp only [Act.put, R.sa, R.sb, R.sc, i64_w, i32_w]; rfl
                     refine pure_ (i := 32) (N := some 43) (v := ?_) (a' := ?_) (R.tf 33 1) rfl rfl (any_of HT_.out (by kernel_rfl)) (fun _ _ _ h => h) (Or.inl ⟨by rfl, ?_⟩) ?_ ?_; rotate_left
                     · intro w'; go_simp; with_reducible rfl
                     rotate_left
                     · simp only [Act.put, R.sa, R.sb, R.sc, i64_w, i32_w]; rfl
                     refine pure_ (i := 33) (N := some 44) (v := ?_) (a' := ?_) (R.tf 34 0) rfl rfl (any_of HT_.out (by kernel_rfl)) (fun _ _ _ h => h) (Or.inl ⟨by rfl, ?_⟩) ?_ ?_; rotate_left
                     · intro w'; go_simp; with_reducible rfl
                     rotate_left
                     · simp only [Act.put, R.sa, R.sb, R.sc, i64_w, i32_w]; rfl
                     refine done_ (done_of HT_.out (by kernel_rfl)) ?_; try go_wp2
                     go_roundg k1
                     case measure => have := HK1.out; omega
                     case rel => exact ⟨(wrap64 (x7_1 + 1)), (by first | rfl | (simp; done) | (simp [*]; done)), H', ⟨by have := HK1.out; omega⟩, ⟨by repeat (first | (with_reducible first | exact HB.out | apply below_alloc | apply pw_below_drewN | apply below_drew1 | refine below_set ?_ GE943.out) | exact HB.out)⟩⟩
                   · replace c29 := Bool.eq_false_iff.mpr c29; subst c29
                     have H1 : (some false) = some r := by rw [if_neg (show ¬ (false = true) by decide)] at H; exact H
                     clear H; have H := H1; clear H1; obtain rfl := Option.some.inj H; have p942 : 0 ≤ (x7_1 : Int) := of_decide_eq_true (by first | (with_reducible assumption) | assumption); have q942 : x7_1 < (l0.length : Int) := of_decide_eq_true (by first | (with_reducible assumption) | assumption); obtain ⟨ad942, A942_1, c942_1, A942_2, c942_2, e942, hx942_0, hx942_1, hx942_2, hl942_1, hi942_1, hl942_2, hi942_2⟩ := at_T48 HR0.out x7_1 p942 q942; cases e942; replace hx942_0 := (HB.out.cell (World.block_lt_of_cell? w _ hx942_0)).trans hx942_0; replace hx942_1 := (HB.out.cell (World.block_lt_of_cell? w _ hx942_1)).trans hx942_1; replace hx942_2 := (HB.out.cell (World.block_lt_of_cell? w _ hx942_2)).trans hx942_2; have HR942_1 := Aside0.mk hi942_1; have HC942_1 := Aside0.mk hl942_1; clear hi942_1 hl942_1; have HR942_2 := Aside0.mk hi942_2; have HC942_2 := Aside0.mk hl942_2; clear hi942_2 hl942_2; replace p942 := eq_true p942; replace q942 := eq_true q942; try go_wp2_with (first | ((with_reducible refine gate_dst (N := 4) rfl ?_); (try (refine gate_guard (by rfl) ?_; dsimp only)); refine box_event ?hg (N := 4) ?hd (cs := #[.string (⟨#[]⟩ : ByteArray), .slice none 0 0, .slice none 0 0]) (t := 48) ?hr ?_; (case hd => rfl); (case hg => rfl); (case hr => first | (go_simp; done) | (go_simp; rfl)); intro gb943 hg w35 hbox hb; have n0_ := Aside0.mk (below_step (by repeat (first | (with_reducible first | exact HB.out | apply below_alloc | apply pw_below_drewN | apply below_drew1) | exact HB.out)) hb); have n1_ := Aside0.mk (hbox); have n2_ := Aside0.mk ((by rw [hg]; exact (below_size (by repeat (first | (with_reducible first | exact HB.out | apply below_alloc | apply pw_below_drewN | apply below_drew1) | exact HB.out))) : w.heap.size ≤ gb943)); have n3_ := Aside0.mk ((by rw [hg]; exact (below_size (by repeat (first | (with_reducible first | exact HB.out | apply below_alloc | apply pw_below_drewN | apply below_drew1) | exact HB.out))) : w.heap.size ≤ gb943)); clear HB; have HB := n0_; have BK943 := n1_; have GW943 := n2_; have GE943 := n3_; clear n0_ n1_ n2_ n3_; clear hb hbox hg; have hcz36_0 : w35.cell? ⟨gb943, 0, none⟩ = some (.string (⟨#[]⟩ : ByteArray)) := (blk_cell BK943.out 0).trans rfl; have hcz36_1 : w35.cell? ⟨gb943, 1, none⟩ = some (.slice none 0 0) := (blk_cell BK943.out 1).trans rfl; have hcz36_2 : w35.cell? ⟨gb943, 2, none⟩ = some (.slice none 0 0) := (blk_cell BK943.out 2).trans rfl; have hfz36_0 := blk_frozen BK943.out 0; have hfz36_1 := blk_frozen BK943.out 1; have hfz36_2 := blk_frozen BK943.out 2))
                     have n0_ : Aside0 ((((w35.setCell ⟨gb943, 0, none⟩ (.string ((rd_T48 l0 x7_1).f0))).setCell ⟨gb943, 1, none⟩ (.slice A942_1 ((rd_T48 l0 x7_1).f1).length c942_1)).setCell ⟨gb943, 2, none⟩ (.slice A942_2 ((rd_T48 l0 x7_1).f2).length c942_2)).heap[gb943]? = some (.cells #[.string ((rd_T48 l0 x7_1).f0), .slice A942_1 ((rd_T48 l0 x7_1).f1).length c942_1, .slice A942_2 ((rd_T48 l0 x7_1).f2).length c942_2] 48 (0, 0))) := ⟨by (with_reducible repeat (first | refine blk_drewN ?_ _ | refine blk_drew ?_ | refine blk_alloc ?_ _)); refine blk_put (cs := #[.string ((rd_T48 l0 x7_1).f0), .slice A942_1 ((rd_T48 l0 x7_1).f1).length c942_1, .slice none 0 0]) ?_ 2 _ rfl; (with_reducible repeat (first | refine blk_drewN ?_ _ | refine blk_drew ?_ | refine blk_alloc ?_ _)); refine blk_put (cs := #[.string ((rd_T48 l0 x7_1).f0), .slice none 0 0, .slice none 0 0]) ?_ 1 _ rfl; (with_reducible repeat (first | refine blk_drewN ?_ _ | refine blk_drew ?_ | refine blk_alloc ?_ _)); refine blk_put (cs := #[.string (⟨#[]⟩ : ByteArray), .slice none 0 0, .slice none 0 0]) ?_ 0 _ rfl; (with_reducible repeat (first | refine blk_drewN ?_ _ | refine blk_drew ?_ | refine blk_alloc ?_ _)); exact BK943.out⟩; have n1_ : Aside0 (Below w.heap.size w (((w35.setCell ⟨gb943, 0, none⟩ (.string ((rd_T48 l0 x7_1).f0))).setCell ⟨gb943, 1, none⟩ (.slice A942_1 ((rd_T48 l0 x7_1).f1).length c942_1)).setCell ⟨gb943, 2, none⟩ (.slice A942_2 ((rd_T48 l0 x7_1).f2).length c942_2))) := ⟨by repeat (first | (with_reducible first | exact HB.out | apply below_alloc | apply pw_below_drewN | apply below_drew1 | refine below_set ?_ GE943.out) | exact HB.out)⟩; (try clear BK943); (try clear HB); generalize (((w35.setCell ⟨gb943, 0, none⟩ (.string ((rd_T48 l0 x7_1).f0))).setCell ⟨gb943, 1, none⟩ (.slice A942_1 ((rd_T48 l0 x7_1).f1).length c942_1)).setCell ⟨gb943, 2, none⟩ (.slice A942_2 ((rd_T48 l0 x7_1).f2).length c942_2)) = w37 at n0_ n1_ ⊢; have BK943 := n0_; have HB := n1_; clear n0_ n1_; have n0_ := Aside0.mk (blk_drew BK943.out); have n1_ := Aside0.mk (below_drew1 HB.out); clear BK943; clear HB; have BK943 := n0_; have HB := n1_; clear n0_ n1_; have p946 : 0 ≤ (0 : Int) := (by omega); have q946 : 0 < (l0.length : Int) := of_decide_eq_true (by first | (with_reducible assumption) | assumption); obtain ⟨ad946, A946_1, c946_1, A946_2, c946_2, e946, hx946_0, hx946_1, hx946_2, hl946_1, hi946_1, hl946_2, hi946_2⟩ := at_T48 HR0.out 0 p946 q946; have hw946_2 := hx946_2; (try rw [show ((0 : Int)).toNat = 0 from rfl] at hw946_2); (try rw [show 0 * 3 = 0 from rfl] at hw946_2); (try rw [Addr.add_zero'] at hw946_2); have hw946_1 := hx946_1; (try rw [show ((0 : Int)).toNat = 0 from rfl] at hw946_1); (try rw [show 0 * 3 = 0 from rfl] at hw946_1); (try rw [Addr.add_zero'] at hw946_1); have hw946_0 := hx946_0; (try rw [show ((0 : Int)).toNat = 0 from rfl] at hw946_0); (try rw [show 0 * 3 = 0 from rfl] at hw946_0); (try rw [Addr.add_zero'] at hw946_0); obtain rfl : ad942 = ad946 := (by injection e946); have qi946 : (0 < l0.length) = True := eq_true (by omega); (try rw [show ((0 : Int)).toNat = 0 from rfl] at hx946_0); (try rw [show 0 * 3 = 0 from rfl] at hx946_0); (try rw [Addr.add_zero'] at hx946_0); (try rw [show ((0 : Int)).toNat = 0 from rfl] at hx946_1); (try rw [show 0 * 3 = 0 from rfl] at hx946_1); (try rw [Addr.add_zero'] at hx946_1); (try rw [show ((0 : Int)).toNat = 0 from rfl] at hx946_2); (try rw [show 0 * 3 = 0 from rfl] at hx946_2); (try rw [Addr.add_zero'] at hx946_2); replace hx946_0 := (HB.out.cell (World.block_lt_of_cell? w _ hx946_0)).trans hx946_0; replace hx946_1 := (HB.out.cell (World.block_lt_of_cell? w _ hx946_1)).trans hx946_1; replace hx946_2 := (HB.out.cell (World.block_lt_of_cell? w _ hx946_2)).trans hx946_2; have HR946_1 := Aside0.mk hi946_1; have HC946_1 := Aside0.mk hl946_1; clear hi946_1 hl946_1; have HR946_2 := Aside0.mk hi946_2; have HC946_2 := Aside0.mk hl946_2; clear hi946_2 hl946_2; replace p946 := eq_true p946; replace q946 := eq_true q946; refine start_ (n := 34) (S := fun w' => w'.cell? ⟨gb943, 0, none⟩ = some (.string ((rd_T48 l0 x7_1).f0)) ∧ w'.cell? ⟨gb943, 1, none⟩ = some (.slice A942_1 ((rd_T48 l0 x7_1).f1).length c942_1) ∧ w'.cell? ⟨gb943, 2, none⟩ = some (.slice A942_2 ((rd_T48 l0 x7_1).f2).length c942_2) ∧ w'.cell? ad942 = some (.string ((rd_T48 l0 0).f0)) ∧ w'.cell? ⟨ad942.block, ad942.off + 1, none⟩ = some (.slice A946_1 ((rd_T48 l0 0).f1).length c946_1) ∧ w'.cell? ⟨ad942.block, ad942.off + 2, none⟩ = some (.slice A946_2 ((rd_T48 l0 0).f2).length c946_2)) (ds := []) (R.tf 0 34) (by kernel_rfl) rfl rfl ⟨(blk_cell BK943.out 0).trans rfl, (blk_cell BK943.out 1).trans rfl, (blk_cell BK943.out 2).trans rfl, ((HB.out.cell (World.block_lt_of_cell? w _ hw946_0)).trans hw946_0), ((HB.out.cell (World.block_lt_of_cell? w _ hw946_1)).trans hw946_1), ((HB.out.cell (World.block_lt_of_cell? w _ hw946_2)).trans hw946_2)⟩ (fun hHeld => ?_); refine with_tabW spec_softnetFine.tab4 spec_softnetFine.bits4 (fun HT_ HW_ => ?_); generalize w37.drew = w38 at BK943 HB HR946_1 HR946_2 hx946_0 hx946_1 hx946_2 hHeld ⊢; refine pure_ (i := 0) (N := some 11) (v := ?_) (a' := ?_) (R.tf 1 33) rfl rfl (any_of HT_.out (by kernel_rfl)) (fun _ _ _ h => h) (Or.inl ⟨by rfl, ?_⟩) ?_ ?_; rotate_left
                     · intro w'; go_simp; with_reducible rfl
                     rotate_left
                     · simp only [Act.put, R.sa, R.sb, R.sc, i64_w, i32_w]; rfl
                     refine take_ (i := 1) (N := some 12) (v := ?_) (a' := ?_) (R.tf 2 32) rfl rfl (take_ofW HT_.out HW_.out (by kernel_rfl)) (fun _ _ _ h => h) (Or.inl ⟨by rfl, ?_⟩) hHeld ?_ ?_; rotate_left
                     · rintro w' ⟨s0, s1, s2, s3, s4, s5⟩; go_simp; with_reducible rfl
                     rotate_left
                     · simp only [Act.put, R.sa, R.sb, R.sc, i64_w, i32_w]; rfl
                     refine pure_ (i := 2) (N := some 13) (v := ?_) (a' := ?_) (R.tf 3 31) rfl rfl (any_of HT_.out (by kernel_rfl)) (fun _ _ _ h => h) (Or.inl ⟨by rfl, ?_⟩) ?_ ?_; rotate_left
                     · intro w'; go_simp; with_reducible rfl
                     rotate_left
                     · simp only [Act.put, R.sa, R.sb, R.sc, i64_w, i32_w]; rfl
                     refine pure_ (i := 3) (N := some 14) (v := ?_) (a' := ?_) (R.tf 4 30) rfl rfl (any_of HT_.out (by kernel_rfl)) (fun _ _ _ h => h) (Or.inl ⟨by rfl, ?_⟩) ?_ ?_; rotate_left
                     · intro w'; go_simp; with_reducible rfl
                     rotate_left
                     · simp only [Act.put, R.sa, R.sb, R.sc, i64_w, i32_w]; rfl
                     refine pure_ (i := 4) (N := some 15) (v := ?_) (a' := ?_) (R.tf 5 29) rfl rfl (any_of HT_.out (by kernel_rfl)) (fun _ _ _ h => h) (Or.inl ⟨by rfl, ?_⟩) ?_ ?_; rotate_left
                     · intro w'; go_simp; with_reducible rfl
                     rotate_left
                     · simp only [Act.put, R.sa, R.sb, R.sc, i64_w, i32_w]; rfl
                     refine take_ (i := 5) (N := some 16) (v := ?_) (a' := ?_) (R.tf 6 28) rfl rfl (take_ofW HT_.out HW_.out (by kernel_rfl)) (fun _ _ _ h => h) (Or.inl ⟨by rfl, ?_⟩) hHeld ?_ ?_; rotate_left
                     · rintro w' ⟨s0, s1, s2, s3, s4, s5⟩; go_simp; with_reducible rfl
                     rotate_left
                     · simp only [Act.put, R.sa, R.sb, R.sc, i64_w, i32_w]; rfl
                     refine pure_ (i := 6) (N := some 17) (v := ?_) (a' := ?_) (R.tf 7 27) rfl rfl (any_of HT_.out (by kernel_rfl)) (fun _ _ _ h => h) (Or.inl ⟨by rfl, ?_⟩) ?_ ?_; rotate_left
                     · intro w'; go_simp; with_reducible rfl
                     rotate_left
                     · simp only [Act.put, R.sa, R.sb, R.sc, i64_w, i32_w]; rfl
                     refine pure_ (i := 7) (N := some 18) (v := ?_) (a' := ?_) (R.tf 8 26) rfl rfl (any_of HT_.out (by kernel_rfl)) (fun _ _ _ h => h) (Or.inl ⟨by rfl, ?_⟩) ?_ ?_; rotate_left
                     · intro w'; go_simp; with_reducible rfl
                     rotate_left
                     · simp only [Act.put, R.sa, R.sb, R.sc, i64_w, i32_w]; rfl
                     refine pure_ (i := 8) (N := some 19) (v := ?_) (a' := ?_) (R.tf 9 25) rfl rfl (any_of HT_.out (by kernel_rfl)) (fun _ _ _ h => h) (Or.inl ⟨by rfl, ?_⟩) ?_ ?_; rotate_left
                     · intro w'; go_simp; with_reducible rfl
                     rotate_left
                     · simp only [Act.put, R.sa, R.sb, R.sc, i64_w, i32_w]; rfl
                     refine pure_ (i := 9) (N := some 20) (v := ?_) (a' := ?_) (R.tf 10 24) rfl rfl (any_of HT_.out (by kernel_rfl)) (fun _ _ _ h => h) (Or.inl ⟨by rfl, ?_⟩) ?_ ?_; rotate_left
                     · intro w'; go_simp; with_reducible rfl
                     rotate_left
                     · simp only [Act.put, R.sa, R.sb, R.sc, i64_w, i32_w]; rfl
                     refine take_ (i := 10) (N := some 21) (v := ?_) (a' := ?_) (R.tf 11 23) rfl rfl (take_ofW HT_.out HW_.out (by kernel_rfl)) (fun _ _ _ h => h) (Or.inl ⟨by rfl, ?_⟩) hHeld ?_ ?_; rotate_left
                     · rintro w' ⟨s0, s1, s2, s3, s4, s5⟩; go_simp; with_reducible rfl
                     rotate_left
                     · simp only [Act.put, R.sa, R.sb, R.sc, i64_w, i32_w]; rfl
                     refine pure_ (i := 11) (N := some 22) (v := ?_) (a' := ?_) (R.tf 12 22) rfl rfl (any_of HT_.out (by kernel_rfl)) (fun _ _ _ h => h) (Or.inl ⟨by rfl, ?_⟩) ?_ ?_; rotate_left
                     · intro w'; go_simp; with_reducible rfl
                     rotate_left
                     · simp only [Act.put, R.sa, R.sb, R.sc, i64_w, i32_w]; rfl
                     refine pure_ (i := 12) (N := some 23) (v := ?_) (a' := ?_) (R.tf 13 21) rfl rfl (any_of HT_.out (by kernel_rfl)) (fun _ _ _ h => h) (Or.inl ⟨by rfl, ?_⟩) ?_ ?_; rotate_left
                     · intro w'; go_simp; with_reducible rfl
                     rotate_left
                     · simp only [Act.put, R.sa, R.sb, R.sc, i64_w, i32_w]; rfl
                     refine pure_ (i := 13) (N := some 24) (v := ?_) (a' := ?_) (R.tf 14 20) rfl rfl (any_of HT_.out (by kernel_rfl)) (fun _ _ _ h => h) (Or.inl ⟨by rfl, ?_⟩) ?_ ?_; rotate_left
                     · intro w'; go_simp; with_reducible rfl
                     rotate_left
                     · simp only [Act.put, R.sa, R.sb, R.sc, i64_w, i32_w]; rfl
                     refine pure_ (i := 14) (N := some 25) (v := ?_) (a' := ?_) (R.tf 15 19) rfl rfl (any_of HT_.out (by kernel_rfl)) (fun _ _ _ h => h) (Or.inl ⟨by rfl, ?_⟩) ?_ ?_; rotate_left
                     · intro w'; go_simp; with_reducible rfl
                     rotate_left
                     · simp only [Act.put, R.sa, R.sb, R.sc, i64_w, i32_w]; rfl
                     refine pure_ (i := 15) (N := some 26) (v := ?_) (a' := ?_) (R.tf 16 18) rfl rfl (any_of HT_.out (by kernel_rfl)) (fun _ _ _ h => h) (Or.inl ⟨by rfl, ?_⟩) ?_ ?_; rotate_left
                     · intro w'; go_simp; with_reducible rfl
                     rotate_left
                     · simp only [Act.put, R.sa, R.sb, R.sc, i64_w, i32_w]; rfl
                     refine pure_ (i := 16) (N := some 27) (v := ?_) (a' := ?_) (R.tf 17 17) rfl rfl (any_of HT_.out (by kernel_rfl)) (fun _ _ _ h => h) (Or.inl ⟨by rfl, ?_⟩) ?_ ?_; rotate_left
                     · intro w'; go_simp; with_reducible rfl
                     rotate_left
                     · simp only [Act.put, R.sa, R.sb, R.sc, i64_w, i32_w]; rfl
                     refine pure_ (i := 19) (N := some 30) (v := ?_) (a' := ?_) #[true, true, true, true, true, true, true, true, true, true, true, true, true, true, true, true, true, false, false, true, false, false, false, false, false, false, false, false, false, false, false, false, false, false] rfl rfl (any_of HT_.out (by kernel_rfl)) (fun _ _ _ h => h) (Or.inl ⟨by rfl, ?_⟩) ?_ ?_; rotate_left
                     · intro w'; go_simp; with_reducible rfl
                     rotate_left
                     · simp only [Act.put, R.sa, R.sb, R.sc, i64_w, i32_w]; rfl
                     refine pure_ (i := 20) (N := some 31) (v := ?_) (a' := ?_) #[true, true, true, true, true, true, true, true, true, true, true, true, true, true, true, true, true, false, false, true, true, false, false, false, false, false, false, false, false, false, false, false, false, false] rfl rfl (any_of HT_.out (by kernel_rfl)) (fun _ _ _ h => h) (Or.inl ⟨by rfl, ?_⟩) ?_ ?_; rotate_left
                     · intro w'; go_simp; with_reducible rfl
                     rotate_left
                     · simp only [Act.put, R.sa, R.sb, R.sc, i64_w, i32_w]; rfl
                     refine pure_ (i := 21) (N := some 32) (v := ?_) (a' := ?_) #[true, true, true, true, true, true, true, true, true, true, true, true, true, true, true, true, true, false, false, true, true, true, false, false, false, false, false, false, false, false, false, false, false, false] rfl rfl (any_of HT_.out (by kernel_rfl)) (fun _ _ _ h => h) (Or.inl ⟨by rfl, ?_⟩) ?_ ?_; rotate_left
                     · intro w'; go_simp; with_reducible rfl
                     rotate_left
                     · simp only [Act.put, R.sa, R.sb, R.sc, i64_w, i32_w]; rfl
                     refine take_ (i := 17) (N := some 28) (v := ?_) (a' := ?_) #[true, true, true, true, true, true, true, true, true, true, true, true, true, true, true, true, true, true, false, true, true, true, false, false, false, false, false, false, false, false, false, false, false, false] rfl rfl (take_ofW HT_.out HW_.out (by kernel_rfl)) (fun _ _ _ h => h) (Or.inl ⟨by rfl, ?_⟩) hHeld ?_ ?_; rotate_left
                     · rintro w' ⟨s0, s1, s2, s3, s4, s5⟩; go_simp; with_reducible rfl
                     rotate_left
                     · simp only [Act.put, R.sa, R.sb, R.sc, i64_w, i32_w]; rfl
                     refine pure_ (i := 18) (N := some 29) (v := ?_) (a' := ?_) (R.tf 22 12) rfl rfl (any_of HT_.out (by kernel_rfl)) (fun _ _ _ h => h) (Or.inl ⟨by rfl, ?_⟩) ?_ ?_; rotate_left
                     · intro w'; go_simp; with_reducible rfl
                     rotate_left
                     · simp only [Act.put, R.sa, R.sb, R.sc, i64_w, i32_w]; rfl
                     refine take_ (i := 22) (N := some 33) (v := ?_) (a' := ?_) (R.tf 23 11) rfl rfl (take_ofW HT_.out HW_.out (by kernel_rfl)) (fun _ _ _ h => h) (Or.inl ⟨by rfl, ?_⟩) hHeld ?_ ?_; rotate_left
                     · rintro w' ⟨s0, s1, s2, s3, s4, s5⟩; go_simp; with_reducible rfl
                     rotate_left
                     · simp only [Act.put, R.sa, R.sb, R.sc, i64_w, i32_w]; rfl
                     refine pure_ (i := 23) (N := some 34) (v := ?_) (a' := ?_) (R.tf 24 10) rfl rfl (any_of HT_.out (by kernel_rfl)) (fun _ _ _ h => h) (Or.inl ⟨by rfl, ?_⟩) ?_ ?_; rotate_left
                     · intro w'; go_simp; with_reducible rfl
                     rotate_left
                     · simp only [Act.put, R.sa, R.sb, R.sc, i64_w, i32_w]; rfl
                     refine pure_ (i := 24) (N := some 35) (v := ?_) (a' := ?_) (R.tf 25 9) rfl rfl (any_of HT_.out (by kernel_rfl)) (fun _ _ _ h => h) (Or.inl ⟨by rfl, ?_⟩) ?_ ?_; rotate_left
                     · intro w'; go_simp; with_reducible rfl
                     rotate_left
                     · simp only [Act.put, R.sa, R.sb, R.sc, i64_w, i32_w]; rfl
                     refine pure_ (i := 25) (N := some 36) (v := ?_) (a' := ?_) (R.tf 26 8) rfl rfl (any_of HT_.out (by kernel_rfl)) (fun _ _ _ h => h) (Or.inl ⟨by rfl, ?_⟩) ?_ ?_; rotate_left
                     · intro w'; go_simp; with_reducible rfl
                     rotate_left
                     · simp only [Act.put, R.sa, R.sb, R.sc, i64_w, i32_w]; rfl
                     refine pure_ (i := 26) (N := some 37) (v := ?_) (a' := ?_) (R.tf 27 7) rfl rfl (any_of HT_.out (by kernel_rfl)) (fun _ _ _ h => h) (Or.inl ⟨by rfl, ?_⟩) ?_ ?_; rotate_left
                     · intro w'; go_simp; with_reducible rfl
                     rotate_left
                     · simp only [Act.put, R.sa, R.sb, R.sc, i64_w, i32_w]; rfl
                     refine pure_ (i := 28) (N := some 39) (v := ?_) (a' := ?_) #[true, true, true, true, true, true, true, true, true, true, true, true, true, true, true, true, true, true, true, true, true, true, true, true, true, true, true, false, true, false, false, false, false, false] rfl rfl (any_of HT_.out (by kernel_rfl)) (fun _ _ _ h => h) (Or.inl ⟨by rfl, ?_⟩) ?_ ?_; rotate_left
                     · intro w'; go_simp; with_reducible rfl
                     rotate_left
                     · simp only [Act.put, R.sa, R.sb, R.sc, i64_w, i32_w]; rfl
                     refine take_ (i := 27) (N := some 38) (v := ?_) (a' := ?_) (R.tf 29 5) rfl rfl (take_ofW HT_.out HW_.out (by kernel_rfl)) (fun _ _ _ h => h) (Or.inl ⟨by rfl, ?_⟩) hHeld ?_ ?_; rotate_left
                     · rintro w' ⟨s0, s1, s2, s3, s4, s5⟩; go_simp; with_reducible rfl
                     rotate_left
                     · simp only [Act.put, R.sa, R.sb, R.sc, i64_w, i32_w]; rfl
                     refine take_ (i := 29) (N := some 40) (v := ?_) (a' := ?_) (R.tf 30 4) rfl rfl (take_ofW HT_.out HW_.out (by kernel_rfl)) (fun _ _ _ h => h) (Or.inl ⟨by rfl, ?_⟩) hHeld ?_ ?_; rotate_left
                     · rintro w' ⟨s0, s1, s2, s3, s4, s5⟩; go_simp; with_reducible rfl
                     rotate_left
                     · simp only [Act.put, R.sa, R.sb, R.sc, i64_w, i32_w]; rfl
                     refine pure_ (i := 30) (N := some 41) (v := ?_) (a' := ?_) (R.tf 31 3) rfl rfl (any_of HT_.out (by kernel_rfl)) (fun _ _ _ h => h) (Or.inl ⟨by rfl, ?_⟩) ?_ ?_; rotate_left
                     · intro w'; go_simp; with_reducible rfl
                     rotate_left
                     · simp only [Act.put, R.sa, R.sb, R.sc, i64_w, i32_w]; rfl
                     refine one_ (i := 31) (N := some 42) (R.tf 32 2) rfl rfl (one_of HT_.out (by kernel_rfl)) (by decide) (fun K hK => ?_); refine goes_ Tryz.func120 (by kernel_rfl) rfl #[.agg #[.string ((rd_T48 l0 x7_1).f0), .slice A942_1 ((rd_T48 l0 x7_1).f1).length c942_1, .slice A942_2 ((rd_T48 l0 x7_1).f2).length c942_2], .int .i64 (((rd_T48 l0 x7_1).f1).length : Int), .int .i64 32, .int .i64 0] (by rfl) rfl rfl (by (try simp only [List.map_toArray, List.map_cons, List.map_nil]); first | done | rfl | (simp only [List.length_drop, List.length_take]; rfl)) ?_; with_reducible refine (spec_counted.calls k1 ((rd_T48 l0 x7_1).f0) _ _ ((rd_T48 l0 x7_1).f1) _ _ ((rd_T48 l0 x7_1).f2) (((rd_T48 l0 x7_1).f1).length : Int) 32 0 false _ ?side1 ?side2 ?side3 ?side4 A28.out).mono ?_
                     (case side1 => repeat (first | exact (Kd.C_below HR942_1.out HB.out) | (with_reducible refine Kd.C_alloc ?_ _) | (with_reducible refine Kd.C_drewN ?_ _) | (with_reducible refine Kd.C_drew ?_)))
                     (case side2 => exact HC942_1.out)
                     (case side3 => repeat (first | exact (Kd.C_below HR942_2.out HB.out) | (with_reducible refine Kd.C_alloc ?_ _) | (with_reducible refine Kd.C_drewN ?_ _) | (with_reducible refine Kd.C_drew ?_)))
                     (case side4 => exact HC942_2.out)
                     rintro e w39 ⟨rfl, hb⟩; refine ⟨_, rfl, ?_⟩; have n0_ := Aside0.mk (blk_below (g := gb943) (o := .cells #[.string ((rd_T48 l0 x7_1).f0), .slice A942_1 ((rd_T48 l0 x7_1).f1).length c942_1, .slice A942_2 ((rd_T48 l0 x7_1).f2).length c942_2] 48 (0, 0)) (by (with_reducible repeat (first | refine blk_drewN ?_ _ | refine blk_drew ?_ | refine blk_alloc ?_ _)); exact BK943.out) hb); have n1_ := Aside0.mk (below_step (by repeat (first | (with_reducible first | exact HB.out | apply below_alloc | apply pw_below_drewN | apply below_drew1 | refine below_set ?_ GE943.out) | exact HB.out)) hb); clear BK943; clear HB; have BK943 := n0_; have HB := n1_; clear n0_ n1_; (try clear hb); (try clear hb2); (try clear hk); (try clear hi); refine hK.out _ _ ⟨(blk_cell BK943.out 0).trans rfl, (blk_cell BK943.out 1).trans rfl, (blk_cell BK943.out 2).trans rfl, ((HB.out.cell (World.block_lt_of_cell? w _ hw946_0)).trans hw946_0), ((HB.out.cell (World.block_lt_of_cell? w _ hw946_1)).trans hw946_1), ((HB.out.cell (World.block_lt_of_cell? w _ hw946_2)).trans hw946_2)⟩ (fun hHeld => ?_); clear hK K; refine norm_ (a' := ?_) ?_ ?_; rotate_left
                     · show Act.put _ (some 42) _ = _
                       simp only [Act.put, R.sa, R.sb, R.sc, i64_w, i32_w]; rfl
                     refine pure_ (i := 32) (N := some 43) (v := ?_) (a' := ?_) (R.tf 33 1) rfl rfl (any_of HT_.out (by kernel_rfl)) (fun _ _ _ h => h) (Or.inl ⟨by rfl, ?_⟩) ?_ ?_; rotate_left
                     · intro w'; go_simp; with_reducible rfl
                     rotate_left
                     · simp only [Act.put, R.sa, R.sb, R.sc, i64_w, i32_w]; rfl
                     refine pure_ (i := 33) (N := some 44) (v := ?_) (a' := ?_) (R.tf 34 0) rfl rfl (any_of HT_.out (by kernel_rfl)) (fun _ _ _ h => h) (Or.inl ⟨by rfl, ?_⟩) ?_ ?_; rotate_left
                     · intro w'; go_simp; with_reducible rfl
                     rotate_left
                     · simp only [Act.put, R.sa, R.sb, R.sc, i64_w, i32_w]; rfl
                     refine done_ (done_of HT_.out (by kernel_rfl)) ?_; try go_wp2
                     go_ret
                     exact ⟨by first | rfl | (simp [errW_none, errW_some] <;> rfl) | (simp [*, errW_none, errW_some] <;> rfl), by repeat (first | (with_reducible first | exact HB.out | apply below_alloc | apply pw_below_drewN | apply below_drew1 | refine below_set ?_ GE943.out) | exact HB.out)⟩
                 · rw [if_neg c27] at H; have c27b0 : ((((rd_T48 l0 x7_1).f1).length : Int) == (((rd_T48 l0 0).f1).length : Int)) = false := beq_eq_false_iff_ne.mpr c27; have c27b1 : ((((rd_T48 l0 x7_1).f1).length : Int) != (((rd_T48 l0 0).f1).length : Int)) = true := bne_iff_ne.mpr c27
                   have c27b2 : (((rd_T48 l0 x7_1).f1).length == ((rd_T48 l0 0).f1).length) = false := by first | simpa using c27 | (simp at c27 ⊢; omega)
                   obtain rfl := Option.some.inj H; have p942 : 0 ≤ (x7_1 : Int) := of_decide_eq_true (by first | (with_reducible assumption) | assumption); have q942 : x7_1 < (l0.length : Int) := of_decide_eq_true (by first | (with_reducible assumption) | assumption); obtain ⟨ad942, A942_1, c942_1, A942_2, c942_2, e942, hx942_0, hx942_1, hx942_2, hl942_1, hi942_1, hl942_2, hi942_2⟩ := at_T48 HR0.out x7_1 p942 q942; cases e942; replace hx942_0 := (HB.out.cell (World.block_lt_of_cell? w _ hx942_0)).trans hx942_0; replace hx942_1 := (HB.out.cell (World.block_lt_of_cell? w _ hx942_1)).trans hx942_1; replace hx942_2 := (HB.out.cell (World.block_lt_of_cell? w _ hx942_2)).trans hx942_2; have HR942_1 := Aside0.mk hi942_1; have HC942_1 := Aside0.mk hl942_1; clear hi942_1 hl942_1; have HR942_2 := Aside0.mk hi942_2; have HC942_2 := Aside0.mk hl942_2; clear hi942_2 hl942_2; replace p942 := eq_true p942; replace q942 := eq_true q942; try go_wp2_with (first | ((with_reducible refine gate_dst (N := 4) rfl ?_); (try (refine gate_guard (by rfl) ?_; dsimp only)); refine box_event ?hg (N := 4) ?hd (cs := #[.string (⟨#[]⟩ : ByteArray), .slice none 0 0, .slice none 0 0]) (t := 48) ?hr ?_; (case hd => rfl); (case hg => rfl); (case hr => first | (go_simp; done) | (go_simp; rfl)); intro gb943 hg w40 hbox hb; have n0_ := Aside0.mk (below_step (by repeat (first | (with_reducible first | exact HB.out | apply below_alloc | apply pw_below_drewN | apply below_drew1) | exact HB.out)) hb); have n1_ := Aside0.mk (hbox); have n2_ := Aside0.mk ((by rw [hg]; exact (below_size (by repeat (first | (with_reducible first | exact HB.out | apply below_alloc | apply pw_below_drewN | apply below_drew1) | exact HB.out))) : w.heap.size ≤ gb943)); have n3_ := Aside0.mk ((by rw [hg]; exact (below_size (by repeat (first | (with_reducible first | exact HB.out | apply below_alloc | apply pw_below_drewN | apply below_drew1) | exact HB.out))) : w.heap.size ≤ gb943)); clear HB; have HB := n0_; have BK943 := n1_; have GW943 := n2_; have GE943 := n3_; clear n0_ n1_ n2_ n3_; clear hb hbox hg; have hcz41_0 : w40.cell? ⟨gb943, 0, none⟩ = some (.string (⟨#[]⟩ : ByteArray)) := (blk_cell BK943.out 0).trans rfl; have hcz41_1 : w40.cell? ⟨gb943, 1, none⟩ = some (.slice none 0 0) := (blk_cell BK943.out 1).trans rfl; have hcz41_2 : w40.cell? ⟨gb943, 2, none⟩ = some (.slice none 0 0) := (blk_cell BK943.out 2).trans rfl; have hfz41_0 := blk_frozen BK943.out 0; have hfz41_1 := blk_frozen BK943.out 1; have hfz41_2 := blk_frozen BK943.out 2))
                   have n0_ : Aside0 ((((w40.setCell ⟨gb943, 0, none⟩ (.string ((rd_T48 l0 x7_1).f0))).setCell ⟨gb943, 1, none⟩ (.slice A942_1 ((rd_T48 l0 x7_1).f1).length c942_1)).setCell ⟨gb943, 2, none⟩ (.slice A942_2 ((rd_T48 l0 x7_1).f2).length c942_2)).heap[gb943]? = some (.cells #[.string ((rd_T48 l0 x7_1).f0), .slice A942_1 ((rd_T48 l0 x7_1).f1).length c942_1, .slice A942_2 ((rd_T48 l0 x7_1).f2).length c942_2] 48 (0, 0))) := ⟨by (with_reducible repeat (first | refine blk_drewN ?_ _ | refine blk_drew ?_ | refine blk_alloc ?_ _)); refine blk_put (cs := #[.string ((rd_T48 l0 x7_1).f0), .slice A942_1 ((rd_T48 l0 x7_1).f1).length c942_1, .slice none 0 0]) ?_ 2 _ rfl; (with_reducible repeat (first | refine blk_drewN ?_ _ | refine blk_drew ?_ | refine blk_alloc ?_ _)); refine blk_put (cs := #[.string ((rd_T48 l0 x7_1).f0), .slice none 0 0, .slice none 0 0]) ?_ 1 _ rfl; (with_reducible repeat (first | refine blk_drewN ?_ _ | refine blk_drew ?_ | refine blk_alloc ?_ _)); refine blk_put (cs := #[.string (⟨#[]⟩ : ByteArray), .slice none 0 0, .slice none 0 0]) ?_ 0 _ rfl; (with_reducible repeat (first | refine blk_drewN ?_ _ | refine blk_drew ?_ | refine blk_alloc ?_ _)); exact BK943.out⟩; have n1_ : Aside0 (Below w.heap.size w (((w40.setCell ⟨gb943, 0, none⟩ (.string ((rd_T48 l0 x7_1).f0))).setCell ⟨gb943, 1, none⟩ (.slice A942_1 ((rd_T48 l0 x7_1).f1).length c942_1)).setCell ⟨gb943, 2, none⟩ (.slice A942_2 ((rd_T48 l0 x7_1).f2).length c942_2))) := ⟨by repeat (first | (with_reducible first | exact HB.out | apply below_alloc | apply pw_below_drewN | apply below_drew1 | refine below_set ?_ GE943.out) | exact HB.out)⟩; (try clear BK943); (try clear HB); generalize (((w40.setCell ⟨gb943, 0, none⟩ (.string ((rd_T48 l0 x7_1).f0))).setCell ⟨gb943, 1, none⟩ (.slice A942_1 ((rd_T48 l0 x7_1).f1).length c942_1)).setCell ⟨gb943, 2, none⟩ (.slice A942_2 ((rd_T48 l0 x7_1).f2).length c942_2)) = w42 at n0_ n1_ ⊢; have BK943 := n0_; have HB := n1_; clear n0_ n1_; have n0_ := Aside0.mk (blk_drew BK943.out); have n1_ := Aside0.mk (below_drew1 HB.out); clear BK943; clear HB; have BK943 := n0_; have HB := n1_; clear n0_ n1_; have p946 : 0 ≤ (0 : Int) := (by omega); have q946 : 0 < (l0.length : Int) := of_decide_eq_true (by first | (with_reducible assumption) | assumption); obtain ⟨ad946, A946_1, c946_1, A946_2, c946_2, e946, hx946_0, hx946_1, hx946_2, hl946_1, hi946_1, hl946_2, hi946_2⟩ := at_T48 HR0.out 0 p946 q946; have hw946_2 := hx946_2; (try rw [show ((0 : Int)).toNat = 0 from rfl] at hw946_2); (try rw [show 0 * 3 = 0 from rfl] at hw946_2); (try rw [Addr.add_zero'] at hw946_2); have hw946_1 := hx946_1; (try rw [show ((0 : Int)).toNat = 0 from rfl] at hw946_1); (try rw [show 0 * 3 = 0 from rfl] at hw946_1); (try rw [Addr.add_zero'] at hw946_1); have hw946_0 := hx946_0; (try rw [show ((0 : Int)).toNat = 0 from rfl] at hw946_0); (try rw [show 0 * 3 = 0 from rfl] at hw946_0); (try rw [Addr.add_zero'] at hw946_0); obtain rfl : ad942 = ad946 := (by injection e946); have qi946 : (0 < l0.length) = True := eq_true (by omega); (try rw [show ((0 : Int)).toNat = 0 from rfl] at hx946_0); (try rw [show 0 * 3 = 0 from rfl] at hx946_0); (try rw [Addr.add_zero'] at hx946_0); (try rw [show ((0 : Int)).toNat = 0 from rfl] at hx946_1); (try rw [show 0 * 3 = 0 from rfl] at hx946_1); (try rw [Addr.add_zero'] at hx946_1); (try rw [show ((0 : Int)).toNat = 0 from rfl] at hx946_2); (try rw [show 0 * 3 = 0 from rfl] at hx946_2); (try rw [Addr.add_zero'] at hx946_2); replace hx946_0 := (HB.out.cell (World.block_lt_of_cell? w _ hx946_0)).trans hx946_0; replace hx946_1 := (HB.out.cell (World.block_lt_of_cell? w _ hx946_1)).trans hx946_1; replace hx946_2 := (HB.out.cell (World.block_lt_of_cell? w _ hx946_2)).trans hx946_2; have HR946_1 := Aside0.mk hi946_1; have HC946_1 := Aside0.mk hl946_1; clear hi946_1 hl946_1; have HR946_2 := Aside0.mk hi946_2; have HC946_2 := Aside0.mk hl946_2; clear hi946_2 hl946_2; replace p946 := eq_true p946; replace q946 := eq_true q946; refine start_ (n := 34) (S := fun w' => w'.cell? ⟨gb943, 0, none⟩ = some (.string ((rd_T48 l0 x7_1).f0)) ∧ w'.cell? ⟨gb943, 1, none⟩ = some (.slice A942_1 ((rd_T48 l0 x7_1).f1).length c942_1) ∧ w'.cell? ⟨gb943, 2, none⟩ = some (.slice A942_2 ((rd_T48 l0 x7_1).f2).length c942_2) ∧ w'.cell? ad942 = some (.string ((rd_T48 l0 0).f0)) ∧ w'.cell? ⟨ad942.block, ad942.off + 1, none⟩ = some (.slice A946_1 ((rd_T48 l0 0).f1).length c946_1) ∧ w'.cell? ⟨ad942.block, ad942.off + 2, none⟩ = some (.slice A946_2 ((rd_T48 l0 0).f2).length c946_2)) (ds := []) (R.tf 0 34) (by kernel_rfl) rfl rfl ⟨(blk_cell BK943.out 0).trans rfl, (blk_cell BK943.out 1).trans rfl, (blk_cell BK943.out 2).trans rfl, ((HB.out.cell (World.block_lt_of_cell? w _ hw946_0)).trans hw946_0), ((HB.out.cell (World.block_lt_of_cell? w _ hw946_1)).trans hw946_1), ((HB.out.cell (World.block_lt_of_cell? w _ hw946_2)).trans hw946_2)⟩ (fun hHeld => ?_); refine with_tabW spec_softnetFine.tab4 spec_softnetFine.bits4 (fun HT_ HW_ => ?_); generalize w42.drew = w43 at BK943 HB HR946_1 HR946_2 hx946_0 hx946_1 hx946_2 hHeld ⊢; refine pure_ (i := 0) (N := some 11) (v := ?_) (a' := ?_) (R.tf 1 33) rfl rfl (any_of HT_.out (by kernel_rfl)) (fun _ _ _ h => h) (Or.inl ⟨by rfl, ?_⟩) ?_ ?_; rotate_left
                   · intro w'; go_simp; with_reducible rfl
                   rotate_left
                   · simp only [Act.put, R.sa, R.sb, R.sc, i64_w, i32_w]; rfl
                   refine take_ (i := 1) (N := some 12) (v := ?_) (a' := ?_) (R.tf 2 32) rfl rfl (take_ofW HT_.out HW_.out (by kernel_rfl)) (fun _ _ _ h => h) (Or.inl ⟨by rfl, ?_⟩) hHeld ?_ ?_; rotate_left
                   · rintro w' ⟨s0, s1, s2, s3, s4, s5⟩; go_simp; with_reducible rfl
                   rotate_left
                   · simp only [Act.put, R.sa, R.sb, R.sc, i64_w, i32_w]; rfl
                   refine pure_ (i := 2) (N := some 13) (v := ?_) (a' := ?_) (R.tf 3 31) rfl rfl (any_of HT_.out (by kernel_rfl)) (fun _ _ _ h => h) (Or.inl ⟨by rfl, ?_⟩) ?_ ?_; rotate_left
                   · intro w'; go_simp; with_reducible rfl
                   rotate_left
                   · simp only [Act.put, R.sa, R.sb, R.sc, i64_w, i32_w]; rfl
                   refine pure_ (i := 3) (N := some 14) (v := ?_) (a' := ?_) (R.tf 4 30) rfl rfl (any_of HT_.out (by kernel_rfl)) (fun _ _ _ h => h) (Or.inl ⟨by rfl, ?_⟩) ?_ ?_; rotate_left
                   · intro w'; go_simp; with_reducible rfl
                   rotate_left
                   · simp only [Act.put, R.sa, R.sb, R.sc, i64_w, i32_w]; rfl
                   refine pure_ (i := 4) (N := some 15) (v := ?_) (a' := ?_) (R.tf 5 29) rfl rfl (any_of HT_.out (by kernel_rfl)) (fun _ _ _ h => h) (Or.inl ⟨by rfl, ?_⟩) ?_ ?_; rotate_left
                   · intro w'; go_simp; with_reducible rfl
                   rotate_left
                   · simp only [Act.put, R.sa, R.sb, R.sc, i64_w, i32_w]; rfl
                   refine take_ (i := 5) (N := some 16) (v := ?_) (a' := ?_) (R.tf 6 28) rfl rfl (take_ofW HT_.out HW_.out (by kernel_rfl)) (fun _ _ _ h => h) (Or.inl ⟨by rfl, ?_⟩) hHeld ?_ ?_; rotate_left
                   · rintro w' ⟨s0, s1, s2, s3, s4, s5⟩; go_simp; with_reducible rfl
                   rotate_left
                   · simp only [Act.put, R.sa, R.sb, R.sc, i64_w, i32_w]; rfl
                   refine pure_ (i := 6) (N := some 17) (v := ?_) (a' := ?_) (R.tf 7 27) rfl rfl (any_of HT_.out (by kernel_rfl)) (fun _ _ _ h => h) (Or.inl ⟨by rfl, ?_⟩) ?_ ?_; rotate_left
                   · intro w'; go_simp; with_reducible rfl
                   rotate_left
                   · simp only [Act.put, R.sa, R.sb, R.sc, i64_w, i32_w]; rfl
                   refine pure_ (i := 7) (N := some 18) (v := ?_) (a' := ?_) (R.tf 8 26) rfl rfl (any_of HT_.out (by kernel_rfl)) (fun _ _ _ h => h) (Or.inl ⟨by rfl, ?_⟩) ?_ ?_; rotate_left
                   · intro w'; go_simp; with_reducible rfl
                   rotate_left
                   · simp only [Act.put, R.sa, R.sb, R.sc, i64_w, i32_w]; rfl
                   refine pure_ (i := 8) (N := some 19) (v := ?_) (a' := ?_) (R.tf 9 25) rfl rfl (any_of HT_.out (by kernel_rfl)) (fun _ _ _ h => h) (Or.inl ⟨by rfl, ?_⟩) ?_ ?_; rotate_left
                   · intro w'; go_simp; with_reducible rfl
                   rotate_left
                   · simp only [Act.put, R.sa, R.sb, R.sc, i64_w, i32_w]; rfl
                   refine pure_ (i := 9) (N := some 20) (v := ?_) (a' := ?_) (R.tf 10 24) rfl rfl (any_of HT_.out (by kernel_rfl)) (fun _ _ _ h => h) (Or.inl ⟨by rfl, ?_⟩) ?_ ?_; rotate_left
                   · intro w'; go_simp; with_reducible rfl
                   rotate_left
                   · simp only [Act.put, R.sa, R.sb, R.sc, i64_w, i32_w]; rfl
                   refine take_ (i := 10) (N := some 21) (v := ?_) (a' := ?_) (R.tf 11 23) rfl rfl (take_ofW HT_.out HW_.out (by kernel_rfl)) (fun _ _ _ h => h) (Or.inl ⟨by rfl, ?_⟩) hHeld ?_ ?_; rotate_left
                   · rintro w' ⟨s0, s1, s2, s3, s4, s5⟩; go_simp; with_reducible rfl
                   rotate_left
                   · simp only [Act.put, R.sa, R.sb, R.sc, i64_w, i32_w]; rfl
                   refine pure_ (i := 11) (N := some 22) (v := ?_) (a' := ?_) (R.tf 12 22) rfl rfl (any_of HT_.out (by kernel_rfl)) (fun _ _ _ h => h) (Or.inl ⟨by rfl, ?_⟩) ?_ ?_; rotate_left
                   · intro w'; go_simp; with_reducible rfl
                   rotate_left
                   · simp only [Act.put, R.sa, R.sb, R.sc, i64_w, i32_w]; rfl
                   refine pure_ (i := 12) (N := some 23) (v := ?_) (a' := ?_) (R.tf 13 21) rfl rfl (any_of HT_.out (by kernel_rfl)) (fun _ _ _ h => h) (Or.inl ⟨by rfl, ?_⟩) ?_ ?_; rotate_left
                   · intro w'; go_simp; with_reducible rfl
                   rotate_left
                   · simp only [Act.put, R.sa, R.sb, R.sc, i64_w, i32_w]; rfl
                   refine pure_ (i := 13) (N := some 24) (v := ?_) (a' := ?_) (R.tf 14 20) rfl rfl (any_of HT_.out (by kernel_rfl)) (fun _ _ _ h => h) (Or.inl ⟨by rfl, ?_⟩) ?_ ?_; rotate_left
                   · intro w'; go_simp; with_reducible rfl
                   rotate_left
                   · simp only [Act.put, R.sa, R.sb, R.sc, i64_w, i32_w]; rfl
                   refine pure_ (i := 14) (N := some 25) (v := ?_) (a' := ?_) (R.tf 15 19) rfl rfl (any_of HT_.out (by kernel_rfl)) (fun _ _ _ h => h) (Or.inl ⟨by rfl, ?_⟩) ?_ ?_; rotate_left
                   · intro w'; go_simp; with_reducible rfl
                   rotate_left
                   · simp only [Act.put, R.sa, R.sb, R.sc, i64_w, i32_w]; rfl
                   refine pure_ (i := 15) (N := some 26) (v := ?_) (a' := ?_) (R.tf 16 18) rfl rfl (any_of HT_.out (by kernel_rfl)) (fun _ _ _ h => h) (Or.inl ⟨by rfl, ?_⟩) ?_ ?_; rotate_left
                   · intro w'; go_simp; with_reducible rfl
                   rotate_left
                   · simp only [Act.put, R.sa, R.sb, R.sc, i64_w, i32_w]; rfl
                   refine pure_ (i := 16) (N := some 27) (v := ?_) (a' := ?_) (R.tf 17 17) rfl rfl (any_of HT_.out (by kernel_rfl)) (fun _ _ _ h => h) (Or.inl ⟨by rfl, ?_⟩) ?_ ?_; rotate_left
                   · intro w'; go_simp; with_reducible rfl
                   rotate_left
                   · simp only [Act.put, R.sa, R.sb, R.sc, i64_w, i32_w]; rfl
                   refine pure_ (i := 19) (N := some 30) (v := ?_) (a' := ?_) #[true, true, true, true, true, true, true, true, true, true, true, true, true, true, true, true, true, false, false, true, false, false, false, false, false, false, false, false, false, false, false, false, false, false] rfl rfl (any_of HT_.out (by kernel_rfl)) (fun _ _ _ h => h) (Or.inl ⟨by rfl, ?_⟩) ?_ ?_; rotate_left
                   · intro w'; go_simp; with_reducible rfl
                   rotate_left
                   · simp only [Act.put, R.sa, R.sb, R.sc, i64_w, i32_w]; rfl
                   refine pure_ (i := 20) (N := some 31) (v := ?_) (a' := ?_) #[true, true, true, true, true, true, true, true, true, true, true, true, true, true, true, true, true, false, false, true, true, false, false, false, false, false, false, false, false, false, false, false, false, false] rfl rfl (any_of HT_.out (by kernel_rfl)) (fun _ _ _ h => h) (Or.inl ⟨by rfl, ?_⟩) ?_ ?_; rotate_left
                   · intro w'; go_simp; with_reducible rfl
                   rotate_left
                   · simp only [Act.put, R.sa, R.sb, R.sc, i64_w, i32_w]; rfl
                   refine pure_ (i := 21) (N := some 32) (v := ?_) (a' := ?_) #[true, true, true, true, true, true, true, true, true, true, true, true, true, true, true, true, true, false, false, true, true, true, false, false, false, false, false, false, false, false, false, false, false, false] rfl rfl (any_of HT_.out (by kernel_rfl)) (fun _ _ _ h => h) (Or.inl ⟨by rfl, ?_⟩) ?_ ?_; rotate_left
                   · intro w'; go_simp; with_reducible rfl
                   rotate_left
                   · simp only [Act.put, R.sa, R.sb, R.sc, i64_w, i32_w]; rfl
                   refine take_ (i := 17) (N := some 28) (v := ?_) (a' := ?_) #[true, true, true, true, true, true, true, true, true, true, true, true, true, true, true, true, true, true, false, true, true, true, false, false, false, false, false, false, false, false, false, false, false, false] rfl rfl (take_ofW HT_.out HW_.out (by kernel_rfl)) (fun _ _ _ h => h) (Or.inl ⟨by rfl, ?_⟩) hHeld ?_ ?_; rotate_left
                   · rintro w' ⟨s0, s1, s2, s3, s4, s5⟩; go_simp; with_reducible rfl
                   rotate_left
                   · simp only [Act.put, R.sa, R.sb, R.sc, i64_w, i32_w]; rfl
                   refine pure_ (i := 18) (N := some 29) (v := ?_) (a' := ?_) (R.tf 22 12) rfl rfl (any_of HT_.out (by kernel_rfl)) (fun _ _ _ h => h) (Or.inl ⟨by rfl, ?_⟩) ?_ ?_; rotate_left
                   · intro w'; go_simp; with_reducible rfl
                   rotate_left
                   · simp only [Act.put, R.sa, R.sb, R.sc, i64_w, i32_w]; rfl
                   refine take_ (i := 22) (N := some 33) (v := ?_) (a' := ?_) (R.tf 23 11) rfl rfl (take_ofW HT_.out HW_.out (by kernel_rfl)) (fun _ _ _ h => h) (Or.inl ⟨by rfl, ?_⟩) hHeld ?_ ?_; rotate_left
                   · rintro w' ⟨s0, s1, s2, s3, s4, s5⟩; go_simp; with_reducible rfl
                   rotate_left
                   · simp only [Act.put, R.sa, R.sb, R.sc, i64_w, i32_w]; rfl
                   refine pure_ (i := 23) (N := some 34) (v := ?_) (a' := ?_) (R.tf 24 10) rfl rfl (any_of HT_.out (by kernel_rfl)) (fun _ _ _ h => h) (Or.inl ⟨by rfl, ?_⟩) ?_ ?_; rotate_left
                   · intro w'; go_simp; with_reducible rfl
                   rotate_left
                   · simp only [Act.put, R.sa, R.sb, R.sc, i64_w, i32_w]; rfl
                   refine pure_ (i := 24) (N := some 35) (v := ?_) (a' := ?_) (R.tf 25 9) rfl rfl (any_of HT_.out (by kernel_rfl)) (fun _ _ _ h => h) (Or.inl ⟨by rfl, ?_⟩) ?_ ?_; rotate_left
                   · intro w'; go_simp; with_reducible rfl
                   rotate_left
                   · simp only [Act.put, R.sa, R.sb, R.sc, i64_w, i32_w]; rfl
                   refine pure_ (i := 25) (N := some 36) (v := ?_) (a' := ?_) (R.tf 26 8) rfl rfl (any_of HT_.out (by kernel_rfl)) (fun _ _ _ h => h) (Or.inl ⟨by rfl, ?_⟩) ?_ ?_; rotate_left
                   · intro w'; go_simp; with_reducible rfl
                   rotate_left
                   · simp only [Act.put, R.sa, R.sb, R.sc, i64_w, i32_w]; rfl
                   refine pure_ (i := 26) (N := some 37) (v := ?_) (a' := ?_) (R.tf 27 7) rfl rfl (any_of HT_.out (by kernel_rfl)) (fun _ _ _ h => h) (Or.inl ⟨by rfl, ?_⟩) ?_ ?_; rotate_left
                   · intro w'; go_simp; with_reducible rfl
                   rotate_left
                   · simp only [Act.put, R.sa, R.sb, R.sc, i64_w, i32_w]; rfl
                   refine pure_ (i := 27) (N := some 38) (v := undef) (a' := ?_) (R.tf 28 6) rfl rfl (any_of HT_.out (by kernel_rfl)) (fun _ _ _ h => h) (Or.inr ⟨by rfl, rfl⟩) ?_ ?_; rotate_left
                   · simp only [Act.put, R.sa, R.sb, R.sc, i64_w, i32_w]; rfl
                   refine pure_ (i := 28) (N := some 39) (v := undef) (a' := ?_) (R.tf 29 5) rfl rfl (any_of HT_.out (by kernel_rfl)) (fun _ _ _ h => h) (Or.inr ⟨by rfl, rfl⟩) ?_ ?_; rotate_left
                   · simp only [Act.put, R.sa, R.sb, R.sc, i64_w, i32_w]; rfl
                   refine pure_ (i := 29) (N := some 40) (v := undef) (a' := ?_) (R.tf 30 4) rfl rfl (any_of HT_.out (by kernel_rfl)) (fun _ _ _ h => h) (Or.inr ⟨by rfl, rfl⟩) ?_ ?_; rotate_left
                   · simp only [Act.put, R.sa, R.sb, R.sc, i64_w, i32_w]; rfl
                   refine pure_ (i := 30) (N := some 41) (v := undef) (a' := ?_) (R.tf 31 3) rfl rfl (any_of HT_.out (by kernel_rfl)) (fun _ _ _ h => h) (Or.inr ⟨by rfl, rfl⟩) ?_ ?_; rotate_left
                   · simp only [Act.put, R.sa, R.sb, R.sc, i64_w, i32_w]; rfl
                   refine pure_ (i := 31) (N := some 42) (v := undef) (a' := ?_) (R.tf 32 2) rfl rfl (any_of HT_.out (by kernel_rfl)) (fun _ _ _ h => h) (Or.inr ⟨by rfl, rfl⟩) ?_ ?_; rotate_left
                   · simp only [Act.put, R.sa, R.sb, R.sc, i64_w, i32_w]; rfl
                   refine pure_ (i := 32) (N := some 43) (v := undef) (a' := ?_) (R.tf 33 1) rfl rfl (any_of HT_.out (by kernel_rfl)) (fun _ _ _ h => h) (Or.inr ⟨by rfl, rfl⟩) ?_ ?_; rotate_left
                   · simp only [Act.put, R.sa, R.sb, R.sc, i64_w, i32_w]; rfl
                   refine pure_ (i := 33) (N := some 44) (v := ?_) (a' := ?_) (R.tf 34 0) rfl rfl (any_of HT_.out (by kernel_rfl)) (fun _ _ _ h => h) (Or.inl ⟨by rfl, ?_⟩) ?_ ?_; rotate_left
                   · intro w'; go_simp; with_reducible rfl
                   rotate_left
                   · simp only [Act.put, R.sa, R.sb, R.sc, i64_w, i32_w]; rfl
                   refine done_ (done_of HT_.out (by kernel_rfl)) ?_; try go_wp2
                   go_ret
                   exact ⟨by first | rfl | (simp [errW_none, errW_some] <;> rfl) | (simp [*, errW_none, errW_some] <;> rfl), by repeat (first | (with_reducible first | exact HB.out | apply below_alloc | apply pw_below_drewN | apply below_drew1 | refine below_set ?_ GE943.out) | exact HB.out)⟩
               · rw [if_neg c26] at H; exact absurd H (by simp)
             · rw [if_neg c25] at H; have c25b0 : ((((rd_T48 l0 x7_1).f1).length : Int) == 15) = false := beq_eq_false_iff_ne.mpr c25; have c25b1 : ((((rd_T48 l0 x7_1).f1).length : Int) != 15) = true := bne_iff_ne.mpr c25; obtain rfl := Option.some.inj H; have p942 : 0 ≤ (x7_1 : Int) := of_decide_eq_true (by first | (with_reducible assumption) | assumption); have q942 : x7_1 < (l0.length : Int) := of_decide_eq_true (by first | (with_reducible assumption) | assumption); obtain ⟨ad942, A942_1, c942_1, A942_2, c942_2, e942, hx942_0, hx942_1, hx942_2, hl942_1, hi942_1, hl942_2, hi942_2⟩ := at_T48 HR0.out x7_1 p942 q942; cases e942; replace hx942_0 := (HB.out.cell (World.block_lt_of_cell? w _ hx942_0)).trans hx942_0; replace hx942_1 := (HB.out.cell (World.block_lt_of_cell? w _ hx942_1)).trans hx942_1; replace hx942_2 := (HB.out.cell (World.block_lt_of_cell? w _ hx942_2)).trans hx942_2; have HR942_1 := Aside0.mk hi942_1; have HC942_1 := Aside0.mk hl942_1; clear hi942_1 hl942_1; have HR942_2 := Aside0.mk hi942_2; have HC942_2 := Aside0.mk hl942_2; clear hi942_2 hl942_2; replace p942 := eq_true p942; replace q942 := eq_true q942; try go_wp2_with (first | ((with_reducible refine gate_dst (N := 4) rfl ?_); (try (refine gate_guard (by rfl) ?_; dsimp only)); refine box_event ?hg (N := 4) ?hd (cs := #[.string (⟨#[]⟩ : ByteArray), .slice none 0 0, .slice none 0 0]) (t := 48) ?hr ?_; (case hd => rfl); (case hg => rfl); (case hr => first | (go_simp; done) | (go_simp; rfl)); intro gb943 hg w44 hbox hb; have n0_ := Aside0.mk (below_step (by repeat (first | (with_reducible first | exact HB.out | apply below_alloc | apply pw_below_drewN | apply below_drew1) | exact HB.out)) hb); have n1_ := Aside0.mk (hbox); have n2_ := Aside0.mk ((by rw [hg]; exact (below_size (by repeat (first | (with_reducible first | exact HB.out | apply below_alloc | apply pw_below_drewN | apply below_drew1) | exact HB.out))) : w.heap.size ≤ gb943)); have n3_ := Aside0.mk ((by rw [hg]; exact (below_size (by repeat (first | (with_reducible first | exact HB.out | apply below_alloc | apply pw_below_drewN | apply below_drew1) | exact HB.out))) : w.heap.size ≤ gb943)); clear HB; have HB := n0_; have BK943 := n1_; have GW943 := n2_; have GE943 := n3_; clear n0_ n1_ n2_ n3_; clear hb hbox hg; have hcz45_0 : w44.cell? ⟨gb943, 0, none⟩ = some (.string (⟨#[]⟩ : ByteArray)) := (blk_cell BK943.out 0).trans rfl; have hcz45_1 : w44.cell? ⟨gb943, 1, none⟩ = some (.slice none 0 0) := (blk_cell BK943.out 1).trans rfl; have hcz45_2 : w44.cell? ⟨gb943, 2, none⟩ = some (.slice none 0 0) := (blk_cell BK943.out 2).trans rfl; have hfz45_0 := blk_frozen BK943.out 0; have hfz45_1 := blk_frozen BK943.out 1; have hfz45_2 := blk_frozen BK943.out 2))
               have n0_ : Aside0 ((((w44.setCell ⟨gb943, 0, none⟩ (.string ((rd_T48 l0 x7_1).f0))).setCell ⟨gb943, 1, none⟩ (.slice A942_1 ((rd_T48 l0 x7_1).f1).length c942_1)).setCell ⟨gb943, 2, none⟩ (.slice A942_2 ((rd_T48 l0 x7_1).f2).length c942_2)).heap[gb943]? = some (.cells #[.string ((rd_T48 l0 x7_1).f0), .slice A942_1 ((rd_T48 l0 x7_1).f1).length c942_1, .slice A942_2 ((rd_T48 l0 x7_1).f2).length c942_2] 48 (0, 0))) := ⟨by (with_reducible repeat (first | refine blk_drewN ?_ _ | refine blk_drew ?_ | refine blk_alloc ?_ _)); refine blk_put (cs := #[.string ((rd_T48 l0 x7_1).f0), .slice A942_1 ((rd_T48 l0 x7_1).f1).length c942_1, .slice none 0 0]) ?_ 2 _ rfl; (with_reducible repeat (first | refine blk_drewN ?_ _ | refine blk_drew ?_ | refine blk_alloc ?_ _)); refine blk_put (cs := #[.string ((rd_T48 l0 x7_1).f0), .slice none 0 0, .slice none 0 0]) ?_ 1 _ rfl; (with_reducible repeat (first | refine blk_drewN ?_ _ | refine blk_drew ?_ | refine blk_alloc ?_ _)); refine blk_put (cs := #[.string (⟨#[]⟩ : ByteArray), .slice none 0 0, .slice none 0 0]) ?_ 0 _ rfl; (with_reducible repeat (first | refine blk_drewN ?_ _ | refine blk_drew ?_ | refine blk_alloc ?_ _)); exact BK943.out⟩; have n1_ : Aside0 (Below w.heap.size w (((w44.setCell ⟨gb943, 0, none⟩ (.string ((rd_T48 l0 x7_1).f0))).setCell ⟨gb943, 1, none⟩ (.slice A942_1 ((rd_T48 l0 x7_1).f1).length c942_1)).setCell ⟨gb943, 2, none⟩ (.slice A942_2 ((rd_T48 l0 x7_1).f2).length c942_2))) := ⟨by repeat (first | (with_reducible first | exact HB.out | apply below_alloc | apply pw_below_drewN | apply below_drew1 | refine below_set ?_ GE943.out) | exact HB.out)⟩; (try clear BK943); (try clear HB); generalize (((w44.setCell ⟨gb943, 0, none⟩ (.string ((rd_T48 l0 x7_1).f0))).setCell ⟨gb943, 1, none⟩ (.slice A942_1 ((rd_T48 l0 x7_1).f1).length c942_1)).setCell ⟨gb943, 2, none⟩ (.slice A942_2 ((rd_T48 l0 x7_1).f2).length c942_2)) = w46 at n0_ n1_ ⊢; have BK943 := n0_; have HB := n1_; clear n0_ n1_; have n0_ := Aside0.mk (blk_drew BK943.out); have n1_ := Aside0.mk (below_drew1 HB.out); clear BK943; clear HB; have BK943 := n0_; have HB := n1_; clear n0_ n1_; refine start_ (n := 34) (S := fun w' => w'.cell? ⟨gb943, 0, none⟩ = some (.string ((rd_T48 l0 x7_1).f0)) ∧ w'.cell? ⟨gb943, 1, none⟩ = some (.slice A942_1 ((rd_T48 l0 x7_1).f1).length c942_1) ∧ w'.cell? ⟨gb943, 2, none⟩ = some (.slice A942_2 ((rd_T48 l0 x7_1).f2).length c942_2)) (ds := []) (R.tf 0 34) (by kernel_rfl) rfl rfl ⟨(blk_cell BK943.out 0).trans rfl, (blk_cell BK943.out 1).trans rfl, (blk_cell BK943.out 2).trans rfl⟩ (fun hHeld => ?_); refine with_tabW spec_softnetFine.tab4 spec_softnetFine.bits4 (fun HT_ HW_ => ?_); generalize w46.drew = w47 at BK943 HB hHeld ⊢; refine pure_ (i := 0) (N := some 11) (v := ?_) (a' := ?_) (R.tf 1 33) rfl rfl (any_of HT_.out (by kernel_rfl)) (fun _ _ _ h => h) (Or.inl ⟨by rfl, ?_⟩) ?_ ?_; rotate_left
               · intro w'; go_simp; with_reducible rfl
               rotate_left
               · simp only [Act.put, R.sa, R.sb, R.sc, i64_w, i32_w]; rfl
               refine take_ (i := 1) (N := some 12) (v := ?_) (a' := ?_) (R.tf 2 32) rfl rfl (take_ofW HT_.out HW_.out (by kernel_rfl)) (fun _ _ _ h => h) (Or.inl ⟨by rfl, ?_⟩) hHeld ?_ ?_; rotate_left
               · rintro w' ⟨s0, s1, s2⟩; go_simp; with_reducible rfl
               rotate_left
               · simp only [Act.put, R.sa, R.sb, R.sc, i64_w, i32_w]; rfl
               refine pure_ (i := 2) (N := some 13) (v := ?_) (a' := ?_) (R.tf 3 31) rfl rfl (any_of HT_.out (by kernel_rfl)) (fun _ _ _ h => h) (Or.inl ⟨by rfl, ?_⟩) ?_ ?_; rotate_left
               · intro w'; go_simp; with_reducible rfl
               rotate_left
               · simp only [Act.put, R.sa, R.sb, R.sc, i64_w, i32_w]; rfl
               refine pure_ (i := 3) (N := some 14) (v := ?_) (a' := ?_) (R.tf 4 30) rfl rfl (any_of HT_.out (by kernel_rfl)) (fun _ _ _ h => h) (Or.inl ⟨by rfl, ?_⟩) ?_ ?_; rotate_left
               · intro w'; go_simp; with_reducible rfl
               rotate_left
               · simp only [Act.put, R.sa, R.sb, R.sc, i64_w, i32_w]; rfl
               refine pure_ (i := 4) (N := some 15) (v := ?_) (a' := ?_) (R.tf 5 29) rfl rfl (any_of HT_.out (by kernel_rfl)) (fun _ _ _ h => h) (Or.inl ⟨by rfl, ?_⟩) ?_ ?_; rotate_left
               · intro w'; go_simp; with_reducible rfl
               rotate_left
               · simp only [Act.put, R.sa, R.sb, R.sc, i64_w, i32_w]; rfl
               refine take_ (i := 5) (N := some 16) (v := ?_) (a' := ?_) (R.tf 6 28) rfl rfl (take_ofW HT_.out HW_.out (by kernel_rfl)) (fun _ _ _ h => h) (Or.inl ⟨by rfl, ?_⟩) hHeld ?_ ?_; rotate_left
               · rintro w' ⟨s0, s1, s2⟩; go_simp; with_reducible rfl
               rotate_left
               · simp only [Act.put, R.sa, R.sb, R.sc, i64_w, i32_w]; rfl
               refine pure_ (i := 6) (N := some 17) (v := ?_) (a' := ?_) (R.tf 7 27) rfl rfl (any_of HT_.out (by kernel_rfl)) (fun _ _ _ h => h) (Or.inl ⟨by rfl, ?_⟩) ?_ ?_; rotate_left
               · intro w'; go_simp; with_reducible rfl
               rotate_left
               · simp only [Act.put, R.sa, R.sb, R.sc, i64_w, i32_w]; rfl
               refine pure_ (i := 7) (N := some 18) (v := ?_) (a' := ?_) (R.tf 8 26) rfl rfl (any_of HT_.out (by kernel_rfl)) (fun _ _ _ h => h) (Or.inl ⟨by rfl, ?_⟩) ?_ ?_; rotate_left
               · intro w'; go_simp; with_reducible rfl
               rotate_left
               · simp only [Act.put, R.sa, R.sb, R.sc, i64_w, i32_w]; rfl
               refine pure_ (i := 8) (N := some 19) (v := ?_) (a' := ?_) (R.tf 9 25) rfl rfl (any_of HT_.out (by kernel_rfl)) (fun _ _ _ h => h) (Or.inl ⟨by rfl, ?_⟩) ?_ ?_; rotate_left
               · intro w'; go_simp; with_reducible rfl
               rotate_left
               · simp only [Act.put, R.sa, R.sb, R.sc, i64_w, i32_w]; rfl
               refine pure_ (i := 9) (N := some 20) (v := ?_) (a' := ?_) (R.tf 10 24) rfl rfl (any_of HT_.out (by kernel_rfl)) (fun _ _ _ h => h) (Or.inl ⟨by rfl, ?_⟩) ?_ ?_; rotate_left
               · intro w'; go_simp; with_reducible rfl
               rotate_left
               · simp only [Act.put, R.sa, R.sb, R.sc, i64_w, i32_w]; rfl
               refine take_ (i := 10) (N := some 21) (v := ?_) (a' := ?_) (R.tf 11 23) rfl rfl (take_ofW HT_.out HW_.out (by kernel_rfl)) (fun _ _ _ h => h) (Or.inl ⟨by rfl, ?_⟩) hHeld ?_ ?_; rotate_left
               · rintro w' ⟨s0, s1, s2⟩; go_simp; with_reducible rfl
               rotate_left
               · simp only [Act.put, R.sa, R.sb, R.sc, i64_w, i32_w]; rfl
               refine pure_ (i := 11) (N := some 22) (v := ?_) (a' := ?_) (R.tf 12 22) rfl rfl (any_of HT_.out (by kernel_rfl)) (fun _ _ _ h => h) (Or.inl ⟨by rfl, ?_⟩) ?_ ?_; rotate_left
               · intro w'; go_simp; with_reducible rfl
               rotate_left
               · simp only [Act.put, R.sa, R.sb, R.sc, i64_w, i32_w]; rfl
               refine pure_ (i := 12) (N := some 23) (v := ?_) (a' := ?_) (R.tf 13 21) rfl rfl (any_of HT_.out (by kernel_rfl)) (fun _ _ _ h => h) (Or.inl ⟨by rfl, ?_⟩) ?_ ?_; rotate_left
               · intro w'; go_simp; with_reducible rfl
               rotate_left
               · simp only [Act.put, R.sa, R.sb, R.sc, i64_w, i32_w]; rfl
               refine pure_ (i := 13) (N := some 24) (v := ?_) (a' := ?_) (R.tf 14 20) rfl rfl (any_of HT_.out (by kernel_rfl)) (fun _ _ _ h => h) (Or.inl ⟨by rfl, ?_⟩) ?_ ?_; rotate_left
               · intro w'; go_simp; with_reducible rfl
               rotate_left
               · simp only [Act.put, R.sa, R.sb, R.sc, i64_w, i32_w]; rfl
               refine pure_ (i := 14) (N := some 25) (v := ?_) (a' := ?_) (R.tf 15 19) rfl rfl (any_of HT_.out (by kernel_rfl)) (fun _ _ _ h => h) (Or.inl ⟨by rfl, ?_⟩) ?_ ?_; rotate_left
               · intro w'; go_simp; with_reducible rfl
               rotate_left
               · simp only [Act.put, R.sa, R.sb, R.sc, i64_w, i32_w]; rfl
               refine pure_ (i := 15) (N := some 26) (v := ?_) (a' := ?_) (R.tf 16 18) rfl rfl (any_of HT_.out (by kernel_rfl)) (fun _ _ _ h => h) (Or.inl ⟨by rfl, ?_⟩) ?_ ?_; rotate_left
               · intro w'; go_simp; with_reducible rfl
               rotate_left
               · simp only [Act.put, R.sa, R.sb, R.sc, i64_w, i32_w]; rfl
               refine pure_ (i := 16) (N := some 27) (v := undef) (a' := ?_) (R.tf 17 17) rfl rfl (any_of HT_.out (by kernel_rfl)) (fun _ _ _ h => h) (Or.inr ⟨by rfl, rfl⟩) ?_ ?_; rotate_left
               · simp only [Act.put, R.sa, R.sb, R.sc, i64_w, i32_w]; rfl
               refine pure_ (i := 17) (N := some 28) (v := undef) (a' := ?_) (R.tf 18 16) rfl rfl (any_of HT_.out (by kernel_rfl)) (fun _ _ _ h => h) (Or.inr ⟨by rfl, rfl⟩) ?_ ?_; rotate_left
               · simp only [Act.put, R.sa, R.sb, R.sc, i64_w, i32_w]; rfl
               refine pure_ (i := 18) (N := some 29) (v := undef) (a' := ?_) (R.tf 19 15) rfl rfl (any_of HT_.out (by kernel_rfl)) (fun _ _ _ h => h) (Or.inr ⟨by rfl, rfl⟩) ?_ ?_; rotate_left
               · simp only [Act.put, R.sa, R.sb, R.sc, i64_w, i32_w]; rfl
               refine pure_ (i := 19) (N := some 30) (v := undef) (a' := ?_) (R.tf 20 14) rfl rfl (any_of HT_.out (by kernel_rfl)) (fun _ _ _ h => h) (Or.inr ⟨by rfl, rfl⟩) ?_ ?_; rotate_left
               · simp only [Act.put, R.sa, R.sb, R.sc, i64_w, i32_w]; rfl
               refine pure_ (i := 20) (N := some 31) (v := undef) (a' := ?_) (R.tf 21 13) rfl rfl (any_of HT_.out (by kernel_rfl)) (fun _ _ _ h => h) (Or.inr ⟨by rfl, rfl⟩) ?_ ?_; rotate_left
               · simp only [Act.put, R.sa, R.sb, R.sc, i64_w, i32_w]; rfl
               refine pure_ (i := 21) (N := some 32) (v := undef) (a' := ?_) (R.tf 22 12) rfl rfl (any_of HT_.out (by kernel_rfl)) (fun _ _ _ h => h) (Or.inr ⟨by rfl, rfl⟩) ?_ ?_; rotate_left
               · simp only [Act.put, R.sa, R.sb, R.sc, i64_w, i32_w]; rfl
               refine pure_ (i := 22) (N := some 33) (v := undef) (a' := ?_) (R.tf 23 11) rfl rfl (any_of HT_.out (by kernel_rfl)) (fun _ _ _ h => h) (Or.inr ⟨by rfl, rfl⟩) ?_ ?_; rotate_left
               · simp only [Act.put, R.sa, R.sb, R.sc, i64_w, i32_w]; rfl
               refine pure_ (i := 23) (N := some 34) (v := undef) (a' := ?_) (R.tf 24 10) rfl rfl (any_of HT_.out (by kernel_rfl)) (fun _ _ _ h => h) (Or.inr ⟨by rfl, rfl⟩) ?_ ?_; rotate_left
               · simp only [Act.put, R.sa, R.sb, R.sc, i64_w, i32_w]; rfl
               refine pure_ (i := 24) (N := some 35) (v := undef) (a' := ?_) (R.tf 25 9) rfl rfl (any_of HT_.out (by kernel_rfl)) (fun _ _ _ h => h) (Or.inr ⟨by rfl, rfl⟩) ?_ ?_; rotate_left
               · simp only [Act.put, R.sa, R.sb, R.sc, i64_w, i32_w]; rfl
               refine pure_ (i := 25) (N := some 36) (v := ?_) (a' := ?_) (R.tf 26 8) rfl rfl (any_of HT_.out (by kernel_rfl)) (fun _ _ _ h => h) (Or.inl ⟨by rfl, ?_⟩) ?_ ?_; rotate_left
               · intro w'; go_simp; with_reducible rfl
               rotate_left
               · simp only [Act.put, R.sa, R.sb, R.sc, i64_w, i32_w]; rfl
               refine pure_ (i := 26) (N := some 37) (v := ?_) (a' := ?_) (R.tf 27 7) rfl rfl (any_of HT_.out (by kernel_rfl)) (fun _ _ _ h => h) (Or.inl ⟨by rfl, ?_⟩) ?_ ?_; rotate_left
               · intro w'; go_simp; with_reducible rfl
               rotate_left
               · simp only [Act.put, R.sa, R.sb, R.sc, i64_w, i32_w]; rfl
               refine pure_ (i := 27) (N := some 38) (v := undef) (a' := ?_) (R.tf 28 6) rfl rfl (any_of HT_.out (by kernel_rfl)) (fun _ _ _ h => h) (Or.inr ⟨by rfl, rfl⟩) ?_ ?_; rotate_left
               · simp only [Act.put, R.sa, R.sb, R.sc, i64_w, i32_w]; rfl
               refine pure_ (i := 28) (N := some 39) (v := undef) (a' := ?_) (R.tf 29 5) rfl rfl (any_of HT_.out (by kernel_rfl)) (fun _ _ _ h => h) (Or.inr ⟨by rfl, rfl⟩) ?_ ?_; rotate_left
               · simp only [Act.put, R.sa, R.sb, R.sc, i64_w, i32_w]; rfl
               refine pure_ (i := 29) (N := some 40) (v := undef) (a' := ?_) (R.tf 30 4) rfl rfl (any_of HT_.out (by kernel_rfl)) (fun _ _ _ h => h) (Or.inr ⟨by rfl, rfl⟩) ?_ ?_; rotate_left
               · simp only [Act.put, R.sa, R.sb, R.sc, i64_w, i32_w]; rfl
               refine pure_ (i := 30) (N := some 41) (v := undef) (a' := ?_) (R.tf 31 3) rfl rfl (any_of HT_.out (by kernel_rfl)) (fun _ _ _ h => h) (Or.inr ⟨by rfl, rfl⟩) ?_ ?_; rotate_left
               · simp only [Act.put, R.sa, R.sb, R.sc, i64_w, i32_w]; rfl
               refine pure_ (i := 31) (N := some 42) (v := undef) (a' := ?_) (R.tf 32 2) rfl rfl (any_of HT_.out (by kernel_rfl)) (fun _ _ _ h => h) (Or.inr ⟨by rfl, rfl⟩) ?_ ?_; rotate_left
               · simp only [Act.put, R.sa, R.sb, R.sc, i64_w, i32_w]; rfl
               refine pure_ (i := 32) (N := some 43) (v := undef) (a' := ?_) (R.tf 33 1) rfl rfl (any_of HT_.out (by kernel_rfl)) (fun _ _ _ h => h) (Or.inr ⟨by rfl, rfl⟩) ?_ ?_; rotate_left
               · simp only [Act.put, R.sa, R.sb, R.sc, i64_w, i32_w]; rfl
               refine pure_ (i := 33) (N := some 44) (v := ?_) (a' := ?_) (R.tf 34 0) rfl rfl (any_of HT_.out (by kernel_rfl)) (fun _ _ _ h => h) (Or.inl ⟨by rfl, ?_⟩) ?_ ?_; rotate_left
               · intro w'; go_simp; with_reducible rfl
               rotate_left
               · simp only [Act.put, R.sa, R.sb, R.sc, i64_w, i32_w]; rfl
               refine done_ (done_of HT_.out (by kernel_rfl)) ?_; try go_wp2
               go_ret
               exact ⟨by first | rfl | (simp [errW_none, errW_some] <;> rfl) | (simp [*, errW_none, errW_some] <;> rfl), by repeat (first | (with_reducible first | exact HB.out | apply below_alloc | apply pw_below_drewN | apply below_drew1 | refine below_set ?_ GE943.out) | exact HB.out)⟩
         · rw [if_neg c5] at H; have c5b0 : (((rd_T48 l0 x7_1).f0).toList == ([] : List UInt8)) = false := beq_eq_false_iff_ne.mpr c5; have c5b1 : (((rd_T48 l0 x7_1).f0).toList != ([] : List UInt8)) = true := bne_iff_ne.mpr c5; obtain rfl := Option.some.inj H; have p942 : 0 ≤ (x7_1 : Int) := of_decide_eq_true (by first | (with_reducible assumption) | assumption); have q942 : x7_1 < (l0.length : Int) := of_decide_eq_true (by first | (with_reducible assumption) | assumption); obtain ⟨ad942, A942_1, c942_1, A942_2, c942_2, e942, hx942_0, hx942_1, hx942_2, hl942_1, hi942_1, hl942_2, hi942_2⟩ := at_T48 HR0.out x7_1 p942 q942; cases e942; replace hx942_0 := (HB.out.cell (World.block_lt_of_cell? w _ hx942_0)).trans hx942_0; replace hx942_1 := (HB.out.cell (World.block_lt_of_cell? w _ hx942_1)).trans hx942_1; replace hx942_2 := (HB.out.cell (World.block_lt_of_cell? w _ hx942_2)).trans hx942_2; have HR942_1 := Aside0.mk hi942_1; have HC942_1 := Aside0.mk hl942_1; clear hi942_1 hl942_1; have HR942_2 := Aside0.mk hi942_2; have HC942_2 := Aside0.mk hl942_2; clear hi942_2 hl942_2; replace p942 := eq_true p942; replace q942 := eq_true q942; try go_wp2_with (first | ((with_reducible refine gate_dst (N := 4) rfl ?_); (try (refine gate_guard (by rfl) ?_; dsimp only)); refine box_event ?hg (N := 4) ?hd (cs := #[.string (⟨#[]⟩ : ByteArray), .slice none 0 0, .slice none 0 0]) (t := 48) ?hr ?_; (case hd => rfl); (case hg => rfl); (case hr => first | (go_simp; done) | (go_simp; rfl)); intro gb943 hg w48 hbox hb; have n0_ := Aside0.mk (below_step (by repeat (first | (with_reducible first | exact HB.out | apply below_alloc | apply pw_below_drewN | apply below_drew1) | exact HB.out)) hb); have n1_ := Aside0.mk (hbox); have n2_ := Aside0.mk ((by rw [hg]; exact (below_size (by repeat (first | (with_reducible first | exact HB.out | apply below_alloc | apply pw_below_drewN | apply below_drew1) | exact HB.out))) : w.heap.size ≤ gb943)); have n3_ := Aside0.mk ((by rw [hg]; exact (below_size (by repeat (first | (with_reducible first | exact HB.out | apply below_alloc | apply pw_below_drewN | apply below_drew1) | exact HB.out))) : w.heap.size ≤ gb943)); clear HB; have HB := n0_; have BK943 := n1_; have GW943 := n2_; have GE943 := n3_; clear n0_ n1_ n2_ n3_; clear hb hbox hg; have hcz49_0 : w48.cell? ⟨gb943, 0, none⟩ = some (.string (⟨#[]⟩ : ByteArray)) := (blk_cell BK943.out 0).trans rfl; have hcz49_1 : w48.cell? ⟨gb943, 1, none⟩ = some (.slice none 0 0) := (blk_cell BK943.out 1).trans rfl; have hcz49_2 : w48.cell? ⟨gb943, 2, none⟩ = some (.slice none 0 0) := (blk_cell BK943.out 2).trans rfl; have hfz49_0 := blk_frozen BK943.out 0; have hfz49_1 := blk_frozen BK943.out 1; have hfz49_2 := blk_frozen BK943.out 2))
           have n0_ : Aside0 ((((w48.setCell ⟨gb943, 0, none⟩ (.string ((rd_T48 l0 x7_1).f0))).setCell ⟨gb943, 1, none⟩ (.slice A942_1 ((rd_T48 l0 x7_1).f1).length c942_1)).setCell ⟨gb943, 2, none⟩ (.slice A942_2 ((rd_T48 l0 x7_1).f2).length c942_2)).heap[gb943]? = some (.cells #[.string ((rd_T48 l0 x7_1).f0), .slice A942_1 ((rd_T48 l0 x7_1).f1).length c942_1, .slice A942_2 ((rd_T48 l0 x7_1).f2).length c942_2] 48 (0, 0))) := ⟨by (with_reducible repeat (first | refine blk_drewN ?_ _ | refine blk_drew ?_ | refine blk_alloc ?_ _)); refine blk_put (cs := #[.string ((rd_T48 l0 x7_1).f0), .slice A942_1 ((rd_T48 l0 x7_1).f1).length c942_1, .slice none 0 0]) ?_ 2 _ rfl; (with_reducible repeat (first | refine blk_drewN ?_ _ | refine blk_drew ?_ | refine blk_alloc ?_ _)); refine blk_put (cs := #[.string ((rd_T48 l0 x7_1).f0), .slice none 0 0, .slice none 0 0]) ?_ 1 _ rfl; (with_reducible repeat (first | refine blk_drewN ?_ _ | refine blk_drew ?_ | refine blk_alloc ?_ _)); refine blk_put (cs := #[.string (⟨#[]⟩ : ByteArray), .slice none 0 0, .slice none 0 0]) ?_ 0 _ rfl; (with_reducible repeat (first | refine blk_drewN ?_ _ | refine blk_drew ?_ | refine blk_alloc ?_ _)); exact BK943.out⟩; have n1_ : Aside0 (Below w.heap.size w (((w48.setCell ⟨gb943, 0, none⟩ (.string ((rd_T48 l0 x7_1).f0))).setCell ⟨gb943, 1, none⟩ (.slice A942_1 ((rd_T48 l0 x7_1).f1).length c942_1)).setCell ⟨gb943, 2, none⟩ (.slice A942_2 ((rd_T48 l0 x7_1).f2).length c942_2))) := ⟨by repeat (first | (with_reducible first | exact HB.out | apply below_alloc | apply pw_below_drewN | apply below_drew1 | refine below_set ?_ GE943.out) | exact HB.out)⟩; (try clear BK943); (try clear HB); generalize (((w48.setCell ⟨gb943, 0, none⟩ (.string ((rd_T48 l0 x7_1).f0))).setCell ⟨gb943, 1, none⟩ (.slice A942_1 ((rd_T48 l0 x7_1).f1).length c942_1)).setCell ⟨gb943, 2, none⟩ (.slice A942_2 ((rd_T48 l0 x7_1).f2).length c942_2)) = w50 at n0_ n1_ ⊢; have BK943 := n0_; have HB := n1_; clear n0_ n1_; have n0_ := Aside0.mk (blk_drew BK943.out); have n1_ := Aside0.mk (below_drew1 HB.out); clear BK943; clear HB; have BK943 := n0_; have HB := n1_; clear n0_ n1_; refine start_ (n := 34) (S := fun w' => w'.cell? ⟨gb943, 0, none⟩ = some (.string ((rd_T48 l0 x7_1).f0)) ∧ w'.cell? ⟨gb943, 1, none⟩ = some (.slice A942_1 ((rd_T48 l0 x7_1).f1).length c942_1) ∧ w'.cell? ⟨gb943, 2, none⟩ = some (.slice A942_2 ((rd_T48 l0 x7_1).f2).length c942_2)) (ds := []) (R.tf 0 34) (by kernel_rfl) rfl rfl ⟨(blk_cell BK943.out 0).trans rfl, (blk_cell BK943.out 1).trans rfl, (blk_cell BK943.out 2).trans rfl⟩ (fun hHeld => ?_); refine with_tabW spec_softnetFine.tab4 spec_softnetFine.bits4 (fun HT_ HW_ => ?_); generalize w50.drew = w51 at BK943 HB hHeld ⊢; refine pure_ (i := 0) (N := some 11) (v := ?_) (a' := ?_) (R.tf 1 33) rfl rfl (any_of HT_.out (by kernel_rfl)) (fun _ _ _ h => h) (Or.inl ⟨by rfl, ?_⟩) ?_ ?_; rotate_left
           · intro w'; go_simp; with_reducible rfl
           rotate_left
           · simp only [Act.put, R.sa, R.sb, R.sc, i64_w, i32_w]; rfl
           refine take_ (i := 1) (N := some 12) (v := ?_) (a' := ?_) (R.tf 2 32) rfl rfl (take_ofW HT_.out HW_.out (by kernel_rfl)) (fun _ _ _ h => h) (Or.inl ⟨by rfl, ?_⟩) hHeld ?_ ?_; rotate_left
           · rintro w' ⟨s0, s1, s2⟩; go_simp; with_reducible rfl
           rotate_left
           · simp only [Act.put, R.sa, R.sb, R.sc, i64_w, i32_w]; rfl
           refine pure_ (i := 2) (N := some 13) (v := ?_) (a' := ?_) (R.tf 3 31) rfl rfl (any_of HT_.out (by kernel_rfl)) (fun _ _ _ h => h) (Or.inl ⟨by rfl, ?_⟩) ?_ ?_; rotate_left
           · intro w'; go_simp; with_reducible rfl
           rotate_left
           · simp only [Act.put, R.sa, R.sb, R.sc, i64_w, i32_w]; rfl
           refine pure_ (i := 3) (N := some 14) (v := ?_) (a' := ?_) (R.tf 4 30) rfl rfl (any_of HT_.out (by kernel_rfl)) (fun _ _ _ h => h) (Or.inl ⟨by rfl, ?_⟩) ?_ ?_; rotate_left
           · intro w'; go_simp; with_reducible rfl
           rotate_left
           · simp only [Act.put, R.sa, R.sb, R.sc, i64_w, i32_w]; rfl
           refine pure_ (i := 4) (N := some 15) (v := undef) (a' := ?_) (R.tf 5 29) rfl rfl (any_of HT_.out (by kernel_rfl)) (fun _ _ _ h => h) (Or.inr ⟨by rfl, rfl⟩) ?_ ?_; rotate_left
           · simp only [Act.put, R.sa, R.sb, R.sc, i64_w, i32_w]; rfl
           refine pure_ (i := 5) (N := some 16) (v := undef) (a' := ?_) (R.tf 6 28) rfl rfl (any_of HT_.out (by kernel_rfl)) (fun _ _ _ h => h) (Or.inr ⟨by rfl, rfl⟩) ?_ ?_; rotate_left
           · simp only [Act.put, R.sa, R.sb, R.sc, i64_w, i32_w]; rfl
           refine pure_ (i := 6) (N := some 17) (v := undef) (a' := ?_) (R.tf 7 27) rfl rfl (any_of HT_.out (by kernel_rfl)) (fun _ _ _ h => h) (Or.inr ⟨by rfl, rfl⟩) ?_ ?_; rotate_left
           · simp only [Act.put, R.sa, R.sb, R.sc, i64_w, i32_w]; rfl
           refine pure_ (i := 7) (N := some 18) (v := undef) (a' := ?_) (R.tf 8 26) rfl rfl (any_of HT_.out (by kernel_rfl)) (fun _ _ _ h => h) (Or.inr ⟨by rfl, rfl⟩) ?_ ?_; rotate_left
           · simp only [Act.put, R.sa, R.sb, R.sc, i64_w, i32_w]; rfl
           refine pure_ (i := 8) (N := some 19) (v := undef) (a' := ?_) (R.tf 9 25) rfl rfl (any_of HT_.out (by kernel_rfl)) (fun _ _ _ h => h) (Or.inr ⟨by rfl, rfl⟩) ?_ ?_; rotate_left
           · simp only [Act.put, R.sa, R.sb, R.sc, i64_w, i32_w]; rfl
           refine pure_ (i := 9) (N := some 20) (v := undef) (a' := ?_) (R.tf 10 24) rfl rfl (any_of HT_.out (by kernel_rfl)) (fun _ _ _ h => h) (Or.inr ⟨by rfl, rfl⟩) ?_ ?_; rotate_left
           · simp only [Act.put, R.sa, R.sb, R.sc, i64_w, i32_w]; rfl
           refine pure_ (i := 10) (N := some 21) (v := undef) (a' := ?_) (R.tf 11 23) rfl rfl (any_of HT_.out (by kernel_rfl)) (fun _ _ _ h => h) (Or.inr ⟨by rfl, rfl⟩) ?_ ?_; rotate_left
           · simp only [Act.put, R.sa, R.sb, R.sc, i64_w, i32_w]; rfl
           refine pure_ (i := 11) (N := some 22) (v := undef) (a' := ?_) (R.tf 12 22) rfl rfl (any_of HT_.out (by kernel_rfl)) (fun _ _ _ h => h) (Or.inr ⟨by rfl, rfl⟩) ?_ ?_; rotate_left
           · simp only [Act.put, R.sa, R.sb, R.sc, i64_w, i32_w]; rfl
           refine pure_ (i := 12) (N := some 23) (v := undef) (a' := ?_) (R.tf 13 21) rfl rfl (any_of HT_.out (by kernel_rfl)) (fun _ _ _ h => h) (Or.inr ⟨by rfl, rfl⟩) ?_ ?_; rotate_left
           · simp only [Act.put, R.sa, R.sb, R.sc, i64_w, i32_w]; rfl
           refine pure_ (i := 13) (N := some 24) (v := undef) (a' := ?_) (R.tf 14 20) rfl rfl (any_of HT_.out (by kernel_rfl)) (fun _ _ _ h => h) (Or.inr ⟨by rfl, rfl⟩) ?_ ?_; rotate_left
           · simp only [Act.put, R.sa, R.sb, R.sc, i64_w, i32_w]; rfl
           refine pure_ (i := 14) (N := some 25) (v := ?_) (a' := ?_) (R.tf 15 19) rfl rfl (any_of HT_.out (by kernel_rfl)) (fun _ _ _ h => h) (Or.inl ⟨by rfl, ?_⟩) ?_ ?_; rotate_left
           · intro w'; go_simp; with_reducible rfl
           rotate_left
           · simp only [Act.put, R.sa, R.sb, R.sc, i64_w, i32_w]; rfl
           refine pure_ (i := 15) (N := some 26) (v := ?_) (a' := ?_) (R.tf 16 18) rfl rfl (any_of HT_.out (by kernel_rfl)) (fun _ _ _ h => h) (Or.inl ⟨by rfl, ?_⟩) ?_ ?_; rotate_left
           · intro w'; go_simp; with_reducible rfl
           rotate_left
           · simp only [Act.put, R.sa, R.sb, R.sc, i64_w, i32_w]; rfl
           refine pure_ (i := 16) (N := some 27) (v := undef) (a' := ?_) (R.tf 17 17) rfl rfl (any_of HT_.out (by kernel_rfl)) (fun _ _ _ h => h) (Or.inr ⟨by rfl, rfl⟩) ?_ ?_; rotate_left
           · simp only [Act.put, R.sa, R.sb, R.sc, i64_w, i32_w]; rfl
           refine pure_ (i := 17) (N := some 28) (v := undef) (a' := ?_) (R.tf 18 16) rfl rfl (any_of HT_.out (by kernel_rfl)) (fun _ _ _ h => h) (Or.inr ⟨by rfl, rfl⟩) ?_ ?_; rotate_left
           · simp only [Act.put, R.sa, R.sb, R.sc, i64_w, i32_w]; rfl
           refine pure_ (i := 18) (N := some 29) (v := undef) (a' := ?_) (R.tf 19 15) rfl rfl (any_of HT_.out (by kernel_rfl)) (fun _ _ _ h => h) (Or.inr ⟨by rfl, rfl⟩) ?_ ?_; rotate_left
           · simp only [Act.put, R.sa, R.sb, R.sc, i64_w, i32_w]; rfl
           refine pure_ (i := 19) (N := some 30) (v := undef) (a' := ?_) (R.tf 20 14) rfl rfl (any_of HT_.out (by kernel_rfl)) (fun _ _ _ h => h) (Or.inr ⟨by rfl, rfl⟩) ?_ ?_; rotate_left
           · simp only [Act.put, R.sa, R.sb, R.sc, i64_w, i32_w]; rfl
           refine pure_ (i := 20) (N := some 31) (v := undef) (a' := ?_) (R.tf 21 13) rfl rfl (any_of HT_.out (by kernel_rfl)) (fun _ _ _ h => h) (Or.inr ⟨by rfl, rfl⟩) ?_ ?_; rotate_left
           · simp only [Act.put, R.sa, R.sb, R.sc, i64_w, i32_w]; rfl
           refine pure_ (i := 21) (N := some 32) (v := undef) (a' := ?_) (R.tf 22 12) rfl rfl (any_of HT_.out (by kernel_rfl)) (fun _ _ _ h => h) (Or.inr ⟨by rfl, rfl⟩) ?_ ?_; rotate_left
           · simp only [Act.put, R.sa, R.sb, R.sc, i64_w, i32_w]; rfl
           refine pure_ (i := 22) (N := some 33) (v := undef) (a' := ?_) (R.tf 23 11) rfl rfl (any_of HT_.out (by kernel_rfl)) (fun _ _ _ h => h) (Or.inr ⟨by rfl, rfl⟩) ?_ ?_; rotate_left
           · simp only [Act.put, R.sa, R.sb, R.sc, i64_w, i32_w]; rfl
           refine pure_ (i := 23) (N := some 34) (v := undef) (a' := ?_) (R.tf 24 10) rfl rfl (any_of HT_.out (by kernel_rfl)) (fun _ _ _ h => h) (Or.inr ⟨by rfl, rfl⟩) ?_ ?_; rotate_left
           · simp only [Act.put, R.sa, R.sb, R.sc, i64_w, i32_w]; rfl
           refine pure_ (i := 24) (N := some 35) (v := undef) (a' := ?_) (R.tf 25 9) rfl rfl (any_of HT_.out (by kernel_rfl)) (fun _ _ _ h => h) (Or.inr ⟨by rfl, rfl⟩) ?_ ?_; rotate_left
           · simp only [Act.put, R.sa, R.sb, R.sc, i64_w, i32_w]; rfl
           refine pure_ (i := 25) (N := some 36) (v := ?_) (a' := ?_) (R.tf 26 8) rfl rfl (any_of HT_.out (by kernel_rfl)) (fun _ _ _ h => h) (Or.inl ⟨by rfl, ?_⟩) ?_ ?_; rotate_left
           · intro w'; go_simp; with_reducible rfl
           rotate_left
           · simp only [Act.put, R.sa, R.sb, R.sc, i64_w, i32_w]; rfl
           refine pure_ (i := 26) (N := some 37) (v := ?_) (a' := ?_) (R.tf 27 7) rfl rfl (any_of HT_.out (by kernel_rfl)) (fun _ _ _ h => h) (Or.inl ⟨by rfl, ?_⟩) ?_ ?_; rotate_left
           · intro w'; go_simp; with_reducible rfl
           rotate_left
           · simp only [Act.put, R.sa, R.sb, R.sc, i64_w, i32_w]; rfl
           refine pure_ (i := 27) (N := some 38) (v := undef) (a' := ?_) (R.tf 28 6) rfl rfl (any_of HT_.out (by kernel_rfl)) (fun _ _ _ h => h) (Or.inr ⟨by rfl, rfl⟩) ?_ ?_; rotate_left
           · simp only [Act.put, R.sa, R.sb, R.sc, i64_w, i32_w]; rfl
           refine pure_ (i := 28) (N := some 39) (v := undef) (a' := ?_) (R.tf 29 5) rfl rfl (any_of HT_.out (by kernel_rfl)) (fun _ _ _ h => h) (Or.inr ⟨by rfl, rfl⟩) ?_ ?_; rotate_left
           · simp only [Act.put, R.sa, R.sb, R.sc, i64_w, i32_w]; rfl
           refine pure_ (i := 29) (N := some 40) (v := undef) (a' := ?_) (R.tf 30 4) rfl rfl (any_of HT_.out (by kernel_rfl)) (fun _ _ _ h => h) (Or.inr ⟨by rfl, rfl⟩) ?_ ?_; rotate_left
           · simp only [Act.put, R.sa, R.sb, R.sc, i64_w, i32_w]; rfl
           refine pure_ (i := 30) (N := some 41) (v := undef) (a' := ?_) (R.tf 31 3) rfl rfl (any_of HT_.out (by kernel_rfl)) (fun _ _ _ h => h) (Or.inr ⟨by rfl, rfl⟩) ?_ ?_; rotate_left
           · simp only [Act.put, R.sa, R.sb, R.sc, i64_w, i32_w]; rfl
           refine pure_ (i := 31) (N := some 42) (v := undef) (a' := ?_) (R.tf 32 2) rfl rfl (any_of HT_.out (by kernel_rfl)) (fun _ _ _ h => h) (Or.inr ⟨by rfl, rfl⟩) ?_ ?_; rotate_left
           · simp only [Act.put, R.sa, R.sb, R.sc, i64_w, i32_w]; rfl
           refine pure_ (i := 32) (N := some 43) (v := undef) (a' := ?_) (R.tf 33 1) rfl rfl (any_of HT_.out (by kernel_rfl)) (fun _ _ _ h => h) (Or.inr ⟨by rfl, rfl⟩) ?_ ?_; rotate_left
           · simp only [Act.put, R.sa, R.sb, R.sc, i64_w, i32_w]; rfl
           refine pure_ (i := 33) (N := some 44) (v := ?_) (a' := ?_) (R.tf 34 0) rfl rfl (any_of HT_.out (by kernel_rfl)) (fun _ _ _ h => h) (Or.inl ⟨by rfl, ?_⟩) ?_ ?_; rotate_left
           · intro w'; go_simp; with_reducible rfl
           rotate_left
           · simp only [Act.put, R.sa, R.sb, R.sc, i64_w, i32_w]; rfl
           refine done_ (done_of HT_.out (by kernel_rfl)) ?_; try go_wp2
           go_ret
           exact ⟨by first | rfl | (simp [errW_none, errW_some] <;> rfl) | (simp [*, errW_none, errW_some] <;> rfl), by repeat (first | (with_reducible first | exact HB.out | apply below_alloc | apply pw_below_drewN | apply below_drew1 | refine below_set ?_ GE943.out) | exact HB.out)⟩
       · rw [if_neg c4] at H; exact absurd H (by simp)
     · rw [if_neg c3] at H; exact absurd H (by simp)
   · rw [if_neg c2] at H; have c2b0 : decide (x7_1 < (l0.length : Int)) = false := decide_eq_false c2; clear c2; obtain rfl := Option.some.inj H; go_wp2
     go_ret
     exact ⟨by first | rfl | (simp [errW_none, errW_some] <;> rfl) | (simp [*, errW_none, errW_some] <;> rfl), by repeat (first | (with_reducible first | exact HB.out | apply below_alloc | apply pw_below_drewN | apply below_drew1) | exact HB.out)⟩
end Go.Proofs.YtabfehcpcjcomaaGreatDoor.QA0
