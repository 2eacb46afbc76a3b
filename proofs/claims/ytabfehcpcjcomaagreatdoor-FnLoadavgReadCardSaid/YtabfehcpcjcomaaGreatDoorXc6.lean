/- The texts QA0x16, without what the claims do not use, laid together by a program of this session (wip/tools/bundle.py). Conditions: those of each theorem. -/
import Derived.Test.YtabfehcpcjcomaaGreatDoorXc2
namespace Go.Proofs.YtabfehcpcjcomaaGreatDoor.QA0
open Go.RowKit Go.Proofs.YtabfehcpcjcomaaGreatDoorW.PrintWords Go.Proofs.YtabfehcpcjcomaaGreatDoorW.PrintLast Go.Proofs.YtabfehcpcjcomaaGreatDoorW.PrintMore
attribute [local go_sem] max2_int min2_int max_two min_two max_three min_three max_four min_four
set_option linter.unusedVariables false
set_option linter.unusedSimpArgs false
mutual
def laws_toNode.l0 : Nat → List (S34) → Int → Int → ByteArray → Int → Bool → Int → Int → Nat → ByteArray → List (S38) → Option (ByteArray × Int × Bool × Int × Int × Nat × ByteArray × (List (S38)))
 | 0, _, _, _, _, _, _, _, _, _, _, _ => none
 | k + 1, x22, x23, x24, x695000, x695001, x695002, x695003, x695004, x695005, x695006, x695007 => if x24 < x23 then (if 0 ≤ x24 then (if x24 < (x22.length : Int) then ((laws_toNode.f k ((rd_T34 x22 x24).f0) ((rd_T34 x22 x24).f1) ((rd_T34 x22 x24).f2) ((rd_T34 x22 x24).f3) ((rd_T34 x22 x24).f4) ((rd_T34 x22 x24).f5) ((rd_T34 x22 x24).f6) ((rd_T34 x22 x24).f7)).bind fun bt697 => (if x695007.length < 1466015503701 then (laws_toNode.l0 k x22 x23 (wrap64 (x24 + 1)) x695000 x695001 x695002 x695003 x695004 x695005 x695006 (x695007 ++ [(⟨bt697.1, bt697.2.1, bt697.2.2.1, bt697.2.2.2.1, bt697.2.2.2.2.1, bt697.2.2.2.2.2.1, bt697.2.2.2.2.2.2.1, bt697.2.2.2.2.2.2.2⟩ : S38)])) else (none))) else (none)) else (none)) else (some (x695000, x695001, x695002, x695003, x695004, x695005, x695006, x695007))
def laws_toNode.f : Nat → ByteArray → Int → Bool → Int → Int → Nat → ByteArray → List (S34) → Option (ByteArray × Int × Bool × Int × Int × Nat × ByteArray × (List (S38)))
 | 0, _, _, _, _, _, _, _, _ => none
 | k + 1, a0_0, a0_1, a0_2, a0_3, a0_4, a0_5, a0_6, l0_7 => laws_toNode.l0 k l0_7 (l0_7.length : Int) 0 a0_0 a0_1 a0_2 a0_3 a0_4 a0_5 a0_6 ([] : List (S38))
end
def laws_toNode.T5 : Bool × List (List Nat × List Nat) := (true, [([], []), ([0], [0]), ([], []), ([2], [2]), ([3], [3]), ([1, 4, 3], [1, 4]), ([0, 1, 2, 3, 4, 5], []), ([6, 5, 5, 0, 1, 2, 3, 4, 5], [5, 6])])
def laws_toNode.B5 : List Nat := [0, 1, 0, 4, 12, 31, 63, 127]
theorem laws_toNode.tab5 : rtab .any (opsOf Tryz.f30 5) = laws_toNode.T5 := by kernel_rfl
theorem laws_toNode.bits5 : waitsOk laws_toNode.T5.2 laws_toNode.B5 = true := by kernel_rfl
set_option maxHeartbeats 8000000 in
set_option maxRecDepth 100000 in
theorem laws_toNode.calls (k : Nat) : ∀ (a0_0 : ByteArray) (a0_1 : Int) (a0_2 : Bool) (a0_3 : Int) (a0_4 : Int) (a0_5 : Nat) (a0_6 : ByteArray) (A0_7 : Option Addr) (c0_7 : Nat) (l0_7 : List (S34)) (r1 : ByteArray) (r2 : Int) (r3 : Bool) (r4 : Int) (r5 : Int) (r6 : Nat) (r7 : ByteArray) (r8 : List (S38)) (w : World) (hr0_7 : Kd.C k34 w A0_7 l0_7.length l0_7) (hc0_7 : l0_7.length ≤ c0_7) (h : laws_toNode.f k a0_0 a0_1 a0_2 a0_3 a0_4 a0_5 a0_6 l0_7 = some (r1, r2, r3, r4, r5, r6, r7, r8)),
 Calls Tryz.prog 30 #[.agg #[.string a0_0, .int .i64 a0_1, .bool a0_2, .int .i64 a0_3, .int .u64 a0_4, .float .f64 a0_5, .string a0_6, .slice A0_7 l0_7.length c0_7]] w fun e w' => ∃ v7_ : Value, e = .returned (.agg #[.string r1, .int .i64 r2, .bool r3, .int .i64 r4, .int .u64 r5, .float .f64 r6, .string r7, v7_]) ∧ Kd.R k38 38 w' w.heap.size (fun _ => True) v7_ r8 ∧ Below w.heap.size w w' := by
 induction k using Nat.strongRecOn with
 | _ k ih =>
 intro a0_0 a0_1 a0_2 a0_3 a0_4 a0_5 a0_6 A0_7 c0_7 l0_7 r1 r2 r3 r4 r5 r6 r7 r8 w hr0_7 hc0_7 h
 cases k with
 | zero => exact absurd h (by simp [laws_toNode.f])
 | succ k =>
 simp only [laws_toNode.f] at h
 have hu34 := Tryz.underlying34
 have hu38 := Tryz.underlying38
 have HR0_7 := Aside0.mk hr0_7
 have HC0_7 := Aside0.mk hc0_7
 clear hr0_7 hc0_7
 have HB := Aside0.mk (Below.refl w.heap.size w)
 have H : (laws_toNode.l0 k l0_7 (l0_7.length : Int) 0 a0_0 a0_1 a0_2 a0_3 a0_4 a0_5 a0_6 ([] : List (S38))) = some (r1, r2, r3, r4, r5, r6, r7, r8) := h
 clear h
 have H' := Aside0.mk H
 clear H
 go_enter Tryz.func30, Tryz.ntmps30
 go_wp2_with (first | ((with_reducible refine gate_dst (N := 1) rfl ?_); refine box_event ?hg (N := 1) ?hd (cs := #[.string a0_0, .int .i64 a0_1, .bool a0_2, .int .i64 a0_3, .int .u64 a0_4, .float .f64 a0_5, .string a0_6, .slice A0_7 l0_7.length c0_7]) (t := 34) ?hr ?_; (case hd => rfl); (case hg => rfl); (case hr => first | (go_simp; done) | (go_simp; rfl)); intro gb692 hg w2 hbox hb; have n0_ := Aside0.mk (below_step (by repeat (first | (with_reducible first | exact HB.out | apply below_alloc | apply pw_below_drewN | apply below_drew1) | exact HB.out)) hb); have n1_ := Aside0.mk (hbox); have n2_ := Aside0.mk ((by rw [hg]; exact (below_size (by repeat (first | (with_reducible first | exact HB.out | apply below_alloc | apply pw_below_drewN | apply below_drew1) | exact HB.out))) : w.heap.size ≤ gb692)); have n3_ := Aside0.mk ((by rw [hg]; exact (below_size (by repeat (first | (with_reducible first | exact HB.out | apply below_alloc | apply pw_below_drewN | apply below_drew1) | exact HB.out))) : w.heap.size ≤ gb692)); clear HB; have HB := n0_; have BK692 := n1_; have GW692 := n2_; have GE692 := n3_; clear n0_ n1_ n2_ n3_; clear hb hbox hg) | ((with_reducible refine gate_dst (N := 2) rfl ?_); refine box_event ?hg (N := 2) ?hd (cs := #[.string (⟨#[]⟩ : ByteArray), .int .i64 0, .bool false, .int .i64 0, .int .u64 0, .float .f64 0, .string (⟨#[]⟩ : ByteArray), .slice none 0 0]) (t := 38) ?hr ?_; (case hd => rfl); (case hg => rfl); (case hr => first | (go_simp; done) | (go_simp; rfl)); intro gb693 hg w3 hbox hb; have n0_ := Aside0.mk (blk_below (g := gb692) (o := .cells #[.string a0_0, .int .i64 a0_1, .bool a0_2, .int .i64 a0_3, .int .u64 a0_4, .float .f64 a0_5, .string a0_6, .slice A0_7 l0_7.length c0_7] 34 (0, 0)) (by (with_reducible repeat (first | refine blk_drewN ?_ _ | refine blk_drew ?_ | refine blk_alloc ?_ _)); exact BK692.out) hb); have n1_ := Aside0.mk (below_step (by repeat (first | (with_reducible first | exact HB.out | apply below_alloc | apply pw_below_drewN | apply below_drew1 | refine below_set ?_ GE692.out) | exact HB.out)) hb); have n2_ := Aside0.mk (hbox); have n3_ := Aside0.mk ((by rw [hg]; exact (below_size (by repeat (first | (with_reducible first | exact HB.out | apply below_alloc | apply pw_below_drewN | apply below_drew1 | refine below_set ?_ GE692.out) | exact HB.out))) : w.heap.size ≤ gb693)); have n4_ := Aside0.mk ((by rw [hg]; exact (below_size (by repeat (first | (with_reducible first | exact HB.out | apply below_alloc | apply pw_below_drewN | apply below_drew1 | refine below_set ?_ GE692.out) | exact HB.out))) : w.heap.size ≤ gb693)); have n5_ := Aside0.mk ((by rw [hg]; exact Nat.ne_of_lt (blk_lt (g := gb692) (o := .cells #[.string a0_0, .int .i64 a0_1, .bool a0_2, .int .i64 a0_3, .int .u64 a0_4, .float .f64 a0_5, .string a0_6, .slice A0_7 l0_7.length c0_7] 34 (0, 0)) (by (with_reducible repeat (first | refine blk_drewN ?_ _ | refine blk_drew ?_ | refine blk_alloc ?_ _)); exact BK692.out)) : gb692 ≠ gb693)); have n6_ := Aside0.mk ((by rw [hg]; exact Nat.ne_of_gt (blk_lt (g := gb692) (o := .cells #[.string a0_0, .int .i64 a0_1, .bool a0_2, .int .i64 a0_3, .int .u64 a0_4, .float .f64 a0_5, .string a0_6, .slice A0_7 l0_7.length c0_7] 34 (0, 0)) (by (with_reducible repeat (first | refine blk_drewN ?_ _ | refine blk_drew ?_ | refine blk_alloc ?_ _)); exact BK692.out)) : gb693 ≠ gb692)); clear BK692; clear HB; have BK692 := n0_; have HB := n1_; have BK693 := n2_; have GW693 := n3_; have GE693 := n4_; have NB692_693 := n5_; have NB693_692 := n6_; clear n0_ n1_ n2_ n3_ n4_ n5_ n6_; clear hb hbox hg; have hnb4 := NB692_693.out; have hnc4 := NB693_692.out; have hcz5_0 : w3.cell? ⟨gb692, 0, none⟩ = some (.string a0_0) := (blk_cell BK692.out 0).trans rfl; have hcz5_1 : w3.cell? ⟨gb692, 1, none⟩ = some (.int .i64 a0_1) := (blk_cell BK692.out 1).trans rfl; have hcz5_2 : w3.cell? ⟨gb692, 2, none⟩ = some (.bool a0_2) := (blk_cell BK692.out 2).trans rfl; have hcz5_3 : w3.cell? ⟨gb692, 3, none⟩ = some (.int .i64 a0_3) := (blk_cell BK692.out 3).trans rfl; have hcz5_4 : w3.cell? ⟨gb692, 4, none⟩ = some (.int .u64 a0_4) := (blk_cell BK692.out 4).trans rfl; have hcz5_5 : w3.cell? ⟨gb692, 5, none⟩ = some (.float .f64 a0_5) := (blk_cell BK692.out 5).trans rfl; have hcz5_6 : w3.cell? ⟨gb692, 6, none⟩ = some (.string a0_6) := (blk_cell BK692.out 6).trans rfl; have hcz5_7 : w3.cell? ⟨gb692, 7, none⟩ = some (.slice A0_7 l0_7.length c0_7) := (blk_cell BK692.out 7).trans rfl; have hfz5_0 := blk_frozen BK692.out 0; have hfz5_1 := blk_frozen BK692.out 1; have hfz5_2 := blk_frozen BK692.out 2; have hfz5_3 := blk_frozen BK692.out 3; have hfz5_4 := blk_frozen BK692.out 4; have hfz5_5 := blk_frozen BK692.out 5; have hfz5_6 := blk_frozen BK692.out 6; have hfz5_7 := blk_frozen BK692.out 7) | ((with_reducible refine gate_dst (N := 3) rfl ?_); refine box_event ?hg (N := 3) ?hd (cs := #[.string (⟨#[]⟩ : ByteArray), .int .i64 0, .bool false, .int .i64 0, .int .u64 0, .float .f64 0, .string (⟨#[]⟩ : ByteArray), .slice none 0 0]) (t := 38) ?hr ?_; (case hd => rfl); (case hg => rfl); (case hr => first | (go_simp; done) | (go_simp; rfl)); intro gb694 hg w6 hbox hb; have n0_ := Aside0.mk (blk_below (g := gb692) (o := .cells #[.string a0_0, .int .i64 a0_1, .bool a0_2, .int .i64 a0_3, .int .u64 a0_4, .float .f64 a0_5, .string a0_6, .slice A0_7 l0_7.length c0_7] 34 (0, 0)) (by (with_reducible repeat (first | refine blk_drewN ?_ _ | refine blk_drew ?_ | refine blk_alloc ?_ _)); exact BK692.out) hb); have n1_ := Aside0.mk (blk_below (g := gb693) (o := .cells #[.string (⟨#[]⟩ : ByteArray), .int .i64 0, .bool false, .int .i64 0, .int .u64 0, .float .f64 0, .string (⟨#[]⟩ : ByteArray), .slice none 0 0] 38 (0, 0)) (by (with_reducible repeat (first | refine blk_drewN ?_ _ | refine blk_drew ?_ | refine blk_alloc ?_ _)); exact BK693.out) hb); have n2_ := Aside0.mk (below_step (by repeat (first | (with_reducible first | exact HB.out | apply below_alloc | apply pw_below_drewN | apply below_drew1 | refine below_set ?_ GE692.out | refine below_set ?_ GE693.out) | exact HB.out)) hb); have n3_ := Aside0.mk (hbox); have n4_ := Aside0.mk ((by rw [hg]; exact (below_size (by repeat (first | (with_reducible first | exact HB.out | apply below_alloc | apply pw_below_drewN | apply below_drew1 | refine below_set ?_ GE692.out | refine below_set ?_ GE693.out) | exact HB.out))) : w.heap.size ≤ gb694)); have n5_ := Aside0.mk ((by rw [hg]; exact (below_size (by repeat (first | (with_reducible first | exact HB.out | apply below_alloc | apply pw_below_drewN | apply below_drew1 | refine below_set ?_ GE692.out | refine below_set ?_ GE693.out) | exact HB.out))) : w.heap.size ≤ gb694)); have n6_ := Aside0.mk ((by rw [hg]; exact Nat.ne_of_lt (blk_lt (g := gb692) (o := .cells #[.string a0_0, .int .i64 a0_1, .bool a0_2, .int .i64 a0_3, .int .u64 a0_4, .float .f64 a0_5, .string a0_6, .slice A0_7 l0_7.length c0_7] 34 (0, 0)) (by (with_reducible repeat (first | refine blk_drewN ?_ _ | refine blk_drew ?_ | refine blk_alloc ?_ _)); exact BK692.out)) : gb692 ≠ gb694)); have n7_ := Aside0.mk ((by rw [hg]; exact Nat.ne_of_gt (blk_lt (g := gb692) (o := .cells #[.string a0_0, .int .i64 a0_1, .bool a0_2, .int .i64 a0_3, .int .u64 a0_4, .float .f64 a0_5, .string a0_6, .slice A0_7 l0_7.length c0_7] 34 (0, 0)) (by (with_reducible repeat (first | refine blk_drewN ?_ _ | refine blk_drew ?_ | refine blk_alloc ?_ _)); exact BK692.out)) : gb694 ≠ gb692)); have n8_ := Aside0.mk ((by rw [hg]; exact Nat.ne_of_lt (blk_lt (g := gb693) (o := .cells #[.string (⟨#[]⟩ : ByteArray), .int .i64 0, .bool false, .int .i64 0, .int .u64 0, .float .f64 0, .string (⟨#[]⟩ : ByteArray), .slice none 0 0] 38 (0, 0)) (by (with_reducible repeat (first | refine blk_drewN ?_ _ | refine blk_drew ?_ | refine blk_alloc ?_ _)); exact BK693.out)) : gb693 ≠ gb694)); have n9_ := Aside0.mk ((by rw [hg]; exact Nat.ne_of_gt (blk_lt (g := gb693) (o := .cells #[.string (⟨#[]⟩ : ByteArray), .int .i64 0, .bool false, .int .i64 0, .int .u64 0, .float .f64 0, .string (⟨#[]⟩ : ByteArray), .slice none 0 0] 38 (0, 0)) (by (with_reducible repeat (first | refine blk_drewN ?_ _ | refine blk_drew ?_ | refine blk_alloc ?_ _)); exact BK693.out)) : gb694 ≠ gb693)); clear BK692; clear BK693; clear HB; have BK692 := n0_; have BK693 := n1_; have HB := n2_; have BK694 := n3_; have GW694 := n4_; have GE694 := n5_; have NB692_694 := n6_; have NB694_692 := n7_; have NB693_694 := n8_; have NB694_693 := n9_; clear n0_ n1_ n2_ n3_ n4_ n5_ n6_ n7_ n8_ n9_; clear hb hbox hg; have hnb7 := NB694_692.out; have hnc7 := NB692_694.out; have hnb8 := NB694_693.out; have hnc8 := NB693_694.out; have hcz9_0 : w6.cell? ⟨gb694, 0, none⟩ = some (.string (⟨#[]⟩ : ByteArray)) := (blk_cell BK694.out 0).trans rfl; have hcz9_1 : w6.cell? ⟨gb694, 1, none⟩ = some (.int .i64 0) := (blk_cell BK694.out 1).trans rfl; have hcz9_2 : w6.cell? ⟨gb694, 2, none⟩ = some (.bool false) := (blk_cell BK694.out 2).trans rfl; have hcz9_3 : w6.cell? ⟨gb694, 3, none⟩ = some (.int .i64 0) := (blk_cell BK694.out 3).trans rfl; have hcz9_4 : w6.cell? ⟨gb694, 4, none⟩ = some (.int .u64 0) := (blk_cell BK694.out 4).trans rfl; have hcz9_5 : w6.cell? ⟨gb694, 5, none⟩ = some (.float .f64 0) := (blk_cell BK694.out 5).trans rfl; have hcz9_6 : w6.cell? ⟨gb694, 6, none⟩ = some (.string (⟨#[]⟩ : ByteArray)) := (blk_cell BK694.out 6).trans rfl; have hcz9_7 : w6.cell? ⟨gb694, 7, none⟩ = some (.slice none 0 0) := (blk_cell BK694.out 7).trans rfl; have hfz9_0 := blk_frozen BK694.out 0; have hfz9_1 := blk_frozen BK694.out 1; have hfz9_2 := blk_frozen BK694.out 2; have hfz9_3 := blk_frozen BK694.out 3; have hfz9_4 := blk_frozen BK694.out 4; have hfz9_5 := blk_frozen BK694.out 5; have hfz9_6 := blk_frozen BK694.out 6; have hfz9_7 := blk_frozen BK694.out 7; have hcz10_0 : w6.cell? ⟨gb692, 0, none⟩ = some (.string a0_0) := (blk_cell BK692.out 0).trans rfl; have hcz10_1 : w6.cell? ⟨gb692, 1, none⟩ = some (.int .i64 a0_1) := (blk_cell BK692.out 1).trans rfl; have hcz10_2 : w6.cell? ⟨gb692, 2, none⟩ = some (.bool a0_2) := (blk_cell BK692.out 2).trans rfl; have hcz10_3 : w6.cell? ⟨gb692, 3, none⟩ = some (.int .i64 a0_3) := (blk_cell BK692.out 3).trans rfl; have hcz10_4 : w6.cell? ⟨gb692, 4, none⟩ = some (.int .u64 a0_4) := (blk_cell BK692.out 4).trans rfl; have hcz10_5 : w6.cell? ⟨gb692, 5, none⟩ = some (.float .f64 a0_5) := (blk_cell BK692.out 5).trans rfl; have hcz10_6 : w6.cell? ⟨gb692, 6, none⟩ = some (.string a0_6) := (blk_cell BK692.out 6).trans rfl; have hcz10_7 : w6.cell? ⟨gb692, 7, none⟩ = some (.slice A0_7 l0_7.length c0_7) := (blk_cell BK692.out 7).trans rfl; have hfz10_0 := blk_frozen BK692.out 0; have hfz10_1 := blk_frozen BK692.out 1; have hfz10_2 := blk_frozen BK692.out 2; have hfz10_3 := blk_frozen BK692.out 3; have hfz10_4 := blk_frozen BK692.out 4; have hfz10_5 := blk_frozen BK692.out 5; have hfz10_6 := blk_frozen BK692.out 6; have hfz10_7 := blk_frozen BK692.out 7))
 go_loopg [24] k (fun kq v24 w' => ∃ (x24_1 : Int) (x695007_1 : List (S38)) (u695007 : Value), v24 = .int .i64 x24_1 ∧ Aside0 (laws_toNode.l0 kq l0_7 (l0_7.length : Int) x24_1 a0_0 a0_1 a0_2 a0_3 a0_4 a0_5 a0_6 x695007_1 = some (r1, r2, r3, r4, r5, r6, r7, r8)) ∧ Aside0 (kq ≤ k) ∧ Aside0 (Kd.R k38 38 w' w.heap.size (fun k_ => k_ ≠ gb693 ∧ k_ ≠ gb694) u695007 x695007_1) ∧ Aside0 (w'.heap[gb692]? = some (.cells #[.string a0_0, .int .i64 a0_1, .bool a0_2, .int .i64 a0_3, .int .u64 a0_4, .float .f64 a0_5, .string a0_6, (.slice A0_7 l0_7.length c0_7)] 34 (0, 0))) ∧ Aside0 (w'.heap[gb693]? = some (.cells #[.string (⟨#[]⟩ : ByteArray), .int .i64 0, .bool false, .int .i64 0, .int .u64 0, .float .f64 0, .string (⟨#[]⟩ : ByteArray), (.slice none 0 0)] 38 (0, 0))) ∧ Aside0 (w'.heap[gb694]? = some (.cells #[.string a0_0, .int .i64 a0_1, .bool a0_2, .int .i64 a0_3, .int .u64 a0_4, .float .f64 a0_5, .string a0_6, u695007] 38 (0, 0))) ∧ Aside0 (Below w.heap.size w w'))
 case atStart => exact ⟨(0), (([] : List (S38))), (.slice none 0 0), (by first | rfl | (simp; done) | (simp [*]; done)), H', ⟨Nat.le_refl _⟩, ⟨by first | exact Kd.R_nil _ _ _ _ _ | exact Kd.N_nil _ _ _ _ _ | exact Kd.V_nil _ _ _ _ _ | exact Kd.Q_nil _ _ _ _ _ | exact Kd.S_nil _ _ _ _ _⟩, ⟨by (with_reducible repeat (first | refine blk_drewN ?_ _ | refine blk_drew ?_ | refine blk_alloc ?_ _)); refine blk_far ?_ NB692_694.out _; (with_reducible repeat (first | refine blk_drewN ?_ _ | refine blk_drew ?_ | refine blk_alloc ?_ _)); refine blk_far ?_ NB692_694.out _; (with_reducible repeat (first | refine blk_drewN ?_ _ | refine blk_drew ?_ | refine blk_alloc ?_ _)); refine blk_far ?_ NB692_694.out _; (with_reducible repeat (first | refine blk_drewN ?_ _ | refine blk_drew ?_ | refine blk_alloc ?_ _)); refine blk_far ?_ NB692_694.out _; (with_reducible repeat (first | refine blk_drewN ?_ _ | refine blk_drew ?_ | refine blk_alloc ?_ _)); refine blk_far ?_ NB692_694.out _; (with_reducible repeat (first | refine blk_drewN ?_ _ | refine blk_drew ?_ | refine blk_alloc ?_ _)); refine blk_far ?_ NB692_694.out _; (with_reducible repeat (first | refine blk_drewN ?_ _ | refine blk_drew ?_ | refine blk_alloc ?_ _)); refine blk_far ?_ NB692_694.out _; (with_reducible repeat (first | refine blk_drewN ?_ _ | refine blk_drew ?_ | refine blk_alloc ?_ _)); refine blk_far ?_ NB692_694.out _; (with_reducible repeat (first | refine blk_drewN ?_ _ | refine blk_drew ?_ | refine blk_alloc ?_ _)); exact BK692.out⟩, ⟨by (with_reducible repeat (first | refine blk_drewN ?_ _ | refine blk_drew ?_ | refine blk_alloc ?_ _)); refine blk_far ?_ NB693_694.out _; (with_reducible repeat (first | refine blk_drewN ?_ _ | refine blk_drew ?_ | refine blk_alloc ?_ _)); refine blk_far ?_ NB693_694.out _; (with_reducible repeat (first | refine blk_drewN ?_ _ | refine blk_drew ?_ | refine blk_alloc ?_ _)); refine blk_far ?_ NB693_694.out _; (with_reducible repeat (first | refine blk_drewN ?_ _ | refine blk_drew ?_ | refine blk_alloc ?_ _)); refine blk_far ?_ NB693_694.out _; (with_reducible repeat (first | refine blk_drewN ?_ _ | refine blk_drew ?_ | refine blk_alloc ?_ _)); refine blk_far ?_ NB693_694.out _; (with_reducible repeat (first | refine blk_drewN ?_ _ | refine blk_drew ?_ | refine blk_alloc ?_ _)); refine blk_far ?_ NB693_694.out _; (with_reducible repeat (first | refine blk_drewN ?_ _ | refine blk_drew ?_ | refine blk_alloc ?_ _)); refine blk_far ?_ NB693_694.out _; (with_reducible repeat (first | refine blk_drewN ?_ _ | refine blk_drew ?_ | refine blk_alloc ?_ _)); refine blk_far ?_ NB693_694.out _; (with_reducible repeat (first | refine blk_drewN ?_ _ | refine blk_drew ?_ | refine blk_alloc ?_ _)); exact BK693.out⟩, ⟨by (with_reducible repeat (first | refine blk_drewN ?_ _ | refine blk_drew ?_ | refine blk_alloc ?_ _)); refine blk_put (cs := #[.string a0_0, .int .i64 a0_1, .bool a0_2, .int .i64 a0_3, .int .u64 a0_4, .float .f64 a0_5, .string a0_6, .slice none 0 0]) ?_ 7 _ rfl; (with_reducible repeat (first | refine blk_drewN ?_ _ | refine blk_drew ?_ | refine blk_alloc ?_ _)); refine blk_put (cs := #[.string a0_0, .int .i64 a0_1, .bool a0_2, .int .i64 a0_3, .int .u64 a0_4, .float .f64 a0_5, .string (⟨#[]⟩ : ByteArray), .slice none 0 0]) ?_ 6 _ rfl; (with_reducible repeat (first | refine blk_drewN ?_ _ | refine blk_drew ?_ | refine blk_alloc ?_ _)); refine blk_put (cs := #[.string a0_0, .int .i64 a0_1, .bool a0_2, .int .i64 a0_3, .int .u64 a0_4, .float .f64 0, .string (⟨#[]⟩ : ByteArray), .slice none 0 0]) ?_ 5 _ rfl; (with_reducible repeat (first | refine blk_drewN ?_ _ | refine blk_drew ?_ | refine blk_alloc ?_ _)); refine blk_put (cs := #[.string a0_0, .int .i64 a0_1, .bool a0_2, .int .i64 a0_3, .int .u64 0, .float .f64 0, .string (⟨#[]⟩ : ByteArray), .slice none 0 0]) ?_ 4 _ rfl; (with_reducible repeat (first | refine blk_drewN ?_ _ | refine blk_drew ?_ | refine blk_alloc ?_ _)); refine blk_put (cs := #[.string a0_0, .int .i64 a0_1, .bool a0_2, .int .i64 0, .int .u64 0, .float .f64 0, .string (⟨#[]⟩ : ByteArray), .slice none 0 0]) ?_ 3 _ rfl; (with_reducible repeat (first | refine blk_drewN ?_ _ | refine blk_drew ?_ | refine blk_alloc ?_ _)); refine blk_put (cs := #[.string a0_0, .int .i64 a0_1, .bool false, .int .i64 0, .int .u64 0, .float .f64 0, .string (⟨#[]⟩ : ByteArray), .slice none 0 0]) ?_ 2 _ rfl; (with_reducible repeat (first | refine blk_drewN ?_ _ | refine blk_drew ?_ | refine blk_alloc ?_ _)); refine blk_put (cs := #[.string a0_0, .int .i64 0, .bool false, .int .i64 0, .int .u64 0, .float .f64 0, .string (⟨#[]⟩ : ByteArray), .slice none 0 0]) ?_ 1 _ rfl; (with_reducible repeat (first | refine blk_drewN ?_ _ | refine blk_drew ?_ | refine blk_alloc ?_ _)); refine blk_put (cs := #[.string (⟨#[]⟩ : ByteArray), .int .i64 0, .bool false, .int .i64 0, .int .u64 0, .float .f64 0, .string (⟨#[]⟩ : ByteArray), .slice none 0 0]) ?_ 0 _ rfl; (with_reducible repeat (first | refine blk_drewN ?_ _ | refine blk_drew ?_ | refine blk_alloc ?_ _)); exact BK694.out⟩, ⟨by repeat (first | (with_reducible first | exact HB.out | apply below_alloc | apply pw_below_drewN | apply below_drew1 | refine below_set ?_ GE692.out | refine below_set ?_ GE693.out | refine below_set ?_ GE694.out) | exact HB.out)⟩⟩
 case round =>
  clear H'
  try clear p2
  try clear c3
  try clear c4
  try clear c7
  try clear c8
  try clear hcz10_0
  try clear hcz10_1
  try clear hcz10_2
  try clear hcz10_3
  try clear hcz10_4
  try clear hcz10_5
  try clear hcz10_6
  try clear hcz10_7
  try clear hcz5_0
  try clear hcz5_1
  try clear hcz5_2
  try clear hcz5_3
  try clear hcz5_4
  try clear hcz5_5
  try clear hcz5_6
  try clear hcz5_7
  try clear hcz9_0
  try clear hcz9_1
  try clear hcz9_2
  try clear hcz9_3
  try clear hcz9_4
  try clear hcz9_5
  try clear hcz9_6
  try clear hcz9_7
  try clear hfz10_0
  try clear hfz10_1
  try clear hfz10_2
  try clear hfz10_3
  try clear hfz10_4
  try clear hfz10_5
  try clear hfz10_6
  try clear hfz10_7
  try clear hfz5_0
  try clear hfz5_1
  try clear hfz5_2
  try clear hfz5_3
  try clear hfz5_4
  try clear hfz5_5
  try clear hfz5_6
  try clear hfz5_7
  try clear hfz9_0
  try clear hfz9_1
  try clear hfz9_2
  try clear hfz9_3
  try clear hfz9_4
  try clear hfz9_5
  try clear hfz9_6
  try clear hfz9_7
  obtain ⟨x24_1, x695007_1, u695007, rfl, HA, HK1, HO_695007, BK692, BK693, BK694, HB⟩ := hrel
  cases gk with
  | zero => exact absurd HA.out (by simp [laws_toNode.l0])
  | succ k1 =>
   have H := HA.out
   clear HA
   simp only [laws_toNode.l0] at H
   by_cases c11 : x24_1 < (l0_7.length : Int)
   · rw [if_pos c11] at H
     have c11b0 : decide (x24_1 < (l0_7.length : Int)) = true := decide_eq_true c11
     clear c11
     by_cases c12 : 0 ≤ x24_1
     · rw [if_pos c12] at H
       have c12b0 : decide (0 ≤ x24_1) = true := decide_eq_true c12
       clear c12
       by_cases c13 : x24_1 < (l0_7.length : Int)
       · rw [if_pos c13] at H
         have c13b0 : decide (x24_1 < (l0_7.length : Int)) = true := decide_eq_true c13
         clear c13
         replace H := Option.bind_eq_some_iff.mp H
         obtain ⟨⟨t697, t698, t699, t700, t701, t702, t703, t704⟩, A140, H⟩ := H
         replace H : (if x695007_1.length < 1466015503701 then (laws_toNode.l0 k1 l0_7 (l0_7.length : Int) (wrap64 (x24_1 + 1)) a0_0 a0_1 a0_2 a0_3 a0_4 a0_5 a0_6 (x695007_1 ++ [(⟨t697, t698, t699, t700, t701, t702, t703, t704⟩ : S38)])) else (none)) = some (r1, r2, r3, r4, r5, r6, r7, r8) := H
         have A14 := Aside0.mk A140
         clear A140
         by_cases c15 : x695007_1.length < 1466015503701
         · rw [if_pos c15] at H
           have LMc15 := Aside0.mk c15
           clear c15
           obtain ⟨y707, hy707⟩ : ∃ y_ : List (S38), y_ = (x695007_1 ++ [(⟨t697, t698, t699, t700, t701, t702, t703, t704⟩ : S38)]) := ⟨_, rfl⟩
           replace H : (laws_toNode.l0 k1 l0_7 (l0_7.length : Int) (wrap64 (x24_1 + 1)) a0_0 a0_1 a0_2 a0_3 a0_4 a0_5 a0_6 y707) = some (r1, r2, r3, r4, r5, r6, r7, r8) := by first | (rw [hy707]; with_reducible exact H) | (have H2_ := (Option.bind_some _ _).symm.trans H; rw [hy707]; with_reducible exact H2_) | (have H2_ := (Option.bind_some _ _).symm.trans H; with_reducible exact H2_) | with_reducible exact H | (rw [hy707]; exact H) | exact H
           have Ny707 := Aside0.mk hy707
           clear hy707
           have H' := Aside0.mk H
           clear H
           have p695 : 0 ≤ (x24_1 : Int) := of_decide_eq_true (by first | (with_reducible assumption) | assumption)
           have q695 : x24_1 < (l0_7.length : Int) := of_decide_eq_true (by first | (with_reducible assumption) | assumption)
           obtain ⟨ad695, A695_7, c695_7, e695, hx695_0, hx695_1, hx695_2, hx695_3, hx695_4, hx695_5, hx695_6, hx695_7, hl695_7, hi695_7⟩ := at_T34 HR0_7.out x24_1 p695 q695
           cases e695
           replace hx695_0 := (HB.out.cell (World.block_lt_of_cell? w _ hx695_0)).trans hx695_0
           replace hx695_1 := (HB.out.cell (World.block_lt_of_cell? w _ hx695_1)).trans hx695_1
           replace hx695_2 := (HB.out.cell (World.block_lt_of_cell? w _ hx695_2)).trans hx695_2
           replace hx695_3 := (HB.out.cell (World.block_lt_of_cell? w _ hx695_3)).trans hx695_3
           replace hx695_4 := (HB.out.cell (World.block_lt_of_cell? w _ hx695_4)).trans hx695_4
           replace hx695_5 := (HB.out.cell (World.block_lt_of_cell? w _ hx695_5)).trans hx695_5
           replace hx695_6 := (HB.out.cell (World.block_lt_of_cell? w _ hx695_6)).trans hx695_6
           replace hx695_7 := (HB.out.cell (World.block_lt_of_cell? w _ hx695_7)).trans hx695_7
           have HR695_7 := Aside0.mk hi695_7
           have HC695_7 := Aside0.mk hl695_7
           clear hi695_7 hl695_7
           replace p695 := eq_true p695
           replace q695 := eq_true q695
           try go_wp2_with (first | ((with_reducible refine gate_dst (N := 5) rfl ?_); refine box_event ?hg (N := 5) ?hd (cs := #[.string (⟨#[]⟩ : ByteArray), .int .i64 0, .bool false, .int .i64 0, .int .u64 0, .float .f64 0, .string (⟨#[]⟩ : ByteArray), .slice none 0 0]) (t := 34) ?hr ?_; (case hd => rfl); (case hg => rfl); (case hr => first | (go_simp; done) | (go_simp; rfl)); intro gb696 hg w16 hbox hb; have n0_ := Aside0.mk (Kd.R_below (by (with_reducible repeat (first | apply Kd.R_alloc | apply Kd.R_drewN | apply Kd.R_drew)); exact HO_695007.out) hb); have n1_ := Aside0.mk (blk_below (g := gb692) (o := .cells #[.string a0_0, .int .i64 a0_1, .bool a0_2, .int .i64 a0_3, .int .u64 a0_4, .float .f64 a0_5, .string a0_6, .slice (some ad695) l0_7.length c0_7] 34 (0, 0)) (by (with_reducible repeat (first | refine blk_drewN ?_ _ | refine blk_drew ?_ | refine blk_alloc ?_ _)); exact BK692.out) hb); have n2_ := Aside0.mk (blk_below (g := gb693) (o := .cells #[.string (⟨#[]⟩ : ByteArray), .int .i64 0, .bool false, .int .i64 0, .int .u64 0, .float .f64 0, .string (⟨#[]⟩ : ByteArray), .slice none 0 0] 38 (0, 0)) (by (with_reducible repeat (first | refine blk_drewN ?_ _ | refine blk_drew ?_ | refine blk_alloc ?_ _)); exact BK693.out) hb); have n3_ := Aside0.mk (blk_below (g := gb694) (o := .cells #[.string a0_0, .int .i64 a0_1, .bool a0_2, .int .i64 a0_3, .int .u64 a0_4, .float .f64 a0_5, .string a0_6, u695007] 38 (0, 0)) (by (with_reducible repeat (first | refine blk_drewN ?_ _ | refine blk_drew ?_ | refine blk_alloc ?_ _)); exact BK694.out) hb); have n4_ := Aside0.mk (below_step (by repeat (first | (with_reducible first | exact HB.out | apply below_alloc | apply pw_below_drewN | apply below_drew1 | refine below_set ?_ GE692.out | refine below_set ?_ GE693.out | refine below_set ?_ GE694.out) | exact HB.out)) hb); have n5_ := Aside0.mk (hbox); have n6_ := Aside0.mk ((by rw [hg]; exact (below_size (by repeat (first | (with_reducible first | exact HB.out | apply below_alloc | apply pw_below_drewN | apply below_drew1 | refine below_set ?_ GE692.out | refine below_set ?_ GE693.out | refine below_set ?_ GE694.out) | exact HB.out))) : w.heap.size ≤ gb696)); have n7_ := Aside0.mk ((by rw [hg]; exact (below_size (by repeat (first | (with_reducible first | exact HB.out | apply below_alloc | apply pw_below_drewN | apply below_drew1 | refine below_set ?_ GE692.out | refine below_set ?_ GE693.out | refine below_set ?_ GE694.out) | exact HB.out))) : w.heap.size ≤ gb696)); have n8_ := Aside0.mk ((by rw [hg]; exact Nat.ne_of_lt (blk_lt (g := gb692) (o := .cells #[.string a0_0, .int .i64 a0_1, .bool a0_2, .int .i64 a0_3, .int .u64 a0_4, .float .f64 a0_5, .string a0_6, .slice (some ad695) l0_7.length c0_7] 34 (0, 0)) (by (with_reducible repeat (first | refine blk_drewN ?_ _ | refine blk_drew ?_ | refine blk_alloc ?_ _)); exact BK692.out)) : gb692 ≠ gb696)); have n9_ := Aside0.mk ((by rw [hg]; exact Nat.ne_of_gt (blk_lt (g := gb692) (o := .cells #[.string a0_0, .int .i64 a0_1, .bool a0_2, .int .i64 a0_3, .int .u64 a0_4, .float .f64 a0_5, .string a0_6, .slice (some ad695) l0_7.length c0_7] 34 (0, 0)) (by (with_reducible repeat (first | refine blk_drewN ?_ _ | refine blk_drew ?_ | refine blk_alloc ?_ _)); exact BK692.out)) : gb696 ≠ gb692)); have n10_ := Aside0.mk ((by rw [hg]; exact Nat.ne_of_lt (blk_lt (g := gb693) (o := .cells #[.string (⟨#[]⟩ : ByteArray), .int .i64 0, .bool false, .int .i64 0, .int .u64 0, .float .f64 0, .string (⟨#[]⟩ : ByteArray), .slice none 0 0] 38 (0, 0)) (by (with_reducible repeat (first | refine blk_drewN ?_ _ | refine blk_drew ?_ | refine blk_alloc ?_ _)); exact BK693.out)) : gb693 ≠ gb696)); have n11_ := Aside0.mk ((by rw [hg]; exact Nat.ne_of_gt (blk_lt (g := gb693) (o := .cells #[.string (⟨#[]⟩ : ByteArray), .int .i64 0, .bool false, .int .i64 0, .int .u64 0, .float .f64 0, .string (⟨#[]⟩ : ByteArray), .slice none 0 0] 38 (0, 0)) (by (with_reducible repeat (first | refine blk_drewN ?_ _ | refine blk_drew ?_ | refine blk_alloc ?_ _)); exact BK693.out)) : gb696 ≠ gb693)); have n12_ := Aside0.mk ((by rw [hg]; exact Nat.ne_of_lt (blk_lt (g := gb694) (o := .cells #[.string a0_0, .int .i64 a0_1, .bool a0_2, .int .i64 a0_3, .int .u64 a0_4, .float .f64 a0_5, .string a0_6, u695007] 38 (0, 0)) (by (with_reducible repeat (first | refine blk_drewN ?_ _ | refine blk_drew ?_ | refine blk_alloc ?_ _)); exact BK694.out)) : gb694 ≠ gb696)); have n13_ := Aside0.mk ((by rw [hg]; exact Nat.ne_of_gt (blk_lt (g := gb694) (o := .cells #[.string a0_0, .int .i64 a0_1, .bool a0_2, .int .i64 a0_3, .int .u64 a0_4, .float .f64 a0_5, .string a0_6, u695007] 38 (0, 0)) (by (with_reducible repeat (first | refine blk_drewN ?_ _ | refine blk_drew ?_ | refine blk_alloc ?_ _)); exact BK694.out)) : gb696 ≠ gb694)); clear HO_695007; clear BK692; clear BK693; clear BK694; clear HB; have HO_695007 := n0_; have BK692 := n1_; have BK693 := n2_; have BK694 := n3_; have HB := n4_; have BK696 := n5_; have GW696 := n6_; have GE696 := n7_; have NB692_696 := n8_; have NB696_692 := n9_; have NB693_696 := n10_; have NB696_693 := n11_; have NB694_696 := n12_; have NB696_694 := n13_; clear n0_ n1_ n2_ n3_ n4_ n5_ n6_ n7_ n8_ n9_ n10_ n11_ n12_ n13_; clear hb hbox hg; have hnb17 := NB696_692.out; have hnc17 := NB692_696.out; have hnb18 := NB696_693.out; have hnc18 := NB693_696.out; have hnb19 := NB696_694.out; have hnc19 := NB694_696.out; have hcz20_0 : w16.cell? ⟨gb696, 0, none⟩ = some (.string (⟨#[]⟩ : ByteArray)) := (blk_cell BK696.out 0).trans rfl; have hcz20_1 : w16.cell? ⟨gb696, 1, none⟩ = some (.int .i64 0) := (blk_cell BK696.out 1).trans rfl; have hcz20_2 : w16.cell? ⟨gb696, 2, none⟩ = some (.bool false) := (blk_cell BK696.out 2).trans rfl; have hcz20_3 : w16.cell? ⟨gb696, 3, none⟩ = some (.int .i64 0) := (blk_cell BK696.out 3).trans rfl; have hcz20_4 : w16.cell? ⟨gb696, 4, none⟩ = some (.int .u64 0) := (blk_cell BK696.out 4).trans rfl; have hcz20_5 : w16.cell? ⟨gb696, 5, none⟩ = some (.float .f64 0) := (blk_cell BK696.out 5).trans rfl; have hcz20_6 : w16.cell? ⟨gb696, 6, none⟩ = some (.string (⟨#[]⟩ : ByteArray)) := (blk_cell BK696.out 6).trans rfl; have hcz20_7 : w16.cell? ⟨gb696, 7, none⟩ = some (.slice none 0 0) := (blk_cell BK696.out 7).trans rfl; have hfz20_0 := blk_frozen BK696.out 0; have hfz20_1 := blk_frozen BK696.out 1; have hfz20_2 := blk_frozen BK696.out 2; have hfz20_3 := blk_frozen BK696.out 3; have hfz20_4 := blk_frozen BK696.out 4; have hfz20_5 := blk_frozen BK696.out 5; have hfz20_6 := blk_frozen BK696.out 6; have hfz20_7 := blk_frozen BK696.out 7))
           have n0_ : Aside0 (Kd.R k38 38 ((((((((w16.setCell ⟨gb696, 0, none⟩ (.string ((rd_T34 l0_7 x24_1).f0))).setCell ⟨gb696, 1, none⟩ (.int .i64 ((rd_T34 l0_7 x24_1).f1))).setCell ⟨gb696, 2, none⟩ (.bool ((rd_T34 l0_7 x24_1).f2))).setCell ⟨gb696, 3, none⟩ (.int .i64 ((rd_T34 l0_7 x24_1).f3))).setCell ⟨gb696, 4, none⟩ (.int .u64 ((rd_T34 l0_7 x24_1).f4))).setCell ⟨gb696, 5, none⟩ (.float .f64 ((rd_T34 l0_7 x24_1).f5))).setCell ⟨gb696, 6, none⟩ (.string ((rd_T34 l0_7 x24_1).f6))).setCell ⟨gb696, 7, none⟩ (.slice A695_7 ((rd_T34 l0_7 x24_1).f7).length c695_7)) w.heap.size (fun k_ => k_ ≠ gb693 ∧ k_ ≠ gb694) u695007 x695007_1) := ⟨by (with_reducible repeat (first | apply Kd.R_alloc | apply Kd.R_drewN | apply Kd.R_drew)); exact Kd.R_mono (Kd.R_far (p := ⟨gb696, 7, none⟩) (Kd.R_far (p := ⟨gb696, 6, none⟩) (Kd.R_far (p := ⟨gb696, 5, none⟩) (Kd.R_far (p := ⟨gb696, 4, none⟩) (Kd.R_far (p := ⟨gb696, 3, none⟩) (Kd.R_far (p := ⟨gb696, 2, none⟩) (Kd.R_far (p := ⟨gb696, 1, none⟩) (Kd.R_far (p := ⟨gb696, 0, none⟩) (Kd.R_types HO_695007.out BK696.out (by decide)) (fun _ hk => hk.2) (.string ((rd_T34 l0_7 x24_1).f0))) (fun _ hk => hk.2) (.int .i64 ((rd_T34 l0_7 x24_1).f1))) (fun _ hk => hk.2) (.bool ((rd_T34 l0_7 x24_1).f2))) (fun _ hk => hk.2) (.int .i64 ((rd_T34 l0_7 x24_1).f3))) (fun _ hk => hk.2) (.int .u64 ((rd_T34 l0_7 x24_1).f4))) (fun _ hk => hk.2) (.float .f64 ((rd_T34 l0_7 x24_1).f5))) (fun _ hk => hk.2) (.string ((rd_T34 l0_7 x24_1).f6))) (fun _ hk => hk.2) (.slice A695_7 ((rd_T34 l0_7 x24_1).f7).length c695_7)) (fun _ hk => ⟨hk.1.1, hk.1.2⟩)⟩
           have n1_ : Aside0 (((((((((w16.setCell ⟨gb696, 0, none⟩ (.string ((rd_T34 l0_7 x24_1).f0))).setCell ⟨gb696, 1, none⟩ (.int .i64 ((rd_T34 l0_7 x24_1).f1))).setCell ⟨gb696, 2, none⟩ (.bool ((rd_T34 l0_7 x24_1).f2))).setCell ⟨gb696, 3, none⟩ (.int .i64 ((rd_T34 l0_7 x24_1).f3))).setCell ⟨gb696, 4, none⟩ (.int .u64 ((rd_T34 l0_7 x24_1).f4))).setCell ⟨gb696, 5, none⟩ (.float .f64 ((rd_T34 l0_7 x24_1).f5))).setCell ⟨gb696, 6, none⟩ (.string ((rd_T34 l0_7 x24_1).f6))).setCell ⟨gb696, 7, none⟩ (.slice A695_7 ((rd_T34 l0_7 x24_1).f7).length c695_7)).heap[gb692]? = some (.cells #[.string a0_0, .int .i64 a0_1, .bool a0_2, .int .i64 a0_3, .int .u64 a0_4, .float .f64 a0_5, .string a0_6, .slice (some ad695) l0_7.length c0_7] 34 (0, 0))) := ⟨by (with_reducible repeat (first | refine blk_drewN ?_ _ | refine blk_drew ?_ | refine blk_alloc ?_ _)); refine blk_far ?_ NB692_696.out _; (with_reducible repeat (first | refine blk_drewN ?_ _ | refine blk_drew ?_ | refine blk_alloc ?_ _)); refine blk_far ?_ NB692_696.out _; (with_reducible repeat (first | refine blk_drewN ?_ _ | refine blk_drew ?_ | refine blk_alloc ?_ _)); refine blk_far ?_ NB692_696.out _; (with_reducible repeat (first | refine blk_drewN ?_ _ | refine blk_drew ?_ | refine blk_alloc ?_ _)); refine blk_far ?_ NB692_696.out _; (with_reducible repeat (first | refine blk_drewN ?_ _ | refine blk_drew ?_ | refine blk_alloc ?_ _)); refine blk_far ?_ NB692_696.out _; (with_reducible repeat (first | refine blk_drewN ?_ _ | refine blk_drew ?_ | refine blk_alloc ?_ _)); refine blk_far ?_ NB692_696.out _; (with_reducible repeat (first | refine blk_drewN ?_ _ | refine blk_drew ?_ | refine blk_alloc ?_ _)); refine blk_far ?_ NB692_696.out _; (with_reducible repeat (first | refine blk_drewN ?_ _ | refine blk_drew ?_ | refine blk_alloc ?_ _)); refine blk_far ?_ NB692_696.out _; (with_reducible repeat (first | refine blk_drewN ?_ _ | refine blk_drew ?_ | refine blk_alloc ?_ _)); exact BK692.out⟩
           have n2_ : Aside0 (((((((((w16.setCell ⟨gb696, 0, none⟩ (.string ((rd_T34 l0_7 x24_1).f0))).setCell ⟨gb696, 1, none⟩ (.int .i64 ((rd_T34 l0_7 x24_1).f1))).setCell ⟨gb696, 2, none⟩ (.bool ((rd_T34 l0_7 x24_1).f2))).setCell ⟨gb696, 3, none⟩ (.int .i64 ((rd_T34 l0_7 x24_1).f3))).setCell ⟨gb696, 4, none⟩ (.int .u64 ((rd_T34 l0_7 x24_1).f4))).setCell ⟨gb696, 5, none⟩ (.float .f64 ((rd_T34 l0_7 x24_1).f5))).setCell ⟨gb696, 6, none⟩ (.string ((rd_T34 l0_7 x24_1).f6))).setCell ⟨gb696, 7, none⟩ (.slice A695_7 ((rd_T34 l0_7 x24_1).f7).length c695_7)).heap[gb693]? = some (.cells #[.string (⟨#[]⟩ : ByteArray), .int .i64 0, .bool false, .int .i64 0, .int .u64 0, .float .f64 0, .string (⟨#[]⟩ : ByteArray), .slice none 0 0] 38 (0, 0))) := ⟨by (with_reducible repeat (first | refine blk_drewN ?_ _ | refine blk_drew ?_ | refine blk_alloc ?_ _)); refine blk_far ?_ NB693_696.out _; (with_reducible repeat (first | refine blk_drewN ?_ _ | refine blk_drew ?_ | refine blk_alloc ?_ _)); refine blk_far ?_ NB693_696.out _; (with_reducible repeat (first | refine blk_drewN ?_ _ | refine blk_drew ?_ | refine blk_alloc ?_ _)); refine blk_far ?_ NB693_696.out _; (with_reducible repeat (first | refine blk_drewN ?_ _ | refine blk_drew ?_ | refine blk_alloc ?_ _)); refine blk_far ?_ NB693_696.out _; (with_reducible repeat (first | refine blk_drewN ?_ _ | refine blk_drew ?_ | refine blk_alloc ?_ _)); refine blk_far ?_ NB693_696.out _; (with_reducible repeat (first | refine blk_drewN ?_ _ | refine blk_drew ?_ | refine blk_alloc ?_ _)); refine blk_far ?_ NB693_696.out _; (with_reducible repeat (first | refine blk_drewN ?_ _ | refine blk_drew ?_ | refine blk_alloc ?_ _)); refine blk_far ?_ NB693_696.out _; (with_reducible repeat (first | refine blk_drewN ?_ _ | refine blk_drew ?_ | refine blk_alloc ?_ _)); refine blk_far ?_ NB693_696.out _; (with_reducible repeat (first | refine blk_drewN ?_ _ | refine blk_drew ?_ | refine blk_alloc ?_ _)); exact BK693.out⟩
           have n3_ : Aside0 (((((((((w16.setCell ⟨gb696, 0, none⟩ (.string ((rd_T34 l0_7 x24_1).f0))).setCell ⟨gb696, 1, none⟩ (.int .i64 ((rd_T34 l0_7 x24_1).f1))).setCell ⟨gb696, 2, none⟩ (.bool ((rd_T34 l0_7 x24_1).f2))).setCell ⟨gb696, 3, none⟩ (.int .i64 ((rd_T34 l0_7 x24_1).f3))).setCell ⟨gb696, 4, none⟩ (.int .u64 ((rd_T34 l0_7 x24_1).f4))).setCell ⟨gb696, 5, none⟩ (.float .f64 ((rd_T34 l0_7 x24_1).f5))).setCell ⟨gb696, 6, none⟩ (.string ((rd_T34 l0_7 x24_1).f6))).setCell ⟨gb696, 7, none⟩ (.slice A695_7 ((rd_T34 l0_7 x24_1).f7).length c695_7)).heap[gb694]? = some (.cells #[.string a0_0, .int .i64 a0_1, .bool a0_2, .int .i64 a0_3, .int .u64 a0_4, .float .f64 a0_5, .string a0_6, u695007] 38 (0, 0))) := ⟨by (with_reducible repeat (first | refine blk_drewN ?_ _ | refine blk_drew ?_ | refine blk_alloc ?_ _)); refine blk_far ?_ NB694_696.out _; (with_reducible repeat (first | refine blk_drewN ?_ _ | refine blk_drew ?_ | refine blk_alloc ?_ _)); refine blk_far ?_ NB694_696.out _; (with_reducible repeat (first | refine blk_drewN ?_ _ | refine blk_drew ?_ | refine blk_alloc ?_ _)); refine blk_far ?_ NB694_696.out _; (with_reducible repeat (first | refine blk_drewN ?_ _ | refine blk_drew ?_ | refine blk_alloc ?_ _)); refine blk_far ?_ NB694_696.out _; (with_reducible repeat (first | refine blk_drewN ?_ _ | refine blk_drew ?_ | refine blk_alloc ?_ _)); refine blk_far ?_ NB694_696.out _; (with_reducible repeat (first | refine blk_drewN ?_ _ | refine blk_drew ?_ | refine blk_alloc ?_ _)); refine blk_far ?_ NB694_696.out _; (with_reducible repeat (first | refine blk_drewN ?_ _ | refine blk_drew ?_ | refine blk_alloc ?_ _)); refine blk_far ?_ NB694_696.out _; (with_reducible repeat (first | refine blk_drewN ?_ _ | refine blk_drew ?_ | refine blk_alloc ?_ _)); refine blk_far ?_ NB694_696.out _; (with_reducible repeat (first | refine blk_drewN ?_ _ | refine blk_drew ?_ | refine blk_alloc ?_ _)); exact BK694.out⟩
           have n4_ : Aside0 (((((((((w16.setCell ⟨gb696, 0, none⟩ (.string ((rd_T34 l0_7 x24_1).f0))).setCell ⟨gb696, 1, none⟩ (.int .i64 ((rd_T34 l0_7 x24_1).f1))).setCell ⟨gb696, 2, none⟩ (.bool ((rd_T34 l0_7 x24_1).f2))).setCell ⟨gb696, 3, none⟩ (.int .i64 ((rd_T34 l0_7 x24_1).f3))).setCell ⟨gb696, 4, none⟩ (.int .u64 ((rd_T34 l0_7 x24_1).f4))).setCell ⟨gb696, 5, none⟩ (.float .f64 ((rd_T34 l0_7 x24_1).f5))).setCell ⟨gb696, 6, none⟩ (.string ((rd_T34 l0_7 x24_1).f6))).setCell ⟨gb696, 7, none⟩ (.slice A695_7 ((rd_T34 l0_7 x24_1).f7).length c695_7)).heap[gb696]? = some (.cells #[.string ((rd_T34 l0_7 x24_1).f0), .int .i64 ((rd_T34 l0_7 x24_1).f1), .bool ((rd_T34 l0_7 x24_1).f2), .int .i64 ((rd_T34 l0_7 x24_1).f3), .int .u64 ((rd_T34 l0_7 x24_1).f4), .float .f64 ((rd_T34 l0_7 x24_1).f5), .string ((rd_T34 l0_7 x24_1).f6), .slice A695_7 ((rd_T34 l0_7 x24_1).f7).length c695_7] 34 (0, 0))) := ⟨by (with_reducible repeat (first | refine blk_drewN ?_ _ | refine blk_drew ?_ | refine blk_alloc ?_ _)); refine blk_put (cs := #[.string ((rd_T34 l0_7 x24_1).f0), .int .i64 ((rd_T34 l0_7 x24_1).f1), .bool ((rd_T34 l0_7 x24_1).f2), .int .i64 ((rd_T34 l0_7 x24_1).f3), .int .u64 ((rd_T34 l0_7 x24_1).f4), .float .f64 ((rd_T34 l0_7 x24_1).f5), .string ((rd_T34 l0_7 x24_1).f6), .slice none 0 0]) ?_ 7 _ rfl; (with_reducible repeat (first | refine blk_drewN ?_ _ | refine blk_drew ?_ | refine blk_alloc ?_ _)); refine blk_put (cs := #[.string ((rd_T34 l0_7 x24_1).f0), .int .i64 ((rd_T34 l0_7 x24_1).f1), .bool ((rd_T34 l0_7 x24_1).f2), .int .i64 ((rd_T34 l0_7 x24_1).f3), .int .u64 ((rd_T34 l0_7 x24_1).f4), .float .f64 ((rd_T34 l0_7 x24_1).f5), .string (⟨#[]⟩ : ByteArray), .slice none 0 0]) ?_ 6 _ rfl; (with_reducible repeat (first | refine blk_drewN ?_ _ | refine blk_drew ?_ | refine blk_alloc ?_ _)); refine blk_put (cs := #[.string ((rd_T34 l0_7 x24_1).f0), .int .i64 ((rd_T34 l0_7 x24_1).f1), .bool ((rd_T34 l0_7 x24_1).f2), .int .i64 ((rd_T34 l0_7 x24_1).f3), .int .u64 ((rd_T34 l0_7 x24_1).f4), .float .f64 0, .string (⟨#[]⟩ : ByteArray), .slice none 0 0]) ?_ 5 _ rfl; (with_reducible repeat (first | refine blk_drewN ?_ _ | refine blk_drew ?_ | refine blk_alloc ?_ _)); refine blk_put (cs := #[.string ((rd_T34 l0_7 x24_1).f0), .int .i64 ((rd_T34 l0_7 x24_1).f1), .bool ((rd_T34 l0_7 x24_1).f2), .int .i64 ((rd_T34 l0_7 x24_1).f3), .int .u64 0, .float .f64 0, .string (⟨#[]⟩ : ByteArray), .slice none 0 0]) ?_ 4 _ rfl; (with_reducible repeat (first | refine blk_drewN ?_ _ | refine blk_drew ?_ | refine blk_alloc ?_ _)); refine blk_put (cs := #[.string ((rd_T34 l0_7 x24_1).f0), .int .i64 ((rd_T34 l0_7 x24_1).f1), .bool ((rd_T34 l0_7 x24_1).f2), .int .i64 0, .int .u64 0, .float .f64 0, .string (⟨#[]⟩ : ByteArray), .slice none 0 0]) ?_ 3 _ rfl; (with_reducible repeat (first | refine blk_drewN ?_ _ | refine blk_drew ?_ | refine blk_alloc ?_ _)); refine blk_put (cs := #[.string ((rd_T34 l0_7 x24_1).f0), .int .i64 ((rd_T34 l0_7 x24_1).f1), .bool false, .int .i64 0, .int .u64 0, .float .f64 0, .string (⟨#[]⟩ : ByteArray), .slice none 0 0]) ?_ 2 _ rfl; (with_reducible repeat (first | refine blk_drewN ?_ _ | refine blk_drew ?_ | refine blk_alloc ?_ _)); refine blk_put (cs := #[.string ((rd_T34 l0_7 x24_1).f0), .int .i64 0, .bool false, .int .i64 0, .int .u64 0, .float .f64 0, .string (⟨#[]⟩ : ByteArray), .slice none 0 0]) ?_ 1 _ rfl; (with_reducible repeat (first | refine blk_drewN ?_ _ | refine blk_drew ?_ | refine blk_alloc ?_ _)); refine blk_put (cs := #[.string (⟨#[]⟩ : ByteArray), .int .i64 0, .bool false, .int .i64 0, .int .u64 0, .float .f64 0, .string (⟨#[]⟩ : ByteArray), .slice none 0 0]) ?_ 0 _ rfl; (with_reducible repeat (first | refine blk_drewN ?_ _ | refine blk_drew ?_ | refine blk_alloc ?_ _)); exact BK696.out⟩
           have n5_ : Aside0 (Below w.heap.size w ((((((((w16.setCell ⟨gb696, 0, none⟩ (.string ((rd_T34 l0_7 x24_1).f0))).setCell ⟨gb696, 1, none⟩ (.int .i64 ((rd_T34 l0_7 x24_1).f1))).setCell ⟨gb696, 2, none⟩ (.bool ((rd_T34 l0_7 x24_1).f2))).setCell ⟨gb696, 3, none⟩ (.int .i64 ((rd_T34 l0_7 x24_1).f3))).setCell ⟨gb696, 4, none⟩ (.int .u64 ((rd_T34 l0_7 x24_1).f4))).setCell ⟨gb696, 5, none⟩ (.float .f64 ((rd_T34 l0_7 x24_1).f5))).setCell ⟨gb696, 6, none⟩ (.string ((rd_T34 l0_7 x24_1).f6))).setCell ⟨gb696, 7, none⟩ (.slice A695_7 ((rd_T34 l0_7 x24_1).f7).length c695_7))) := ⟨by repeat (first | (with_reducible first | exact HB.out | apply below_alloc | apply pw_below_drewN | apply below_drew1 | refine below_set ?_ GE692.out | refine below_set ?_ GE693.out | refine below_set ?_ GE694.out | refine below_set ?_ GE696.out) | exact HB.out)⟩
           (try clear HO_695007)
           (try clear BK692)
           (try clear BK693)
           (try clear BK694)
           (try clear BK696)
           (try clear HB)
           generalize ((((((((w16.setCell ⟨gb696, 0, none⟩ (.string ((rd_T34 l0_7 x24_1).f0))).setCell ⟨gb696, 1, none⟩ (.int .i64 ((rd_T34 l0_7 x24_1).f1))).setCell ⟨gb696, 2, none⟩ (.bool ((rd_T34 l0_7 x24_1).f2))).setCell ⟨gb696, 3, none⟩ (.int .i64 ((rd_T34 l0_7 x24_1).f3))).setCell ⟨gb696, 4, none⟩ (.int .u64 ((rd_T34 l0_7 x24_1).f4))).setCell ⟨gb696, 5, none⟩ (.float .f64 ((rd_T34 l0_7 x24_1).f5))).setCell ⟨gb696, 6, none⟩ (.string ((rd_T34 l0_7 x24_1).f6))).setCell ⟨gb696, 7, none⟩ (.slice A695_7 ((rd_T34 l0_7 x24_1).f7).length c695_7)) = w21 at n0_ n1_ n2_ n3_ n4_ n5_ ⊢
           have HO_695007 := n0_
           have BK692 := n1_
           have BK693 := n2_
           have BK694 := n3_
           have BK696 := n4_
           have HB := n5_
           clear n0_ n1_ n2_ n3_ n4_ n5_
           have n0_ := Aside0.mk (Kd.R_drew HO_695007.out)
           have n1_ := Aside0.mk (blk_drew BK692.out)
           have n2_ := Aside0.mk (blk_drew BK693.out)
           have n3_ := Aside0.mk (blk_drew BK694.out)
           have n4_ := Aside0.mk (blk_drew BK696.out)
           have n5_ := Aside0.mk (below_drew1 HB.out)
           clear HO_695007
           clear BK692
           clear BK693
           clear BK694
           clear BK696
           clear HB
           have HO_695007 := n0_
           have BK692 := n1_
           have BK693 := n2_
           have BK694 := n3_
           have BK696 := n4_
           have HB := n5_
           clear n0_ n1_ n2_ n3_ n4_ n5_
           refine start_ (n := 8) (S := fun w' => w'.cell? ⟨gb694, 0, none⟩ = some (.string a0_0) ∧ w'.cell? ⟨gb694, 1, none⟩ = some (.int .i64 a0_1) ∧ w'.cell? ⟨gb694, 2, none⟩ = some (.bool a0_2) ∧ w'.cell? ⟨gb694, 3, none⟩ = some (.int .i64 a0_3) ∧ w'.cell? ⟨gb694, 4, none⟩ = some (.int .u64 a0_4) ∧ w'.cell? ⟨gb694, 5, none⟩ = some (.float .f64 a0_5) ∧ w'.cell? ⟨gb694, 6, none⟩ = some (.string a0_6) ∧ w'.cell? ⟨gb694, 7, none⟩ = some (u695007) ∧ w'.cell? ⟨gb696, 0, none⟩ = some (.string ((rd_T34 l0_7 x24_1).f0)) ∧ w'.cell? ⟨gb696, 1, none⟩ = some (.int .i64 ((rd_T34 l0_7 x24_1).f1)) ∧ w'.cell? ⟨gb696, 2, none⟩ = some (.bool ((rd_T34 l0_7 x24_1).f2)) ∧ w'.cell? ⟨gb696, 3, none⟩ = some (.int .i64 ((rd_T34 l0_7 x24_1).f3)) ∧ w'.cell? ⟨gb696, 4, none⟩ = some (.int .u64 ((rd_T34 l0_7 x24_1).f4)) ∧ w'.cell? ⟨gb696, 5, none⟩ = some (.float .f64 ((rd_T34 l0_7 x24_1).f5)) ∧ w'.cell? ⟨gb696, 6, none⟩ = some (.string ((rd_T34 l0_7 x24_1).f6)) ∧ w'.cell? ⟨gb696, 7, none⟩ = some (.slice A695_7 ((rd_T34 l0_7 x24_1).f7).length c695_7)) (ds := [7]) #[false, false, false, false, false, false, false, false] (by kernel_rfl) rfl rfl ⟨(blk_cell BK694.out 0).trans rfl, (blk_cell BK694.out 1).trans rfl, (blk_cell BK694.out 2).trans rfl, (blk_cell BK694.out 3).trans rfl, (blk_cell BK694.out 4).trans rfl, (blk_cell BK694.out 5).trans rfl, (blk_cell BK694.out 6).trans rfl, (blk_cell BK694.out 7).trans rfl, (blk_cell BK696.out 0).trans rfl, (blk_cell BK696.out 1).trans rfl, (blk_cell BK696.out 2).trans rfl, (blk_cell BK696.out 3).trans rfl, (blk_cell BK696.out 4).trans rfl, (blk_cell BK696.out 5).trans rfl, (blk_cell BK696.out 6).trans rfl, (blk_cell BK696.out 7).trans rfl⟩ (fun hHeld => ?_); refine with_tabW laws_toNode.tab5 laws_toNode.bits5 (fun HT_ HW_ => ?_)
           generalize w21.drew = w22 at HO_695007 BK692 BK693 BK694 BK696 HB hHeld ⊢
           refine pure_ (i := 0) (N := some 28) (v := ?_) (a' := ?_) #[true, false, false, false, false, false, false, false] rfl rfl (any_of HT_.out (by kernel_rfl)) (fun _ _ _ h => h) (Or.inl ⟨by rfl, ?_⟩) ?_ ?_
           rotate_left
           · intro w'
             go_simp
             with_reducible rfl
           rotate_left
           · simp only [Act.put, List.setIfInBounds_toArray, List.set_cons_zero, List.set_cons_succ, i64_w, i32_w]
             rfl
           refine take_ (i := 1) (N := some 29) (v := ?_) (a' := ?_) #[true, true, false, false, false, false, false, false] rfl rfl (take_ofW HT_.out HW_.out (by kernel_rfl)) (fun _ _ _ h => h) (Or.inl ⟨by rfl, ?_⟩) hHeld ?_ ?_
           rotate_left
           · rintro w' ⟨s0, s1, s2, s3, s4, s5, s6, s7, s8, s9, s10, s11, s12, s13, s14, s15⟩
             go_simp
             with_reducible rfl
           rotate_left
           · simp only [Act.put, List.setIfInBounds_toArray, List.set_cons_zero, List.set_cons_succ, i64_w, i32_w]
             rfl
           refine take_ (i := 2) (N := some 30) (v := ?_) (a' := ?_) #[true, true, true, false, false, false, false, false] rfl rfl (take_ofW HT_.out HW_.out (by kernel_rfl)) (fun _ _ _ h => h) (Or.inl ⟨by rfl, ?_⟩) hHeld ?_ ?_
           rotate_left
           · rintro w' ⟨s0, s1, s2, s3, s4, s5, s6, s7, s8, s9, s10, s11, s12, s13, s14, s15⟩
             go_simp
             with_reducible rfl
           rotate_left
           · simp only [Act.put, List.setIfInBounds_toArray, List.set_cons_zero, List.set_cons_succ, i64_w, i32_w]
             rfl
           refine one_ (i := 3) (N := some 31) #[true, true, true, true, false, false, false, false] rfl rfl (one_of HT_.out (by kernel_rfl)) (by decide) (fun K hK => ?_)
           refine goes_ Tryz.func30 (by kernel_rfl) rfl #[.agg #[.string ((rd_T34 l0_7 x24_1).f0), .int .i64 ((rd_T34 l0_7 x24_1).f1), .bool ((rd_T34 l0_7 x24_1).f2), .int .i64 ((rd_T34 l0_7 x24_1).f3), .int .u64 ((rd_T34 l0_7 x24_1).f4), .float .f64 ((rd_T34 l0_7 x24_1).f5), .string ((rd_T34 l0_7 x24_1).f6), .slice A695_7 ((rd_T34 l0_7 x24_1).f7).length c695_7]] (by rfl) rfl rfl (by (try simp only [List.map_toArray, List.map_cons, List.map_nil]); first | done | rfl | (simp only [List.length_drop, List.length_take]; rfl)) ?_
           with_reducible refine (ih k1 (by have := HK1.out; omega) ((rd_T34 l0_7 x24_1).f0) ((rd_T34 l0_7 x24_1).f1) ((rd_T34 l0_7 x24_1).f2) ((rd_T34 l0_7 x24_1).f3) ((rd_T34 l0_7 x24_1).f4) ((rd_T34 l0_7 x24_1).f5) ((rd_T34 l0_7 x24_1).f6) _ _ ((rd_T34 l0_7 x24_1).f7) t697 t698 t699 t700 t701 t702 t703 t704 _ ?side1 ?side2 A14.out).mono ?_
           (case side1 => repeat (first | exact (Kd.C_below HR695_7.out HB.out) | (with_reducible refine Kd.C_alloc ?_ _) | (with_reducible refine Kd.C_drewN ?_ _) | (with_reducible refine Kd.C_drew ?_)))
           (case side2 => exact HC695_7.out)
           rintro e w23 ⟨v705, rfl, ho0, hb⟩
           refine ⟨_, rfl, ?_⟩
           have n0_ := Aside0.mk (Kd.R_elder' (by (with_reducible repeat (first | apply Kd.R_alloc | apply Kd.R_drewN | apply Kd.R_drew)); exact HO_695007.out) (Kd.R_base ho0) hb)
           have n1_ := Aside0.mk (Kd.R_lower (Kd.R_newB (Kd.R_newB (Kd.R_new' ho0 (Kd.R_lt (by (with_reducible repeat (first | apply Kd.R_alloc | apply Kd.R_drewN | apply Kd.R_drew)); exact HO_695007.out))) (g := gb693) (o := .cells #[.string (⟨#[]⟩ : ByteArray), .int .i64 0, .bool false, .int .i64 0, .int .u64 0, .float .f64 0, .string (⟨#[]⟩ : ByteArray), .slice none 0 0] 38 (0, 0)) (by (with_reducible repeat (first | refine blk_drewN ?_ _ | refine blk_drew ?_ | refine blk_alloc ?_ _)); exact BK693.out)) (g := gb694) (o := .cells #[.string a0_0, .int .i64 a0_1, .bool a0_2, .int .i64 a0_3, .int .u64 a0_4, .float .f64 a0_5, .string a0_6, u695007] 38 (0, 0)) (by (with_reducible repeat (first | refine blk_drewN ?_ _ | refine blk_drew ?_ | refine blk_alloc ?_ _)); exact BK694.out)) (below_size (by repeat (first | (with_reducible first | exact HB.out | apply below_alloc | apply pw_below_drewN | apply below_drew1 | refine below_set ?_ GE692.out | refine below_set ?_ GE693.out | refine below_set ?_ GE694.out | refine below_set ?_ GE696.out) | exact HB.out))))
           have n2_ := Aside0.mk (blk_below (g := gb692) (o := .cells #[.string a0_0, .int .i64 a0_1, .bool a0_2, .int .i64 a0_3, .int .u64 a0_4, .float .f64 a0_5, .string a0_6, .slice (some ad695) l0_7.length c0_7] 34 (0, 0)) (by (with_reducible repeat (first | refine blk_drewN ?_ _ | refine blk_drew ?_ | refine blk_alloc ?_ _)); exact BK692.out) hb)
           have n3_ := Aside0.mk (blk_below (g := gb693) (o := .cells #[.string (⟨#[]⟩ : ByteArray), .int .i64 0, .bool false, .int .i64 0, .int .u64 0, .float .f64 0, .string (⟨#[]⟩ : ByteArray), .slice none 0 0] 38 (0, 0)) (by (with_reducible repeat (first | refine blk_drewN ?_ _ | refine blk_drew ?_ | refine blk_alloc ?_ _)); exact BK693.out) hb)
           have n4_ := Aside0.mk (blk_below (g := gb694) (o := .cells #[.string a0_0, .int .i64 a0_1, .bool a0_2, .int .i64 a0_3, .int .u64 a0_4, .float .f64 a0_5, .string a0_6, u695007] 38 (0, 0)) (by (with_reducible repeat (first | refine blk_drewN ?_ _ | refine blk_drew ?_ | refine blk_alloc ?_ _)); exact BK694.out) hb)
           have n5_ := Aside0.mk (blk_below (g := gb696) (o := .cells #[.string ((rd_T34 l0_7 x24_1).f0), .int .i64 ((rd_T34 l0_7 x24_1).f1), .bool ((rd_T34 l0_7 x24_1).f2), .int .i64 ((rd_T34 l0_7 x24_1).f3), .int .u64 ((rd_T34 l0_7 x24_1).f4), .float .f64 ((rd_T34 l0_7 x24_1).f5), .string ((rd_T34 l0_7 x24_1).f6), .slice A695_7 ((rd_T34 l0_7 x24_1).f7).length c695_7] 34 (0, 0)) (by (with_reducible repeat (first | refine blk_drewN ?_ _ | refine blk_drew ?_ | refine blk_alloc ?_ _)); exact BK696.out) hb)
           have n6_ := Aside0.mk (below_step (by repeat (first | (with_reducible first | exact HB.out | apply below_alloc | apply pw_below_drewN | apply below_drew1 | refine below_set ?_ GE692.out | refine below_set ?_ GE693.out | refine below_set ?_ GE694.out | refine below_set ?_ GE696.out) | exact HB.out)) hb)
           clear HO_695007
           clear BK692
           clear BK693
           clear BK694
           clear BK696
           clear HB
           have HO_695007 := n0_
           have HO706 := n1_
           have BK692 := n2_
           have BK693 := n3_
           have BK694 := n4_
           have BK696 := n5_
           have HB := n6_
           clear n0_ n1_ n2_ n3_ n4_ n5_ n6_
           (try clear hb)
           (try clear hb2)
           (try clear hk)
           (try clear hi)
           (try clear ho0)
           obtain ⟨Ao25, co25, eo25⟩ := Kd.R_slice HO706.out
           (first | subst eo25 | (injection eo25 with f1_ f2_ f3_; have f4_ := f1_.symm; have f5_ := f3_.symm; clear f1_ f2_ f3_; subst f4_; subst f5_))
           refine hK.out _ _ ⟨(blk_cell BK694.out 0).trans rfl, (blk_cell BK694.out 1).trans rfl, (blk_cell BK694.out 2).trans rfl, (blk_cell BK694.out 3).trans rfl, (blk_cell BK694.out 4).trans rfl, (blk_cell BK694.out 5).trans rfl, (blk_cell BK694.out 6).trans rfl, (blk_cell BK694.out 7).trans rfl, (blk_cell BK696.out 0).trans rfl, (blk_cell BK696.out 1).trans rfl, (blk_cell BK696.out 2).trans rfl, (blk_cell BK696.out 3).trans rfl, (blk_cell BK696.out 4).trans rfl, (blk_cell BK696.out 5).trans rfl, (blk_cell BK696.out 6).trans rfl, (blk_cell BK696.out 7).trans rfl⟩ (fun hHeld => ?_)
           clear hK K
           refine norm_ (a' := ?_) ?_ ?_
           rotate_left
           · show Act.put _ (some 31) _ = _
             simp only [Act.put, List.setIfInBounds_toArray, List.set_cons_zero, List.set_cons_succ, i64_w, i32_w]
             rfl
           refine one_ (i := 4) (N := some 32) #[true, true, true, true, true, false, false, false] rfl rfl (one_of HT_.out (by kernel_rfl)) (by decide) (fun K hK => ?_)
           refine value_ (w1 := ?_) (v := ?_) (by rfl) rfl ?_ ?_
           rotate_left 2
           · go_simp
             constructor
             · rfl
             · rfl
           refine hK.out _ _ ⟨(blk_cell (blk_alloc BK694.out _) 0).trans rfl, (blk_cell (blk_alloc BK694.out _) 1).trans rfl, (blk_cell (blk_alloc BK694.out _) 2).trans rfl, (blk_cell (blk_alloc BK694.out _) 3).trans rfl, (blk_cell (blk_alloc BK694.out _) 4).trans rfl, (blk_cell (blk_alloc BK694.out _) 5).trans rfl, (blk_cell (blk_alloc BK694.out _) 6).trans rfl, (blk_cell (blk_alloc BK694.out _) 7).trans rfl, (blk_cell (blk_alloc BK696.out _) 0).trans rfl, (blk_cell (blk_alloc BK696.out _) 1).trans rfl, (blk_cell (blk_alloc BK696.out _) 2).trans rfl, (blk_cell (blk_alloc BK696.out _) 3).trans rfl, (blk_cell (blk_alloc BK696.out _) 4).trans rfl, (blk_cell (blk_alloc BK696.out _) 5).trans rfl, (blk_cell (blk_alloc BK696.out _) 6).trans rfl, (blk_cell (blk_alloc BK696.out _) 7).trans rfl⟩ (fun hHeld => ?_)
           clear hK K
           refine norm_ (a' := ?_) ?_ ?_
           rotate_left
           · show Act.put _ (some 32) _ = _
             simp only [Act.put, List.setIfInBounds_toArray, List.set_cons_zero, List.set_cons_succ, i64_w, i32_w]
             rfl
           refine one_ (i := 5) (N := some 33) #[true, true, true, true, true, true, false, false] rfl rfl (one_of HT_.out (by kernel_rfl)) (by decide) (fun K hK => ?_)
           refine Kd.R_append_step k38 (w0 := w) w.heap.size (by rfl) (.tmp 29) (.tmp 32) 36 38 (.agg #[(.string ⟨#[]⟩), (.int .i64 0), (.bool false), (.int .i64 0), (.int .u64 0), (.float .f64 0), (.string ⟨#[]⟩), (.slice none 0 0)]) 96 rfl Tryz.underlying36 info38 rfl (by decide) (by omega) u695007 x695007_1 (⟨t697, t698, t699, t700, t701, t702, t703, t704⟩ : S38) [.string t697, .int .i64 t698, .bool t699, .int .i64 t700, .int .u64 t701, .float .f64 t702, .string t703, .slice Ao25 t704.length co25] (fun k_ => k_ ≠ gb693 ∧ k_ ≠ gb694) (fun k_ => ((fun k_ => k_ ≠ gb693 ∧ k_ ≠ gb694)) k_ ∧ some k_ ≠ (u695007 : Value).ownBlock) rfl rfl ?aP (fun _ hk => hk) ?aF ?aO ?aB ?aS ?aL ?_
           (case aP => exact k38_mkM _ _ _ (⟨t697, t698, t699, t700, t701, t702, t703, t704⟩ : S38) (Kd.R_mono (HO706.out) (fun k_ hk => ⟨⟨hk.1.2, hk.2⟩, hk.1.1.2⟩)))
           (case aB => exact (by repeat (first | (with_reducible first | exact HB.out | apply below_alloc | apply pw_below_drewN | apply below_drew1 | refine below_set ?_ GE692.out | refine below_set ?_ GE693.out | refine below_set ?_ GE694.out | refine below_set ?_ GE696.out) | exact HB.out)))
           (case aF => exact (fun k_ hk => ⟨Kd.freshB (g := gb693) (o := .cells #[.string (⟨#[]⟩ : ByteArray), .int .i64 0, .bool false, .int .i64 0, .int .u64 0, .float .f64 0, .string (⟨#[]⟩ : ByteArray), .slice none 0 0] 38 (0, 0)) (by (with_reducible repeat (first | refine blk_drewN ?_ _ | refine blk_drew ?_ | refine blk_alloc ?_ _)); exact BK693.out) k_ hk, Kd.freshB (g := gb694) (o := .cells #[.string a0_0, .int .i64 a0_1, .bool a0_2, .int .i64 a0_3, .int .u64 a0_4, .float .f64 a0_5, .string a0_6, u695007] 38 (0, 0)) (by (with_reducible repeat (first | refine blk_drewN ?_ _ | refine blk_drew ?_ | refine blk_alloc ?_ _)); exact BK694.out) k_ hk⟩))
           (case aO => exact (by (with_reducible repeat (first | apply Kd.R_alloc | apply Kd.R_drewN | apply Kd.R_drew)); exact Kd.R_mono HO_695007.out (fun _ hk => ⟨hk.1.1, hk.1.2⟩)))
           (case aS => exact (below_size (by repeat (first | (with_reducible first | exact HB.out | apply below_alloc | apply pw_below_drewN | apply below_drew1 | refine below_set ?_ GE692.out | refine below_set ?_ GE693.out | refine below_set ?_ GE694.out | refine below_set ?_ GE696.out) | exact HB.out))))
           (case aL => have := LMc15.out; omega)
           intro v708 w24 ho hb hg hat
           rw [← Ny707.out] at ho
           have n0_ := Aside0.mk (blk_grown (g := gb692) (o := .cells #[.string a0_0, .int .i64 a0_1, .bool a0_2, .int .i64 a0_3, .int .u64 a0_4, .float .f64 a0_5, .string a0_6, .slice (some ad695) l0_7.length c0_7] 34 (0, 0)) (by (with_reducible repeat (first | refine blk_drewN ?_ _ | refine blk_drew ?_ | refine blk_alloc ?_ _)); exact BK692.out) hg (Kd.R_ne HO_695007.out BK692.out (by decide)))
           have n1_ := Aside0.mk (blk_grown (g := gb693) (o := .cells #[.string (⟨#[]⟩ : ByteArray), .int .i64 0, .bool false, .int .i64 0, .int .u64 0, .float .f64 0, .string (⟨#[]⟩ : ByteArray), .slice none 0 0] 38 (0, 0)) (by (with_reducible repeat (first | refine blk_drewN ?_ _ | refine blk_drew ?_ | refine blk_alloc ?_ _)); exact BK693.out) hg (Kd.R_away HO_695007.out (fun _ hk => hk.1.1)))
           have n2_ := Aside0.mk (blk_grown (g := gb694) (o := .cells #[.string a0_0, .int .i64 a0_1, .bool a0_2, .int .i64 a0_3, .int .u64 a0_4, .float .f64 a0_5, .string a0_6, u695007] 38 (0, 0)) (by (with_reducible repeat (first | refine blk_drewN ?_ _ | refine blk_drew ?_ | refine blk_alloc ?_ _)); exact BK694.out) hg (Kd.R_away HO_695007.out (fun _ hk => hk.1.2)))
           have n3_ := Aside0.mk (blk_grown (g := gb696) (o := .cells #[.string ((rd_T34 l0_7 x24_1).f0), .int .i64 ((rd_T34 l0_7 x24_1).f1), .bool ((rd_T34 l0_7 x24_1).f2), .int .i64 ((rd_T34 l0_7 x24_1).f3), .int .u64 ((rd_T34 l0_7 x24_1).f4), .float .f64 ((rd_T34 l0_7 x24_1).f5), .string ((rd_T34 l0_7 x24_1).f6), .slice A695_7 ((rd_T34 l0_7 x24_1).f7).length c695_7] 34 (0, 0)) (by (with_reducible repeat (first | refine blk_drewN ?_ _ | refine blk_drew ?_ | refine blk_alloc ?_ _)); exact BK696.out) hg (Kd.R_ne HO_695007.out BK696.out (by decide)))
           have n4_ := Aside0.mk (hb)
           have n5_ := Aside0.mk (ho)
           clear BK692
           clear BK693
           clear BK694
           clear BK696
           clear HB
           clear HO_695007
           clear HO706
           have BK692 := n0_
           have BK693 := n1_
           have BK694 := n2_
           have BK696 := n3_
           have HB := n4_
           have HO709 := n5_
           clear n0_ n1_ n2_ n3_ n4_ n5_
           clear ho hb hg hat
           obtain ⟨Ao26, co26, eo26⟩ := Kd.R_slice HO709.out
           (first | subst eo26 | (injection eo26 with f1_ f2_ f3_; have f4_ := f1_.symm; have f5_ := f3_.symm; clear f1_ f2_ f3_; subst f4_; subst f5_))
           refine hK.out _ _ ⟨(blk_cell BK694.out 0).trans rfl, (blk_cell BK694.out 1).trans rfl, (blk_cell BK694.out 2).trans rfl, (blk_cell BK694.out 3).trans rfl, (blk_cell BK694.out 4).trans rfl, (blk_cell BK694.out 5).trans rfl, (blk_cell BK694.out 6).trans rfl, (blk_cell BK694.out 7).trans rfl, (blk_cell BK696.out 0).trans rfl, (blk_cell BK696.out 1).trans rfl, (blk_cell BK696.out 2).trans rfl, (blk_cell BK696.out 3).trans rfl, (blk_cell BK696.out 4).trans rfl, (blk_cell BK696.out 5).trans rfl, (blk_cell BK696.out 6).trans rfl, (blk_cell BK696.out 7).trans rfl⟩ (fun hHeld => ?_)
           clear hK K
           refine norm_ (a' := ?_) ?_ ?_
           rotate_left
           · show Act.put _ (some 33) _ = _
             simp only [Act.put, List.setIfInBounds_toArray, List.set_cons_zero, List.set_cons_succ, i64_w, i32_w]
             rfl
           refine pure_ (i := 6) (N := some 34) (v := ?_) (a' := ?_) #[true, true, true, true, true, true, true, false] rfl rfl (any_of HT_.out (by kernel_rfl)) (fun _ _ _ h => h) (Or.inl ⟨by rfl, ?_⟩) ?_ ?_
           rotate_left
           · intro w'
             go_simp
             with_reducible rfl
           rotate_left
           · simp only [Act.put, List.setIfInBounds_toArray, List.set_cons_zero, List.set_cons_succ, i64_w, i32_w]
             rfl
           refine last_ (i := 7) (N := none) #[true, true, true, true, true, true, true, true] rfl rfl (one_of HT_.out (by kernel_rfl)) (by decide) (fun K hK => ?_)
           have hs27 : w24.cell? ⟨gb694, 7, none⟩ = some (u695007) := (blk_cell BK694.out 7).trans rfl
           have hfs27 := blk_frozen BK694.out 7
           have hns27_0 := NB692_694.out
           have hns27_1 := NB693_694.out
           have hns27_3 := NB696_694.out
           have hms27_0 := NB694_692.out
           have hms27_1 := NB694_693.out
           have hms27_3 := NB694_696.out
           refine skip_ (w1 := ?_) (by rfl) rfl ?_ ?_
           rotate_left
           · go_simp
             rfl
           refine hK.out _ _ ?_
           clear hK K
           refine done_ (done_of HT_.out (by kernel_rfl)) ?_
           try go_wp2
           go_roundg k1
           case measure => have := HK1.out; omega
           case rel => exact ⟨(wrap64 (x24_1 + 1)), (y707), (.slice Ao26 y707.length co26), (by first | rfl | (simp; done) | (simp [*]; done)), H', ⟨by have := HK1.out; omega⟩, ⟨by (with_reducible repeat (first | apply Kd.R_alloc | apply Kd.R_drewN | apply Kd.R_drew)); exact Kd.R_mono (Kd.R_far (p := ⟨gb694, 7, none⟩) (Kd.R_mono HO709.out (fun k_ hk => (⟨hk, hk.2⟩ : _ ∧ k_ ≠ gb694))) (fun _ hk => hk.2) (.slice Ao26 y707.length co26)) (fun _ hk => ⟨hk.1.1, hk.1.2⟩)⟩, ⟨by (with_reducible repeat (first | refine blk_drewN ?_ _ | refine blk_drew ?_ | refine blk_alloc ?_ _)); refine blk_far ?_ NB692_694.out _; (with_reducible repeat (first | refine blk_drewN ?_ _ | refine blk_drew ?_ | refine blk_alloc ?_ _)); exact BK692.out⟩, ⟨by (with_reducible repeat (first | refine blk_drewN ?_ _ | refine blk_drew ?_ | refine blk_alloc ?_ _)); refine blk_far ?_ NB693_694.out _; (with_reducible repeat (first | refine blk_drewN ?_ _ | refine blk_drew ?_ | refine blk_alloc ?_ _)); exact BK693.out⟩, ⟨by (with_reducible repeat (first | refine blk_drewN ?_ _ | refine blk_drew ?_ | refine blk_alloc ?_ _)); refine blk_put (cs := #[.string a0_0, .int .i64 a0_1, .bool a0_2, .int .i64 a0_3, .int .u64 a0_4, .float .f64 a0_5, .string a0_6, u695007]) ?_ 7 _ rfl; (with_reducible repeat (first | refine blk_drewN ?_ _ | refine blk_drew ?_ | refine blk_alloc ?_ _)); exact BK694.out⟩, ⟨by repeat (first | (with_reducible first | exact HB.out | apply below_alloc | apply pw_below_drewN | apply below_drew1 | refine below_set ?_ GE692.out | refine below_set ?_ GE693.out | refine below_set ?_ GE694.out | refine below_set ?_ GE696.out) | exact HB.out)⟩⟩
         · rw [if_neg c15] at H
           exact absurd H (by simp)
       · rw [if_neg c13] at H
         exact absurd H (by simp)
     · rw [if_neg c12] at H
       exact absurd H (by simp)
   · rw [if_neg c11] at H
     have c11b0 : decide (x24_1 < (l0_7.length : Int)) = false := decide_eq_false c11
     clear c11
     simp only [Option.some.injEq, Prod.mk.injEq] at H
     obtain ⟨rfl, rfl, rfl, rfl, rfl, rfl, rfl, rfl⟩ := H
     have hnb28 := NB694_692.out
     have hnc28 := NB692_694.out
     have hnb29 := NB694_693.out
     have hnc29 := NB693_694.out
     have hcz30_0 : wr.cell? ⟨gb694, 0, none⟩ = some (.string a0_0) := (blk_cell BK694.out 0).trans rfl
     have hcz30_1 : wr.cell? ⟨gb694, 1, none⟩ = some (.int .i64 a0_1) := (blk_cell BK694.out 1).trans rfl
     have hcz30_2 : wr.cell? ⟨gb694, 2, none⟩ = some (.bool a0_2) := (blk_cell BK694.out 2).trans rfl
     have hcz30_3 : wr.cell? ⟨gb694, 3, none⟩ = some (.int .i64 a0_3) := (blk_cell BK694.out 3).trans rfl
     have hcz30_4 : wr.cell? ⟨gb694, 4, none⟩ = some (.int .u64 a0_4) := (blk_cell BK694.out 4).trans rfl
     have hcz30_5 : wr.cell? ⟨gb694, 5, none⟩ = some (.float .f64 a0_5) := (blk_cell BK694.out 5).trans rfl
     have hcz30_6 : wr.cell? ⟨gb694, 6, none⟩ = some (.string a0_6) := (blk_cell BK694.out 6).trans rfl
     have hcz30_7 : wr.cell? ⟨gb694, 7, none⟩ = some (u695007) := (blk_cell BK694.out 7).trans rfl
     have hfz30_0 := blk_frozen BK694.out 0
     have hfz30_1 := blk_frozen BK694.out 1
     have hfz30_2 := blk_frozen BK694.out 2
     have hfz30_3 := blk_frozen BK694.out 3
     have hfz30_4 := blk_frozen BK694.out 4
     have hfz30_5 := blk_frozen BK694.out 5
     have hfz30_6 := blk_frozen BK694.out 6
     have hfz30_7 := blk_frozen BK694.out 7
     have hnb31 := NB693_692.out
     have hnc31 := NB692_693.out
     have hcz32_0 : wr.cell? ⟨gb693, 0, none⟩ = some (.string (⟨#[]⟩ : ByteArray)) := (blk_cell BK693.out 0).trans rfl
     have hcz32_1 : wr.cell? ⟨gb693, 1, none⟩ = some (.int .i64 0) := (blk_cell BK693.out 1).trans rfl
     have hcz32_2 : wr.cell? ⟨gb693, 2, none⟩ = some (.bool false) := (blk_cell BK693.out 2).trans rfl
     have hcz32_3 : wr.cell? ⟨gb693, 3, none⟩ = some (.int .i64 0) := (blk_cell BK693.out 3).trans rfl
     have hcz32_4 : wr.cell? ⟨gb693, 4, none⟩ = some (.int .u64 0) := (blk_cell BK693.out 4).trans rfl
     have hcz32_5 : wr.cell? ⟨gb693, 5, none⟩ = some (.float .f64 0) := (blk_cell BK693.out 5).trans rfl
     have hcz32_6 : wr.cell? ⟨gb693, 6, none⟩ = some (.string (⟨#[]⟩ : ByteArray)) := (blk_cell BK693.out 6).trans rfl
     have hcz32_7 : wr.cell? ⟨gb693, 7, none⟩ = some (.slice none 0 0) := (blk_cell BK693.out 7).trans rfl
     have hfz32_0 := blk_frozen BK693.out 0
     have hfz32_1 := blk_frozen BK693.out 1
     have hfz32_2 := blk_frozen BK693.out 2
     have hfz32_3 := blk_frozen BK693.out 3
     have hfz32_4 := blk_frozen BK693.out 4
     have hfz32_5 := blk_frozen BK693.out 5
     have hfz32_6 := blk_frozen BK693.out 6
     have hfz32_7 := blk_frozen BK693.out 7
     obtain ⟨Ao33, co33, eo33⟩ := Kd.R_slice HO_695007.out
     subst eo33
     go_wp2
     refine bodyPost_ret (results_cell_row rfl _ _ gb693 38 #[.string a0_0, .int .i64 a0_1, .bool a0_2, .int .i64 a0_3, .int .u64 a0_4, .float .f64 a0_5, .string a0_6, .slice Ao33 x695007_1.length co33] (0, 0) _ rfl (by (with_reducible repeat (first | refine blk_drewN ?_ _ | refine blk_drew ?_ | refine blk_alloc ?_ _)); refine blk_put (cs := #[.string a0_0, .int .i64 a0_1, .bool a0_2, .int .i64 a0_3, .int .u64 a0_4, .float .f64 a0_5, .string a0_6, .slice none 0 0]) ?_ 7 _ rfl; (with_reducible repeat (first | refine blk_drewN ?_ _ | refine blk_drew ?_ | refine blk_alloc ?_ _)); refine blk_put (cs := #[.string a0_0, .int .i64 a0_1, .bool a0_2, .int .i64 a0_3, .int .u64 a0_4, .float .f64 a0_5, .string (⟨#[]⟩ : ByteArray), .slice none 0 0]) ?_ 6 _ rfl; (with_reducible repeat (first | refine blk_drewN ?_ _ | refine blk_drew ?_ | refine blk_alloc ?_ _)); refine blk_put (cs := #[.string a0_0, .int .i64 a0_1, .bool a0_2, .int .i64 a0_3, .int .u64 a0_4, .float .f64 0, .string (⟨#[]⟩ : ByteArray), .slice none 0 0]) ?_ 5 _ rfl; (with_reducible repeat (first | refine blk_drewN ?_ _ | refine blk_drew ?_ | refine blk_alloc ?_ _)); refine blk_put (cs := #[.string a0_0, .int .i64 a0_1, .bool a0_2, .int .i64 a0_3, .int .u64 0, .float .f64 0, .string (⟨#[]⟩ : ByteArray), .slice none 0 0]) ?_ 4 _ rfl; (with_reducible repeat (first | refine blk_drewN ?_ _ | refine blk_drew ?_ | refine blk_alloc ?_ _)); refine blk_put (cs := #[.string a0_0, .int .i64 a0_1, .bool a0_2, .int .i64 0, .int .u64 0, .float .f64 0, .string (⟨#[]⟩ : ByteArray), .slice none 0 0]) ?_ 3 _ rfl; (with_reducible repeat (first | refine blk_drewN ?_ _ | refine blk_drew ?_ | refine blk_alloc ?_ _)); refine blk_put (cs := #[.string a0_0, .int .i64 a0_1, .bool false, .int .i64 0, .int .u64 0, .float .f64 0, .string (⟨#[]⟩ : ByteArray), .slice none 0 0]) ?_ 2 _ rfl; (with_reducible repeat (first | refine blk_drewN ?_ _ | refine blk_drew ?_ | refine blk_alloc ?_ _)); refine blk_put (cs := #[.string a0_0, .int .i64 0, .bool false, .int .i64 0, .int .u64 0, .float .f64 0, .string (⟨#[]⟩ : ByteArray), .slice none 0 0]) ?_ 1 _ rfl; (with_reducible repeat (first | refine blk_drewN ?_ _ | refine blk_drew ?_ | refine blk_alloc ?_ _)); refine blk_put (cs := #[.string (⟨#[]⟩ : ByteArray), .int .i64 0, .bool false, .int .i64 0, .int .u64 0, .float .f64 0, .string (⟨#[]⟩ : ByteArray), .slice none 0 0]) ?_ 0 _ rfl; (with_reducible repeat (first | refine blk_drewN ?_ _ | refine blk_drew ?_ | refine blk_alloc ?_ _)); exact BK693.out) Tryz.underlying38 rfl (by kernel_rfl)) rfl ?_
     exact ⟨_, by first | rfl | (simp [errW_none, errW_some] <;> rfl) | (simp [*, errW_none, errW_some] <;> rfl), by (with_reducible repeat (first | apply Kd.R_alloc | apply Kd.R_drewN | apply Kd.R_drew)); exact Kd.R_mono (Kd.R_far (p := ⟨gb693, 7, none⟩) (Kd.R_far (p := ⟨gb693, 6, none⟩) (Kd.R_far (p := ⟨gb693, 5, none⟩) (Kd.R_far (p := ⟨gb693, 4, none⟩) (Kd.R_far (p := ⟨gb693, 3, none⟩) (Kd.R_far (p := ⟨gb693, 2, none⟩) (Kd.R_far (p := ⟨gb693, 1, none⟩) (Kd.R_far (p := ⟨gb693, 0, none⟩) (Kd.R_mono HO_695007.out (fun k_ hk => (⟨hk, hk.1⟩ : _ ∧ k_ ≠ gb693))) (fun _ hk => hk.2) (.string a0_0)) (fun _ hk => hk.2) (.int .i64 a0_1)) (fun _ hk => hk.2) (.bool a0_2)) (fun _ hk => hk.2) (.int .i64 a0_3)) (fun _ hk => hk.2) (.int .u64 a0_4)) (fun _ hk => hk.2) (.float .f64 a0_5)) (fun _ hk => hk.2) (.string a0_6)) (fun _ hk => hk.2) (.slice Ao33 x695007_1.length co33)) (fun _ hk => trivial), by repeat (first | (with_reducible first | exact HB.out | apply below_alloc | apply pw_below_drewN | apply below_drew1 | refine below_set ?_ GE692.out | refine below_set ?_ GE693.out | refine below_set ?_ GE694.out) | exact HB.out)⟩
end Go.Proofs.YtabfehcpcjcomaaGreatDoor.QA0
