/- The texts QA0x38, QA0x39, without what the claims do not use, laid together by a program of this session (wip/tools/bundle.py). Conditions: those of each theorem. -/
import Derived.Test.YtabfehcpcjcomaaGreatDoorIc4
namespace Go.Proofs.YtabfehcpcjcomaaGreatDoor.QA0
open Go.RowKit Go.Proofs.YtabfehcpcjcomaaGreatDoorW.PrintWords Go.Proofs.YtabfehcpcjcomaaGreatDoorW.PrintLast Go.Proofs.YtabfehcpcjcomaaGreatDoorW.PrintMore
attribute [local go_sem] max2_int min2_int max_two min_two max_three min_three max_four min_four
set_option linter.unusedVariables false
set_option linter.unusedSimpArgs false
mutual
def spec_BuddyinfoPrint.l0 : Nat → List (S48) → ByteArray → List (S48) → Int → Int → Option (ByteArray × Int)
 | 0, _, _, _, _, _ => none
 | k + 1, x0, x4, x9, x10, x11 => if x11 < x10 then (if 0 ≤ x11 then (if x11 < (x9.length : Int) then (if (((rd_T48 x9 x11).f2).length : Int) = 2 then ((spec_words.f k ((rd_T48 x9 x11).f2)).bind fun t1361 => (if t1361 = true then (if 0 < (((rd_T48 x9 x11).f2).length : Int) then ((spec_Where.f k (rdOf ByteArray.empty ((rd_T48 x9 x11).f2) 0) 44).bind fun t1363 => (if t1363 ≥ 0 then (spec_BuddyinfoPrint.j1 k x0 x4 x9 x10 x11 true ((rd_T48 x9 x11).f0) ((rd_T48 x9 x11).f1) ((rd_T48 x9 x11).f2)) else (if 1 < (((rd_T48 x9 x11).f2).length : Int) then ((spec_Where.f k (rdOf ByteArray.empty ((rd_T48 x9 x11).f2) 1) 44).bind fun t1365 => (if t1365 ≥ 0 then (spec_BuddyinfoPrint.j1 k x0 x4 x9 x10 x11 true ((rd_T48 x9 x11).f0) ((rd_T48 x9 x11).f1) ((rd_T48 x9 x11).f2)) else (if (((rd_T48 x9 x11).f1).length : Int) < 1 then (spec_BuddyinfoPrint.j1 k x0 x4 x9 x10 x11 true ((rd_T48 x9 x11).f0) ((rd_T48 x9 x11).f1) ((rd_T48 x9 x11).f2)) else (if 0 < (x0.length : Int) then (if (((rd_T48 x9 x11).f1).length : Int) = (((rd_T48 x0 0).f1).length : Int) then ((spec_small.f k 1099511627776 ((rd_T48 x9 x11).f1)).bind fun t1367 => (spec_BuddyinfoPrint.j1 k x0 x4 x9 x10 x11 (!t1367) ((rd_T48 x9 x11).f0) ((rd_T48 x9 x11).f1) ((rd_T48 x9 x11).f2))) else (spec_BuddyinfoPrint.j1 k x0 x4 x9 x10 x11 true ((rd_T48 x9 x11).f0) ((rd_T48 x9 x11).f1) ((rd_T48 x9 x11).f2))) else (none))))) else (none)))) else (none)) else (spec_BuddyinfoPrint.j1 k x0 x4 x9 x10 x11 true ((rd_T48 x9 x11).f0) ((rd_T48 x9 x11).f1) ((rd_T48 x9 x11).f2)))) else (spec_BuddyinfoPrint.j1 k x0 x4 x9 x10 x11 true ((rd_T48 x9 x11).f0) ((rd_T48 x9 x11).f1) ((rd_T48 x9 x11).f2))) else (none)) else (none)) else (some (x4, 1))
def spec_BuddyinfoPrint.j1 : Nat → List (S48) → ByteArray → List (S48) → Int → Int → Bool → ByteArray → List Int → List ByteArray → Option (ByteArray × Int)
 | 0, _, _, _, _, _, _, _, _, _ => none
 | k + 1, x0, x4, x9, x10, x11, x63, x1361000, x1361001, x1361002 => if x63 = true then (some ((⟨#[]⟩ : ByteArray), 2)) else (if 0 < (x1361002.length : Int) then (if 5 + (rdOf ByteArray.empty x1361002 0).size ≤ 9223372036854775807 then (if ((⟨#[78, 111, 100, 101, 32]⟩ : ByteArray) ++ (rdOf ByteArray.empty x1361002 0)).size + 7 ≤ 9223372036854775807 then (if 1 < (x1361002.length : Int) then ((spec_Right.f k (rdOf ByteArray.empty x1361002 1) 8).bind fun t1370 => (if (((⟨#[78, 111, 100, 101, 32]⟩ : ByteArray) ++ (rdOf ByteArray.empty x1361002 0)) ++ (⟨#[44, 32, 122, 111, 110, 101, 32]⟩ : ByteArray)).size + t1370.size ≤ 9223372036854775807 then (if ((((⟨#[78, 111, 100, 101, 32]⟩ : ByteArray) ++ (rdOf ByteArray.empty x1361002 0)) ++ (⟨#[44, 32, 122, 111, 110, 101, 32]⟩ : ByteArray)) ++ t1370).size + 1 ≤ 9223372036854775807 then (if x4.size + (((((⟨#[78, 111, 100, 101, 32]⟩ : ByteArray) ++ (rdOf ByteArray.empty x1361002 0)) ++ (⟨#[44, 32, 122, 111, 110, 101, 32]⟩ : ByteArray)) ++ t1370) ++ (⟨#[32]⟩ : ByteArray)).size ≤ 9223372036854775807 then (spec_BuddyinfoPrint.l1 k x0 (x4 ++ (((((⟨#[78, 111, 100, 101, 32]⟩ : ByteArray) ++ (rdOf ByteArray.empty x1361002 0)) ++ (⟨#[44, 32, 122, 111, 110, 101, 32]⟩ : ByteArray)) ++ t1370) ++ (⟨#[32]⟩ : ByteArray))) x9 x10 x11 x1361001 (x1361001.length : Int) 0) else (none)) else (none)) else (none))) else (none)) else (none)) else (none)) else (none))
def spec_BuddyinfoPrint.l1 : Nat → List (S48) → ByteArray → List (S48) → Int → Int → List Int → Int → Int → Option (ByteArray × Int)
 | 0, _, _, _, _, _, _, _, _ => none
 | k + 1, x0, x4, x9, x10, x11, x80, x81, x82 => if x82 < x81 then (if 0 ≤ x82 then (if x82 < (x80.length : Int) then ((spec_Text.f k (rd x80 x82)).bind fun t1372 => ((spec_Right.f k t1372 6).bind fun t1373 => (if t1373.size + 1 ≤ 9223372036854775807 then (if x4.size + (t1373 ++ (⟨#[32]⟩ : ByteArray)).size ≤ 9223372036854775807 then (spec_BuddyinfoPrint.l1 k x0 (x4 ++ (t1373 ++ (⟨#[32]⟩ : ByteArray))) x9 x10 x11 x80 x81 (wrap64 (x82 + 1))) else (none)) else (none)))) else (none)) else (none)) else (if x4.size + 1 ≤ 9223372036854775807 then (spec_BuddyinfoPrint.l0 k x0 (x4 ++ (⟨#[10]⟩ : ByteArray)) x9 x10 (wrap64 (x11 + 1))) else (none))
end
def spec_BuddyinfoPrint.f (k : Nat) (l0 : List (S48)) : Option (ByteArray × Int) := spec_BuddyinfoPrint.l0 k l0 (⟨#[]⟩ : ByteArray) l0 (l0.length : Int) 0
def spec_BuddyinfoPrint.T5 : Bool × List (List Nat × List Nat) := (true, [([], []), ([0], [0]), ([1], [1]), ([2], [2]), ([3], [3]), ([4], [4]), ([5, 4], [4, 5]), ([6, 4, 4], [4, 6]), ([7, 4], [4, 7]), ([4, 8], [4, 8]), ([9, 7], [9]), ([10], [10]), ([11, 10], [10, 11]), ([12, 10], [10, 12]), ([13, 10], [10, 13]), ([14, 10, 10], [10, 14]), ([15, 10], [10, 15]), ([10, 16], [10, 16]), ([17, 15], [17]), ([18], [18]), ([19, 18], [18, 19]), ([20, 18], [18, 20]), ([21, 18], [18, 21]), ([22, 18, 18], [18, 22]), ([23, 18], [18, 23]), ([18, 24], [18, 24]), ([25, 23], [25]), ([26], [26]), ([27, 26], [26, 27]), ([28, 26], [26, 28]), ([29, 26], [26, 29]), ([26, 30], [26, 30]), ([31, 26], [31]), ([32], [32]), ([33, 32], [32, 33]), ([34, 32], [32, 34]), ([32], [32]), ([36, 32], [32, 36]), ([37, 32], [32, 37]), ([38, 32], [32, 38]), ([39, 32], [32, 39]), ([35, 40, 32], [32, 35, 40]), ([32, 41], [32, 41]), ([42, 32], [42]), ([43], [43]), ([44, 43], [43, 44]), ([45, 43, 43], [43, 45]), ([46, 43], [43, 46]), ([43, 47], [43, 47])])
def spec_BuddyinfoPrint.B5 : List Nat := [0, 1, 3, 7, 15, 31, 63, 127, 255, 511, 1023, 2047, 4095, 8191, 16383, 32767, 65535, 131071, 262143, 524287, 1048575, 2097151, 4194303, 8388607, 16777215, 33554431, 67108863, 134217727, 268435455, 536870911, 1073741823, 2147483647, 4294967295, 8589934591, 17179869183, 34359738367, 8589934591, 77309411327, 214748364799, 489626271743, 1039382085631, 2199023255551, 4398046511103, 8796093022207, 17592186044415, 35184372088831, 70368744177663, 140737488355327, 281474976710655]
theorem spec_BuddyinfoPrint.tab5 : rtab .any (opsOf Tryz.f49 5) = spec_BuddyinfoPrint.T5 := by kernel_rfl
theorem spec_BuddyinfoPrint.bits5 : waitsOk spec_BuddyinfoPrint.T5.2 spec_BuddyinfoPrint.B5 = true := by kernel_rfl
def spec_BuddyinfoPrint.T7 : Bool × List (List Nat × List Nat) := (true, [([], []), ([], []), ([1], [1]), ([2], [2]), ([3], [3]), ([4], [4]), ([5], [5]), ([], []), ([7], [7]), ([8], [8]), ([9], [9]), ([10], [10]), ([6, 11], [6, 11]), ([12], [12]), ([0, 13], [0, 13]), ([14, 11, 0, 1, 2, 3, 4, 5, 6, 7, 8, 9, 10, 11, 12, 13, 14], [0, 14])])
def spec_BuddyinfoPrint.B7 : List Nat := [0, 0, 2, 6, 14, 30, 62, 0, 128, 384, 896, 1920, 4094, 8190, 16383, 32767]
theorem spec_BuddyinfoPrint.tab7 : rtab .any (opsOf Tryz.f49 7) = spec_BuddyinfoPrint.T7 := by kernel_rfl
theorem spec_BuddyinfoPrint.bits7 : waitsOk spec_BuddyinfoPrint.T7.2 spec_BuddyinfoPrint.B7 = true := by kernel_rfl
set_option maxHeartbeats 8000000 in
set_option maxRecDepth 100000 in
theorem spec_BuddyinfoPrint.calls (k : Nat) (A0 : Option Addr) (c0 : Nat) (l0 : List (S48)) (r1 : ByteArray) (r2 : Int) (w : World) (hr0 : Kd.C k48 w A0 l0.length l0) (hc0 : l0.length ≤ c0) (h : spec_BuddyinfoPrint.f k l0 = some (r1, r2)) :
 Calls Tryz.prog 49 #[.slice A0 l0.length c0] w fun e w' => e = .returned (.tuple #[.string r1, .int .i64 r2]) ∧ Below w.heap.size w w' := by
 have hu48 := Tryz.underlying48; have HR0 := Aside0.mk hr0; have HC0 := Aside0.mk hc0; clear hr0 hc0; have HB := Aside0.mk (Below.refl w.heap.size w); have H : (spec_BuddyinfoPrint.l0 k l0 (⟨#[]⟩ : ByteArray) l0 (l0.length : Int) 0) = some (r1, r2) := h; clear h; have H' := Aside0.mk H; clear H
 go_enter Tryz.func49, Tryz.ntmps49
 go_wp2
 go_loopg [4, 11] k (fun kq v4 v11 w' => ∃ (x4_1 : ByteArray) (x11_1 : Int), v4 = .string x4_1 ∧ v11 = .int .i64 x11_1 ∧ Aside0 (spec_BuddyinfoPrint.l0 kq l0 x4_1 l0 (l0.length : Int) x11_1 = some (r1, r2)) ∧ Aside0 (kq ≤ k) ∧ Aside0 (Below w.heap.size w w'))
 case atStart => exact ⟨((⟨#[]⟩ : ByteArray)), (0), R.rs, R.rs, H', ⟨Nat.le_refl _⟩, ⟨by repeat (first | (with_reducible first | exact HB.out | apply below_alloc | apply pw_below_drewN | apply below_drew1) | exact HB.out)⟩⟩
 case round =>
  clear H'; obtain ⟨x4_1, x11_1, rfl, rfl, HA, HK1, HB⟩ := hrel; cases gk with
  | zero => exact absurd HA.out (by simp [spec_BuddyinfoPrint.l0])
  | succ k1 =>
   have H := HA.out; clear HA; simp only [spec_BuddyinfoPrint.l0] at H
   by_cases c2 : x11_1 < (l0.length : Int)
   · rw [if_pos c2] at H; have c2b0 : decide (x11_1 < (l0.length : Int)) = true := decide_eq_true c2; clear c2
     by_cases c3 : 0 ≤ x11_1
     · rw [if_pos c3] at H; have c3b0 : decide (0 ≤ x11_1) = true := decide_eq_true c3; clear c3
       by_cases c4 : x11_1 < (l0.length : Int)
       · rw [if_pos c4] at H; have c4b0 : decide (x11_1 < (l0.length : Int)) = true := decide_eq_true c4; clear c4; have HC5 := Aside0.mk H; clear H; have p1359 : 0 ≤ (x11_1 : Int) := R.od; have q1359 : x11_1 < (l0.length : Int) := R.od; obtain ⟨ad1359, A1359_1, c1359_1, A1359_2, c1359_2, e1359, hx1359_0, hx1359_1, hx1359_2, hl1359_1, hi1359_1, hl1359_2, hi1359_2⟩ := at_T48 HR0.out x11_1 p1359 q1359; cases e1359; replace hx1359_0 := (HB.out.cell (World.block_lt_of_cell? w _ hx1359_0)).trans hx1359_0; replace hx1359_1 := (HB.out.cell (World.block_lt_of_cell? w _ hx1359_1)).trans hx1359_1; replace hx1359_2 := (HB.out.cell (World.block_lt_of_cell? w _ hx1359_2)).trans hx1359_2; have HR1359_1 := Aside0.mk hi1359_1; have HC1359_1 := Aside0.mk hl1359_1; clear hi1359_1 hl1359_1; have HR1359_2 := Aside0.mk hi1359_2; have HC1359_2 := Aside0.mk hl1359_2; clear hi1359_2 hl1359_2; replace p1359 := eq_true p1359; replace q1359 := eq_true q1359
         go_upto_region 5 with (first | ((with_reducible refine gate_dst (N := 6) rfl ?_); (try (refine gate_guard (by rfl) ?_; dsimp only)); refine box_event ?hg (N := 6) ?hd (cs := #[.string ⟨#[]⟩, .slice none 0 0, .slice none 0 0]) (t := 48) ?hr ?_; (case hd => rfl); (case hg => rfl); (case hr => first | (go_simp; done) | (go_simp; rfl)); intro gb1360 hg w6 hbox hb; have n0_ := Aside0.mk (below_step (R.hb HB.out) hb); have n1_ := Aside0.mk (hbox); have n2_ := Aside0.mk ((by rw [hg]; exact (below_size (R.hb HB.out)) : w.heap.size ≤ gb1360)); have n3_ := n2_; clear HB; have HB := n0_; have BK1360 := n1_; have GW1360 := n2_; have GE1360 := n3_; clear n0_ n1_ n2_ n3_; clear hb hbox hg; have hcz7_0 : w6.cell? ⟨gb1360, 0, none⟩ = some (.string ⟨#[]⟩) := (blk_cell BK1360.out 0).trans rfl; have hcz7_1 : w6.cell? ⟨gb1360, 1, none⟩ = some (.slice none 0 0) := (blk_cell BK1360.out 1).trans rfl; have hcz7_2 : w6.cell? ⟨gb1360, 2, none⟩ = some (.slice none 0 0) := (blk_cell BK1360.out 2).trans rfl; have hfz7_0 := blk_frozen BK1360.out 0; have hfz7_1 := blk_frozen BK1360.out 1; have hfz7_2 := blk_frozen BK1360.out 2))
         (try simp only [Act.put, List.setIfInBounds_toArray, List.set_cons_zero, List.set_cons_succ])
         go_cut [63] (fun v63 wc => ∃ (kq : Nat) (x63_4 : Bool), v63 = .bool x63_4 ∧ Aside0 (spec_BuddyinfoPrint.j1 kq l0 x4_1 l0 (l0.length : Int) x11_1 x63_4 ((rd_T48 l0 x11_1).f0) ((rd_T48 l0 x11_1).f1) ((rd_T48 l0 x11_1).f2) = some (r1, r2)) ∧ Aside0 (kq ≤ k1) ∧ Aside0 (wc.heap[gb1360]? = some (.cells #[.string ((rd_T48 l0 x11_1).f0), (.slice A1359_1 ((rd_T48 l0 x11_1).f1).length c1359_1), (.slice A1359_2 ((rd_T48 l0 x11_1).f2).length c1359_2)] 48 (0, 0))) ∧ Aside0 (Below w.heap.size w wc))
         case first =>
          have H := HC5.out; clear HC5
          by_cases c8 : (((rd_T48 l0 x11_1).f2).length : Int) = 2
          · rw [if_pos c8] at H; have c8b0 : ((((rd_T48 l0 x11_1).f2).length : Int) == 2) = true := beq_iff_eq.mpr c8; have c8b1 : ((((rd_T48 l0 x11_1).f2).length : Int) != 2) = false := bne_eq_false_iff_eq.mpr c8; clear c8; (first | rw [c8b0] | (simp only [i64_w, i32_w]; rw [c8b0]) | skip); replace H := Option.bind_eq_some_iff.mp H; obtain ⟨t1361, A90, H⟩ := H; (try dsimp only at H); have A9 := Aside0.mk A90; clear A90
            by_cases c10 : t1361 = true
            · subst c10; rw [if_pos rfl] at H; have H1 := H; clear H; have H := H1; clear H1
              by_cases c11 : 0 < (((rd_T48 l0 x11_1).f2).length : Int)
              · rw [if_pos c11] at H; have c11b0 : decide (0 < (((rd_T48 l0 x11_1).f2).length : Int)) = true := decide_eq_true c11; have c11b1 : decide (0 < ((rd_T48 l0 x11_1).f2).length) = true := decide_eq_true (by omega); clear c11; replace H := Option.bind_eq_some_iff.mp H; obtain ⟨t1363, A120, H⟩ := H; (try dsimp only at H); have A12 := Aside0.mk A120; clear A120
                by_cases c13 : t1363 ≥ 0
                · rw [if_pos c13] at H; have c13b0 : decide (0 ≤ t1363) = true := decide_eq_true c13; clear c13; have H' := Aside0.mk H; clear H; try go_wp2
                  have n0_ : Aside0 ((((w6.setCell ⟨gb1360, 0, none⟩ (.string ((rd_T48 l0 x11_1).f0))).setCell ⟨gb1360, 1, none⟩ (.slice A1359_1 ((rd_T48 l0 x11_1).f1).length c1359_1)).setCell ⟨gb1360, 2, none⟩ (.slice A1359_2 ((rd_T48 l0 x11_1).f2).length c1359_2)).heap[gb1360]? = some (.cells #[.string ((rd_T48 l0 x11_1).f0), .slice A1359_1 ((rd_T48 l0 x11_1).f1).length c1359_1, .slice A1359_2 ((rd_T48 l0 x11_1).f2).length c1359_2] 48 (0, 0))) := ⟨by (with_reducible repeat (first | refine blk_drewN ?_ _ | refine blk_drew ?_ | refine blk_alloc ?_ _)); refine blk_put (cs := #[.string ((rd_T48 l0 x11_1).f0), .slice A1359_1 ((rd_T48 l0 x11_1).f1).length c1359_1, .slice none 0 0]) ?_ 2 _ rfl; (with_reducible repeat (first | refine blk_drewN ?_ _ | refine blk_drew ?_ | refine blk_alloc ?_ _)); refine blk_put (cs := #[.string ((rd_T48 l0 x11_1).f0), .slice none 0 0, .slice none 0 0]) ?_ 1 _ rfl; (with_reducible repeat (first | refine blk_drewN ?_ _ | refine blk_drew ?_ | refine blk_alloc ?_ _)); refine blk_put (cs := #[.string ⟨#[]⟩, .slice none 0 0, .slice none 0 0]) ?_ 0 _ rfl; (with_reducible repeat (first | refine blk_drewN ?_ _ | refine blk_drew ?_ | refine blk_alloc ?_ _)); exact BK1360.out⟩; have n1_ : Aside0 (Below w.heap.size w (((w6.setCell ⟨gb1360, 0, none⟩ (.string ((rd_T48 l0 x11_1).f0))).setCell ⟨gb1360, 1, none⟩ (.slice A1359_1 ((rd_T48 l0 x11_1).f1).length c1359_1)).setCell ⟨gb1360, 2, none⟩ (.slice A1359_2 ((rd_T48 l0 x11_1).f2).length c1359_2))) := ⟨by repeat (first | (with_reducible first | exact HB.out | apply below_alloc | apply pw_below_drewN | apply below_drew1 | refine below_set ?_ GE1360.out) | exact HB.out)⟩; (try clear BK1360); (try clear HB); generalize (((w6.setCell ⟨gb1360, 0, none⟩ (.string ((rd_T48 l0 x11_1).f0))).setCell ⟨gb1360, 1, none⟩ (.slice A1359_1 ((rd_T48 l0 x11_1).f1).length c1359_1)).setCell ⟨gb1360, 2, none⟩ (.slice A1359_2 ((rd_T48 l0 x11_1).f2).length c1359_2)) = w14 at n0_ n1_ ⊢; have BK1360 := n0_; have HB := n1_; clear n0_ n1_; have n0_ := Aside0.mk (blk_drew BK1360.out); have n1_ := Aside0.mk (below_drew1 HB.out); clear BK1360; clear HB; have BK1360 := n0_; have HB := n1_; clear n0_ n1_; have p1362 : 0 ≤ (0 : Int) := (by omega); have q1362 : 0 < (((rd_T48 l0 x11_1).f2).length : Int) := R.od; obtain ⟨ad1362, e1362, hx1362_0⟩ := Kd.at_string HR1359_2.out 0 p1362 q1362; have hw1362_0 := hx1362_0; (try rw [show ((0 : Int)).toNat = 0 from rfl] at hw1362_0); (try rw [show 0 * 1 = 0 from rfl] at hw1362_0); (try rw [Addr.add_zero'] at hw1362_0); cases e1362; have qi1362 : (0 < ((rd_T48 l0 x11_1).f2).length) = True := eq_true (by omega); (try rw [show ((0 : Int)).toNat = 0 from rfl] at hx1362_0); (try rw [Addr.add_zero'] at hx1362_0); replace hx1362_0 := (HB.out.cell (World.block_lt_of_cell? w _ hx1362_0)).trans hx1362_0; replace p1362 := eq_true p1362; replace q1362 := eq_true q1362; refine start_ (n := 49) (S := fun w' => w'.cell? ⟨gb1360, 0, none⟩ = some (.string ((rd_T48 l0 x11_1).f0)) ∧ w'.cell? ⟨gb1360, 1, none⟩ = some (.slice A1359_1 ((rd_T48 l0 x11_1).f1).length c1359_1) ∧ w'.cell? ⟨gb1360, 2, none⟩ = some (.slice (some ad1362) ((rd_T48 l0 x11_1).f2).length c1359_2) ∧ w'.cell? ad1362 = some (.string (rdOf ByteArray.empty ((rd_T48 l0 x11_1).f2) 0))) (ds := []) (R.tf 0 49) (by kernel_rfl) rfl rfl ⟨(blk_cell BK1360.out 0).trans rfl, (blk_cell BK1360.out 1).trans rfl, (blk_cell BK1360.out 2).trans rfl, ((HB.out.cell (World.block_lt_of_cell? w _ hw1362_0)).trans hw1362_0)⟩ (fun hHeld => ?_); refine with_tabW spec_BuddyinfoPrint.tab5 spec_BuddyinfoPrint.bits5 (fun HT_ HW_ => ?_); generalize w14.drew = w15 at BK1360 HB hx1362_0 hHeld ⊢; refine R.pv (i := 0) (N := some 15) (v := ?_) (a' := ?_) (R.tf 1 48) rfl rfl (R.ao HT_.out) ?_ ?_ ?_; rotate_left
                  · intro w'; go_simp; with_reducible rfl
                  rotate_left
                  · simp only [Act.put, R.sa, R.sb, R.sc, i64_w, i32_w]; rfl
                  refine take_ (i := 1) (N := some 16) (v := ?_) (a' := ?_) (R.tf 2 47) rfl rfl (take_ofW HT_.out HW_.out (by kernel_rfl)) (fun _ _ _ h => h) (Or.inl ⟨by rfl, ?_⟩) hHeld ?_ ?_; rotate_left
                  · rintro w' ⟨s0, s1, s2, s3⟩; go_simp; with_reducible rfl
                  rotate_left
                  · simp only [Act.put, R.sa, R.sb, R.sc, i64_w, i32_w]; rfl
                  refine R.pv (i := 2) (N := some 17) (v := ?_) (a' := ?_) (R.tf 3 46) rfl rfl (R.ao HT_.out) ?_ ?_ ?_; rotate_left
                  · intro w'; go_simp; with_reducible rfl
                  rotate_left
                  · simp only [Act.put, R.sa, R.sb, R.sc, i64_w, i32_w]; rfl
                  refine R.pv (i := 3) (N := some 18) (v := ?_) (a' := ?_) (R.tf 4 45) rfl rfl (R.ao HT_.out) ?_ ?_ ?_; rotate_left
                  · intro w'; go_simp; with_reducible rfl
                  rotate_left
                  · simp only [Act.put, R.sa, R.sb, R.sc, i64_w, i32_w]; rfl
                  refine R.pv (i := 4) (N := some 19) (v := ?_) (a' := ?_) (R.tf 5 44) rfl rfl (R.ao HT_.out) ?_ ?_ ?_; rotate_left
                  · intro w'; go_simp; with_reducible rfl
                  rotate_left
                  · simp only [Act.put, R.sa, R.sb, R.sc, i64_w, i32_w]; rfl
                  refine R.pv (i := 5) (N := some 20) (v := ?_) (a' := ?_) (R.tf 6 43) rfl rfl (R.ao HT_.out) ?_ ?_ ?_; rotate_left
                  · intro w'; go_simp; with_reducible rfl
                  rotate_left
                  · simp only [Act.put, R.sa, R.sb, R.sc, i64_w, i32_w]; rfl
                  refine take_ (i := 6) (N := some 21) (v := ?_) (a' := ?_) (R.tf 7 42) rfl rfl (take_ofW HT_.out HW_.out (by kernel_rfl)) (fun _ _ _ h => h) (Or.inl ⟨by rfl, ?_⟩) hHeld ?_ ?_; rotate_left
                  · rintro w' ⟨s0, s1, s2, s3⟩; go_simp; with_reducible rfl
                  rotate_left
                  · simp only [Act.put, R.sa, R.sb, R.sc, i64_w, i32_w]; rfl
                  refine one_ (i := 7) (N := some 22) (R.tf 8 41) rfl rfl (R.oo HT_.out) (by decide) (fun K hK => ?_); refine goes_ Tryz.func107 (by kernel_rfl) rfl #[.slice (some ad1362) ((rd_T48 l0 x11_1).f2).length c1359_2] (by rfl) rfl rfl R.tp ?_; with_reducible refine (spec_words.calls k1 _ _ ((rd_T48 l0 x11_1).f2) true _ ?side1 ?side2 A9.out).mono ?_
                  (case side1 => repeat (first | exact (Kd.C_below HR1359_2.out HB.out) | (with_reducible refine Kd.C_alloc ?_ _) | (with_reducible refine Kd.C_drewN ?_ _) | (with_reducible refine Kd.C_drew ?_)))
                  (case side2 => exact HC1359_2.out)
                  rintro e w' ⟨rfl, ⟨nd, rfl⟩⟩; refine ⟨_, rfl, ?_⟩; refine hK.out _ _ ⟨(blk_cell BK1360.out 0).trans rfl, (blk_cell BK1360.out 1).trans rfl, (blk_cell BK1360.out 2).trans rfl, ((HB.out.cell (World.block_lt_of_cell? w _ hw1362_0)).trans hw1362_0)⟩ (fun hHeld => ?_); clear hK K; refine norm_ (a' := ?_) ?_ ?_; rotate_left
                  · show Act.put _ (some 22) _ = _
                    simp only [Act.put, R.sa, R.sb, R.sc, i64_w, i32_w]; rfl
                  refine R.pv (i := 8) (N := some 23) (v := ?_) (a' := ?_) (R.tf 9 40) rfl rfl (R.ao HT_.out) ?_ ?_ ?_; rotate_left
                  · intro w'; go_simp; with_reducible rfl
                  rotate_left
                  · simp only [Act.put, R.sa, R.sb, R.sc, i64_w, i32_w]; rfl
                  refine R.pv (i := 9) (N := some 24) (v := ?_) (a' := ?_) (R.tf 10 39) rfl rfl (R.ao HT_.out) ?_ ?_ ?_; rotate_left
                  · intro w'; go_simp; with_reducible rfl
                  rotate_left
                  · simp only [Act.put, R.sa, R.sb, R.sc, i64_w, i32_w]; rfl
                  refine R.pv (i := 10) (N := some 25) (v := ?_) (a' := ?_) (R.tf 11 38) rfl rfl (R.ao HT_.out) ?_ ?_ ?_; rotate_left
                  · intro w'; go_simp; with_reducible rfl
                  rotate_left
                  · simp only [Act.put, R.sa, R.sb, R.sc, i64_w, i32_w]; rfl
                  refine R.pv (i := 11) (N := some 26) (v := ?_) (a' := ?_) (R.tf 12 37) rfl rfl (R.ao HT_.out) ?_ ?_ ?_; rotate_left
                  · intro w'; go_simp; with_reducible rfl
                  rotate_left
                  · simp only [Act.put, R.sa, R.sb, R.sc, i64_w, i32_w]; rfl
                  refine take_ (i := 12) (N := some 27) (v := ?_) (a' := ?_) (R.tf 13 36) rfl rfl (take_ofW HT_.out HW_.out (by kernel_rfl)) (fun _ _ _ h => h) (Or.inl ⟨by rfl, ?_⟩) hHeld ?_ ?_; rotate_left
                  · rintro w' ⟨s0, s1, s2, s3⟩; go_simp; with_reducible rfl
                  rotate_left
                  · simp only [Act.put, R.sa, R.sb, R.sc, i64_w, i32_w]; rfl
                  refine R.pv (i := 13) (N := some 28) (v := ?_) (a' := ?_) (R.tf 14 35) rfl rfl (R.ao HT_.out) ?_ ?_ ?_; rotate_left
                  · intro w'; go_simp; with_reducible rfl
                  rotate_left
                  · simp only [Act.put, R.sa, R.sb, R.sc, i64_w, i32_w]; rfl
                  refine take_ (i := 14) (N := some 29) (v := ?_) (a' := ?_) (R.tf 15 34) rfl rfl (take_ofW HT_.out HW_.out (by kernel_rfl)) (fun _ _ _ h => h) (Or.inl ⟨by rfl, ?_⟩) hHeld ?_ ?_; rotate_left
                  · rintro w' ⟨s0, s1, s2, s3⟩; go_simp; with_reducible rfl
                  rotate_left
                  · simp only [Act.put, R.sa, R.sb, R.sc, i64_w, i32_w]; rfl
                  refine one_ (i := 15) (N := some 30) (R.tf 16 33) rfl rfl (R.oo HT_.out) (by decide) (fun K hK => ?_); refine goes_ Tryz.func96 (by kernel_rfl) rfl #[.string (rdOf ByteArray.empty ((rd_T48 l0 x11_1).f2) 0), .int .u8 44] (by rfl) rfl rfl R.tp ?_; with_reducible refine (spec_Where.calls k1 (rdOf ByteArray.empty ((rd_T48 l0 x11_1).f2) 0) 44 t1363 _ A12.out).mono ?_
                  rintro e w' ⟨rfl, ⟨nd, rfl⟩⟩; refine ⟨_, rfl, ?_⟩; refine hK.out _ _ ⟨(blk_cell BK1360.out 0).trans rfl, (blk_cell BK1360.out 1).trans rfl, (blk_cell BK1360.out 2).trans rfl, ((HB.out.cell (World.block_lt_of_cell? w _ hw1362_0)).trans hw1362_0)⟩ (fun hHeld => ?_); clear hK K; refine norm_ (a' := ?_) ?_ ?_; rotate_left
                  · show Act.put _ (some 30) _ = _
                    simp only [Act.put, R.sa, R.sb, R.sc, i64_w, i32_w]; rfl
                  refine R.pv (i := 16) (N := some 31) (v := ?_) (a' := ?_) (R.tf 17 32) rfl rfl (R.ao HT_.out) ?_ ?_ ?_; rotate_left
                  · intro w'; go_simp; with_reducible rfl
                  rotate_left
                  · simp only [Act.put, R.sa, R.sb, R.sc, i64_w, i32_w]; rfl
                  refine R.pv (i := 17) (N := some 32) (v := ?_) (a' := ?_) (R.tf 18 31) rfl rfl (R.ao HT_.out) ?_ ?_ ?_; rotate_left
                  · intro w'; go_simp; with_reducible rfl
                  rotate_left
                  · simp only [Act.put, R.sa, R.sb, R.sc, i64_w, i32_w]; rfl
                  refine R.pv (i := 18) (N := some 33) (v := ?_) (a' := ?_) (R.tf 19 30) rfl rfl (R.ao HT_.out) ?_ ?_ ?_; rotate_left
                  · intro w'; go_simp; with_reducible rfl
                  rotate_left
                  · simp only [Act.put, R.sa, R.sb, R.sc, i64_w, i32_w]; rfl
                  refine R.pu (i := 19) (N := some 34) (a' := ?_) (R.tf 20 29) rfl rfl (R.ao HT_.out) ?_ ?_; rotate_left
                  · simp only [Act.put, R.sa, R.sb, R.sc, i64_w, i32_w]; rfl
                  refine R.pu (i := 20) (N := some 35) (a' := ?_) (R.tf 21 28) rfl rfl (R.ao HT_.out) ?_ ?_; rotate_left
                  · simp only [Act.put, R.sa, R.sb, R.sc, i64_w, i32_w]; rfl
                  refine R.pu (i := 21) (N := some 36) (a' := ?_) (R.tf 22 27) rfl rfl (R.ao HT_.out) ?_ ?_; rotate_left
                  · simp only [Act.put, R.sa, R.sb, R.sc, i64_w, i32_w]; rfl
                  refine R.pu (i := 22) (N := some 37) (a' := ?_) (R.tf 23 26) rfl rfl (R.ao HT_.out) ?_ ?_; rotate_left
                  · simp only [Act.put, R.sa, R.sb, R.sc, i64_w, i32_w]; rfl
                  refine R.pu (i := 23) (N := some 38) (a' := ?_) (R.tf 24 25) rfl rfl (R.ao HT_.out) ?_ ?_; rotate_left
                  · simp only [Act.put, R.sa, R.sb, R.sc, i64_w, i32_w]; rfl
                  refine R.pu (i := 24) (N := some 39) (a' := ?_) (R.tf 25 24) rfl rfl (R.ao HT_.out) ?_ ?_; rotate_left
                  · simp only [Act.put, R.sa, R.sb, R.sc, i64_w, i32_w]; rfl
                  refine R.pv (i := 25) (N := some 40) (v := ?_) (a' := ?_) (R.tf 26 23) rfl rfl (R.ao HT_.out) ?_ ?_ ?_; rotate_left
                  · intro w'; go_simp; with_reducible rfl
                  rotate_left
                  · simp only [Act.put, R.sa, R.sb, R.sc, i64_w, i32_w]; rfl
                  refine R.pv (i := 26) (N := some 41) (v := ?_) (a' := ?_) (R.tf 27 22) rfl rfl (R.ao HT_.out) ?_ ?_ ?_; rotate_left
                  · intro w'; go_simp; with_reducible rfl
                  rotate_left
                  · simp only [Act.put, R.sa, R.sb, R.sc, i64_w, i32_w]; rfl
                  refine R.pu (i := 27) (N := some 42) (a' := ?_) (R.tf 28 21) rfl rfl (R.ao HT_.out) ?_ ?_; rotate_left
                  · simp only [Act.put, R.sa, R.sb, R.sc, i64_w, i32_w]; rfl
                  refine R.pu (i := 28) (N := some 43) (a' := ?_) (R.tf 29 20) rfl rfl (R.ao HT_.out) ?_ ?_; rotate_left
                  · simp only [Act.put, R.sa, R.sb, R.sc, i64_w, i32_w]; rfl
                  refine R.pu (i := 29) (N := some 44) (a' := ?_) (R.tf 30 19) rfl rfl (R.ao HT_.out) ?_ ?_; rotate_left
                  · simp only [Act.put, R.sa, R.sb, R.sc, i64_w, i32_w]; rfl
                  refine R.pu (i := 30) (N := some 45) (a' := ?_) (R.tf 31 18) rfl rfl (R.ao HT_.out) ?_ ?_; rotate_left
                  · simp only [Act.put, R.sa, R.sb, R.sc, i64_w, i32_w]; rfl
                  refine R.pv (i := 31) (N := some 46) (v := ?_) (a' := ?_) (R.tf 32 17) rfl rfl (R.ao HT_.out) ?_ ?_ ?_; rotate_left
                  · intro w'; go_simp; with_reducible rfl
                  rotate_left
                  · simp only [Act.put, R.sa, R.sb, R.sc, i64_w, i32_w]; rfl
                  refine R.pv (i := 32) (N := some 47) (v := ?_) (a' := ?_) (R.tf 33 16) rfl rfl (R.ao HT_.out) ?_ ?_ ?_; rotate_left
                  · intro w'; go_simp; with_reducible rfl
                  rotate_left
                  · simp only [Act.put, R.sa, R.sb, R.sc, i64_w, i32_w]; rfl
                  refine R.pu (i := 33) (N := some 48) (a' := ?_) (R.tf 34 15) rfl rfl (R.ao HT_.out) ?_ ?_; rotate_left
                  · simp only [Act.put, R.sa, R.sb, R.sc, i64_w, i32_w]; rfl
                  refine R.pu (i := 34) (N := some 49) (a' := ?_) (R.tf 35 14) rfl rfl (R.ao HT_.out) ?_ ?_; rotate_left
                  · simp only [Act.put, R.sa, R.sb, R.sc, i64_w, i32_w]; rfl
                  refine R.pu (i := 35) (N := some 50) (a' := ?_) (R.tf 36 13) rfl rfl (R.ao HT_.out) ?_ ?_; rotate_left
                  · simp only [Act.put, R.sa, R.sb, R.sc, i64_w, i32_w]; rfl
                  refine R.pu (i := 36) (N := some 51) (a' := ?_) (R.tf 37 12) rfl rfl (R.ao HT_.out) ?_ ?_; rotate_left
                  · simp only [Act.put, R.sa, R.sb, R.sc, i64_w, i32_w]; rfl
                  refine R.pu (i := 37) (N := some 52) (a' := ?_) (R.tf 38 11) rfl rfl (R.ao HT_.out) ?_ ?_; rotate_left
                  · simp only [Act.put, R.sa, R.sb, R.sc, i64_w, i32_w]; rfl
                  refine R.pu (i := 38) (N := some 53) (a' := ?_) (R.tf 39 10) rfl rfl (R.ao HT_.out) ?_ ?_; rotate_left
                  · simp only [Act.put, R.sa, R.sb, R.sc, i64_w, i32_w]; rfl
                  refine R.pu (i := 39) (N := some 54) (a' := ?_) (R.tf 40 9) rfl rfl (R.ao HT_.out) ?_ ?_; rotate_left
                  · simp only [Act.put, R.sa, R.sb, R.sc, i64_w, i32_w]; rfl
                  refine R.pu (i := 40) (N := some 55) (a' := ?_) (R.tf 41 8) rfl rfl (R.ao HT_.out) ?_ ?_; rotate_left
                  · simp only [Act.put, R.sa, R.sb, R.sc, i64_w, i32_w]; rfl
                  refine R.pu (i := 41) (N := some 56) (a' := ?_) (R.tf 42 7) rfl rfl (R.ao HT_.out) ?_ ?_; rotate_left
                  · simp only [Act.put, R.sa, R.sb, R.sc, i64_w, i32_w]; rfl
                  refine R.pv (i := 42) (N := some 57) (v := ?_) (a' := ?_) (R.tf 43 6) rfl rfl (R.ao HT_.out) ?_ ?_ ?_; rotate_left
                  · intro w'; go_simp; with_reducible rfl
                  rotate_left
                  · simp only [Act.put, R.sa, R.sb, R.sc, i64_w, i32_w]; rfl
                  refine R.pv (i := 43) (N := some 58) (v := ?_) (a' := ?_) (R.tf 44 5) rfl rfl (R.ao HT_.out) ?_ ?_ ?_; rotate_left
                  · intro w'; go_simp; with_reducible rfl
                  rotate_left
                  · simp only [Act.put, R.sa, R.sb, R.sc, i64_w, i32_w]; rfl
                  refine R.pu (i := 44) (N := some 59) (a' := ?_) (R.tf 45 4) rfl rfl (R.ao HT_.out) ?_ ?_; rotate_left
                  · simp only [Act.put, R.sa, R.sb, R.sc, i64_w, i32_w]; rfl
                  refine R.pu (i := 45) (N := some 60) (a' := ?_) (R.tf 46 3) rfl rfl (R.ao HT_.out) ?_ ?_; rotate_left
                  · simp only [Act.put, R.sa, R.sb, R.sc, i64_w, i32_w]; rfl
                  refine R.pu (i := 46) (N := some 61) (a' := ?_) (R.tf 47 2) rfl rfl (R.ao HT_.out) ?_ ?_; rotate_left
                  · simp only [Act.put, R.sa, R.sb, R.sc, i64_w, i32_w]; rfl
                  refine R.pu (i := 47) (N := some 62) (a' := ?_) (R.tf 48 1) rfl rfl (R.ao HT_.out) ?_ ?_; rotate_left
                  · simp only [Act.put, R.sa, R.sb, R.sc, i64_w, i32_w]; rfl
                  refine R.pv (i := 48) (N := some 63) (v := ?_) (a' := ?_) (R.tf 49 0) rfl rfl (R.ao HT_.out) ?_ ?_ ?_; rotate_left
                  · intro w'; go_simp; with_reducible rfl
                  rotate_left
                  · simp only [Act.put, R.sa, R.sb, R.sc, i64_w, i32_w]; rfl
                  refine done_ (R.dn HT_.out) ?_; try go_wp2
                  go_meet
                  case rel => exact ⟨_, (true), R.rs, H', ⟨by have := HK1.out; first | omega | exact Nat.le_refl _⟩, ⟨by (with_reducible repeat (first | refine blk_drewN ?_ _ | refine blk_drew ?_ | refine blk_alloc ?_ _)); exact BK1360.out⟩, ⟨by repeat (first | (with_reducible first | exact HB.out | apply below_alloc | apply pw_below_drewN | apply below_drew1 | refine below_set ?_ GE1360.out) | exact HB.out)⟩⟩
                · rw [if_neg c13] at H; have c13b0 : decide (0 ≤ t1363) = false := decide_eq_false c13; clear c13
                  by_cases c16 : 1 < (((rd_T48 l0 x11_1).f2).length : Int)
                  · rw [if_pos c16] at H; have c16b0 : decide (1 < (((rd_T48 l0 x11_1).f2).length : Int)) = true := decide_eq_true c16; have c16b1 : decide (1 < ((rd_T48 l0 x11_1).f2).length) = true := decide_eq_true (by omega); clear c16; replace H := Option.bind_eq_some_iff.mp H; obtain ⟨t1365, A170, H⟩ := H; (try dsimp only at H); have A17 := Aside0.mk A170; clear A170
                    by_cases c18 : t1365 ≥ 0
                    · rw [if_pos c18] at H; have c18b0 : decide (0 ≤ t1365) = true := decide_eq_true c18; clear c18; have H' := Aside0.mk H; clear H; try go_wp2
                      have n0_ : Aside0 ((((w6.setCell ⟨gb1360, 0, none⟩ (.string ((rd_T48 l0 x11_1).f0))).setCell ⟨gb1360, 1, none⟩ (.slice A1359_1 ((rd_T48 l0 x11_1).f1).length c1359_1)).setCell ⟨gb1360, 2, none⟩ (.slice A1359_2 ((rd_T48 l0 x11_1).f2).length c1359_2)).heap[gb1360]? = some (.cells #[.string ((rd_T48 l0 x11_1).f0), .slice A1359_1 ((rd_T48 l0 x11_1).f1).length c1359_1, .slice A1359_2 ((rd_T48 l0 x11_1).f2).length c1359_2] 48 (0, 0))) := ⟨by (with_reducible repeat (first | refine blk_drewN ?_ _ | refine blk_drew ?_ | refine blk_alloc ?_ _)); refine blk_put (cs := #[.string ((rd_T48 l0 x11_1).f0), .slice A1359_1 ((rd_T48 l0 x11_1).f1).length c1359_1, .slice none 0 0]) ?_ 2 _ rfl; (with_reducible repeat (first | refine blk_drewN ?_ _ | refine blk_drew ?_ | refine blk_alloc ?_ _)); refine blk_put (cs := #[.string ((rd_T48 l0 x11_1).f0), .slice none 0 0, .slice none 0 0]) ?_ 1 _ rfl; (with_reducible repeat (first | refine blk_drewN ?_ _ | refine blk_drew ?_ | refine blk_alloc ?_ _)); refine blk_put (cs := #[.string ⟨#[]⟩, .slice none 0 0, .slice none 0 0]) ?_ 0 _ rfl; (with_reducible repeat (first | refine blk_drewN ?_ _ | refine blk_drew ?_ | refine blk_alloc ?_ _)); exact BK1360.out⟩; have n1_ : Aside0 (Below w.heap.size w (((w6.setCell ⟨gb1360, 0, none⟩ (.string ((rd_T48 l0 x11_1).f0))).setCell ⟨gb1360, 1, none⟩ (.slice A1359_1 ((rd_T48 l0 x11_1).f1).length c1359_1)).setCell ⟨gb1360, 2, none⟩ (.slice A1359_2 ((rd_T48 l0 x11_1).f2).length c1359_2))) := ⟨by repeat (first | (with_reducible first | exact HB.out | apply below_alloc | apply pw_below_drewN | apply below_drew1 | refine below_set ?_ GE1360.out) | exact HB.out)⟩; (try clear BK1360); (try clear HB); generalize (((w6.setCell ⟨gb1360, 0, none⟩ (.string ((rd_T48 l0 x11_1).f0))).setCell ⟨gb1360, 1, none⟩ (.slice A1359_1 ((rd_T48 l0 x11_1).f1).length c1359_1)).setCell ⟨gb1360, 2, none⟩ (.slice A1359_2 ((rd_T48 l0 x11_1).f2).length c1359_2)) = w19 at n0_ n1_ ⊢; have BK1360 := n0_; have HB := n1_; clear n0_ n1_; have n0_ := Aside0.mk (blk_drew BK1360.out); have n1_ := Aside0.mk (below_drew1 HB.out); clear BK1360; clear HB; have BK1360 := n0_; have HB := n1_; clear n0_ n1_; have p1362 : 0 ≤ (0 : Int) := (by omega); have q1362 : 0 < (((rd_T48 l0 x11_1).f2).length : Int) := R.od; obtain ⟨ad1362, e1362, hx1362_0⟩ := Kd.at_string HR1359_2.out 0 p1362 q1362; have hw1362_0 := hx1362_0; (try rw [show ((0 : Int)).toNat = 0 from rfl] at hw1362_0); (try rw [show 0 * 1 = 0 from rfl] at hw1362_0); (try rw [Addr.add_zero'] at hw1362_0); cases e1362; have qi1362 : (0 < ((rd_T48 l0 x11_1).f2).length) = True := eq_true (by omega); (try rw [show ((0 : Int)).toNat = 0 from rfl] at hx1362_0); (try rw [Addr.add_zero'] at hx1362_0); replace hx1362_0 := (HB.out.cell (World.block_lt_of_cell? w _ hx1362_0)).trans hx1362_0; replace p1362 := eq_true p1362; replace q1362 := eq_true q1362; have p1364 : 0 ≤ (1 : Int) := (by omega); have q1364 : 1 < (((rd_T48 l0 x11_1).f2).length : Int) := R.od; obtain ⟨ad1364, e1364, hx1364_0⟩ := Kd.at_string HR1359_2.out 1 p1364 q1364; have hw1364_0 := hx1364_0; (try rw [show ((1 : Int)).toNat = 1 from rfl] at hw1364_0); (try rw [show 1 * 1 = 1 from rfl] at hw1364_0); (try simp only [Nat.reduceMul, Nat.reduceEqDiff, Go.Addr.add, ↓reduceIte] at hw1364_0); obtain rfl : ad1362 = ad1364 := (by injection e1364); (try simp only [show (1 : Int).toNat = 1 from rfl, Nat.reduceMul, Nat.reduceEqDiff, Go.Addr.add, ↓reduceIte] at hx1364_0); have qi1364 : (1 < ((rd_T48 l0 x11_1).f2).length) = True := eq_true (by omega); (try rw [show ((1 : Int)).toNat = 1 from rfl] at hx1364_0); replace hx1364_0 := (HB.out.cell (World.block_lt_of_cell? w _ hx1364_0)).trans hx1364_0; replace p1364 := eq_true p1364; replace q1364 := eq_true q1364; refine start_ (n := 49) (S := fun w' => w'.cell? ⟨gb1360, 0, none⟩ = some (.string ((rd_T48 l0 x11_1).f0)) ∧ w'.cell? ⟨gb1360, 1, none⟩ = some (.slice A1359_1 ((rd_T48 l0 x11_1).f1).length c1359_1) ∧ w'.cell? ⟨gb1360, 2, none⟩ = some (.slice (some ad1362) ((rd_T48 l0 x11_1).f2).length c1359_2) ∧ w'.cell? ad1362 = some (.string (rdOf ByteArray.empty ((rd_T48 l0 x11_1).f2) 0)) ∧ w'.cell? ⟨ad1362.block, ad1362.off + 1, none⟩ = some (.string (rdOf ByteArray.empty ((rd_T48 l0 x11_1).f2) 1))) (ds := []) (R.tf 0 49) (by kernel_rfl) rfl rfl ⟨(blk_cell BK1360.out 0).trans rfl, (blk_cell BK1360.out 1).trans rfl, (blk_cell BK1360.out 2).trans rfl, ((HB.out.cell (World.block_lt_of_cell? w _ hw1362_0)).trans hw1362_0), ((HB.out.cell (World.block_lt_of_cell? w _ hw1364_0)).trans hw1364_0)⟩ (fun hHeld => ?_); refine with_tabW spec_BuddyinfoPrint.tab5 spec_BuddyinfoPrint.bits5 (fun HT_ HW_ => ?_); generalize w19.drew = w20 at BK1360 HB hx1362_0 hx1364_0 hHeld ⊢; refine R.pv (i := 0) (N := some 15) (v := ?_) (a' := ?_) (R.tf 1 48) rfl rfl (R.ao HT_.out) ?_ ?_ ?_; rotate_left
                      · intro w'; go_simp; with_reducible rfl
                      rotate_left
                      · simp only [Act.put, R.sa, R.sb, R.sc, i64_w, i32_w]; rfl
                      refine take_ (i := 1) (N := some 16) (v := ?_) (a' := ?_) (R.tf 2 47) rfl rfl (take_ofW HT_.out HW_.out (by kernel_rfl)) (fun _ _ _ h => h) (Or.inl ⟨by rfl, ?_⟩) hHeld ?_ ?_; rotate_left
                      · rintro w' ⟨s0, s1, s2, s3, s4⟩; go_simp; with_reducible rfl
                      rotate_left
                      · simp only [Act.put, R.sa, R.sb, R.sc, i64_w, i32_w]; rfl
                      refine R.pv (i := 2) (N := some 17) (v := ?_) (a' := ?_) (R.tf 3 46) rfl rfl (R.ao HT_.out) ?_ ?_ ?_; rotate_left
                      · intro w'; go_simp; with_reducible rfl
                      rotate_left
                      · simp only [Act.put, R.sa, R.sb, R.sc, i64_w, i32_w]; rfl
                      refine R.pv (i := 3) (N := some 18) (v := ?_) (a' := ?_) (R.tf 4 45) rfl rfl (R.ao HT_.out) ?_ ?_ ?_; rotate_left
                      · intro w'; go_simp; with_reducible rfl
                      rotate_left
                      · simp only [Act.put, R.sa, R.sb, R.sc, i64_w, i32_w]; rfl
                      refine R.pv (i := 4) (N := some 19) (v := ?_) (a' := ?_) (R.tf 5 44) rfl rfl (R.ao HT_.out) ?_ ?_ ?_; rotate_left
                      · intro w'; go_simp; with_reducible rfl
                      rotate_left
                      · simp only [Act.put, R.sa, R.sb, R.sc, i64_w, i32_w]; rfl
                      refine R.pv (i := 5) (N := some 20) (v := ?_) (a' := ?_) (R.tf 6 43) rfl rfl (R.ao HT_.out) ?_ ?_ ?_; rotate_left
                      · intro w'; go_simp; with_reducible rfl
                      rotate_left
                      · simp only [Act.put, R.sa, R.sb, R.sc, i64_w, i32_w]; rfl
                      refine take_ (i := 6) (N := some 21) (v := ?_) (a' := ?_) (R.tf 7 42) rfl rfl (take_ofW HT_.out HW_.out (by kernel_rfl)) (fun _ _ _ h => h) (Or.inl ⟨by rfl, ?_⟩) hHeld ?_ ?_; rotate_left
                      · rintro w' ⟨s0, s1, s2, s3, s4⟩; go_simp; with_reducible rfl
                      rotate_left
                      · simp only [Act.put, R.sa, R.sb, R.sc, i64_w, i32_w]; rfl
                      refine one_ (i := 7) (N := some 22) (R.tf 8 41) rfl rfl (R.oo HT_.out) (by decide) (fun K hK => ?_); refine goes_ Tryz.func107 (by kernel_rfl) rfl #[.slice (some ad1362) ((rd_T48 l0 x11_1).f2).length c1359_2] (by rfl) rfl rfl R.tp ?_; with_reducible refine (spec_words.calls k1 _ _ ((rd_T48 l0 x11_1).f2) true _ ?side1 ?side2 A9.out).mono ?_
                      (case side1 => repeat (first | exact (Kd.C_below HR1359_2.out HB.out) | (with_reducible refine Kd.C_alloc ?_ _) | (with_reducible refine Kd.C_drewN ?_ _) | (with_reducible refine Kd.C_drew ?_)))
                      (case side2 => exact HC1359_2.out)
                      rintro e w' ⟨rfl, ⟨nd, rfl⟩⟩; refine ⟨_, rfl, ?_⟩; refine hK.out _ _ ⟨(blk_cell BK1360.out 0).trans rfl, (blk_cell BK1360.out 1).trans rfl, (blk_cell BK1360.out 2).trans rfl, ((HB.out.cell (World.block_lt_of_cell? w _ hw1362_0)).trans hw1362_0), ((HB.out.cell (World.block_lt_of_cell? w _ hw1364_0)).trans hw1364_0)⟩ (fun hHeld => ?_); clear hK K; refine norm_ (a' := ?_) ?_ ?_; rotate_left
                      · show Act.put _ (some 22) _ = _
                        simp only [Act.put, R.sa, R.sb, R.sc, i64_w, i32_w]; rfl
                      refine R.pv (i := 8) (N := some 23) (v := ?_) (a' := ?_) (R.tf 9 40) rfl rfl (R.ao HT_.out) ?_ ?_ ?_; rotate_left
                      · intro w'; go_simp; with_reducible rfl
                      rotate_left
                      · simp only [Act.put, R.sa, R.sb, R.sc, i64_w, i32_w]; rfl
                      refine R.pv (i := 9) (N := some 24) (v := ?_) (a' := ?_) (R.tf 10 39) rfl rfl (R.ao HT_.out) ?_ ?_ ?_; rotate_left
                      · intro w'; go_simp; with_reducible rfl
                      rotate_left
                      · simp only [Act.put, R.sa, R.sb, R.sc, i64_w, i32_w]; rfl
                      refine R.pv (i := 10) (N := some 25) (v := ?_) (a' := ?_) (R.tf 11 38) rfl rfl (R.ao HT_.out) ?_ ?_ ?_; rotate_left
                      · intro w'; go_simp; with_reducible rfl
                      rotate_left
                      · simp only [Act.put, R.sa, R.sb, R.sc, i64_w, i32_w]; rfl
                      refine R.pv (i := 11) (N := some 26) (v := ?_) (a' := ?_) (R.tf 12 37) rfl rfl (R.ao HT_.out) ?_ ?_ ?_; rotate_left
                      · intro w'; go_simp; with_reducible rfl
                      rotate_left
                      · simp only [Act.put, R.sa, R.sb, R.sc, i64_w, i32_w]; rfl
                      refine take_ (i := 12) (N := some 27) (v := ?_) (a' := ?_) (R.tf 13 36) rfl rfl (take_ofW HT_.out HW_.out (by kernel_rfl)) (fun _ _ _ h => h) (Or.inl ⟨by rfl, ?_⟩) hHeld ?_ ?_; rotate_left
                      · rintro w' ⟨s0, s1, s2, s3, s4⟩; go_simp; with_reducible rfl
                      rotate_left
                      · simp only [Act.put, R.sa, R.sb, R.sc, i64_w, i32_w]; rfl
                      refine R.pv (i := 13) (N := some 28) (v := ?_) (a' := ?_) (R.tf 14 35) rfl rfl (R.ao HT_.out) ?_ ?_ ?_; rotate_left
                      · intro w'; go_simp; with_reducible rfl
                      rotate_left
                      · simp only [Act.put, R.sa, R.sb, R.sc, i64_w, i32_w]; rfl
                      refine take_ (i := 14) (N := some 29) (v := ?_) (a' := ?_) (R.tf 15 34) rfl rfl (take_ofW HT_.out HW_.out (by kernel_rfl)) (fun _ _ _ h => h) (Or.inl ⟨by rfl, ?_⟩) hHeld ?_ ?_; rotate_left
                      · rintro w' ⟨s0, s1, s2, s3, s4⟩; go_simp; with_reducible rfl
                      rotate_left
                      · simp only [Act.put, R.sa, R.sb, R.sc, i64_w, i32_w]; rfl
                      refine one_ (i := 15) (N := some 30) (R.tf 16 33) rfl rfl (R.oo HT_.out) (by decide) (fun K hK => ?_); refine goes_ Tryz.func96 (by kernel_rfl) rfl #[.string (rdOf ByteArray.empty ((rd_T48 l0 x11_1).f2) 0), .int .u8 44] (by rfl) rfl rfl R.tp ?_; with_reducible refine (spec_Where.calls k1 (rdOf ByteArray.empty ((rd_T48 l0 x11_1).f2) 0) 44 t1363 _ A12.out).mono ?_
                      rintro e w' ⟨rfl, ⟨nd, rfl⟩⟩; refine ⟨_, rfl, ?_⟩; refine hK.out _ _ ⟨(blk_cell BK1360.out 0).trans rfl, (blk_cell BK1360.out 1).trans rfl, (blk_cell BK1360.out 2).trans rfl, ((HB.out.cell (World.block_lt_of_cell? w _ hw1362_0)).trans hw1362_0), ((HB.out.cell (World.block_lt_of_cell? w _ hw1364_0)).trans hw1364_0)⟩ (fun hHeld => ?_); clear hK K; refine norm_ (a' := ?_) ?_ ?_; rotate_left
                      · show Act.put _ (some 30) _ = _
                        simp only [Act.put, R.sa, R.sb, R.sc, i64_w, i32_w]; rfl
                      refine R.pv (i := 16) (N := some 31) (v := ?_) (a' := ?_) (R.tf 17 32) rfl rfl (R.ao HT_.out) ?_ ?_ ?_; rotate_left
                      · intro w'; go_simp; with_reducible rfl
                      rotate_left
                      · simp only [Act.put, R.sa, R.sb, R.sc, i64_w, i32_w]; rfl
                      refine R.pv (i := 17) (N := some 32) (v := ?_) (a' := ?_) (R.tf 18 31) rfl rfl (R.ao HT_.out) ?_ ?_ ?_; rotate_left
                      · intro w'; go_simp; with_reducible rfl
                      rotate_left
                      · simp only [Act.put, R.sa, R.sb, R.sc, i64_w, i32_w]; rfl
                      refine R.pv (i := 18) (N := some 33) (v := ?_) (a' := ?_) (R.tf 19 30) rfl rfl (R.ao HT_.out) ?_ ?_ ?_; rotate_left
                      · intro w'; go_simp; with_reducible rfl
                      rotate_left
                      · simp only [Act.put, R.sa, R.sb, R.sc, i64_w, i32_w]; rfl
                      refine R.pv (i := 19) (N := some 34) (v := ?_) (a' := ?_) (R.tf 20 29) rfl rfl (R.ao HT_.out) ?_ ?_ ?_; rotate_left
                      · intro w'; go_simp; with_reducible rfl
                      rotate_left
                      · simp only [Act.put, R.sa, R.sb, R.sc, i64_w, i32_w]; rfl
                      refine take_ (i := 20) (N := some 35) (v := ?_) (a' := ?_) (R.tf 21 28) rfl rfl (take_ofW HT_.out HW_.out (by kernel_rfl)) (fun _ _ _ h => h) (Or.inl ⟨by rfl, ?_⟩) hHeld ?_ ?_; rotate_left
                      · rintro w' ⟨s0, s1, s2, s3, s4⟩; go_simp; with_reducible rfl
                      rotate_left
                      · simp only [Act.put, R.sa, R.sb, R.sc, i64_w, i32_w]; rfl
                      refine R.pv (i := 21) (N := some 36) (v := ?_) (a' := ?_) (R.tf 22 27) rfl rfl (R.ao HT_.out) ?_ ?_ ?_; rotate_left
                      · intro w'; go_simp; with_reducible rfl
                      rotate_left
                      · simp only [Act.put, R.sa, R.sb, R.sc, i64_w, i32_w]; rfl
                      refine take_ (i := 22) (N := some 37) (v := ?_) (a' := ?_) (R.tf 23 26) rfl rfl (take_ofW HT_.out HW_.out (by kernel_rfl)) (fun _ _ _ h => h) (Or.inl ⟨by rfl, ?_⟩) hHeld ?_ ?_; rotate_left
                      · rintro w' ⟨s0, s1, s2, s3, s4⟩; go_simp; with_reducible rfl
                      rotate_left
                      · simp only [Act.put, R.sa, R.sb, R.sc, i64_w, i32_w]; rfl
                      refine one_ (i := 23) (N := some 38) (R.tf 24 25) rfl rfl (R.oo HT_.out) (by decide) (fun K hK => ?_); refine goes_ Tryz.func96 (by kernel_rfl) rfl #[.string (rdOf ByteArray.empty ((rd_T48 l0 x11_1).f2) 1), .int .u8 44] (by rfl) rfl rfl R.tp ?_; with_reducible refine (spec_Where.calls k1 (rdOf ByteArray.empty ((rd_T48 l0 x11_1).f2) 1) 44 t1365 _ A17.out).mono ?_
                      rintro e w' ⟨rfl, ⟨nd, rfl⟩⟩; refine ⟨_, rfl, ?_⟩; refine hK.out _ _ ⟨(blk_cell BK1360.out 0).trans rfl, (blk_cell BK1360.out 1).trans rfl, (blk_cell BK1360.out 2).trans rfl, ((HB.out.cell (World.block_lt_of_cell? w _ hw1362_0)).trans hw1362_0), ((HB.out.cell (World.block_lt_of_cell? w _ hw1364_0)).trans hw1364_0)⟩ (fun hHeld => ?_); clear hK K; refine norm_ (a' := ?_) ?_ ?_; rotate_left
                      · show Act.put _ (some 38) _ = _
                        simp only [Act.put, R.sa, R.sb, R.sc, i64_w, i32_w]; rfl
                      refine R.pv (i := 24) (N := some 39) (v := ?_) (a' := ?_) (R.tf 25 24) rfl rfl (R.ao HT_.out) ?_ ?_ ?_; rotate_left
                      · intro w'; go_simp; with_reducible rfl
                      rotate_left
                      · simp only [Act.put, R.sa, R.sb, R.sc, i64_w, i32_w]; rfl
                      refine R.pv (i := 25) (N := some 40) (v := ?_) (a' := ?_) (R.tf 26 23) rfl rfl (R.ao HT_.out) ?_ ?_ ?_; rotate_left
                      · intro w'; go_simp; with_reducible rfl
                      rotate_left
                      · simp only [Act.put, R.sa, R.sb, R.sc, i64_w, i32_w]; rfl
                      refine R.pv (i := 26) (N := some 41) (v := ?_) (a' := ?_) (R.tf 27 22) rfl rfl (R.ao HT_.out) ?_ ?_ ?_; rotate_left
                      · intro w'; go_simp; with_reducible rfl
                      rotate_left
                      · simp only [Act.put, R.sa, R.sb, R.sc, i64_w, i32_w]; rfl
                      refine R.pu (i := 27) (N := some 42) (a' := ?_) (R.tf 28 21) rfl rfl (R.ao HT_.out) ?_ ?_; rotate_left
                      · simp only [Act.put, R.sa, R.sb, R.sc, i64_w, i32_w]; rfl
                      refine R.pu (i := 28) (N := some 43) (a' := ?_) (R.tf 29 20) rfl rfl (R.ao HT_.out) ?_ ?_; rotate_left
                      · simp only [Act.put, R.sa, R.sb, R.sc, i64_w, i32_w]; rfl
                      refine R.pu (i := 29) (N := some 44) (a' := ?_) (R.tf 30 19) rfl rfl (R.ao HT_.out) ?_ ?_; rotate_left
                      · simp only [Act.put, R.sa, R.sb, R.sc, i64_w, i32_w]; rfl
                      refine R.pu (i := 30) (N := some 45) (a' := ?_) (R.tf 31 18) rfl rfl (R.ao HT_.out) ?_ ?_; rotate_left
                      · simp only [Act.put, R.sa, R.sb, R.sc, i64_w, i32_w]; rfl
                      refine R.pv (i := 31) (N := some 46) (v := ?_) (a' := ?_) (R.tf 32 17) rfl rfl (R.ao HT_.out) ?_ ?_ ?_; rotate_left
                      · intro w'; go_simp; with_reducible rfl
                      rotate_left
                      · simp only [Act.put, R.sa, R.sb, R.sc, i64_w, i32_w]; rfl
                      refine R.pv (i := 32) (N := some 47) (v := ?_) (a' := ?_) (R.tf 33 16) rfl rfl (R.ao HT_.out) ?_ ?_ ?_; rotate_left
                      · intro w'; go_simp; with_reducible rfl
                      rotate_left
                      · simp only [Act.put, R.sa, R.sb, R.sc, i64_w, i32_w]; rfl
                      refine R.pu (i := 33) (N := some 48) (a' := ?_) (R.tf 34 15) rfl rfl (R.ao HT_.out) ?_ ?_; rotate_left
                      · simp only [Act.put, R.sa, R.sb, R.sc, i64_w, i32_w]; rfl
                      refine R.pu (i := 34) (N := some 49) (a' := ?_) (R.tf 35 14) rfl rfl (R.ao HT_.out) ?_ ?_; rotate_left
                      · simp only [Act.put, R.sa, R.sb, R.sc, i64_w, i32_w]; rfl
                      refine R.pu (i := 35) (N := some 50) (a' := ?_) (R.tf 36 13) rfl rfl (R.ao HT_.out) ?_ ?_; rotate_left
                      · simp only [Act.put, R.sa, R.sb, R.sc, i64_w, i32_w]; rfl
                      refine R.pu (i := 36) (N := some 51) (a' := ?_) (R.tf 37 12) rfl rfl (R.ao HT_.out) ?_ ?_; rotate_left
                      · simp only [Act.put, R.sa, R.sb, R.sc, i64_w, i32_w]; rfl
                      refine R.pu (i := 37) (N := some 52) (a' := ?_) (R.tf 38 11) rfl rfl (R.ao HT_.out) ?_ ?_; rotate_left
                      · simp only [Act.put, R.sa, R.sb, R.sc, i64_w, i32_w]; rfl
                      refine R.pu (i := 38) (N := some 53) (a' := ?_) (R.tf 39 10) rfl rfl (R.ao HT_.out) ?_ ?_; rotate_left
                      · simp only [Act.put, R.sa, R.sb, R.sc, i64_w, i32_w]; rfl
                      refine R.pu (i := 39) (N := some 54) (a' := ?_) (R.tf 40 9) rfl rfl (R.ao HT_.out) ?_ ?_; rotate_left
                      · simp only [Act.put, R.sa, R.sb, R.sc, i64_w, i32_w]; rfl
                      refine R.pu (i := 40) (N := some 55) (a' := ?_) (R.tf 41 8) rfl rfl (R.ao HT_.out) ?_ ?_; rotate_left
                      · simp only [Act.put, R.sa, R.sb, R.sc, i64_w, i32_w]; rfl
                      refine R.pu (i := 41) (N := some 56) (a' := ?_) (R.tf 42 7) rfl rfl (R.ao HT_.out) ?_ ?_; rotate_left
                      · simp only [Act.put, R.sa, R.sb, R.sc, i64_w, i32_w]; rfl
                      refine R.pv (i := 42) (N := some 57) (v := ?_) (a' := ?_) (R.tf 43 6) rfl rfl (R.ao HT_.out) ?_ ?_ ?_; rotate_left
                      · intro w'; go_simp; with_reducible rfl
                      rotate_left
                      · simp only [Act.put, R.sa, R.sb, R.sc, i64_w, i32_w]; rfl
                      refine R.pv (i := 43) (N := some 58) (v := ?_) (a' := ?_) (R.tf 44 5) rfl rfl (R.ao HT_.out) ?_ ?_ ?_; rotate_left
                      · intro w'; go_simp; with_reducible rfl
                      rotate_left
                      · simp only [Act.put, R.sa, R.sb, R.sc, i64_w, i32_w]; rfl
                      refine R.pu (i := 44) (N := some 59) (a' := ?_) (R.tf 45 4) rfl rfl (R.ao HT_.out) ?_ ?_; rotate_left
                      · simp only [Act.put, R.sa, R.sb, R.sc, i64_w, i32_w]; rfl
                      refine R.pu (i := 45) (N := some 60) (a' := ?_) (R.tf 46 3) rfl rfl (R.ao HT_.out) ?_ ?_; rotate_left
                      · simp only [Act.put, R.sa, R.sb, R.sc, i64_w, i32_w]; rfl
                      refine R.pu (i := 46) (N := some 61) (a' := ?_) (R.tf 47 2) rfl rfl (R.ao HT_.out) ?_ ?_; rotate_left
                      · simp only [Act.put, R.sa, R.sb, R.sc, i64_w, i32_w]; rfl
                      refine R.pu (i := 47) (N := some 62) (a' := ?_) (R.tf 48 1) rfl rfl (R.ao HT_.out) ?_ ?_; rotate_left
                      · simp only [Act.put, R.sa, R.sb, R.sc, i64_w, i32_w]; rfl
                      refine R.pv (i := 48) (N := some 63) (v := ?_) (a' := ?_) (R.tf 49 0) rfl rfl (R.ao HT_.out) ?_ ?_ ?_; rotate_left
                      · intro w'; go_simp; with_reducible rfl
                      rotate_left
                      · simp only [Act.put, R.sa, R.sb, R.sc, i64_w, i32_w]; rfl
                      refine done_ (R.dn HT_.out) ?_; try go_wp2
                      go_meet
                      case rel => exact ⟨_, (true), R.rs, H', ⟨by have := HK1.out; first | omega | exact Nat.le_refl _⟩, ⟨by (with_reducible repeat (first | refine blk_drewN ?_ _ | refine blk_drew ?_ | refine blk_alloc ?_ _)); exact BK1360.out⟩, ⟨by repeat (first | (with_reducible first | exact HB.out | apply below_alloc | apply pw_below_drewN | apply below_drew1 | refine below_set ?_ GE1360.out) | exact HB.out)⟩⟩
                    · rw [if_neg c18] at H; have c18b0 : decide (0 ≤ t1365) = false := decide_eq_false c18; clear c18
                      by_cases c21 : (((rd_T48 l0 x11_1).f1).length : Int) < 1
                      · rw [if_pos c21] at H; have c21b0 : decide ((((rd_T48 l0 x11_1).f1).length : Int) < 1) = true := decide_eq_true c21; have c21b1 : decide (((rd_T48 l0 x11_1).f1).length < 1) = true := decide_eq_true (by omega); clear c21; have H' := Aside0.mk H; clear H; try go_wp2
                        have n0_ : Aside0 ((((w6.setCell ⟨gb1360, 0, none⟩ (.string ((rd_T48 l0 x11_1).f0))).setCell ⟨gb1360, 1, none⟩ (.slice A1359_1 ((rd_T48 l0 x11_1).f1).length c1359_1)).setCell ⟨gb1360, 2, none⟩ (.slice A1359_2 ((rd_T48 l0 x11_1).f2).length c1359_2)).heap[gb1360]? = some (.cells #[.string ((rd_T48 l0 x11_1).f0), .slice A1359_1 ((rd_T48 l0 x11_1).f1).length c1359_1, .slice A1359_2 ((rd_T48 l0 x11_1).f2).length c1359_2] 48 (0, 0))) := ⟨by (with_reducible repeat (first | refine blk_drewN ?_ _ | refine blk_drew ?_ | refine blk_alloc ?_ _)); refine blk_put (cs := #[.string ((rd_T48 l0 x11_1).f0), .slice A1359_1 ((rd_T48 l0 x11_1).f1).length c1359_1, .slice none 0 0]) ?_ 2 _ rfl; (with_reducible repeat (first | refine blk_drewN ?_ _ | refine blk_drew ?_ | refine blk_alloc ?_ _)); refine blk_put (cs := #[.string ((rd_T48 l0 x11_1).f0), .slice none 0 0, .slice none 0 0]) ?_ 1 _ rfl; (with_reducible repeat (first | refine blk_drewN ?_ _ | refine blk_drew ?_ | refine blk_alloc ?_ _)); refine blk_put (cs := #[.string ⟨#[]⟩, .slice none 0 0, .slice none 0 0]) ?_ 0 _ rfl; (with_reducible repeat (first | refine blk_drewN ?_ _ | refine blk_drew ?_ | refine blk_alloc ?_ _)); exact BK1360.out⟩; have n1_ : Aside0 (Below w.heap.size w (((w6.setCell ⟨gb1360, 0, none⟩ (.string ((rd_T48 l0 x11_1).f0))).setCell ⟨gb1360, 1, none⟩ (.slice A1359_1 ((rd_T48 l0 x11_1).f1).length c1359_1)).setCell ⟨gb1360, 2, none⟩ (.slice A1359_2 ((rd_T48 l0 x11_1).f2).length c1359_2))) := ⟨by repeat (first | (with_reducible first | exact HB.out | apply below_alloc | apply pw_below_drewN | apply below_drew1 | refine below_set ?_ GE1360.out) | exact HB.out)⟩; (try clear BK1360); (try clear HB); generalize (((w6.setCell ⟨gb1360, 0, none⟩ (.string ((rd_T48 l0 x11_1).f0))).setCell ⟨gb1360, 1, none⟩ (.slice A1359_1 ((rd_T48 l0 x11_1).f1).length c1359_1)).setCell ⟨gb1360, 2, none⟩ (.slice A1359_2 ((rd_T48 l0 x11_1).f2).length c1359_2)) = w22 at n0_ n1_ ⊢; have BK1360 := n0_; have HB := n1_; clear n0_ n1_; have n0_ := Aside0.mk (blk_drew BK1360.out); have n1_ := Aside0.mk (below_drew1 HB.out); clear BK1360; clear HB; have BK1360 := n0_; have HB := n1_; clear n0_ n1_; have p1362 : 0 ≤ (0 : Int) := (by omega); have q1362 : 0 < (((rd_T48 l0 x11_1).f2).length : Int) := R.od; obtain ⟨ad1362, e1362, hx1362_0⟩ := Kd.at_string HR1359_2.out 0 p1362 q1362; have hw1362_0 := hx1362_0; (try rw [show ((0 : Int)).toNat = 0 from rfl] at hw1362_0); (try rw [show 0 * 1 = 0 from rfl] at hw1362_0); (try rw [Addr.add_zero'] at hw1362_0); cases e1362; have qi1362 : (0 < ((rd_T48 l0 x11_1).f2).length) = True := eq_true (by omega); (try rw [show ((0 : Int)).toNat = 0 from rfl] at hx1362_0); (try rw [Addr.add_zero'] at hx1362_0); replace hx1362_0 := (HB.out.cell (World.block_lt_of_cell? w _ hx1362_0)).trans hx1362_0; replace p1362 := eq_true p1362; replace q1362 := eq_true q1362; have p1364 : 0 ≤ (1 : Int) := (by omega); have q1364 : 1 < (((rd_T48 l0 x11_1).f2).length : Int) := R.od; obtain ⟨ad1364, e1364, hx1364_0⟩ := Kd.at_string HR1359_2.out 1 p1364 q1364; have hw1364_0 := hx1364_0; (try rw [show ((1 : Int)).toNat = 1 from rfl] at hw1364_0); (try rw [show 1 * 1 = 1 from rfl] at hw1364_0); (try simp only [Nat.reduceMul, Nat.reduceEqDiff, Go.Addr.add, ↓reduceIte] at hw1364_0); obtain rfl : ad1362 = ad1364 := (by injection e1364); (try simp only [show (1 : Int).toNat = 1 from rfl, Nat.reduceMul, Nat.reduceEqDiff, Go.Addr.add, ↓reduceIte] at hx1364_0); have qi1364 : (1 < ((rd_T48 l0 x11_1).f2).length) = True := eq_true (by omega); (try rw [show ((1 : Int)).toNat = 1 from rfl] at hx1364_0); replace hx1364_0 := (HB.out.cell (World.block_lt_of_cell? w _ hx1364_0)).trans hx1364_0; replace p1364 := eq_true p1364; replace q1364 := eq_true q1364; refine start_ (n := 49) (S := fun w' => w'.cell? ⟨gb1360, 0, none⟩ = some (.string ((rd_T48 l0 x11_1).f0)) ∧ w'.cell? ⟨gb1360, 1, none⟩ = some (.slice A1359_1 ((rd_T48 l0 x11_1).f1).length c1359_1) ∧ w'.cell? ⟨gb1360, 2, none⟩ = some (.slice (some ad1362) ((rd_T48 l0 x11_1).f2).length c1359_2) ∧ w'.cell? ad1362 = some (.string (rdOf ByteArray.empty ((rd_T48 l0 x11_1).f2) 0)) ∧ w'.cell? ⟨ad1362.block, ad1362.off + 1, none⟩ = some (.string (rdOf ByteArray.empty ((rd_T48 l0 x11_1).f2) 1))) (ds := []) (R.tf 0 49) (by kernel_rfl) rfl rfl ⟨(blk_cell BK1360.out 0).trans rfl, (blk_cell BK1360.out 1).trans rfl, (blk_cell BK1360.out 2).trans rfl, ((HB.out.cell (World.block_lt_of_cell? w _ hw1362_0)).trans hw1362_0), ((HB.out.cell (World.block_lt_of_cell? w _ hw1364_0)).trans hw1364_0)⟩ (fun hHeld => ?_); refine with_tabW spec_BuddyinfoPrint.tab5 spec_BuddyinfoPrint.bits5 (fun HT_ HW_ => ?_); generalize w22.drew = w23 at BK1360 HB hx1362_0 hx1364_0 hHeld ⊢; refine R.pv (i := 0) (N := some 15) (v := ?_) (a' := ?_) (R.tf 1 48) rfl rfl (R.ao HT_.out) ?_ ?_ ?_; rotate_left
                        · intro w'; go_simp; with_reducible rfl
                        rotate_left
                        · simp only [Act.put, R.sa, R.sb, R.sc, i64_w, i32_w]; rfl
                        refine take_ (i := 1) (N := some 16) (v := ?_) (a' := ?_) (R.tf 2 47) rfl rfl (take_ofW HT_.out HW_.out (by kernel_rfl)) (fun _ _ _ h => h) (Or.inl ⟨by rfl, ?_⟩) hHeld ?_ ?_; rotate_left
                        · rintro w' ⟨s0, s1, s2, s3, s4⟩; go_simp; with_reducible rfl
                        rotate_left
                        · simp only [Act.put, R.sa, R.sb, R.sc, i64_w, i32_w]; rfl
                        refine R.pv (i := 2) (N := some 17) (v := ?_) (a' := ?_) (R.tf 3 46) rfl rfl (R.ao HT_.out) ?_ ?_ ?_; rotate_left
                        · intro w'; go_simp; with_reducible rfl
                        rotate_left
                        · simp only [Act.put, R.sa, R.sb, R.sc, i64_w, i32_w]; rfl
                        refine R.pv (i := 3) (N := some 18) (v := ?_) (a' := ?_) (R.tf 4 45) rfl rfl (R.ao HT_.out) ?_ ?_ ?_; rotate_left
                        · intro w'; go_simp; with_reducible rfl
                        rotate_left
                        · simp only [Act.put, R.sa, R.sb, R.sc, i64_w, i32_w]; rfl
                        refine R.pv (i := 4) (N := some 19) (v := ?_) (a' := ?_) (R.tf 5 44) rfl rfl (R.ao HT_.out) ?_ ?_ ?_; rotate_left
                        · intro w'; go_simp; with_reducible rfl
                        rotate_left
                        · simp only [Act.put, R.sa, R.sb, R.sc, i64_w, i32_w]; rfl
                        refine R.pv (i := 5) (N := some 20) (v := ?_) (a' := ?_) (R.tf 6 43) rfl rfl (R.ao HT_.out) ?_ ?_ ?_; rotate_left
                        · intro w'; go_simp; with_reducible rfl
                        rotate_left
                        · simp only [Act.put, R.sa, R.sb, R.sc, i64_w, i32_w]; rfl
                        refine take_ (i := 6) (N := some 21) (v := ?_) (a' := ?_) (R.tf 7 42) rfl rfl (take_ofW HT_.out HW_.out (by kernel_rfl)) (fun _ _ _ h => h) (Or.inl ⟨by rfl, ?_⟩) hHeld ?_ ?_; rotate_left
                        · rintro w' ⟨s0, s1, s2, s3, s4⟩; go_simp; with_reducible rfl
                        rotate_left
                        · simp only [Act.put, R.sa, R.sb, R.sc, i64_w, i32_w]; rfl
                        refine one_ (i := 7) (N := some 22) (R.tf 8 41) rfl rfl (R.oo HT_.out) (by decide) (fun K hK => ?_); refine goes_ Tryz.func107 (by kernel_rfl) rfl #[.slice (some ad1362) ((rd_T48 l0 x11_1).f2).length c1359_2] (by rfl) rfl rfl R.tp ?_; with_reducible refine (spec_words.calls k1 _ _ ((rd_T48 l0 x11_1).f2) true _ ?side1 ?side2 A9.out).mono ?_
                        (case side1 => repeat (first | exact (Kd.C_below HR1359_2.out HB.out) | (with_reducible refine Kd.C_alloc ?_ _) | (with_reducible refine Kd.C_drewN ?_ _) | (with_reducible refine Kd.C_drew ?_)))
                        (case side2 => exact HC1359_2.out)
                        rintro e w' ⟨rfl, ⟨nd, rfl⟩⟩; refine ⟨_, rfl, ?_⟩; refine hK.out _ _ ⟨(blk_cell BK1360.out 0).trans rfl, (blk_cell BK1360.out 1).trans rfl, (blk_cell BK1360.out 2).trans rfl, ((HB.out.cell (World.block_lt_of_cell? w _ hw1362_0)).trans hw1362_0), ((HB.out.cell (World.block_lt_of_cell? w _ hw1364_0)).trans hw1364_0)⟩ (fun hHeld => ?_); clear hK K; refine norm_ (a' := ?_) ?_ ?_; rotate_left
                        · show Act.put _ (some 22) _ = _
                          simp only [Act.put, R.sa, R.sb, R.sc, i64_w, i32_w]; rfl
                        refine R.pv (i := 8) (N := some 23) (v := ?_) (a' := ?_) (R.tf 9 40) rfl rfl (R.ao HT_.out) ?_ ?_ ?_; rotate_left
                        · intro w'; go_simp; with_reducible rfl
                        rotate_left
                        · simp only [Act.put, R.sa, R.sb, R.sc, i64_w, i32_w]; rfl
                        refine R.pv (i := 9) (N := some 24) (v := ?_) (a' := ?_) (R.tf 10 39) rfl rfl (R.ao HT_.out) ?_ ?_ ?_; rotate_left
                        · intro w'; go_simp; with_reducible rfl
                        rotate_left
                        · simp only [Act.put, R.sa, R.sb, R.sc, i64_w, i32_w]; rfl
                        refine R.pv (i := 10) (N := some 25) (v := ?_) (a' := ?_) (R.tf 11 38) rfl rfl (R.ao HT_.out) ?_ ?_ ?_; rotate_left
                        · intro w'; go_simp; with_reducible rfl
                        rotate_left
                        · simp only [Act.put, R.sa, R.sb, R.sc, i64_w, i32_w]; rfl
                        refine R.pv (i := 11) (N := some 26) (v := ?_) (a' := ?_) (R.tf 12 37) rfl rfl (R.ao HT_.out) ?_ ?_ ?_; rotate_left
                        · intro w'; go_simp; with_reducible rfl
                        rotate_left
                        · simp only [Act.put, R.sa, R.sb, R.sc, i64_w, i32_w]; rfl
                        refine take_ (i := 12) (N := some 27) (v := ?_) (a' := ?_) (R.tf 13 36) rfl rfl (take_ofW HT_.out HW_.out (by kernel_rfl)) (fun _ _ _ h => h) (Or.inl ⟨by rfl, ?_⟩) hHeld ?_ ?_; rotate_left
                        · rintro w' ⟨s0, s1, s2, s3, s4⟩; go_simp; with_reducible rfl
                        rotate_left
                        · simp only [Act.put, R.sa, R.sb, R.sc, i64_w, i32_w]; rfl
                        refine R.pv (i := 13) (N := some 28) (v := ?_) (a' := ?_) (R.tf 14 35) rfl rfl (R.ao HT_.out) ?_ ?_ ?_; rotate_left
                        · intro w'; go_simp; with_reducible rfl
                        rotate_left
                        · simp only [Act.put, R.sa, R.sb, R.sc, i64_w, i32_w]; rfl
                        refine take_ (i := 14) (N := some 29) (v := ?_) (a' := ?_) (R.tf 15 34) rfl rfl (take_ofW HT_.out HW_.out (by kernel_rfl)) (fun _ _ _ h => h) (Or.inl ⟨by rfl, ?_⟩) hHeld ?_ ?_; rotate_left
                        · rintro w' ⟨s0, s1, s2, s3, s4⟩; go_simp; with_reducible rfl
                        rotate_left
                        · simp only [Act.put, R.sa, R.sb, R.sc, i64_w, i32_w]; rfl
                        refine one_ (i := 15) (N := some 30) (R.tf 16 33) rfl rfl (R.oo HT_.out) (by decide) (fun K hK => ?_); refine goes_ Tryz.func96 (by kernel_rfl) rfl #[.string (rdOf ByteArray.empty ((rd_T48 l0 x11_1).f2) 0), .int .u8 44] (by rfl) rfl rfl R.tp ?_; with_reducible refine (spec_Where.calls k1 (rdOf ByteArray.empty ((rd_T48 l0 x11_1).f2) 0) 44 t1363 _ A12.out).mono ?_
                        rintro e w' ⟨rfl, ⟨nd, rfl⟩⟩; refine ⟨_, rfl, ?_⟩; refine hK.out _ _ ⟨(blk_cell BK1360.out 0).trans rfl, (blk_cell BK1360.out 1).trans rfl, (blk_cell BK1360.out 2).trans rfl, ((HB.out.cell (World.block_lt_of_cell? w _ hw1362_0)).trans hw1362_0), ((HB.out.cell (World.block_lt_of_cell? w _ hw1364_0)).trans hw1364_0)⟩ (fun hHeld => ?_); clear hK K; refine norm_ (a' := ?_) ?_ ?_; rotate_left
                        · show Act.put _ (some 30) _ = _
                          simp only [Act.put, R.sa, R.sb, R.sc, i64_w, i32_w]; rfl
                        refine R.pv (i := 16) (N := some 31) (v := ?_) (a' := ?_) (R.tf 17 32) rfl rfl (R.ao HT_.out) ?_ ?_ ?_; rotate_left
                        · intro w'; go_simp; with_reducible rfl
                        rotate_left
                        · simp only [Act.put, R.sa, R.sb, R.sc, i64_w, i32_w]; rfl
                        refine R.pv (i := 17) (N := some 32) (v := ?_) (a' := ?_) (R.tf 18 31) rfl rfl (R.ao HT_.out) ?_ ?_ ?_; rotate_left
                        · intro w'; go_simp; with_reducible rfl
                        rotate_left
                        · simp only [Act.put, R.sa, R.sb, R.sc, i64_w, i32_w]; rfl
                        refine R.pv (i := 18) (N := some 33) (v := ?_) (a' := ?_) (R.tf 19 30) rfl rfl (R.ao HT_.out) ?_ ?_ ?_; rotate_left
                        · intro w'; go_simp; with_reducible rfl
                        rotate_left
                        · simp only [Act.put, R.sa, R.sb, R.sc, i64_w, i32_w]; rfl
                        refine R.pv (i := 19) (N := some 34) (v := ?_) (a' := ?_) (R.tf 20 29) rfl rfl (R.ao HT_.out) ?_ ?_ ?_; rotate_left
                        · intro w'; go_simp; with_reducible rfl
                        rotate_left
                        · simp only [Act.put, R.sa, R.sb, R.sc, i64_w, i32_w]; rfl
                        refine take_ (i := 20) (N := some 35) (v := ?_) (a' := ?_) (R.tf 21 28) rfl rfl (take_ofW HT_.out HW_.out (by kernel_rfl)) (fun _ _ _ h => h) (Or.inl ⟨by rfl, ?_⟩) hHeld ?_ ?_; rotate_left
                        · rintro w' ⟨s0, s1, s2, s3, s4⟩; go_simp; with_reducible rfl
                        rotate_left
                        · simp only [Act.put, R.sa, R.sb, R.sc, i64_w, i32_w]; rfl
                        refine R.pv (i := 21) (N := some 36) (v := ?_) (a' := ?_) (R.tf 22 27) rfl rfl (R.ao HT_.out) ?_ ?_ ?_; rotate_left
                        · intro w'; go_simp; with_reducible rfl
                        rotate_left
                        · simp only [Act.put, R.sa, R.sb, R.sc, i64_w, i32_w]; rfl
                        refine take_ (i := 22) (N := some 37) (v := ?_) (a' := ?_) (R.tf 23 26) rfl rfl (take_ofW HT_.out HW_.out (by kernel_rfl)) (fun _ _ _ h => h) (Or.inl ⟨by rfl, ?_⟩) hHeld ?_ ?_; rotate_left
                        · rintro w' ⟨s0, s1, s2, s3, s4⟩; go_simp; with_reducible rfl
                        rotate_left
                        · simp only [Act.put, R.sa, R.sb, R.sc, i64_w, i32_w]; rfl
                        refine one_ (i := 23) (N := some 38) (R.tf 24 25) rfl rfl (R.oo HT_.out) (by decide) (fun K hK => ?_); refine goes_ Tryz.func96 (by kernel_rfl) rfl #[.string (rdOf ByteArray.empty ((rd_T48 l0 x11_1).f2) 1), .int .u8 44] (by rfl) rfl rfl R.tp ?_; with_reducible refine (spec_Where.calls k1 (rdOf ByteArray.empty ((rd_T48 l0 x11_1).f2) 1) 44 t1365 _ A17.out).mono ?_
                        rintro e w' ⟨rfl, ⟨nd, rfl⟩⟩; refine ⟨_, rfl, ?_⟩; refine hK.out _ _ ⟨(blk_cell BK1360.out 0).trans rfl, (blk_cell BK1360.out 1).trans rfl, (blk_cell BK1360.out 2).trans rfl, ((HB.out.cell (World.block_lt_of_cell? w _ hw1362_0)).trans hw1362_0), ((HB.out.cell (World.block_lt_of_cell? w _ hw1364_0)).trans hw1364_0)⟩ (fun hHeld => ?_); clear hK K; refine norm_ (a' := ?_) ?_ ?_; rotate_left
                        · show Act.put _ (some 38) _ = _
                          simp only [Act.put, R.sa, R.sb, R.sc, i64_w, i32_w]; rfl
                        refine R.pv (i := 24) (N := some 39) (v := ?_) (a' := ?_) (R.tf 25 24) rfl rfl (R.ao HT_.out) ?_ ?_ ?_; rotate_left
                        · intro w'; go_simp; with_reducible rfl
                        rotate_left
                        · simp only [Act.put, R.sa, R.sb, R.sc, i64_w, i32_w]; rfl
                        refine R.pv (i := 25) (N := some 40) (v := ?_) (a' := ?_) (R.tf 26 23) rfl rfl (R.ao HT_.out) ?_ ?_ ?_; rotate_left
                        · intro w'; go_simp; with_reducible rfl
                        rotate_left
                        · simp only [Act.put, R.sa, R.sb, R.sc, i64_w, i32_w]; rfl
                        refine R.pv (i := 26) (N := some 41) (v := ?_) (a' := ?_) (R.tf 27 22) rfl rfl (R.ao HT_.out) ?_ ?_ ?_; rotate_left
                        · intro w'; go_simp; with_reducible rfl
                        rotate_left
                        · simp only [Act.put, R.sa, R.sb, R.sc, i64_w, i32_w]; rfl
                        refine R.pv (i := 27) (N := some 42) (v := ?_) (a' := ?_) (R.tf 28 21) rfl rfl (R.ao HT_.out) ?_ ?_ ?_; rotate_left
                        · intro w'; go_simp; with_reducible rfl
                        rotate_left
                        · simp only [Act.put, R.sa, R.sb, R.sc, i64_w, i32_w]; rfl
                        refine take_ (i := 28) (N := some 43) (v := ?_) (a' := ?_) (R.tf 29 20) rfl rfl (take_ofW HT_.out HW_.out (by kernel_rfl)) (fun _ _ _ h => h) (Or.inl ⟨by rfl, ?_⟩) hHeld ?_ ?_; rotate_left
                        · rintro w' ⟨s0, s1, s2, s3, s4⟩; go_simp; with_reducible rfl
                        rotate_left
                        · simp only [Act.put, R.sa, R.sb, R.sc, i64_w, i32_w]; rfl
                        refine R.pv (i := 29) (N := some 44) (v := ?_) (a' := ?_) (R.tf 30 19) rfl rfl (R.ao HT_.out) ?_ ?_ ?_; rotate_left
                        · intro w'; go_simp; with_reducible rfl
                        rotate_left
                        · simp only [Act.put, R.sa, R.sb, R.sc, i64_w, i32_w]; rfl
                        refine R.pv (i := 30) (N := some 45) (v := ?_) (a' := ?_) (R.tf 31 18) rfl rfl (R.ao HT_.out) ?_ ?_ ?_; rotate_left
                        · intro w'; go_simp; with_reducible rfl
                        rotate_left
                        · simp only [Act.put, R.sa, R.sb, R.sc, i64_w, i32_w]; rfl
                        refine R.pv (i := 31) (N := some 46) (v := ?_) (a' := ?_) (R.tf 32 17) rfl rfl (R.ao HT_.out) ?_ ?_ ?_; rotate_left
                        · intro w'; go_simp; with_reducible rfl
                        rotate_left
                        · simp only [Act.put, R.sa, R.sb, R.sc, i64_w, i32_w]; rfl
                        refine R.pv (i := 32) (N := some 47) (v := ?_) (a' := ?_) (R.tf 33 16) rfl rfl (R.ao HT_.out) ?_ ?_ ?_; rotate_left
                        · intro w'; go_simp; with_reducible rfl
                        rotate_left
                        · simp only [Act.put, R.sa, R.sb, R.sc, i64_w, i32_w]; rfl
                        refine R.pu (i := 33) (N := some 48) (a' := ?_) (R.tf 34 15) rfl rfl (R.ao HT_.out) ?_ ?_; rotate_left
                        · simp only [Act.put, R.sa, R.sb, R.sc, i64_w, i32_w]; rfl
                        refine R.pu (i := 34) (N := some 49) (a' := ?_) (R.tf 35 14) rfl rfl (R.ao HT_.out) ?_ ?_; rotate_left
                        · simp only [Act.put, R.sa, R.sb, R.sc, i64_w, i32_w]; rfl
                        refine R.pu (i := 35) (N := some 50) (a' := ?_) (R.tf 36 13) rfl rfl (R.ao HT_.out) ?_ ?_; rotate_left
                        · simp only [Act.put, R.sa, R.sb, R.sc, i64_w, i32_w]; rfl
                        refine R.pu (i := 36) (N := some 51) (a' := ?_) (R.tf 37 12) rfl rfl (R.ao HT_.out) ?_ ?_; rotate_left
                        · simp only [Act.put, R.sa, R.sb, R.sc, i64_w, i32_w]; rfl
                        refine R.pu (i := 37) (N := some 52) (a' := ?_) (R.tf 38 11) rfl rfl (R.ao HT_.out) ?_ ?_; rotate_left
                        · simp only [Act.put, R.sa, R.sb, R.sc, i64_w, i32_w]; rfl
                        refine R.pu (i := 38) (N := some 53) (a' := ?_) (R.tf 39 10) rfl rfl (R.ao HT_.out) ?_ ?_; rotate_left
                        · simp only [Act.put, R.sa, R.sb, R.sc, i64_w, i32_w]; rfl
                        refine R.pu (i := 39) (N := some 54) (a' := ?_) (R.tf 40 9) rfl rfl (R.ao HT_.out) ?_ ?_; rotate_left
                        · simp only [Act.put, R.sa, R.sb, R.sc, i64_w, i32_w]; rfl
                        refine R.pu (i := 40) (N := some 55) (a' := ?_) (R.tf 41 8) rfl rfl (R.ao HT_.out) ?_ ?_; rotate_left
                        · simp only [Act.put, R.sa, R.sb, R.sc, i64_w, i32_w]; rfl
                        refine R.pu (i := 41) (N := some 56) (a' := ?_) (R.tf 42 7) rfl rfl (R.ao HT_.out) ?_ ?_; rotate_left
                        · simp only [Act.put, R.sa, R.sb, R.sc, i64_w, i32_w]; rfl
                        refine R.pv (i := 42) (N := some 57) (v := ?_) (a' := ?_) (R.tf 43 6) rfl rfl (R.ao HT_.out) ?_ ?_ ?_; rotate_left
                        · intro w'; go_simp; with_reducible rfl
                        rotate_left
                        · simp only [Act.put, R.sa, R.sb, R.sc, i64_w, i32_w]; rfl
                        refine R.pv (i := 43) (N := some 58) (v := ?_) (a' := ?_) (R.tf 44 5) rfl rfl (R.ao HT_.out) ?_ ?_ ?_; rotate_left
                        · intro w'; go_simp; with_reducible rfl
                        rotate_left
                        · simp only [Act.put, R.sa, R.sb, R.sc, i64_w, i32_w]; rfl
                        refine R.pu (i := 44) (N := some 59) (a' := ?_) (R.tf 45 4) rfl rfl (R.ao HT_.out) ?_ ?_; rotate_left
                        · simp only [Act.put, R.sa, R.sb, R.sc, i64_w, i32_w]; rfl
                        refine R.pu (i := 45) (N := some 60) (a' := ?_) (R.tf 46 3) rfl rfl (R.ao HT_.out) ?_ ?_; rotate_left
                        · simp only [Act.put, R.sa, R.sb, R.sc, i64_w, i32_w]; rfl
                        refine R.pu (i := 46) (N := some 61) (a' := ?_) (R.tf 47 2) rfl rfl (R.ao HT_.out) ?_ ?_; rotate_left
                        · simp only [Act.put, R.sa, R.sb, R.sc, i64_w, i32_w]; rfl
                        refine R.pu (i := 47) (N := some 62) (a' := ?_) (R.tf 48 1) rfl rfl (R.ao HT_.out) ?_ ?_; rotate_left
                        · simp only [Act.put, R.sa, R.sb, R.sc, i64_w, i32_w]; rfl
                        refine R.pv (i := 48) (N := some 63) (v := ?_) (a' := ?_) (R.tf 49 0) rfl rfl (R.ao HT_.out) ?_ ?_ ?_; rotate_left
                        · intro w'; go_simp; with_reducible rfl
                        rotate_left
                        · simp only [Act.put, R.sa, R.sb, R.sc, i64_w, i32_w]; rfl
                        refine done_ (R.dn HT_.out) ?_; try go_wp2
                        go_meet
                        case rel => exact ⟨_, (true), R.rs, H', ⟨by have := HK1.out; first | omega | exact Nat.le_refl _⟩, ⟨by (with_reducible repeat (first | refine blk_drewN ?_ _ | refine blk_drew ?_ | refine blk_alloc ?_ _)); exact BK1360.out⟩, ⟨by repeat (first | (with_reducible first | exact HB.out | apply below_alloc | apply pw_below_drewN | apply below_drew1 | refine below_set ?_ GE1360.out) | exact HB.out)⟩⟩
                      · rw [if_neg c21] at H; have c21b0 : decide ((((rd_T48 l0 x11_1).f1).length : Int) < 1) = false := decide_eq_false c21; have c21b1 : decide (((rd_T48 l0 x11_1).f1).length < 1) = false := decide_eq_false (by omega); clear c21
                        by_cases c24 : 0 < (l0.length : Int)
                        · rw [if_pos c24] at H; have c24b0 : decide (0 < (l0.length : Int)) = true := decide_eq_true c24; have c24b1 : decide (0 < l0.length) = true := decide_eq_true (by omega); clear c24
                          by_cases c25 : (((rd_T48 l0 x11_1).f1).length : Int) = (((rd_T48 l0 0).f1).length : Int)
                          · rw [if_pos c25] at H; have c25b0 : ((((rd_T48 l0 x11_1).f1).length : Int) == (((rd_T48 l0 0).f1).length : Int)) = true := beq_iff_eq.mpr c25; have c25b1 : ((((rd_T48 l0 x11_1).f1).length : Int) != (((rd_T48 l0 0).f1).length : Int)) = false := bne_eq_false_iff_eq.mpr c25
                            have c25b2 : (((rd_T48 l0 x11_1).f1).length == ((rd_T48 l0 0).f1).length) = true := by first | simpa using c25 | (simp at c25 ⊢; omega)
                            clear c25; replace H := Option.bind_eq_some_iff.mp H; obtain ⟨t1367, A260, H⟩ := H; (try dsimp only at H); have A26 := Aside0.mk A260; clear A260; have H' := Aside0.mk H; clear H; try go_wp2
                            have n0_ : Aside0 ((((w6.setCell ⟨gb1360, 0, none⟩ (.string ((rd_T48 l0 x11_1).f0))).setCell ⟨gb1360, 1, none⟩ (.slice A1359_1 ((rd_T48 l0 x11_1).f1).length c1359_1)).setCell ⟨gb1360, 2, none⟩ (.slice A1359_2 ((rd_T48 l0 x11_1).f2).length c1359_2)).heap[gb1360]? = some (.cells #[.string ((rd_T48 l0 x11_1).f0), .slice A1359_1 ((rd_T48 l0 x11_1).f1).length c1359_1, .slice A1359_2 ((rd_T48 l0 x11_1).f2).length c1359_2] 48 (0, 0))) := ⟨by (with_reducible repeat (first | refine blk_drewN ?_ _ | refine blk_drew ?_ | refine blk_alloc ?_ _)); refine blk_put (cs := #[.string ((rd_T48 l0 x11_1).f0), .slice A1359_1 ((rd_T48 l0 x11_1).f1).length c1359_1, .slice none 0 0]) ?_ 2 _ rfl; (with_reducible repeat (first | refine blk_drewN ?_ _ | refine blk_drew ?_ | refine blk_alloc ?_ _)); refine blk_put (cs := #[.string ((rd_T48 l0 x11_1).f0), .slice none 0 0, .slice none 0 0]) ?_ 1 _ rfl; (with_reducible repeat (first | refine blk_drewN ?_ _ | refine blk_drew ?_ | refine blk_alloc ?_ _)); refine blk_put (cs := #[.string ⟨#[]⟩, .slice none 0 0, .slice none 0 0]) ?_ 0 _ rfl; (with_reducible repeat (first | refine blk_drewN ?_ _ | refine blk_drew ?_ | refine blk_alloc ?_ _)); exact BK1360.out⟩; have n1_ : Aside0 (Below w.heap.size w (((w6.setCell ⟨gb1360, 0, none⟩ (.string ((rd_T48 l0 x11_1).f0))).setCell ⟨gb1360, 1, none⟩ (.slice A1359_1 ((rd_T48 l0 x11_1).f1).length c1359_1)).setCell ⟨gb1360, 2, none⟩ (.slice A1359_2 ((rd_T48 l0 x11_1).f2).length c1359_2))) := ⟨by repeat (first | (with_reducible first | exact HB.out | apply below_alloc | apply pw_below_drewN | apply below_drew1 | refine below_set ?_ GE1360.out) | exact HB.out)⟩; (try clear BK1360); (try clear HB); generalize (((w6.setCell ⟨gb1360, 0, none⟩ (.string ((rd_T48 l0 x11_1).f0))).setCell ⟨gb1360, 1, none⟩ (.slice A1359_1 ((rd_T48 l0 x11_1).f1).length c1359_1)).setCell ⟨gb1360, 2, none⟩ (.slice A1359_2 ((rd_T48 l0 x11_1).f2).length c1359_2)) = w27 at n0_ n1_ ⊢; have BK1360 := n0_; have HB := n1_; clear n0_ n1_; have n0_ := Aside0.mk (blk_drew BK1360.out); have n1_ := Aside0.mk (below_drew1 HB.out); clear BK1360; clear HB; have BK1360 := n0_; have HB := n1_; clear n0_ n1_; have p1362 : 0 ≤ (0 : Int) := (by omega); have q1362 : 0 < (((rd_T48 l0 x11_1).f2).length : Int) := R.od; obtain ⟨ad1362, e1362, hx1362_0⟩ := Kd.at_string HR1359_2.out 0 p1362 q1362; have hw1362_0 := hx1362_0; (try rw [show ((0 : Int)).toNat = 0 from rfl] at hw1362_0); (try rw [show 0 * 1 = 0 from rfl] at hw1362_0); (try rw [Addr.add_zero'] at hw1362_0); cases e1362; have qi1362 : (0 < ((rd_T48 l0 x11_1).f2).length) = True := eq_true (by omega); (try rw [show ((0 : Int)).toNat = 0 from rfl] at hx1362_0); (try rw [Addr.add_zero'] at hx1362_0); replace hx1362_0 := (HB.out.cell (World.block_lt_of_cell? w _ hx1362_0)).trans hx1362_0; replace p1362 := eq_true p1362; replace q1362 := eq_true q1362; have p1364 : 0 ≤ (1 : Int) := (by omega); have q1364 : 1 < (((rd_T48 l0 x11_1).f2).length : Int) := R.od; obtain ⟨ad1364, e1364, hx1364_0⟩ := Kd.at_string HR1359_2.out 1 p1364 q1364; have hw1364_0 := hx1364_0; (try rw [show ((1 : Int)).toNat = 1 from rfl] at hw1364_0); (try rw [show 1 * 1 = 1 from rfl] at hw1364_0); (try simp only [Nat.reduceMul, Nat.reduceEqDiff, Go.Addr.add, ↓reduceIte] at hw1364_0); obtain rfl : ad1362 = ad1364 := (by injection e1364); (try simp only [show (1 : Int).toNat = 1 from rfl, Nat.reduceMul, Nat.reduceEqDiff, Go.Addr.add, ↓reduceIte] at hx1364_0); have qi1364 : (1 < ((rd_T48 l0 x11_1).f2).length) = True := eq_true (by omega); (try rw [show ((1 : Int)).toNat = 1 from rfl] at hx1364_0); replace hx1364_0 := (HB.out.cell (World.block_lt_of_cell? w _ hx1364_0)).trans hx1364_0; replace p1364 := eq_true p1364; replace q1364 := eq_true q1364; have p1366 : 0 ≤ (0 : Int) := (by omega); have q1366 : 0 < (l0.length : Int) := R.od; obtain ⟨ad1366, A1366_1, c1366_1, A1366_2, c1366_2, e1366, hx1366_0, hx1366_1, hx1366_2, hl1366_1, hi1366_1, hl1366_2, hi1366_2⟩ := at_T48 HR0.out 0 p1366 q1366; have hw1366_2 := hx1366_2; (try rw [show ((0 : Int)).toNat = 0 from rfl] at hw1366_2); (try rw [show 0 * 3 = 0 from rfl] at hw1366_2); (try rw [Addr.add_zero'] at hw1366_2); have hw1366_1 := hx1366_1; (try rw [show ((0 : Int)).toNat = 0 from rfl] at hw1366_1); (try rw [show 0 * 3 = 0 from rfl] at hw1366_1); (try rw [Addr.add_zero'] at hw1366_1); have hw1366_0 := hx1366_0; (try rw [show ((0 : Int)).toNat = 0 from rfl] at hw1366_0); (try rw [show 0 * 3 = 0 from rfl] at hw1366_0); (try rw [Addr.add_zero'] at hw1366_0); obtain rfl : ad1359 = ad1366 := (by injection e1366); have qi1366 : (0 < l0.length) = True := eq_true (by omega); (try rw [show ((0 : Int)).toNat = 0 from rfl] at hx1366_0); (try rw [show 0 * 3 = 0 from rfl] at hx1366_0); (try rw [Addr.add_zero'] at hx1366_0); (try rw [show ((0 : Int)).toNat = 0 from rfl] at hx1366_1); (try rw [show 0 * 3 = 0 from rfl] at hx1366_1); (try rw [Addr.add_zero'] at hx1366_1); (try rw [show ((0 : Int)).toNat = 0 from rfl] at hx1366_2); (try rw [show 0 * 3 = 0 from rfl] at hx1366_2); (try rw [Addr.add_zero'] at hx1366_2); replace hx1366_0 := (HB.out.cell (World.block_lt_of_cell? w _ hx1366_0)).trans hx1366_0; replace hx1366_1 := (HB.out.cell (World.block_lt_of_cell? w _ hx1366_1)).trans hx1366_1; replace hx1366_2 := (HB.out.cell (World.block_lt_of_cell? w _ hx1366_2)).trans hx1366_2; have HR1366_1 := Aside0.mk hi1366_1; have HC1366_1 := Aside0.mk hl1366_1; clear hi1366_1 hl1366_1; have HR1366_2 := Aside0.mk hi1366_2; have HC1366_2 := Aside0.mk hl1366_2; clear hi1366_2 hl1366_2; replace p1366 := eq_true p1366; replace q1366 := eq_true q1366; refine start_ (n := 49) (S := fun w' => w'.cell? ⟨gb1360, 0, none⟩ = some (.string ((rd_T48 l0 x11_1).f0)) ∧ w'.cell? ⟨gb1360, 1, none⟩ = some (.slice A1359_1 ((rd_T48 l0 x11_1).f1).length c1359_1) ∧ w'.cell? ⟨gb1360, 2, none⟩ = some (.slice (some ad1362) ((rd_T48 l0 x11_1).f2).length c1359_2) ∧ w'.cell? ad1362 = some (.string (rdOf ByteArray.empty ((rd_T48 l0 x11_1).f2) 0)) ∧ w'.cell? ⟨ad1362.block, ad1362.off + 1, none⟩ = some (.string (rdOf ByteArray.empty ((rd_T48 l0 x11_1).f2) 1)) ∧ w'.cell? ad1359 = some (.string ((rd_T48 l0 0).f0)) ∧ w'.cell? ⟨ad1359.block, ad1359.off + 1, none⟩ = some (.slice A1366_1 ((rd_T48 l0 0).f1).length c1366_1) ∧ w'.cell? ⟨ad1359.block, ad1359.off + 2, none⟩ = some (.slice A1366_2 ((rd_T48 l0 0).f2).length c1366_2)) (ds := []) (R.tf 0 49) (by kernel_rfl) rfl rfl ⟨(blk_cell BK1360.out 0).trans rfl, (blk_cell BK1360.out 1).trans rfl, (blk_cell BK1360.out 2).trans rfl, ((HB.out.cell (World.block_lt_of_cell? w _ hw1362_0)).trans hw1362_0), ((HB.out.cell (World.block_lt_of_cell? w _ hw1364_0)).trans hw1364_0), ((HB.out.cell (World.block_lt_of_cell? w _ hw1366_0)).trans hw1366_0), ((HB.out.cell (World.block_lt_of_cell? w _ hw1366_1)).trans hw1366_1), ((HB.out.cell (World.block_lt_of_cell? w _ hw1366_2)).trans hw1366_2)⟩ (fun hHeld => ?_); refine with_tabW spec_BuddyinfoPrint.tab5 spec_BuddyinfoPrint.bits5 (fun HT_ HW_ => ?_); generalize w27.drew = w28 at BK1360 HB HR1366_1 HR1366_2 hx1362_0 hx1364_0 hx1366_0 hx1366_1 hx1366_2 hHeld ⊢; refine R.pv (i := 0) (N := some 15) (v := ?_) (a' := ?_) (R.tf 1 48) rfl rfl (R.ao HT_.out) ?_ ?_ ?_; rotate_left
                            · intro w'; go_simp; with_reducible rfl
                            rotate_left
                            · simp only [Act.put, R.sa, R.sb, R.sc, i64_w, i32_w]; rfl
                            refine take_ (i := 1) (N := some 16) (v := ?_) (a' := ?_) (R.tf 2 47) rfl rfl (take_ofW HT_.out HW_.out (by kernel_rfl)) (fun _ _ _ h => h) (Or.inl ⟨by rfl, ?_⟩) hHeld ?_ ?_; rotate_left
                            · rintro w' ⟨s0, s1, s2, s3, s4, s5, s6, s7⟩; go_simp; with_reducible rfl
                            rotate_left
                            · simp only [Act.put, R.sa, R.sb, R.sc, i64_w, i32_w]; rfl
                            refine R.pv (i := 2) (N := some 17) (v := ?_) (a' := ?_) (R.tf 3 46) rfl rfl (R.ao HT_.out) ?_ ?_ ?_; rotate_left
                            · intro w'; go_simp; with_reducible rfl
                            rotate_left
                            · simp only [Act.put, R.sa, R.sb, R.sc, i64_w, i32_w]; rfl
                            refine R.pv (i := 3) (N := some 18) (v := ?_) (a' := ?_) (R.tf 4 45) rfl rfl (R.ao HT_.out) ?_ ?_ ?_; rotate_left
                            · intro w'; go_simp; with_reducible rfl
                            rotate_left
                            · simp only [Act.put, R.sa, R.sb, R.sc, i64_w, i32_w]; rfl
                            refine R.pv (i := 4) (N := some 19) (v := ?_) (a' := ?_) (R.tf 5 44) rfl rfl (R.ao HT_.out) ?_ ?_ ?_; rotate_left
                            · intro w'; go_simp; with_reducible rfl
                            rotate_left
                            · simp only [Act.put, R.sa, R.sb, R.sc, i64_w, i32_w]; rfl
                            refine R.pv (i := 5) (N := some 20) (v := ?_) (a' := ?_) (R.tf 6 43) rfl rfl (R.ao HT_.out) ?_ ?_ ?_; rotate_left
                            · intro w'; go_simp; with_reducible rfl
                            rotate_left
                            · simp only [Act.put, R.sa, R.sb, R.sc, i64_w, i32_w]; rfl
                            refine take_ (i := 6) (N := some 21) (v := ?_) (a' := ?_) (R.tf 7 42) rfl rfl (take_ofW HT_.out HW_.out (by kernel_rfl)) (fun _ _ _ h => h) (Or.inl ⟨by rfl, ?_⟩) hHeld ?_ ?_; rotate_left
                            · rintro w' ⟨s0, s1, s2, s3, s4, s5, s6, s7⟩; go_simp; with_reducible rfl
                            rotate_left
                            · simp only [Act.put, R.sa, R.sb, R.sc, i64_w, i32_w]; rfl
                            refine one_ (i := 7) (N := some 22) (R.tf 8 41) rfl rfl (R.oo HT_.out) (by decide) (fun K hK => ?_); refine goes_ Tryz.func107 (by kernel_rfl) rfl #[.slice (some ad1362) ((rd_T48 l0 x11_1).f2).length c1359_2] (by rfl) rfl rfl R.tp ?_; with_reducible refine (spec_words.calls k1 _ _ ((rd_T48 l0 x11_1).f2) true _ ?side1 ?side2 A9.out).mono ?_
                            (case side1 => repeat (first | exact (Kd.C_below HR1359_2.out HB.out) | (with_reducible refine Kd.C_alloc ?_ _) | (with_reducible refine Kd.C_drewN ?_ _) | (with_reducible refine Kd.C_drew ?_)))
                            (case side2 => exact HC1359_2.out)
                            rintro e w' ⟨rfl, ⟨nd, rfl⟩⟩; refine ⟨_, rfl, ?_⟩; refine hK.out _ _ ⟨(blk_cell BK1360.out 0).trans rfl, (blk_cell BK1360.out 1).trans rfl, (blk_cell BK1360.out 2).trans rfl, ((HB.out.cell (World.block_lt_of_cell? w _ hw1362_0)).trans hw1362_0), ((HB.out.cell (World.block_lt_of_cell? w _ hw1364_0)).trans hw1364_0), ((HB.out.cell (World.block_lt_of_cell? w _ hw1366_0)).trans hw1366_0), ((HB.out.cell (World.block_lt_of_cell? w _ hw1366_1)).trans hw1366_1), ((HB.out.cell (World.block_lt_of_cell? w _ hw1366_2)).trans hw1366_2)⟩ (fun hHeld => ?_); clear hK K; refine norm_ (a' := ?_) ?_ ?_; rotate_left
                            · show Act.put _ (some 22) _ = _
                              simp only [Act.put, R.sa, R.sb, R.sc, i64_w, i32_w]; rfl
                            refine R.pv (i := 8) (N := some 23) (v := ?_) (a' := ?_) (R.tf 9 40) rfl rfl (R.ao HT_.out) ?_ ?_ ?_; rotate_left
                            · intro w'; go_simp; with_reducible rfl
                            rotate_left
                            · simp only [Act.put, R.sa, R.sb, R.sc, i64_w, i32_w]; rfl
                            refine R.pv (i := 9) (N := some 24) (v := ?_) (a' := ?_) (R.tf 10 39) rfl rfl (R.ao HT_.out) ?_ ?_ ?_; rotate_left
                            · intro w'; go_simp; with_reducible rfl
                            rotate_left
                            · simp only [Act.put, R.sa, R.sb, R.sc, i64_w, i32_w]; rfl
                            refine R.pv (i := 10) (N := some 25) (v := ?_) (a' := ?_) (R.tf 11 38) rfl rfl (R.ao HT_.out) ?_ ?_ ?_; rotate_left
                            · intro w'; go_simp; with_reducible rfl
                            rotate_left
                            · simp only [Act.put, R.sa, R.sb, R.sc, i64_w, i32_w]; rfl
                            refine R.pv (i := 11) (N := some 26) (v := ?_) (a' := ?_) (R.tf 12 37) rfl rfl (R.ao HT_.out) ?_ ?_ ?_; rotate_left
                            · intro w'; go_simp; with_reducible rfl
                            rotate_left
                            · simp only [Act.put, R.sa, R.sb, R.sc, i64_w, i32_w]; rfl
                            refine take_ (i := 12) (N := some 27) (v := ?_) (a' := ?_) (R.tf 13 36) rfl rfl (take_ofW HT_.out HW_.out (by kernel_rfl)) (fun _ _ _ h => h) (Or.inl ⟨by rfl, ?_⟩) hHeld ?_ ?_; rotate_left
                            · rintro w' ⟨s0, s1, s2, s3, s4, s5, s6, s7⟩; go_simp; with_reducible rfl
                            rotate_left
                            · simp only [Act.put, R.sa, R.sb, R.sc, i64_w, i32_w]; rfl
                            refine R.pv (i := 13) (N := some 28) (v := ?_) (a' := ?_) (R.tf 14 35) rfl rfl (R.ao HT_.out) ?_ ?_ ?_; rotate_left
                            · intro w'; go_simp; with_reducible rfl
                            rotate_left
                            · simp only [Act.put, R.sa, R.sb, R.sc, i64_w, i32_w]; rfl
                            refine take_ (i := 14) (N := some 29) (v := ?_) (a' := ?_) (R.tf 15 34) rfl rfl (take_ofW HT_.out HW_.out (by kernel_rfl)) (fun _ _ _ h => h) (Or.inl ⟨by rfl, ?_⟩) hHeld ?_ ?_; rotate_left
                            · rintro w' ⟨s0, s1, s2, s3, s4, s5, s6, s7⟩; go_simp; with_reducible rfl
                            rotate_left
                            · simp only [Act.put, R.sa, R.sb, R.sc, i64_w, i32_w]; rfl
                            refine one_ (i := 15) (N := some 30) (R.tf 16 33) rfl rfl (R.oo HT_.out) (by decide) (fun K hK => ?_); refine goes_ Tryz.func96 (by kernel_rfl) rfl #[.string (rdOf ByteArray.empty ((rd_T48 l0 x11_1).f2) 0), .int .u8 44] (by rfl) rfl rfl R.tp ?_; with_reducible refine (spec_Where.calls k1 (rdOf ByteArray.empty ((rd_T48 l0 x11_1).f2) 0) 44 t1363 _ A12.out).mono ?_
                            rintro e w' ⟨rfl, ⟨nd, rfl⟩⟩; refine ⟨_, rfl, ?_⟩; refine hK.out _ _ ⟨(blk_cell BK1360.out 0).trans rfl, (blk_cell BK1360.out 1).trans rfl, (blk_cell BK1360.out 2).trans rfl, ((HB.out.cell (World.block_lt_of_cell? w _ hw1362_0)).trans hw1362_0), ((HB.out.cell (World.block_lt_of_cell? w _ hw1364_0)).trans hw1364_0), ((HB.out.cell (World.block_lt_of_cell? w _ hw1366_0)).trans hw1366_0), ((HB.out.cell (World.block_lt_of_cell? w _ hw1366_1)).trans hw1366_1), ((HB.out.cell (World.block_lt_of_cell? w _ hw1366_2)).trans hw1366_2)⟩ (fun hHeld => ?_); clear hK K; refine norm_ (a' := ?_) ?_ ?_; rotate_left
                            · show Act.put _ (some 30) _ = _
                              simp only [Act.put, R.sa, R.sb, R.sc, i64_w, i32_w]; rfl
                            refine R.pv (i := 16) (N := some 31) (v := ?_) (a' := ?_) (R.tf 17 32) rfl rfl (R.ao HT_.out) ?_ ?_ ?_; rotate_left
                            · intro w'; go_simp; with_reducible rfl
                            rotate_left
                            · simp only [Act.put, R.sa, R.sb, R.sc, i64_w, i32_w]; rfl
                            refine R.pv (i := 17) (N := some 32) (v := ?_) (a' := ?_) (R.tf 18 31) rfl rfl (R.ao HT_.out) ?_ ?_ ?_; rotate_left
                            · intro w'; go_simp; with_reducible rfl
                            rotate_left
                            · simp only [Act.put, R.sa, R.sb, R.sc, i64_w, i32_w]; rfl
                            refine R.pv (i := 18) (N := some 33) (v := ?_) (a' := ?_) (R.tf 19 30) rfl rfl (R.ao HT_.out) ?_ ?_ ?_; rotate_left
                            · intro w'; go_simp; with_reducible rfl
                            rotate_left
                            · simp only [Act.put, R.sa, R.sb, R.sc, i64_w, i32_w]; rfl
                            refine R.pv (i := 19) (N := some 34) (v := ?_) (a' := ?_) (R.tf 20 29) rfl rfl (R.ao HT_.out) ?_ ?_ ?_; rotate_left
                            · intro w'; go_simp; with_reducible rfl
                            rotate_left
                            · simp only [Act.put, R.sa, R.sb, R.sc, i64_w, i32_w]; rfl
                            refine take_ (i := 20) (N := some 35) (v := ?_) (a' := ?_) (R.tf 21 28) rfl rfl (take_ofW HT_.out HW_.out (by kernel_rfl)) (fun _ _ _ h => h) (Or.inl ⟨by rfl, ?_⟩) hHeld ?_ ?_; rotate_left
                            · rintro w' ⟨s0, s1, s2, s3, s4, s5, s6, s7⟩; go_simp; with_reducible rfl
                            rotate_left
                            · simp only [Act.put, R.sa, R.sb, R.sc, i64_w, i32_w]; rfl
                            refine R.pv (i := 21) (N := some 36) (v := ?_) (a' := ?_) (R.tf 22 27) rfl rfl (R.ao HT_.out) ?_ ?_ ?_; rotate_left
                            · intro w'; go_simp; with_reducible rfl
                            rotate_left
                            · simp only [Act.put, R.sa, R.sb, R.sc, i64_w, i32_w]; rfl
                            refine take_ (i := 22) (N := some 37) (v := ?_) (a' := ?_) (R.tf 23 26) rfl rfl (take_ofW HT_.out HW_.out (by kernel_rfl)) (fun _ _ _ h => h) (Or.inl ⟨by rfl, ?_⟩) hHeld ?_ ?_; rotate_left
                            · rintro w' ⟨s0, s1, s2, s3, s4, s5, s6, s7⟩; go_simp; with_reducible rfl
                            rotate_left
                            · simp only [Act.put, R.sa, R.sb, R.sc, i64_w, i32_w]; rfl
                            refine one_ (i := 23) (N := some 38) (R.tf 24 25) rfl rfl (R.oo HT_.out) (by decide) (fun K hK => ?_); refine goes_ Tryz.func96 (by kernel_rfl) rfl #[.string (rdOf ByteArray.empty ((rd_T48 l0 x11_1).f2) 1), .int .u8 44] (by rfl) rfl rfl R.tp ?_; with_reducible refine (spec_Where.calls k1 (rdOf ByteArray.empty ((rd_T48 l0 x11_1).f2) 1) 44 t1365 _ A17.out).mono ?_
                            rintro e w' ⟨rfl, ⟨nd, rfl⟩⟩; refine ⟨_, rfl, ?_⟩; refine hK.out _ _ ⟨(blk_cell BK1360.out 0).trans rfl, (blk_cell BK1360.out 1).trans rfl, (blk_cell BK1360.out 2).trans rfl, ((HB.out.cell (World.block_lt_of_cell? w _ hw1362_0)).trans hw1362_0), ((HB.out.cell (World.block_lt_of_cell? w _ hw1364_0)).trans hw1364_0), ((HB.out.cell (World.block_lt_of_cell? w _ hw1366_0)).trans hw1366_0), ((HB.out.cell (World.block_lt_of_cell? w _ hw1366_1)).trans hw1366_1), ((HB.out.cell (World.block_lt_of_cell? w _ hw1366_2)).trans hw1366_2)⟩ (fun hHeld => ?_); clear hK K; refine norm_ (a' := ?_) ?_ ?_; rotate_left
                            · show Act.put _ (some 38) _ = _
                              simp only [Act.put, R.sa, R.sb, R.sc, i64_w, i32_w]; rfl
                            refine R.pv (i := 24) (N := some 39) (v := ?_) (a' := ?_) (R.tf 25 24) rfl rfl (R.ao HT_.out) ?_ ?_ ?_; rotate_left
                            · intro w'; go_simp; with_reducible rfl
                            rotate_left
                            · simp only [Act.put, R.sa, R.sb, R.sc, i64_w, i32_w]; rfl
                            refine R.pv (i := 25) (N := some 40) (v := ?_) (a' := ?_) (R.tf 26 23) rfl rfl (R.ao HT_.out) ?_ ?_ ?_; rotate_left
                            · intro w'; go_simp; with_reducible rfl
                            rotate_left
                            · simp only [Act.put, R.sa, R.sb, R.sc, i64_w, i32_w]; rfl
                            refine R.pv (i := 26) (N := some 41) (v := ?_) (a' := ?_) (R.tf 27 22) rfl rfl (R.ao HT_.out) ?_ ?_ ?_; rotate_left
                            · intro w'; go_simp; with_reducible rfl
                            rotate_left
                            · simp only [Act.put, R.sa, R.sb, R.sc, i64_w, i32_w]; rfl
                            refine R.pv (i := 27) (N := some 42) (v := ?_) (a' := ?_) (R.tf 28 21) rfl rfl (R.ao HT_.out) ?_ ?_ ?_; rotate_left
                            · intro w'; go_simp; with_reducible rfl
                            rotate_left
                            · simp only [Act.put, R.sa, R.sb, R.sc, i64_w, i32_w]; rfl
                            refine take_ (i := 28) (N := some 43) (v := ?_) (a' := ?_) (R.tf 29 20) rfl rfl (take_ofW HT_.out HW_.out (by kernel_rfl)) (fun _ _ _ h => h) (Or.inl ⟨by rfl, ?_⟩) hHeld ?_ ?_; rotate_left
                            · rintro w' ⟨s0, s1, s2, s3, s4, s5, s6, s7⟩; go_simp; with_reducible rfl
                            rotate_left
                            · simp only [Act.put, R.sa, R.sb, R.sc, i64_w, i32_w]; rfl
                            refine R.pv (i := 29) (N := some 44) (v := ?_) (a' := ?_) (R.tf 30 19) rfl rfl (R.ao HT_.out) ?_ ?_ ?_; rotate_left
                            · intro w'; go_simp; with_reducible rfl
                            rotate_left
                            · simp only [Act.put, R.sa, R.sb, R.sc, i64_w, i32_w]; rfl
                            refine R.pv (i := 30) (N := some 45) (v := ?_) (a' := ?_) (R.tf 31 18) rfl rfl (R.ao HT_.out) ?_ ?_ ?_; rotate_left
                            · intro w'; go_simp; with_reducible rfl
                            rotate_left
                            · simp only [Act.put, R.sa, R.sb, R.sc, i64_w, i32_w]; rfl
                            refine R.pv (i := 31) (N := some 46) (v := ?_) (a' := ?_) (R.tf 32 17) rfl rfl (R.ao HT_.out) ?_ ?_ ?_; rotate_left
                            · intro w'; go_simp; with_reducible rfl
                            rotate_left
                            · simp only [Act.put, R.sa, R.sb, R.sc, i64_w, i32_w]; rfl
                            refine R.pv (i := 32) (N := some 47) (v := ?_) (a' := ?_) (R.tf 33 16) rfl rfl (R.ao HT_.out) ?_ ?_ ?_; rotate_left
                            · intro w'; go_simp; with_reducible rfl
                            rotate_left
                            · simp only [Act.put, R.sa, R.sb, R.sc, i64_w, i32_w]; rfl
                            refine R.pv (i := 33) (N := some 48) (v := ?_) (a' := ?_) (R.tf 34 15) rfl rfl (R.ao HT_.out) ?_ ?_ ?_; rotate_left
                            · intro w'; go_simp; with_reducible rfl
                            rotate_left
                            · simp only [Act.put, R.sa, R.sb, R.sc, i64_w, i32_w]; rfl
                            refine R.pv (i := 36) (N := some 51) (v := ?_) (a' := ?_) #[true, true, true, true, true, true, true, true, true, true, true, true, true, true, true, true, true, true, true, true, true, true, true, true, true, true, true, true, true, true, true, true, true, true, false, false, true, false, false, false, false, false, false, false, false, false, false, false, false] rfl rfl (R.ao HT_.out) ?_ ?_ ?_; rotate_left
                            · intro w'; go_simp; with_reducible rfl
                            rotate_left
                            · simp only [Act.put, R.sa, R.sb, R.sc, i64_w, i32_w]; rfl
                            refine R.pv (i := 37) (N := some 52) (v := ?_) (a' := ?_) #[true, true, true, true, true, true, true, true, true, true, true, true, true, true, true, true, true, true, true, true, true, true, true, true, true, true, true, true, true, true, true, true, true, true, false, false, true, true, false, false, false, false, false, false, false, false, false, false, false] rfl rfl (R.ao HT_.out) ?_ ?_ ?_; rotate_left
                            · intro w'; go_simp; with_reducible rfl
                            rotate_left
                            · simp only [Act.put, R.sa, R.sb, R.sc, i64_w, i32_w]; rfl
                            refine R.pv (i := 38) (N := some 53) (v := ?_) (a' := ?_) #[true, true, true, true, true, true, true, true, true, true, true, true, true, true, true, true, true, true, true, true, true, true, true, true, true, true, true, true, true, true, true, true, true, true, false, false, true, true, true, false, false, false, false, false, false, false, false, false, false] rfl rfl (R.ao HT_.out) ?_ ?_ ?_; rotate_left
                            · intro w'; go_simp; with_reducible rfl
                            rotate_left
                            · simp only [Act.put, R.sa, R.sb, R.sc, i64_w, i32_w]; rfl
                            refine take_ (i := 34) (N := some 49) (v := ?_) (a' := ?_) #[true, true, true, true, true, true, true, true, true, true, true, true, true, true, true, true, true, true, true, true, true, true, true, true, true, true, true, true, true, true, true, true, true, true, true, false, true, true, true, false, false, false, false, false, false, false, false, false, false] rfl rfl (take_ofW HT_.out HW_.out (by kernel_rfl)) (fun _ _ _ h => h) (Or.inl ⟨by rfl, ?_⟩) hHeld ?_ ?_; rotate_left
                            · rintro w' ⟨s0, s1, s2, s3, s4, s5, s6, s7⟩; go_simp; with_reducible rfl
                            rotate_left
                            · simp only [Act.put, R.sa, R.sb, R.sc, i64_w, i32_w]; rfl
                            refine R.pv (i := 35) (N := some 50) (v := ?_) (a' := ?_) (R.tf 39 10) rfl rfl (R.ao HT_.out) ?_ ?_ ?_; rotate_left
                            · intro w'; go_simp; with_reducible rfl
                            rotate_left
                            · simp only [Act.put, R.sa, R.sb, R.sc, i64_w, i32_w]; rfl
                            refine take_ (i := 39) (N := some 54) (v := ?_) (a' := ?_) (R.tf 40 9) rfl rfl (take_ofW HT_.out HW_.out (by kernel_rfl)) (fun _ _ _ h => h) (Or.inl ⟨by rfl, ?_⟩) hHeld ?_ ?_; rotate_left
                            · rintro w' ⟨s0, s1, s2, s3, s4, s5, s6, s7⟩; go_simp; with_reducible rfl
                            rotate_left
                            · simp only [Act.put, R.sa, R.sb, R.sc, i64_w, i32_w]; rfl
                            refine R.pv (i := 40) (N := some 55) (v := ?_) (a' := ?_) (R.tf 41 8) rfl rfl (R.ao HT_.out) ?_ ?_ ?_; rotate_left
                            · intro w'; go_simp; with_reducible rfl
                            rotate_left
                            · simp only [Act.put, R.sa, R.sb, R.sc, i64_w, i32_w]; rfl
                            refine R.pv (i := 41) (N := some 56) (v := ?_) (a' := ?_) (R.tf 42 7) rfl rfl (R.ao HT_.out) ?_ ?_ ?_; rotate_left
                            · intro w'; go_simp; with_reducible rfl
                            rotate_left
                            · simp only [Act.put, R.sa, R.sb, R.sc, i64_w, i32_w]; rfl
                            refine R.pv (i := 42) (N := some 57) (v := ?_) (a' := ?_) (R.tf 43 6) rfl rfl (R.ao HT_.out) ?_ ?_ ?_; rotate_left
                            · intro w'; go_simp; with_reducible rfl
                            rotate_left
                            · simp only [Act.put, R.sa, R.sb, R.sc, i64_w, i32_w]; rfl
                            refine R.pv (i := 43) (N := some 58) (v := ?_) (a' := ?_) (R.tf 44 5) rfl rfl (R.ao HT_.out) ?_ ?_ ?_; rotate_left
                            · intro w'; go_simp; with_reducible rfl
                            rotate_left
                            · simp only [Act.put, R.sa, R.sb, R.sc, i64_w, i32_w]; rfl
                            refine R.pv (i := 44) (N := some 59) (v := ?_) (a' := ?_) (R.tf 45 4) rfl rfl (R.ao HT_.out) ?_ ?_ ?_; rotate_left
                            · intro w'; go_simp; with_reducible rfl
                            rotate_left
                            · simp only [Act.put, R.sa, R.sb, R.sc, i64_w, i32_w]; rfl
                            refine take_ (i := 45) (N := some 60) (v := ?_) (a' := ?_) (R.tf 46 3) rfl rfl (take_ofW HT_.out HW_.out (by kernel_rfl)) (fun _ _ _ h => h) (Or.inl ⟨by rfl, ?_⟩) hHeld ?_ ?_; rotate_left
                            · rintro w' ⟨s0, s1, s2, s3, s4, s5, s6, s7⟩; go_simp; with_reducible rfl
                            rotate_left
                            · simp only [Act.put, R.sa, R.sb, R.sc, i64_w, i32_w]; rfl
                            refine one_ (i := 46) (N := some 61) (R.tf 47 2) rfl rfl (R.oo HT_.out) (by decide) (fun K hK => ?_); refine goes_ Tryz.func101 (by kernel_rfl) rfl #[.int .u64 1099511627776, .slice A1359_1 ((rd_T48 l0 x11_1).f1).length c1359_1] (by rfl) rfl rfl R.tp ?_; with_reducible refine (spec_small.calls k1 1099511627776 _ _ ((rd_T48 l0 x11_1).f1) t1367 _ ?side1 ?side2 A26.out).mono ?_
                            (case side1 => repeat (first | exact (Kd.C_below HR1359_1.out (R.hc1 HB.out GE1360.out)) | (with_reducible refine Kd.C_alloc ?_ _) | (with_reducible refine Kd.C_drewN ?_ _) | (with_reducible refine Kd.C_drew ?_)))
                            (case side2 => exact HC1359_1.out)
                            rintro e w' ⟨rfl, ⟨nd, rfl⟩⟩; refine ⟨_, rfl, ?_⟩; refine hK.out _ _ ⟨(blk_cell BK1360.out 0).trans rfl, (blk_cell BK1360.out 1).trans rfl, (blk_cell BK1360.out 2).trans rfl, ((HB.out.cell (World.block_lt_of_cell? w _ hw1362_0)).trans hw1362_0), ((HB.out.cell (World.block_lt_of_cell? w _ hw1364_0)).trans hw1364_0), ((HB.out.cell (World.block_lt_of_cell? w _ hw1366_0)).trans hw1366_0), ((HB.out.cell (World.block_lt_of_cell? w _ hw1366_1)).trans hw1366_1), ((HB.out.cell (World.block_lt_of_cell? w _ hw1366_2)).trans hw1366_2)⟩ (fun hHeld => ?_); clear hK K; refine norm_ (a' := ?_) ?_ ?_; rotate_left
                            · show Act.put _ (some 61) _ = _
                              simp only [Act.put, R.sa, R.sb, R.sc, i64_w, i32_w]; rfl
                            refine R.pv (i := 47) (N := some 62) (v := ?_) (a' := ?_) (R.tf 48 1) rfl rfl (R.ao HT_.out) ?_ ?_ ?_; rotate_left
                            · intro w'; go_simp; with_reducible rfl
                            rotate_left
                            · simp only [Act.put, R.sa, R.sb, R.sc, i64_w, i32_w]; rfl
                            refine R.pv (i := 48) (N := some 63) (v := ?_) (a' := ?_) (R.tf 49 0) rfl rfl (R.ao HT_.out) ?_ ?_ ?_; rotate_left
                            · intro w'; go_simp; with_reducible rfl
                            rotate_left
                            · simp only [Act.put, R.sa, R.sb, R.sc, i64_w, i32_w]; rfl
                            refine done_ (R.dn HT_.out) ?_; try go_wp2
                            go_meet
                            case rel => exact ⟨_, (!t1367), R.rs, H', ⟨by have := HK1.out; first | omega | exact Nat.le_refl _⟩, ⟨by (with_reducible repeat (first | refine blk_drewN ?_ _ | refine blk_drew ?_ | refine blk_alloc ?_ _)); exact BK1360.out⟩, ⟨by repeat (first | (with_reducible first | exact HB.out | apply below_alloc | apply pw_below_drewN | apply below_drew1 | refine below_set ?_ GE1360.out) | exact HB.out)⟩⟩
                          · rw [if_neg c25] at H; have c25b0 : ((((rd_T48 l0 x11_1).f1).length : Int) == (((rd_T48 l0 0).f1).length : Int)) = false := beq_eq_false_iff_ne.mpr c25; have c25b1 : ((((rd_T48 l0 x11_1).f1).length : Int) != (((rd_T48 l0 0).f1).length : Int)) = true := bne_iff_ne.mpr c25
                            have c25b2 : (((rd_T48 l0 x11_1).f1).length == ((rd_T48 l0 0).f1).length) = false := by first | simpa using c25 | (simp at c25 ⊢; omega)
                            have H' := Aside0.mk H; clear H; try go_wp2
                            have n0_ : Aside0 ((((w6.setCell ⟨gb1360, 0, none⟩ (.string ((rd_T48 l0 x11_1).f0))).setCell ⟨gb1360, 1, none⟩ (.slice A1359_1 ((rd_T48 l0 x11_1).f1).length c1359_1)).setCell ⟨gb1360, 2, none⟩ (.slice A1359_2 ((rd_T48 l0 x11_1).f2).length c1359_2)).heap[gb1360]? = some (.cells #[.string ((rd_T48 l0 x11_1).f0), .slice A1359_1 ((rd_T48 l0 x11_1).f1).length c1359_1, .slice A1359_2 ((rd_T48 l0 x11_1).f2).length c1359_2] 48 (0, 0))) := ⟨by (with_reducible repeat (first | refine blk_drewN ?_ _ | refine blk_drew ?_ | refine blk_alloc ?_ _)); refine blk_put (cs := #[.string ((rd_T48 l0 x11_1).f0), .slice A1359_1 ((rd_T48 l0 x11_1).f1).length c1359_1, .slice none 0 0]) ?_ 2 _ rfl; (with_reducible repeat (first | refine blk_drewN ?_ _ | refine blk_drew ?_ | refine blk_alloc ?_ _)); refine blk_put (cs := #[.string ((rd_T48 l0 x11_1).f0), .slice none 0 0, .slice none 0 0]) ?_ 1 _ rfl; (with_reducible repeat (first | refine blk_drewN ?_ _ | refine blk_drew ?_ | refine blk_alloc ?_ _)); refine blk_put (cs := #[.string ⟨#[]⟩, .slice none 0 0, .slice none 0 0]) ?_ 0 _ rfl; (with_reducible repeat (first | refine blk_drewN ?_ _ | refine blk_drew ?_ | refine blk_alloc ?_ _)); exact BK1360.out⟩; have n1_ : Aside0 (Below w.heap.size w (((w6.setCell ⟨gb1360, 0, none⟩ (.string ((rd_T48 l0 x11_1).f0))).setCell ⟨gb1360, 1, none⟩ (.slice A1359_1 ((rd_T48 l0 x11_1).f1).length c1359_1)).setCell ⟨gb1360, 2, none⟩ (.slice A1359_2 ((rd_T48 l0 x11_1).f2).length c1359_2))) := ⟨by repeat (first | (with_reducible first | exact HB.out | apply below_alloc | apply pw_below_drewN | apply below_drew1 | refine below_set ?_ GE1360.out) | exact HB.out)⟩; (try clear BK1360); (try clear HB); generalize (((w6.setCell ⟨gb1360, 0, none⟩ (.string ((rd_T48 l0 x11_1).f0))).setCell ⟨gb1360, 1, none⟩ (.slice A1359_1 ((rd_T48 l0 x11_1).f1).length c1359_1)).setCell ⟨gb1360, 2, none⟩ (.slice A1359_2 ((rd_T48 l0 x11_1).f2).length c1359_2)) = w29 at n0_ n1_ ⊢; have BK1360 := n0_; have HB := n1_; clear n0_ n1_; have n0_ := Aside0.mk (blk_drew BK1360.out); have n1_ := Aside0.mk (below_drew1 HB.out); clear BK1360; clear HB; have BK1360 := n0_; have HB := n1_; clear n0_ n1_; have p1362 : 0 ≤ (0 : Int) := (by omega); have q1362 : 0 < (((rd_T48 l0 x11_1).f2).length : Int) := R.od; obtain ⟨ad1362, e1362, hx1362_0⟩ := Kd.at_string HR1359_2.out 0 p1362 q1362; have hw1362_0 := hx1362_0; (try rw [show ((0 : Int)).toNat = 0 from rfl] at hw1362_0); (try rw [show 0 * 1 = 0 from rfl] at hw1362_0); (try rw [Addr.add_zero'] at hw1362_0); cases e1362; have qi1362 : (0 < ((rd_T48 l0 x11_1).f2).length) = True := eq_true (by omega); (try rw [show ((0 : Int)).toNat = 0 from rfl] at hx1362_0); (try rw [Addr.add_zero'] at hx1362_0); replace hx1362_0 := (HB.out.cell (World.block_lt_of_cell? w _ hx1362_0)).trans hx1362_0; replace p1362 := eq_true p1362; replace q1362 := eq_true q1362; have p1364 : 0 ≤ (1 : Int) := (by omega); have q1364 : 1 < (((rd_T48 l0 x11_1).f2).length : Int) := R.od; obtain ⟨ad1364, e1364, hx1364_0⟩ := Kd.at_string HR1359_2.out 1 p1364 q1364; have hw1364_0 := hx1364_0; (try rw [show ((1 : Int)).toNat = 1 from rfl] at hw1364_0); (try rw [show 1 * 1 = 1 from rfl] at hw1364_0); (try simp only [Nat.reduceMul, Nat.reduceEqDiff, Go.Addr.add, ↓reduceIte] at hw1364_0); obtain rfl : ad1362 = ad1364 := (by injection e1364); (try simp only [show (1 : Int).toNat = 1 from rfl, Nat.reduceMul, Nat.reduceEqDiff, Go.Addr.add, ↓reduceIte] at hx1364_0); have qi1364 : (1 < ((rd_T48 l0 x11_1).f2).length) = True := eq_true (by omega); (try rw [show ((1 : Int)).toNat = 1 from rfl] at hx1364_0); replace hx1364_0 := (HB.out.cell (World.block_lt_of_cell? w _ hx1364_0)).trans hx1364_0; replace p1364 := eq_true p1364; replace q1364 := eq_true q1364; have p1366 : 0 ≤ (0 : Int) := (by omega); have q1366 : 0 < (l0.length : Int) := R.od; obtain ⟨ad1366, A1366_1, c1366_1, A1366_2, c1366_2, e1366, hx1366_0, hx1366_1, hx1366_2, hl1366_1, hi1366_1, hl1366_2, hi1366_2⟩ := at_T48 HR0.out 0 p1366 q1366; have hw1366_2 := hx1366_2; (try rw [show ((0 : Int)).toNat = 0 from rfl] at hw1366_2); (try rw [show 0 * 3 = 0 from rfl] at hw1366_2); (try rw [Addr.add_zero'] at hw1366_2); have hw1366_1 := hx1366_1; (try rw [show ((0 : Int)).toNat = 0 from rfl] at hw1366_1); (try rw [show 0 * 3 = 0 from rfl] at hw1366_1); (try rw [Addr.add_zero'] at hw1366_1); have hw1366_0 := hx1366_0; (try rw [show ((0 : Int)).toNat = 0 from rfl] at hw1366_0); (try rw [show 0 * 3 = 0 from rfl] at hw1366_0); (try rw [Addr.add_zero'] at hw1366_0); obtain rfl : ad1359 = ad1366 := (by injection e1366); have qi1366 : (0 < l0.length) = True := eq_true (by omega); (try rw [show ((0 : Int)).toNat = 0 from rfl] at hx1366_0); (try rw [show 0 * 3 = 0 from rfl] at hx1366_0); (try rw [Addr.add_zero'] at hx1366_0); (try rw [show ((0 : Int)).toNat = 0 from rfl] at hx1366_1); (try rw [show 0 * 3 = 0 from rfl] at hx1366_1); (try rw [Addr.add_zero'] at hx1366_1); (try rw [show ((0 : Int)).toNat = 0 from rfl] at hx1366_2); (try rw [show 0 * 3 = 0 from rfl] at hx1366_2); (try rw [Addr.add_zero'] at hx1366_2); replace hx1366_0 := (HB.out.cell (World.block_lt_of_cell? w _ hx1366_0)).trans hx1366_0; replace hx1366_1 := (HB.out.cell (World.block_lt_of_cell? w _ hx1366_1)).trans hx1366_1; replace hx1366_2 := (HB.out.cell (World.block_lt_of_cell? w _ hx1366_2)).trans hx1366_2; have HR1366_1 := Aside0.mk hi1366_1; have HC1366_1 := Aside0.mk hl1366_1; clear hi1366_1 hl1366_1; have HR1366_2 := Aside0.mk hi1366_2; have HC1366_2 := Aside0.mk hl1366_2; clear hi1366_2 hl1366_2; replace p1366 := eq_true p1366; replace q1366 := eq_true q1366; refine start_ (n := 49) (S := fun w' => w'.cell? ⟨gb1360, 0, none⟩ = some (.string ((rd_T48 l0 x11_1).f0)) ∧ w'.cell? ⟨gb1360, 1, none⟩ = some (.slice A1359_1 ((rd_T48 l0 x11_1).f1).length c1359_1) ∧ w'.cell? ⟨gb1360, 2, none⟩ = some (.slice (some ad1362) ((rd_T48 l0 x11_1).f2).length c1359_2) ∧ w'.cell? ad1362 = some (.string (rdOf ByteArray.empty ((rd_T48 l0 x11_1).f2) 0)) ∧ w'.cell? ⟨ad1362.block, ad1362.off + 1, none⟩ = some (.string (rdOf ByteArray.empty ((rd_T48 l0 x11_1).f2) 1)) ∧ w'.cell? ad1359 = some (.string ((rd_T48 l0 0).f0)) ∧ w'.cell? ⟨ad1359.block, ad1359.off + 1, none⟩ = some (.slice A1366_1 ((rd_T48 l0 0).f1).length c1366_1) ∧ w'.cell? ⟨ad1359.block, ad1359.off + 2, none⟩ = some (.slice A1366_2 ((rd_T48 l0 0).f2).length c1366_2)) (ds := []) (R.tf 0 49) (by kernel_rfl) rfl rfl ⟨(blk_cell BK1360.out 0).trans rfl, (blk_cell BK1360.out 1).trans rfl, (blk_cell BK1360.out 2).trans rfl, ((HB.out.cell (World.block_lt_of_cell? w _ hw1362_0)).trans hw1362_0), ((HB.out.cell (World.block_lt_of_cell? w _ hw1364_0)).trans hw1364_0), ((HB.out.cell (World.block_lt_of_cell? w _ hw1366_0)).trans hw1366_0), ((HB.out.cell (World.block_lt_of_cell? w _ hw1366_1)).trans hw1366_1), ((HB.out.cell (World.block_lt_of_cell? w _ hw1366_2)).trans hw1366_2)⟩ (fun hHeld => ?_); refine with_tabW spec_BuddyinfoPrint.tab5 spec_BuddyinfoPrint.bits5 (fun HT_ HW_ => ?_); generalize w29.drew = w30 at BK1360 HB HR1366_1 HR1366_2 hx1362_0 hx1364_0 hx1366_0 hx1366_1 hx1366_2 hHeld ⊢; refine R.pv (i := 0) (N := some 15) (v := ?_) (a' := ?_) (R.tf 1 48) rfl rfl (R.ao HT_.out) ?_ ?_ ?_; rotate_left
                            · intro w'; go_simp; with_reducible rfl
                            rotate_left
                            · simp only [Act.put, R.sa, R.sb, R.sc, i64_w, i32_w]; rfl
                            refine take_ (i := 1) (N := some 16) (v := ?_) (a' := ?_) (R.tf 2 47) rfl rfl (take_ofW HT_.out HW_.out (by kernel_rfl)) (fun _ _ _ h => h) (Or.inl ⟨by rfl, ?_⟩) hHeld ?_ ?_; rotate_left
                            · rintro w' ⟨s0, s1, s2, s3, s4, s5, s6, s7⟩; go_simp; with_reducible rfl
                            rotate_left
                            · simp only [Act.put, R.sa, R.sb, R.sc, i64_w, i32_w]; rfl
                            refine R.pv (i := 2) (N := some 17) (v := ?_) (a' := ?_) (R.tf 3 46) rfl rfl (R.ao HT_.out) ?_ ?_ ?_; rotate_left
                            · intro w'; go_simp; with_reducible rfl
                            rotate_left
                            · simp only [Act.put, R.sa, R.sb, R.sc, i64_w, i32_w]; rfl
                            refine R.pv (i := 3) (N := some 18) (v := ?_) (a' := ?_) (R.tf 4 45) rfl rfl (R.ao HT_.out) ?_ ?_ ?_; rotate_left
                            · intro w'; go_simp; with_reducible rfl
                            rotate_left
                            · simp only [Act.put, R.sa, R.sb, R.sc, i64_w, i32_w]; rfl
                            refine R.pv (i := 4) (N := some 19) (v := ?_) (a' := ?_) (R.tf 5 44) rfl rfl (R.ao HT_.out) ?_ ?_ ?_; rotate_left
                            · intro w'; go_simp; with_reducible rfl
                            rotate_left
                            · simp only [Act.put, R.sa, R.sb, R.sc, i64_w, i32_w]; rfl
                            refine R.pv (i := 5) (N := some 20) (v := ?_) (a' := ?_) (R.tf 6 43) rfl rfl (R.ao HT_.out) ?_ ?_ ?_; rotate_left
                            · intro w'; go_simp; with_reducible rfl
                            rotate_left
                            · simp only [Act.put, R.sa, R.sb, R.sc, i64_w, i32_w]; rfl
                            refine take_ (i := 6) (N := some 21) (v := ?_) (a' := ?_) (R.tf 7 42) rfl rfl (take_ofW HT_.out HW_.out (by kernel_rfl)) (fun _ _ _ h => h) (Or.inl ⟨by rfl, ?_⟩) hHeld ?_ ?_; rotate_left
                            · rintro w' ⟨s0, s1, s2, s3, s4, s5, s6, s7⟩; go_simp; with_reducible rfl
                            rotate_left
                            · simp only [Act.put, R.sa, R.sb, R.sc, i64_w, i32_w]; rfl
                            refine one_ (i := 7) (N := some 22) (R.tf 8 41) rfl rfl (R.oo HT_.out) (by decide) (fun K hK => ?_); refine goes_ Tryz.func107 (by kernel_rfl) rfl #[.slice (some ad1362) ((rd_T48 l0 x11_1).f2).length c1359_2] (by rfl) rfl rfl R.tp ?_; with_reducible refine (spec_words.calls k1 _ _ ((rd_T48 l0 x11_1).f2) true _ ?side1 ?side2 A9.out).mono ?_
                            (case side1 => repeat (first | exact (Kd.C_below HR1359_2.out HB.out) | (with_reducible refine Kd.C_alloc ?_ _) | (with_reducible refine Kd.C_drewN ?_ _) | (with_reducible refine Kd.C_drew ?_)))
                            (case side2 => exact HC1359_2.out)
                            rintro e w' ⟨rfl, ⟨nd, rfl⟩⟩; refine ⟨_, rfl, ?_⟩; refine hK.out _ _ ⟨(blk_cell BK1360.out 0).trans rfl, (blk_cell BK1360.out 1).trans rfl, (blk_cell BK1360.out 2).trans rfl, ((HB.out.cell (World.block_lt_of_cell? w _ hw1362_0)).trans hw1362_0), ((HB.out.cell (World.block_lt_of_cell? w _ hw1364_0)).trans hw1364_0), ((HB.out.cell (World.block_lt_of_cell? w _ hw1366_0)).trans hw1366_0), ((HB.out.cell (World.block_lt_of_cell? w _ hw1366_1)).trans hw1366_1), ((HB.out.cell (World.block_lt_of_cell? w _ hw1366_2)).trans hw1366_2)⟩ (fun hHeld => ?_); clear hK K; refine norm_ (a' := ?_) ?_ ?_; rotate_left
                            · show Act.put _ (some 22) _ = _
                              simp only [Act.put, R.sa, R.sb, R.sc, i64_w, i32_w]; rfl
                            refine R.pv (i := 8) (N := some 23) (v := ?_) (a' := ?_) (R.tf 9 40) rfl rfl (R.ao HT_.out) ?_ ?_ ?_; rotate_left
                            · intro w'; go_simp; with_reducible rfl
                            rotate_left
                            · simp only [Act.put, R.sa, R.sb, R.sc, i64_w, i32_w]; rfl
                            refine R.pv (i := 9) (N := some 24) (v := ?_) (a' := ?_) (R.tf 10 39) rfl rfl (R.ao HT_.out) ?_ ?_ ?_; rotate_left
                            · intro w'; go_simp; with_reducible rfl
                            rotate_left
                            · simp only [Act.put, R.sa, R.sb, R.sc, i64_w, i32_w]; rfl
                            refine R.pv (i := 10) (N := some 25) (v := ?_) (a' := ?_) (R.tf 11 38) rfl rfl (R.ao HT_.out) ?_ ?_ ?_; rotate_left
                            · intro w'; go_simp; with_reducible rfl
                            rotate_left
                            · simp only [Act.put, R.sa, R.sb, R.sc, i64_w, i32_w]; rfl
                            refine R.pv (i := 11) (N := some 26) (v := ?_) (a' := ?_) (R.tf 12 37) rfl rfl (R.ao HT_.out) ?_ ?_ ?_; rotate_left
                            · intro w'; go_simp; with_reducible rfl
                            rotate_left
                            · simp only [Act.put, R.sa, R.sb, R.sc, i64_w, i32_w]; rfl
                            refine take_ (i := 12) (N := some 27) (v := ?_) (a' := ?_) (R.tf 13 36) rfl rfl (take_ofW HT_.out HW_.out (by kernel_rfl)) (fun _ _ _ h => h) (Or.inl ⟨by rfl, ?_⟩) hHeld ?_ ?_; rotate_left
                            · rintro w' ⟨s0, s1, s2, s3, s4, s5, s6, s7⟩; go_simp; with_reducible rfl
                            rotate_left
                            · simp only [Act.put, R.sa, R.sb, R.sc, i64_w, i32_w]; rfl
                            refine R.pv (i := 13) (N := some 28) (v := ?_) (a' := ?_) (R.tf 14 35) rfl rfl (R.ao HT_.out) ?_ ?_ ?_; rotate_left
                            · intro w'; go_simp; with_reducible rfl
                            rotate_left
                            · simp only [Act.put, R.sa, R.sb, R.sc, i64_w, i32_w]; rfl
                            refine take_ (i := 14) (N := some 29) (v := ?_) (a' := ?_) (R.tf 15 34) rfl rfl (take_ofW HT_.out HW_.out (by kernel_rfl)) (fun _ _ _ h => h) (Or.inl ⟨by rfl, ?_⟩) hHeld ?_ ?_; rotate_left
                            · rintro w' ⟨s0, s1, s2, s3, s4, s5, s6, s7⟩; go_simp; with_reducible rfl
                            rotate_left
                            · simp only [Act.put, R.sa, R.sb, R.sc, i64_w, i32_w]; rfl
                            refine one_ (i := 15) (N := some 30) (R.tf 16 33) rfl rfl (R.oo HT_.out) (by decide) (fun K hK => ?_); refine goes_ Tryz.func96 (by kernel_rfl) rfl #[.string (rdOf ByteArray.empty ((rd_T48 l0 x11_1).f2) 0), .int .u8 44] (by rfl) rfl rfl R.tp ?_; with_reducible refine (spec_Where.calls k1 (rdOf ByteArray.empty ((rd_T48 l0 x11_1).f2) 0) 44 t1363 _ A12.out).mono ?_
                            rintro e w' ⟨rfl, ⟨nd, rfl⟩⟩; refine ⟨_, rfl, ?_⟩; refine hK.out _ _ ⟨(blk_cell BK1360.out 0).trans rfl, (blk_cell BK1360.out 1).trans rfl, (blk_cell BK1360.out 2).trans rfl, ((HB.out.cell (World.block_lt_of_cell? w _ hw1362_0)).trans hw1362_0), ((HB.out.cell (World.block_lt_of_cell? w _ hw1364_0)).trans hw1364_0), ((HB.out.cell (World.block_lt_of_cell? w _ hw1366_0)).trans hw1366_0), ((HB.out.cell (World.block_lt_of_cell? w _ hw1366_1)).trans hw1366_1), ((HB.out.cell (World.block_lt_of_cell? w _ hw1366_2)).trans hw1366_2)⟩ (fun hHeld => ?_); clear hK K; refine norm_ (a' := ?_) ?_ ?_; rotate_left
                            · show Act.put _ (some 30) _ = _
                              simp only [Act.put, R.sa, R.sb, R.sc, i64_w, i32_w]; rfl
                            refine R.pv (i := 16) (N := some 31) (v := ?_) (a' := ?_) (R.tf 17 32) rfl rfl (R.ao HT_.out) ?_ ?_ ?_; rotate_left
                            · intro w'; go_simp; with_reducible rfl
                            rotate_left
                            · simp only [Act.put, R.sa, R.sb, R.sc, i64_w, i32_w]; rfl
                            refine R.pv (i := 17) (N := some 32) (v := ?_) (a' := ?_) (R.tf 18 31) rfl rfl (R.ao HT_.out) ?_ ?_ ?_; rotate_left
                            · intro w'; go_simp; with_reducible rfl
                            rotate_left
                            · simp only [Act.put, R.sa, R.sb, R.sc, i64_w, i32_w]; rfl
                            refine R.pv (i := 18) (N := some 33) (v := ?_) (a' := ?_) (R.tf 19 30) rfl rfl (R.ao HT_.out) ?_ ?_ ?_; rotate_left
                            · intro w'; go_simp; with_reducible rfl
                            rotate_left
                            · simp only [Act.put, R.sa, R.sb, R.sc, i64_w, i32_w]; rfl
                            refine R.pv (i := 19) (N := some 34) (v := ?_) (a' := ?_) (R.tf 20 29) rfl rfl (R.ao HT_.out) ?_ ?_ ?_; rotate_left
                            · intro w'; go_simp; with_reducible rfl
                            rotate_left
                            · simp only [Act.put, R.sa, R.sb, R.sc, i64_w, i32_w]; rfl
                            refine take_ (i := 20) (N := some 35) (v := ?_) (a' := ?_) (R.tf 21 28) rfl rfl (take_ofW HT_.out HW_.out (by kernel_rfl)) (fun _ _ _ h => h) (Or.inl ⟨by rfl, ?_⟩) hHeld ?_ ?_; rotate_left
                            · rintro w' ⟨s0, s1, s2, s3, s4, s5, s6, s7⟩; go_simp; with_reducible rfl
                            rotate_left
                            · simp only [Act.put, R.sa, R.sb, R.sc, i64_w, i32_w]; rfl
                            refine R.pv (i := 21) (N := some 36) (v := ?_) (a' := ?_) (R.tf 22 27) rfl rfl (R.ao HT_.out) ?_ ?_ ?_; rotate_left
                            · intro w'; go_simp; with_reducible rfl
                            rotate_left
                            · simp only [Act.put, R.sa, R.sb, R.sc, i64_w, i32_w]; rfl
                            refine take_ (i := 22) (N := some 37) (v := ?_) (a' := ?_) (R.tf 23 26) rfl rfl (take_ofW HT_.out HW_.out (by kernel_rfl)) (fun _ _ _ h => h) (Or.inl ⟨by rfl, ?_⟩) hHeld ?_ ?_; rotate_left
                            · rintro w' ⟨s0, s1, s2, s3, s4, s5, s6, s7⟩; go_simp; with_reducible rfl
                            rotate_left
                            · simp only [Act.put, R.sa, R.sb, R.sc, i64_w, i32_w]; rfl
                            refine one_ (i := 23) (N := some 38) (R.tf 24 25) rfl rfl (R.oo HT_.out) (by decide) (fun K hK => ?_); refine goes_ Tryz.func96 (by kernel_rfl) rfl #[.string (rdOf ByteArray.empty ((rd_T48 l0 x11_1).f2) 1), .int .u8 44] (by rfl) rfl rfl R.tp ?_; with_reducible refine (spec_Where.calls k1 (rdOf ByteArray.empty ((rd_T48 l0 x11_1).f2) 1) 44 t1365 _ A17.out).mono ?_
                            rintro e w' ⟨rfl, ⟨nd, rfl⟩⟩; refine ⟨_, rfl, ?_⟩; refine hK.out _ _ ⟨(blk_cell BK1360.out 0).trans rfl, (blk_cell BK1360.out 1).trans rfl, (blk_cell BK1360.out 2).trans rfl, ((HB.out.cell (World.block_lt_of_cell? w _ hw1362_0)).trans hw1362_0), ((HB.out.cell (World.block_lt_of_cell? w _ hw1364_0)).trans hw1364_0), ((HB.out.cell (World.block_lt_of_cell? w _ hw1366_0)).trans hw1366_0), ((HB.out.cell (World.block_lt_of_cell? w _ hw1366_1)).trans hw1366_1), ((HB.out.cell (World.block_lt_of_cell? w _ hw1366_2)).trans hw1366_2)⟩ (fun hHeld => ?_); clear hK K; refine norm_ (a' := ?_) ?_ ?_; rotate_left
                            · show Act.put _ (some 38) _ = _
                              simp only [Act.put, R.sa, R.sb, R.sc, i64_w, i32_w]; rfl
                            refine R.pv (i := 24) (N := some 39) (v := ?_) (a' := ?_) (R.tf 25 24) rfl rfl (R.ao HT_.out) ?_ ?_ ?_; rotate_left
                            · intro w'; go_simp; with_reducible rfl
                            rotate_left
                            · simp only [Act.put, R.sa, R.sb, R.sc, i64_w, i32_w]; rfl
                            refine R.pv (i := 25) (N := some 40) (v := ?_) (a' := ?_) (R.tf 26 23) rfl rfl (R.ao HT_.out) ?_ ?_ ?_; rotate_left
                            · intro w'; go_simp; with_reducible rfl
                            rotate_left
                            · simp only [Act.put, R.sa, R.sb, R.sc, i64_w, i32_w]; rfl
                            refine R.pv (i := 26) (N := some 41) (v := ?_) (a' := ?_) (R.tf 27 22) rfl rfl (R.ao HT_.out) ?_ ?_ ?_; rotate_left
                            · intro w'; go_simp; with_reducible rfl
                            rotate_left
                            · simp only [Act.put, R.sa, R.sb, R.sc, i64_w, i32_w]; rfl
                            refine R.pv (i := 27) (N := some 42) (v := ?_) (a' := ?_) (R.tf 28 21) rfl rfl (R.ao HT_.out) ?_ ?_ ?_; rotate_left
                            · intro w'; go_simp; with_reducible rfl
                            rotate_left
                            · simp only [Act.put, R.sa, R.sb, R.sc, i64_w, i32_w]; rfl
                            refine take_ (i := 28) (N := some 43) (v := ?_) (a' := ?_) (R.tf 29 20) rfl rfl (take_ofW HT_.out HW_.out (by kernel_rfl)) (fun _ _ _ h => h) (Or.inl ⟨by rfl, ?_⟩) hHeld ?_ ?_; rotate_left
                            · rintro w' ⟨s0, s1, s2, s3, s4, s5, s6, s7⟩; go_simp; with_reducible rfl
                            rotate_left
                            · simp only [Act.put, R.sa, R.sb, R.sc, i64_w, i32_w]; rfl
                            refine R.pv (i := 29) (N := some 44) (v := ?_) (a' := ?_) (R.tf 30 19) rfl rfl (R.ao HT_.out) ?_ ?_ ?_; rotate_left
                            · intro w'; go_simp; with_reducible rfl
                            rotate_left
                            · simp only [Act.put, R.sa, R.sb, R.sc, i64_w, i32_w]; rfl
                            refine R.pv (i := 30) (N := some 45) (v := ?_) (a' := ?_) (R.tf 31 18) rfl rfl (R.ao HT_.out) ?_ ?_ ?_; rotate_left
                            · intro w'; go_simp; with_reducible rfl
                            rotate_left
                            · simp only [Act.put, R.sa, R.sb, R.sc, i64_w, i32_w]; rfl
                            refine R.pv (i := 31) (N := some 46) (v := ?_) (a' := ?_) (R.tf 32 17) rfl rfl (R.ao HT_.out) ?_ ?_ ?_; rotate_left
                            · intro w'; go_simp; with_reducible rfl
                            rotate_left
                            · simp only [Act.put, R.sa, R.sb, R.sc, i64_w, i32_w]; rfl
                            refine R.pv (i := 32) (N := some 47) (v := ?_) (a' := ?_) (R.tf 33 16) rfl rfl (R.ao HT_.out) ?_ ?_ ?_; rotate_left
                            · intro w'; go_simp; with_reducible rfl
                            rotate_left
                            · simp only [Act.put, R.sa, R.sb, R.sc, i64_w, i32_w]; rfl
                            refine R.pv (i := 33) (N := some 48) (v := ?_) (a' := ?_) (R.tf 34 15) rfl rfl (R.ao HT_.out) ?_ ?_ ?_; rotate_left
                            · intro w'; go_simp; with_reducible rfl
                            rotate_left
                            · simp only [Act.put, R.sa, R.sb, R.sc, i64_w, i32_w]; rfl
                            refine R.pv (i := 36) (N := some 51) (v := ?_) (a' := ?_) #[true, true, true, true, true, true, true, true, true, true, true, true, true, true, true, true, true, true, true, true, true, true, true, true, true, true, true, true, true, true, true, true, true, true, false, false, true, false, false, false, false, false, false, false, false, false, false, false, false] rfl rfl (R.ao HT_.out) ?_ ?_ ?_; rotate_left
                            · intro w'; go_simp; with_reducible rfl
                            rotate_left
                            · simp only [Act.put, R.sa, R.sb, R.sc, i64_w, i32_w]; rfl
                            refine R.pv (i := 37) (N := some 52) (v := ?_) (a' := ?_) #[true, true, true, true, true, true, true, true, true, true, true, true, true, true, true, true, true, true, true, true, true, true, true, true, true, true, true, true, true, true, true, true, true, true, false, false, true, true, false, false, false, false, false, false, false, false, false, false, false] rfl rfl (R.ao HT_.out) ?_ ?_ ?_; rotate_left
                            · intro w'; go_simp; with_reducible rfl
                            rotate_left
                            · simp only [Act.put, R.sa, R.sb, R.sc, i64_w, i32_w]; rfl
                            refine R.pv (i := 38) (N := some 53) (v := ?_) (a' := ?_) #[true, true, true, true, true, true, true, true, true, true, true, true, true, true, true, true, true, true, true, true, true, true, true, true, true, true, true, true, true, true, true, true, true, true, false, false, true, true, true, false, false, false, false, false, false, false, false, false, false] rfl rfl (R.ao HT_.out) ?_ ?_ ?_; rotate_left
                            · intro w'; go_simp; with_reducible rfl
                            rotate_left
                            · simp only [Act.put, R.sa, R.sb, R.sc, i64_w, i32_w]; rfl
                            refine take_ (i := 34) (N := some 49) (v := ?_) (a' := ?_) #[true, true, true, true, true, true, true, true, true, true, true, true, true, true, true, true, true, true, true, true, true, true, true, true, true, true, true, true, true, true, true, true, true, true, true, false, true, true, true, false, false, false, false, false, false, false, false, false, false] rfl rfl (take_ofW HT_.out HW_.out (by kernel_rfl)) (fun _ _ _ h => h) (Or.inl ⟨by rfl, ?_⟩) hHeld ?_ ?_; rotate_left
                            · rintro w' ⟨s0, s1, s2, s3, s4, s5, s6, s7⟩; go_simp; with_reducible rfl
                            rotate_left
                            · simp only [Act.put, R.sa, R.sb, R.sc, i64_w, i32_w]; rfl
                            refine R.pv (i := 35) (N := some 50) (v := ?_) (a' := ?_) (R.tf 39 10) rfl rfl (R.ao HT_.out) ?_ ?_ ?_; rotate_left
                            · intro w'; go_simp; with_reducible rfl
                            rotate_left
                            · simp only [Act.put, R.sa, R.sb, R.sc, i64_w, i32_w]; rfl
                            refine take_ (i := 39) (N := some 54) (v := ?_) (a' := ?_) (R.tf 40 9) rfl rfl (take_ofW HT_.out HW_.out (by kernel_rfl)) (fun _ _ _ h => h) (Or.inl ⟨by rfl, ?_⟩) hHeld ?_ ?_; rotate_left
                            · rintro w' ⟨s0, s1, s2, s3, s4, s5, s6, s7⟩; go_simp; with_reducible rfl
                            rotate_left
                            · simp only [Act.put, R.sa, R.sb, R.sc, i64_w, i32_w]; rfl
                            refine R.pv (i := 40) (N := some 55) (v := ?_) (a' := ?_) (R.tf 41 8) rfl rfl (R.ao HT_.out) ?_ ?_ ?_; rotate_left
                            · intro w'; go_simp; with_reducible rfl
                            rotate_left
                            · simp only [Act.put, R.sa, R.sb, R.sc, i64_w, i32_w]; rfl
                            refine R.pv (i := 41) (N := some 56) (v := ?_) (a' := ?_) (R.tf 42 7) rfl rfl (R.ao HT_.out) ?_ ?_ ?_; rotate_left
                            · intro w'; go_simp; with_reducible rfl
                            rotate_left
                            · simp only [Act.put, R.sa, R.sb, R.sc, i64_w, i32_w]; rfl
                            refine R.pv (i := 42) (N := some 57) (v := ?_) (a' := ?_) (R.tf 43 6) rfl rfl (R.ao HT_.out) ?_ ?_ ?_; rotate_left
                            · intro w'; go_simp; with_reducible rfl
                            rotate_left
                            · simp only [Act.put, R.sa, R.sb, R.sc, i64_w, i32_w]; rfl
                            refine R.pv (i := 43) (N := some 58) (v := ?_) (a' := ?_) (R.tf 44 5) rfl rfl (R.ao HT_.out) ?_ ?_ ?_; rotate_left
                            · intro w'; go_simp; with_reducible rfl
                            rotate_left
                            · simp only [Act.put, R.sa, R.sb, R.sc, i64_w, i32_w]; rfl
                            refine R.pu (i := 44) (N := some 59) (a' := ?_) (R.tf 45 4) rfl rfl (R.ao HT_.out) ?_ ?_; rotate_left
                            · simp only [Act.put, R.sa, R.sb, R.sc, i64_w, i32_w]; rfl
                            refine R.pu (i := 45) (N := some 60) (a' := ?_) (R.tf 46 3) rfl rfl (R.ao HT_.out) ?_ ?_; rotate_left
                            · simp only [Act.put, R.sa, R.sb, R.sc, i64_w, i32_w]; rfl
                            refine R.pu (i := 46) (N := some 61) (a' := ?_) (R.tf 47 2) rfl rfl (R.ao HT_.out) ?_ ?_; rotate_left
                            · simp only [Act.put, R.sa, R.sb, R.sc, i64_w, i32_w]; rfl
                            refine R.pu (i := 47) (N := some 62) (a' := ?_) (R.tf 48 1) rfl rfl (R.ao HT_.out) ?_ ?_; rotate_left
                            · simp only [Act.put, R.sa, R.sb, R.sc, i64_w, i32_w]; rfl
                            refine R.pv (i := 48) (N := some 63) (v := ?_) (a' := ?_) (R.tf 49 0) rfl rfl (R.ao HT_.out) ?_ ?_ ?_; rotate_left
                            · intro w'; go_simp; with_reducible rfl
                            rotate_left
                            · simp only [Act.put, R.sa, R.sb, R.sc, i64_w, i32_w]; rfl
                            refine done_ (R.dn HT_.out) ?_; try go_wp2
                            go_meet
                            case rel => exact ⟨_, (true), R.rs, H', ⟨by have := HK1.out; first | omega | exact Nat.le_refl _⟩, ⟨by (with_reducible repeat (first | refine blk_drewN ?_ _ | refine blk_drew ?_ | refine blk_alloc ?_ _)); exact BK1360.out⟩, ⟨by repeat (first | (with_reducible first | exact HB.out | apply below_alloc | apply pw_below_drewN | apply below_drew1 | refine below_set ?_ GE1360.out) | exact HB.out)⟩⟩
                        · rw [if_neg c24] at H; exact absurd H (by simp)
                  · rw [if_neg c16] at H; exact absurd H (by simp)
              · rw [if_neg c11] at H; exact absurd H (by simp)
            · replace c10 := Bool.eq_false_iff.mpr c10; subst c10
              have H1 : (spec_BuddyinfoPrint.j1 k1 l0 x4_1 l0 (l0.length : Int) x11_1 true ((rd_T48 l0 x11_1).f0) ((rd_T48 l0 x11_1).f1) ((rd_T48 l0 x11_1).f2)) = some (r1, r2) := by rw [if_neg (show ¬ (false = true) by decide)] at H; exact H
              clear H; have H := H1; clear H1; have H' := Aside0.mk H; clear H; try go_wp2
              have n0_ : Aside0 ((((w6.setCell ⟨gb1360, 0, none⟩ (.string ((rd_T48 l0 x11_1).f0))).setCell ⟨gb1360, 1, none⟩ (.slice A1359_1 ((rd_T48 l0 x11_1).f1).length c1359_1)).setCell ⟨gb1360, 2, none⟩ (.slice A1359_2 ((rd_T48 l0 x11_1).f2).length c1359_2)).heap[gb1360]? = some (.cells #[.string ((rd_T48 l0 x11_1).f0), .slice A1359_1 ((rd_T48 l0 x11_1).f1).length c1359_1, .slice A1359_2 ((rd_T48 l0 x11_1).f2).length c1359_2] 48 (0, 0))) := ⟨by (with_reducible repeat (first | refine blk_drewN ?_ _ | refine blk_drew ?_ | refine blk_alloc ?_ _)); refine blk_put (cs := #[.string ((rd_T48 l0 x11_1).f0), .slice A1359_1 ((rd_T48 l0 x11_1).f1).length c1359_1, .slice none 0 0]) ?_ 2 _ rfl; (with_reducible repeat (first | refine blk_drewN ?_ _ | refine blk_drew ?_ | refine blk_alloc ?_ _)); refine blk_put (cs := #[.string ((rd_T48 l0 x11_1).f0), .slice none 0 0, .slice none 0 0]) ?_ 1 _ rfl; (with_reducible repeat (first | refine blk_drewN ?_ _ | refine blk_drew ?_ | refine blk_alloc ?_ _)); refine blk_put (cs := #[.string ⟨#[]⟩, .slice none 0 0, .slice none 0 0]) ?_ 0 _ rfl; (with_reducible repeat (first | refine blk_drewN ?_ _ | refine blk_drew ?_ | refine blk_alloc ?_ _)); exact BK1360.out⟩; have n1_ : Aside0 (Below w.heap.size w (((w6.setCell ⟨gb1360, 0, none⟩ (.string ((rd_T48 l0 x11_1).f0))).setCell ⟨gb1360, 1, none⟩ (.slice A1359_1 ((rd_T48 l0 x11_1).f1).length c1359_1)).setCell ⟨gb1360, 2, none⟩ (.slice A1359_2 ((rd_T48 l0 x11_1).f2).length c1359_2))) := ⟨by repeat (first | (with_reducible first | exact HB.out | apply below_alloc | apply pw_below_drewN | apply below_drew1 | refine below_set ?_ GE1360.out) | exact HB.out)⟩; (try clear BK1360); (try clear HB); generalize (((w6.setCell ⟨gb1360, 0, none⟩ (.string ((rd_T48 l0 x11_1).f0))).setCell ⟨gb1360, 1, none⟩ (.slice A1359_1 ((rd_T48 l0 x11_1).f1).length c1359_1)).setCell ⟨gb1360, 2, none⟩ (.slice A1359_2 ((rd_T48 l0 x11_1).f2).length c1359_2)) = w31 at n0_ n1_ ⊢; have BK1360 := n0_; have HB := n1_; clear n0_ n1_; have n0_ := Aside0.mk (blk_drew BK1360.out); have n1_ := Aside0.mk (below_drew1 HB.out); clear BK1360; clear HB; have BK1360 := n0_; have HB := n1_; clear n0_ n1_; refine start_ (n := 49) (S := fun w' => w'.cell? ⟨gb1360, 0, none⟩ = some (.string ((rd_T48 l0 x11_1).f0)) ∧ w'.cell? ⟨gb1360, 1, none⟩ = some (.slice A1359_1 ((rd_T48 l0 x11_1).f1).length c1359_1) ∧ w'.cell? ⟨gb1360, 2, none⟩ = some (.slice A1359_2 ((rd_T48 l0 x11_1).f2).length c1359_2)) (ds := []) (R.tf 0 49) (by kernel_rfl) rfl rfl ⟨(blk_cell BK1360.out 0).trans rfl, (blk_cell BK1360.out 1).trans rfl, (blk_cell BK1360.out 2).trans rfl⟩ (fun hHeld => ?_); refine with_tabW spec_BuddyinfoPrint.tab5 spec_BuddyinfoPrint.bits5 (fun HT_ HW_ => ?_); generalize w31.drew = w32 at BK1360 HB hHeld ⊢; refine R.pv (i := 0) (N := some 15) (v := ?_) (a' := ?_) (R.tf 1 48) rfl rfl (R.ao HT_.out) ?_ ?_ ?_; rotate_left
              · intro w'; go_simp; with_reducible rfl
              rotate_left
              · simp only [Act.put, R.sa, R.sb, R.sc, i64_w, i32_w]; rfl
              refine take_ (i := 1) (N := some 16) (v := ?_) (a' := ?_) (R.tf 2 47) rfl rfl (take_ofW HT_.out HW_.out (by kernel_rfl)) (fun _ _ _ h => h) (Or.inl ⟨by rfl, ?_⟩) hHeld ?_ ?_; rotate_left
              · rintro w' ⟨s0, s1, s2⟩; go_simp; with_reducible rfl
              rotate_left
              · simp only [Act.put, R.sa, R.sb, R.sc, i64_w, i32_w]; rfl
              refine R.pv (i := 2) (N := some 17) (v := ?_) (a' := ?_) (R.tf 3 46) rfl rfl (R.ao HT_.out) ?_ ?_ ?_; rotate_left
              · intro w'; go_simp; with_reducible rfl
              rotate_left
              · simp only [Act.put, R.sa, R.sb, R.sc, i64_w, i32_w]; rfl
              refine R.pv (i := 3) (N := some 18) (v := ?_) (a' := ?_) (R.tf 4 45) rfl rfl (R.ao HT_.out) ?_ ?_ ?_; rotate_left
              · intro w'; go_simp; with_reducible rfl
              rotate_left
              · simp only [Act.put, R.sa, R.sb, R.sc, i64_w, i32_w]; rfl
              refine R.pv (i := 4) (N := some 19) (v := ?_) (a' := ?_) (R.tf 5 44) rfl rfl (R.ao HT_.out) ?_ ?_ ?_; rotate_left
              · intro w'; go_simp; with_reducible rfl
              rotate_left
              · simp only [Act.put, R.sa, R.sb, R.sc, i64_w, i32_w]; rfl
              refine R.pv (i := 5) (N := some 20) (v := ?_) (a' := ?_) (R.tf 6 43) rfl rfl (R.ao HT_.out) ?_ ?_ ?_; rotate_left
              · intro w'; go_simp; with_reducible rfl
              rotate_left
              · simp only [Act.put, R.sa, R.sb, R.sc, i64_w, i32_w]; rfl
              refine take_ (i := 6) (N := some 21) (v := ?_) (a' := ?_) (R.tf 7 42) rfl rfl (take_ofW HT_.out HW_.out (by kernel_rfl)) (fun _ _ _ h => h) (Or.inl ⟨by rfl, ?_⟩) hHeld ?_ ?_; rotate_left
              · rintro w' ⟨s0, s1, s2⟩; go_simp; with_reducible rfl
              rotate_left
              · simp only [Act.put, R.sa, R.sb, R.sc, i64_w, i32_w]; rfl
              refine one_ (i := 7) (N := some 22) (R.tf 8 41) rfl rfl (R.oo HT_.out) (by decide) (fun K hK => ?_); refine goes_ Tryz.func107 (by kernel_rfl) rfl #[.slice A1359_2 ((rd_T48 l0 x11_1).f2).length c1359_2] (by rfl) rfl rfl R.tp ?_; with_reducible refine (spec_words.calls k1 _ _ ((rd_T48 l0 x11_1).f2) false _ ?side1 ?side2 A9.out).mono ?_
              (case side1 => repeat (first | exact (Kd.C_below HR1359_2.out HB.out) | (with_reducible refine Kd.C_alloc ?_ _) | (with_reducible refine Kd.C_drewN ?_ _) | (with_reducible refine Kd.C_drew ?_)))
              (case side2 => exact HC1359_2.out)
              rintro e w' ⟨rfl, ⟨nd, rfl⟩⟩; refine ⟨_, rfl, ?_⟩; refine hK.out _ _ ⟨(blk_cell BK1360.out 0).trans rfl, (blk_cell BK1360.out 1).trans rfl, (blk_cell BK1360.out 2).trans rfl⟩ (fun hHeld => ?_); clear hK K; refine norm_ (a' := ?_) ?_ ?_; rotate_left
              · show Act.put _ (some 22) _ = _
                simp only [Act.put, R.sa, R.sb, R.sc, i64_w, i32_w]; rfl
              refine R.pv (i := 8) (N := some 23) (v := ?_) (a' := ?_) (R.tf 9 40) rfl rfl (R.ao HT_.out) ?_ ?_ ?_; rotate_left
              · intro w'; go_simp; with_reducible rfl
              rotate_left
              · simp only [Act.put, R.sa, R.sb, R.sc, i64_w, i32_w]; rfl
              refine R.pv (i := 9) (N := some 24) (v := ?_) (a' := ?_) (R.tf 10 39) rfl rfl (R.ao HT_.out) ?_ ?_ ?_; rotate_left
              · intro w'; go_simp; with_reducible rfl
              rotate_left
              · simp only [Act.put, R.sa, R.sb, R.sc, i64_w, i32_w]; rfl
              refine R.pv (i := 10) (N := some 25) (v := ?_) (a' := ?_) (R.tf 11 38) rfl rfl (R.ao HT_.out) ?_ ?_ ?_; rotate_left
              · intro w'; go_simp; with_reducible rfl
              rotate_left
              · simp only [Act.put, R.sa, R.sb, R.sc, i64_w, i32_w]; rfl
              refine R.pu (i := 11) (N := some 26) (a' := ?_) (R.tf 12 37) rfl rfl (R.ao HT_.out) ?_ ?_; rotate_left
              · simp only [Act.put, R.sa, R.sb, R.sc, i64_w, i32_w]; rfl
              refine R.pu (i := 12) (N := some 27) (a' := ?_) (R.tf 13 36) rfl rfl (R.ao HT_.out) ?_ ?_; rotate_left
              · simp only [Act.put, R.sa, R.sb, R.sc, i64_w, i32_w]; rfl
              refine R.pu (i := 13) (N := some 28) (a' := ?_) (R.tf 14 35) rfl rfl (R.ao HT_.out) ?_ ?_; rotate_left
              · simp only [Act.put, R.sa, R.sb, R.sc, i64_w, i32_w]; rfl
              refine R.pu (i := 14) (N := some 29) (a' := ?_) (R.tf 15 34) rfl rfl (R.ao HT_.out) ?_ ?_; rotate_left
              · simp only [Act.put, R.sa, R.sb, R.sc, i64_w, i32_w]; rfl
              refine R.pu (i := 15) (N := some 30) (a' := ?_) (R.tf 16 33) rfl rfl (R.ao HT_.out) ?_ ?_; rotate_left
              · simp only [Act.put, R.sa, R.sb, R.sc, i64_w, i32_w]; rfl
              refine R.pu (i := 16) (N := some 31) (a' := ?_) (R.tf 17 32) rfl rfl (R.ao HT_.out) ?_ ?_; rotate_left
              · simp only [Act.put, R.sa, R.sb, R.sc, i64_w, i32_w]; rfl
              refine R.pv (i := 17) (N := some 32) (v := ?_) (a' := ?_) (R.tf 18 31) rfl rfl (R.ao HT_.out) ?_ ?_ ?_; rotate_left
              · intro w'; go_simp; with_reducible rfl
              rotate_left
              · simp only [Act.put, R.sa, R.sb, R.sc, i64_w, i32_w]; rfl
              refine R.pv (i := 18) (N := some 33) (v := ?_) (a' := ?_) (R.tf 19 30) rfl rfl (R.ao HT_.out) ?_ ?_ ?_; rotate_left
              · intro w'; go_simp; with_reducible rfl
              rotate_left
              · simp only [Act.put, R.sa, R.sb, R.sc, i64_w, i32_w]; rfl
              refine R.pu (i := 19) (N := some 34) (a' := ?_) (R.tf 20 29) rfl rfl (R.ao HT_.out) ?_ ?_; rotate_left
              · simp only [Act.put, R.sa, R.sb, R.sc, i64_w, i32_w]; rfl
              refine R.pu (i := 20) (N := some 35) (a' := ?_) (R.tf 21 28) rfl rfl (R.ao HT_.out) ?_ ?_; rotate_left
              · simp only [Act.put, R.sa, R.sb, R.sc, i64_w, i32_w]; rfl
              refine R.pu (i := 21) (N := some 36) (a' := ?_) (R.tf 22 27) rfl rfl (R.ao HT_.out) ?_ ?_; rotate_left
              · simp only [Act.put, R.sa, R.sb, R.sc, i64_w, i32_w]; rfl
              refine R.pu (i := 22) (N := some 37) (a' := ?_) (R.tf 23 26) rfl rfl (R.ao HT_.out) ?_ ?_; rotate_left
              · simp only [Act.put, R.sa, R.sb, R.sc, i64_w, i32_w]; rfl
              refine R.pu (i := 23) (N := some 38) (a' := ?_) (R.tf 24 25) rfl rfl (R.ao HT_.out) ?_ ?_; rotate_left
              · simp only [Act.put, R.sa, R.sb, R.sc, i64_w, i32_w]; rfl
              refine R.pu (i := 24) (N := some 39) (a' := ?_) (R.tf 25 24) rfl rfl (R.ao HT_.out) ?_ ?_; rotate_left
              · simp only [Act.put, R.sa, R.sb, R.sc, i64_w, i32_w]; rfl
              refine R.pv (i := 25) (N := some 40) (v := ?_) (a' := ?_) (R.tf 26 23) rfl rfl (R.ao HT_.out) ?_ ?_ ?_; rotate_left
              · intro w'; go_simp; with_reducible rfl
              rotate_left
              · simp only [Act.put, R.sa, R.sb, R.sc, i64_w, i32_w]; rfl
              refine R.pv (i := 26) (N := some 41) (v := ?_) (a' := ?_) (R.tf 27 22) rfl rfl (R.ao HT_.out) ?_ ?_ ?_; rotate_left
              · intro w'; go_simp; with_reducible rfl
              rotate_left
              · simp only [Act.put, R.sa, R.sb, R.sc, i64_w, i32_w]; rfl
              refine R.pu (i := 27) (N := some 42) (a' := ?_) (R.tf 28 21) rfl rfl (R.ao HT_.out) ?_ ?_; rotate_left
              · simp only [Act.put, R.sa, R.sb, R.sc, i64_w, i32_w]; rfl
              refine R.pu (i := 28) (N := some 43) (a' := ?_) (R.tf 29 20) rfl rfl (R.ao HT_.out) ?_ ?_; rotate_left
              · simp only [Act.put, R.sa, R.sb, R.sc, i64_w, i32_w]; rfl
              refine R.pu (i := 29) (N := some 44) (a' := ?_) (R.tf 30 19) rfl rfl (R.ao HT_.out) ?_ ?_; rotate_left
              · simp only [Act.put, R.sa, R.sb, R.sc, i64_w, i32_w]; rfl
              refine R.pu (i := 30) (N := some 45) (a' := ?_) (R.tf 31 18) rfl rfl (R.ao HT_.out) ?_ ?_; rotate_left
              · simp only [Act.put, R.sa, R.sb, R.sc, i64_w, i32_w]; rfl
              refine R.pv (i := 31) (N := some 46) (v := ?_) (a' := ?_) (R.tf 32 17) rfl rfl (R.ao HT_.out) ?_ ?_ ?_; rotate_left
              · intro w'; go_simp; with_reducible rfl
              rotate_left
              · simp only [Act.put, R.sa, R.sb, R.sc, i64_w, i32_w]; rfl
              refine R.pv (i := 32) (N := some 47) (v := ?_) (a' := ?_) (R.tf 33 16) rfl rfl (R.ao HT_.out) ?_ ?_ ?_; rotate_left
              · intro w'; go_simp; with_reducible rfl
              rotate_left
              · simp only [Act.put, R.sa, R.sb, R.sc, i64_w, i32_w]; rfl
              refine R.pu (i := 33) (N := some 48) (a' := ?_) (R.tf 34 15) rfl rfl (R.ao HT_.out) ?_ ?_; rotate_left
              · simp only [Act.put, R.sa, R.sb, R.sc, i64_w, i32_w]; rfl
              refine R.pu (i := 34) (N := some 49) (a' := ?_) (R.tf 35 14) rfl rfl (R.ao HT_.out) ?_ ?_; rotate_left
              · simp only [Act.put, R.sa, R.sb, R.sc, i64_w, i32_w]; rfl
              refine R.pu (i := 35) (N := some 50) (a' := ?_) (R.tf 36 13) rfl rfl (R.ao HT_.out) ?_ ?_; rotate_left
              · simp only [Act.put, R.sa, R.sb, R.sc, i64_w, i32_w]; rfl
              refine R.pu (i := 36) (N := some 51) (a' := ?_) (R.tf 37 12) rfl rfl (R.ao HT_.out) ?_ ?_; rotate_left
              · simp only [Act.put, R.sa, R.sb, R.sc, i64_w, i32_w]; rfl
              refine R.pu (i := 37) (N := some 52) (a' := ?_) (R.tf 38 11) rfl rfl (R.ao HT_.out) ?_ ?_; rotate_left
              · simp only [Act.put, R.sa, R.sb, R.sc, i64_w, i32_w]; rfl
              refine R.pu (i := 38) (N := some 53) (a' := ?_) (R.tf 39 10) rfl rfl (R.ao HT_.out) ?_ ?_; rotate_left
              · simp only [Act.put, R.sa, R.sb, R.sc, i64_w, i32_w]; rfl
              refine R.pu (i := 39) (N := some 54) (a' := ?_) (R.tf 40 9) rfl rfl (R.ao HT_.out) ?_ ?_; rotate_left
              · simp only [Act.put, R.sa, R.sb, R.sc, i64_w, i32_w]; rfl
              refine R.pu (i := 40) (N := some 55) (a' := ?_) (R.tf 41 8) rfl rfl (R.ao HT_.out) ?_ ?_; rotate_left
              · simp only [Act.put, R.sa, R.sb, R.sc, i64_w, i32_w]; rfl
              refine R.pu (i := 41) (N := some 56) (a' := ?_) (R.tf 42 7) rfl rfl (R.ao HT_.out) ?_ ?_; rotate_left
              · simp only [Act.put, R.sa, R.sb, R.sc, i64_w, i32_w]; rfl
              refine R.pv (i := 42) (N := some 57) (v := ?_) (a' := ?_) (R.tf 43 6) rfl rfl (R.ao HT_.out) ?_ ?_ ?_; rotate_left
              · intro w'; go_simp; with_reducible rfl
              rotate_left
              · simp only [Act.put, R.sa, R.sb, R.sc, i64_w, i32_w]; rfl
              refine R.pv (i := 43) (N := some 58) (v := ?_) (a' := ?_) (R.tf 44 5) rfl rfl (R.ao HT_.out) ?_ ?_ ?_; rotate_left
              · intro w'; go_simp; with_reducible rfl
              rotate_left
              · simp only [Act.put, R.sa, R.sb, R.sc, i64_w, i32_w]; rfl
              refine R.pu (i := 44) (N := some 59) (a' := ?_) (R.tf 45 4) rfl rfl (R.ao HT_.out) ?_ ?_; rotate_left
              · simp only [Act.put, R.sa, R.sb, R.sc, i64_w, i32_w]; rfl
              refine R.pu (i := 45) (N := some 60) (a' := ?_) (R.tf 46 3) rfl rfl (R.ao HT_.out) ?_ ?_; rotate_left
              · simp only [Act.put, R.sa, R.sb, R.sc, i64_w, i32_w]; rfl
              refine R.pu (i := 46) (N := some 61) (a' := ?_) (R.tf 47 2) rfl rfl (R.ao HT_.out) ?_ ?_; rotate_left
              · simp only [Act.put, R.sa, R.sb, R.sc, i64_w, i32_w]; rfl
              refine R.pu (i := 47) (N := some 62) (a' := ?_) (R.tf 48 1) rfl rfl (R.ao HT_.out) ?_ ?_; rotate_left
              · simp only [Act.put, R.sa, R.sb, R.sc, i64_w, i32_w]; rfl
              refine R.pv (i := 48) (N := some 63) (v := ?_) (a' := ?_) (R.tf 49 0) rfl rfl (R.ao HT_.out) ?_ ?_ ?_; rotate_left
              · intro w'; go_simp; with_reducible rfl
              rotate_left
              · simp only [Act.put, R.sa, R.sb, R.sc, i64_w, i32_w]; rfl
              refine done_ (R.dn HT_.out) ?_; try go_wp2
              go_meet
              case rel => exact ⟨_, (true), R.rs, H', ⟨by have := HK1.out; first | omega | exact Nat.le_refl _⟩, ⟨by (with_reducible repeat (first | refine blk_drewN ?_ _ | refine blk_drew ?_ | refine blk_alloc ?_ _)); exact BK1360.out⟩, ⟨by repeat (first | (with_reducible first | exact HB.out | apply below_alloc | apply pw_below_drewN | apply below_drew1 | refine below_set ?_ GE1360.out) | exact HB.out)⟩⟩
          · rw [if_neg c8] at H; have c8b0 : ((((rd_T48 l0 x11_1).f2).length : Int) == 2) = false := beq_eq_false_iff_ne.mpr c8; have c8b1 : ((((rd_T48 l0 x11_1).f2).length : Int) != 2) = true := bne_iff_ne.mpr c8; (first | rw [c8b0] | (simp only [i64_w, i32_w]; rw [c8b0]) | skip); have H' := Aside0.mk H; clear H; try go_wp2
            have n0_ : Aside0 ((((w6.setCell ⟨gb1360, 0, none⟩ (.string ((rd_T48 l0 x11_1).f0))).setCell ⟨gb1360, 1, none⟩ (.slice A1359_1 ((rd_T48 l0 x11_1).f1).length c1359_1)).setCell ⟨gb1360, 2, none⟩ (.slice A1359_2 ((rd_T48 l0 x11_1).f2).length c1359_2)).heap[gb1360]? = some (.cells #[.string ((rd_T48 l0 x11_1).f0), .slice A1359_1 ((rd_T48 l0 x11_1).f1).length c1359_1, .slice A1359_2 ((rd_T48 l0 x11_1).f2).length c1359_2] 48 (0, 0))) := ⟨by (with_reducible repeat (first | refine blk_drewN ?_ _ | refine blk_drew ?_ | refine blk_alloc ?_ _)); refine blk_put (cs := #[.string ((rd_T48 l0 x11_1).f0), .slice A1359_1 ((rd_T48 l0 x11_1).f1).length c1359_1, .slice none 0 0]) ?_ 2 _ rfl; (with_reducible repeat (first | refine blk_drewN ?_ _ | refine blk_drew ?_ | refine blk_alloc ?_ _)); refine blk_put (cs := #[.string ((rd_T48 l0 x11_1).f0), .slice none 0 0, .slice none 0 0]) ?_ 1 _ rfl; (with_reducible repeat (first | refine blk_drewN ?_ _ | refine blk_drew ?_ | refine blk_alloc ?_ _)); refine blk_put (cs := #[.string ⟨#[]⟩, .slice none 0 0, .slice none 0 0]) ?_ 0 _ rfl; (with_reducible repeat (first | refine blk_drewN ?_ _ | refine blk_drew ?_ | refine blk_alloc ?_ _)); exact BK1360.out⟩; have n1_ : Aside0 (Below w.heap.size w (((w6.setCell ⟨gb1360, 0, none⟩ (.string ((rd_T48 l0 x11_1).f0))).setCell ⟨gb1360, 1, none⟩ (.slice A1359_1 ((rd_T48 l0 x11_1).f1).length c1359_1)).setCell ⟨gb1360, 2, none⟩ (.slice A1359_2 ((rd_T48 l0 x11_1).f2).length c1359_2))) := ⟨by repeat (first | (with_reducible first | exact HB.out | apply below_alloc | apply pw_below_drewN | apply below_drew1 | refine below_set ?_ GE1360.out) | exact HB.out)⟩; (try clear BK1360); (try clear HB); generalize (((w6.setCell ⟨gb1360, 0, none⟩ (.string ((rd_T48 l0 x11_1).f0))).setCell ⟨gb1360, 1, none⟩ (.slice A1359_1 ((rd_T48 l0 x11_1).f1).length c1359_1)).setCell ⟨gb1360, 2, none⟩ (.slice A1359_2 ((rd_T48 l0 x11_1).f2).length c1359_2)) = w33 at n0_ n1_ ⊢; have BK1360 := n0_; have HB := n1_; clear n0_ n1_; have n0_ := Aside0.mk (blk_drew BK1360.out); have n1_ := Aside0.mk (below_drew1 HB.out); clear BK1360; clear HB; have BK1360 := n0_; have HB := n1_; clear n0_ n1_; refine start_ (n := 49) (S := fun w' => w'.cell? ⟨gb1360, 0, none⟩ = some (.string ((rd_T48 l0 x11_1).f0)) ∧ w'.cell? ⟨gb1360, 1, none⟩ = some (.slice A1359_1 ((rd_T48 l0 x11_1).f1).length c1359_1) ∧ w'.cell? ⟨gb1360, 2, none⟩ = some (.slice A1359_2 ((rd_T48 l0 x11_1).f2).length c1359_2)) (ds := []) (R.tf 0 49) (by kernel_rfl) rfl rfl ⟨(blk_cell BK1360.out 0).trans rfl, (blk_cell BK1360.out 1).trans rfl, (blk_cell BK1360.out 2).trans rfl⟩ (fun hHeld => ?_); refine with_tabW spec_BuddyinfoPrint.tab5 spec_BuddyinfoPrint.bits5 (fun HT_ HW_ => ?_); generalize w33.drew = w34 at BK1360 HB hHeld ⊢; refine R.pv (i := 0) (N := some 15) (v := ?_) (a' := ?_) (R.tf 1 48) rfl rfl (R.ao HT_.out) ?_ ?_ ?_; rotate_left
            · intro w'; go_simp; with_reducible rfl
            rotate_left
            · simp only [Act.put, R.sa, R.sb, R.sc, i64_w, i32_w]; rfl
            refine take_ (i := 1) (N := some 16) (v := ?_) (a' := ?_) (R.tf 2 47) rfl rfl (take_ofW HT_.out HW_.out (by kernel_rfl)) (fun _ _ _ h => h) (Or.inl ⟨by rfl, ?_⟩) hHeld ?_ ?_; rotate_left
            · rintro w' ⟨s0, s1, s2⟩; go_simp; with_reducible rfl
            rotate_left
            · simp only [Act.put, R.sa, R.sb, R.sc, i64_w, i32_w]; rfl
            refine R.pv (i := 2) (N := some 17) (v := ?_) (a' := ?_) (R.tf 3 46) rfl rfl (R.ao HT_.out) ?_ ?_ ?_; rotate_left
            · intro w'; go_simp; with_reducible rfl
            rotate_left
            · simp only [Act.put, R.sa, R.sb, R.sc, i64_w, i32_w]; rfl
            refine R.pv (i := 3) (N := some 18) (v := ?_) (a' := ?_) (R.tf 4 45) rfl rfl (R.ao HT_.out) ?_ ?_ ?_; rotate_left
            · intro w'; go_simp; with_reducible rfl
            rotate_left
            · simp only [Act.put, R.sa, R.sb, R.sc, i64_w, i32_w]; rfl
            refine R.pv (i := 4) (N := some 19) (v := ?_) (a' := ?_) (R.tf 5 44) rfl rfl (R.ao HT_.out) ?_ ?_ ?_; rotate_left
            · intro w'; go_simp; with_reducible rfl
            rotate_left
            · simp only [Act.put, R.sa, R.sb, R.sc, i64_w, i32_w]; rfl
            refine R.pu (i := 5) (N := some 20) (a' := ?_) (R.tf 6 43) rfl rfl (R.ao HT_.out) ?_ ?_; rotate_left
            · simp only [Act.put, R.sa, R.sb, R.sc, i64_w, i32_w]; rfl
            refine R.pu (i := 6) (N := some 21) (a' := ?_) (R.tf 7 42) rfl rfl (R.ao HT_.out) ?_ ?_; rotate_left
            · simp only [Act.put, R.sa, R.sb, R.sc, i64_w, i32_w]; rfl
            refine R.pu (i := 7) (N := some 22) (a' := ?_) (R.tf 8 41) rfl rfl (R.ao HT_.out) ?_ ?_; rotate_left
            · simp only [Act.put, R.sa, R.sb, R.sc, i64_w, i32_w]; rfl
            refine R.pu (i := 8) (N := some 23) (a' := ?_) (R.tf 9 40) rfl rfl (R.ao HT_.out) ?_ ?_; rotate_left
            · simp only [Act.put, R.sa, R.sb, R.sc, i64_w, i32_w]; rfl
            refine R.pv (i := 9) (N := some 24) (v := ?_) (a' := ?_) (R.tf 10 39) rfl rfl (R.ao HT_.out) ?_ ?_ ?_; rotate_left
            · intro w'; go_simp; with_reducible rfl
            rotate_left
            · simp only [Act.put, R.sa, R.sb, R.sc, i64_w, i32_w]; rfl
            refine R.pv (i := 10) (N := some 25) (v := ?_) (a' := ?_) (R.tf 11 38) rfl rfl (R.ao HT_.out) ?_ ?_ ?_; rotate_left
            · intro w'; go_simp; with_reducible rfl
            rotate_left
            · simp only [Act.put, R.sa, R.sb, R.sc, i64_w, i32_w]; rfl
            refine R.pu (i := 11) (N := some 26) (a' := ?_) (R.tf 12 37) rfl rfl (R.ao HT_.out) ?_ ?_; rotate_left
            · simp only [Act.put, R.sa, R.sb, R.sc, i64_w, i32_w]; rfl
            refine R.pu (i := 12) (N := some 27) (a' := ?_) (R.tf 13 36) rfl rfl (R.ao HT_.out) ?_ ?_; rotate_left
            · simp only [Act.put, R.sa, R.sb, R.sc, i64_w, i32_w]; rfl
            refine R.pu (i := 13) (N := some 28) (a' := ?_) (R.tf 14 35) rfl rfl (R.ao HT_.out) ?_ ?_; rotate_left
            · simp only [Act.put, R.sa, R.sb, R.sc, i64_w, i32_w]; rfl
            refine R.pu (i := 14) (N := some 29) (a' := ?_) (R.tf 15 34) rfl rfl (R.ao HT_.out) ?_ ?_; rotate_left
            · simp only [Act.put, R.sa, R.sb, R.sc, i64_w, i32_w]; rfl
            refine R.pu (i := 15) (N := some 30) (a' := ?_) (R.tf 16 33) rfl rfl (R.ao HT_.out) ?_ ?_; rotate_left
            · simp only [Act.put, R.sa, R.sb, R.sc, i64_w, i32_w]; rfl
            refine R.pu (i := 16) (N := some 31) (a' := ?_) (R.tf 17 32) rfl rfl (R.ao HT_.out) ?_ ?_; rotate_left
            · simp only [Act.put, R.sa, R.sb, R.sc, i64_w, i32_w]; rfl
            refine R.pv (i := 17) (N := some 32) (v := ?_) (a' := ?_) (R.tf 18 31) rfl rfl (R.ao HT_.out) ?_ ?_ ?_; rotate_left
            · intro w'; go_simp; with_reducible rfl
            rotate_left
            · simp only [Act.put, R.sa, R.sb, R.sc, i64_w, i32_w]; rfl
            refine R.pv (i := 18) (N := some 33) (v := ?_) (a' := ?_) (R.tf 19 30) rfl rfl (R.ao HT_.out) ?_ ?_ ?_; rotate_left
            · intro w'; go_simp; with_reducible rfl
            rotate_left
            · simp only [Act.put, R.sa, R.sb, R.sc, i64_w, i32_w]; rfl
            refine R.pu (i := 19) (N := some 34) (a' := ?_) (R.tf 20 29) rfl rfl (R.ao HT_.out) ?_ ?_; rotate_left
            · simp only [Act.put, R.sa, R.sb, R.sc, i64_w, i32_w]; rfl
            refine R.pu (i := 20) (N := some 35) (a' := ?_) (R.tf 21 28) rfl rfl (R.ao HT_.out) ?_ ?_; rotate_left
            · simp only [Act.put, R.sa, R.sb, R.sc, i64_w, i32_w]; rfl
            refine R.pu (i := 21) (N := some 36) (a' := ?_) (R.tf 22 27) rfl rfl (R.ao HT_.out) ?_ ?_; rotate_left
            · simp only [Act.put, R.sa, R.sb, R.sc, i64_w, i32_w]; rfl
            refine R.pu (i := 22) (N := some 37) (a' := ?_) (R.tf 23 26) rfl rfl (R.ao HT_.out) ?_ ?_; rotate_left
            · simp only [Act.put, R.sa, R.sb, R.sc, i64_w, i32_w]; rfl
            refine R.pu (i := 23) (N := some 38) (a' := ?_) (R.tf 24 25) rfl rfl (R.ao HT_.out) ?_ ?_; rotate_left
            · simp only [Act.put, R.sa, R.sb, R.sc, i64_w, i32_w]; rfl
            refine R.pu (i := 24) (N := some 39) (a' := ?_) (R.tf 25 24) rfl rfl (R.ao HT_.out) ?_ ?_; rotate_left
            · simp only [Act.put, R.sa, R.sb, R.sc, i64_w, i32_w]; rfl
            refine R.pv (i := 25) (N := some 40) (v := ?_) (a' := ?_) (R.tf 26 23) rfl rfl (R.ao HT_.out) ?_ ?_ ?_; rotate_left
            · intro w'; go_simp; with_reducible rfl
            rotate_left
            · simp only [Act.put, R.sa, R.sb, R.sc, i64_w, i32_w]; rfl
            refine R.pv (i := 26) (N := some 41) (v := ?_) (a' := ?_) (R.tf 27 22) rfl rfl (R.ao HT_.out) ?_ ?_ ?_; rotate_left
            · intro w'; go_simp; with_reducible rfl
            rotate_left
            · simp only [Act.put, R.sa, R.sb, R.sc, i64_w, i32_w]; rfl
            refine R.pu (i := 27) (N := some 42) (a' := ?_) (R.tf 28 21) rfl rfl (R.ao HT_.out) ?_ ?_; rotate_left
            · simp only [Act.put, R.sa, R.sb, R.sc, i64_w, i32_w]; rfl
            refine R.pu (i := 28) (N := some 43) (a' := ?_) (R.tf 29 20) rfl rfl (R.ao HT_.out) ?_ ?_; rotate_left
            · simp only [Act.put, R.sa, R.sb, R.sc, i64_w, i32_w]; rfl
            refine R.pu (i := 29) (N := some 44) (a' := ?_) (R.tf 30 19) rfl rfl (R.ao HT_.out) ?_ ?_; rotate_left
            · simp only [Act.put, R.sa, R.sb, R.sc, i64_w, i32_w]; rfl
            refine R.pu (i := 30) (N := some 45) (a' := ?_) (R.tf 31 18) rfl rfl (R.ao HT_.out) ?_ ?_; rotate_left
            · simp only [Act.put, R.sa, R.sb, R.sc, i64_w, i32_w]; rfl
            refine R.pv (i := 31) (N := some 46) (v := ?_) (a' := ?_) (R.tf 32 17) rfl rfl (R.ao HT_.out) ?_ ?_ ?_; rotate_left
            · intro w'; go_simp; with_reducible rfl
            rotate_left
            · simp only [Act.put, R.sa, R.sb, R.sc, i64_w, i32_w]; rfl
            refine R.pv (i := 32) (N := some 47) (v := ?_) (a' := ?_) (R.tf 33 16) rfl rfl (R.ao HT_.out) ?_ ?_ ?_; rotate_left
            · intro w'; go_simp; with_reducible rfl
            rotate_left
            · simp only [Act.put, R.sa, R.sb, R.sc, i64_w, i32_w]; rfl
            refine R.pu (i := 33) (N := some 48) (a' := ?_) (R.tf 34 15) rfl rfl (R.ao HT_.out) ?_ ?_; rotate_left
            · simp only [Act.put, R.sa, R.sb, R.sc, i64_w, i32_w]; rfl
            refine R.pu (i := 34) (N := some 49) (a' := ?_) (R.tf 35 14) rfl rfl (R.ao HT_.out) ?_ ?_; rotate_left
            · simp only [Act.put, R.sa, R.sb, R.sc, i64_w, i32_w]; rfl
            refine R.pu (i := 35) (N := some 50) (a' := ?_) (R.tf 36 13) rfl rfl (R.ao HT_.out) ?_ ?_; rotate_left
            · simp only [Act.put, R.sa, R.sb, R.sc, i64_w, i32_w]; rfl
            refine R.pu (i := 36) (N := some 51) (a' := ?_) (R.tf 37 12) rfl rfl (R.ao HT_.out) ?_ ?_; rotate_left
            · simp only [Act.put, R.sa, R.sb, R.sc, i64_w, i32_w]; rfl
            refine R.pu (i := 37) (N := some 52) (a' := ?_) (R.tf 38 11) rfl rfl (R.ao HT_.out) ?_ ?_; rotate_left
            · simp only [Act.put, R.sa, R.sb, R.sc, i64_w, i32_w]; rfl
            refine R.pu (i := 38) (N := some 53) (a' := ?_) (R.tf 39 10) rfl rfl (R.ao HT_.out) ?_ ?_; rotate_left
            · simp only [Act.put, R.sa, R.sb, R.sc, i64_w, i32_w]; rfl
            refine R.pu (i := 39) (N := some 54) (a' := ?_) (R.tf 40 9) rfl rfl (R.ao HT_.out) ?_ ?_; rotate_left
            · simp only [Act.put, R.sa, R.sb, R.sc, i64_w, i32_w]; rfl
            refine R.pu (i := 40) (N := some 55) (a' := ?_) (R.tf 41 8) rfl rfl (R.ao HT_.out) ?_ ?_; rotate_left
            · simp only [Act.put, R.sa, R.sb, R.sc, i64_w, i32_w]; rfl
            refine R.pu (i := 41) (N := some 56) (a' := ?_) (R.tf 42 7) rfl rfl (R.ao HT_.out) ?_ ?_; rotate_left
            · simp only [Act.put, R.sa, R.sb, R.sc, i64_w, i32_w]; rfl
            refine R.pv (i := 42) (N := some 57) (v := ?_) (a' := ?_) (R.tf 43 6) rfl rfl (R.ao HT_.out) ?_ ?_ ?_; rotate_left
            · intro w'; go_simp; with_reducible rfl
            rotate_left
            · simp only [Act.put, R.sa, R.sb, R.sc, i64_w, i32_w]; rfl
            refine R.pv (i := 43) (N := some 58) (v := ?_) (a' := ?_) (R.tf 44 5) rfl rfl (R.ao HT_.out) ?_ ?_ ?_; rotate_left
            · intro w'; go_simp; with_reducible rfl
            rotate_left
            · simp only [Act.put, R.sa, R.sb, R.sc, i64_w, i32_w]; rfl
            refine R.pu (i := 44) (N := some 59) (a' := ?_) (R.tf 45 4) rfl rfl (R.ao HT_.out) ?_ ?_; rotate_left
            · simp only [Act.put, R.sa, R.sb, R.sc, i64_w, i32_w]; rfl
            refine R.pu (i := 45) (N := some 60) (a' := ?_) (R.tf 46 3) rfl rfl (R.ao HT_.out) ?_ ?_; rotate_left
            · simp only [Act.put, R.sa, R.sb, R.sc, i64_w, i32_w]; rfl
            refine R.pu (i := 46) (N := some 61) (a' := ?_) (R.tf 47 2) rfl rfl (R.ao HT_.out) ?_ ?_; rotate_left
            · simp only [Act.put, R.sa, R.sb, R.sc, i64_w, i32_w]; rfl
            refine R.pu (i := 47) (N := some 62) (a' := ?_) (R.tf 48 1) rfl rfl (R.ao HT_.out) ?_ ?_; rotate_left
            · simp only [Act.put, R.sa, R.sb, R.sc, i64_w, i32_w]; rfl
            refine R.pv (i := 48) (N := some 63) (v := ?_) (a' := ?_) (R.tf 49 0) rfl rfl (R.ao HT_.out) ?_ ?_ ?_; rotate_left
            · intro w'; go_simp; with_reducible rfl
            rotate_left
            · simp only [Act.put, R.sa, R.sb, R.sc, i64_w, i32_w]; rfl
            refine done_ (R.dn HT_.out) ?_; try go_wp2
            go_meet
            case rel => exact ⟨_, (true), R.rs, H', ⟨by have := HK1.out; first | omega | exact Nat.le_refl _⟩, ⟨by (with_reducible repeat (first | refine blk_drewN ?_ _ | refine blk_drew ?_ | refine blk_alloc ?_ _)); exact BK1360.out⟩, ⟨by repeat (first | (with_reducible first | exact HB.out | apply below_alloc | apply pw_below_drewN | apply below_drew1 | refine below_set ?_ GE1360.out) | exact HB.out)⟩⟩
         case rest =>
          clear HC5; try clear c1
          try clear p2
          try clear c8
          try clear c8b0
          try clear c8b1
          try clear c10
          try clear c13
          obtain ⟨kq, x63_4, rfl, HA, HJ4, BK1360, HB⟩ := hcut; cases kq with
          | zero => exact absurd HA.out (by simp [spec_BuddyinfoPrint.j1])
          | succ kj4 =>
           have H := HA.out; clear HA; simp only [spec_BuddyinfoPrint.j1] at H
           by_cases c35 : x63_4 = true
           · subst c35
             have H1 : (some ((⟨#[]⟩ : ByteArray), 2)) = some (r1, r2) := by rw [if_pos rfl] at H; exact H
             clear H; have H := H1; clear H1; simp only [Option.some.injEq, Prod.mk.injEq] at H; obtain ⟨rfl, rfl⟩ := H; go_wp2; go_ret2; exact ⟨by first | rfl | (simp [errW_none, errW_some] <;> rfl) | (simp [*, errW_none, errW_some] <;> rfl), by repeat (first | (with_reducible first | exact HB.out | apply below_alloc | apply pw_below_drewN | apply below_drew1 | refine below_set ?_ GE1360.out) | exact HB.out)⟩
           · replace c35 := Bool.eq_false_iff.mpr c35; subst c35
             have H1 : (if 0 < (((rd_T48 l0 x11_1).f2).length : Int) then (if 5 + (rdOf ByteArray.empty ((rd_T48 l0 x11_1).f2) 0).size ≤ 9223372036854775807 then (if ((⟨#[78, 111, 100, 101, 32]⟩ : ByteArray) ++ (rdOf ByteArray.empty ((rd_T48 l0 x11_1).f2) 0)).size + 7 ≤ 9223372036854775807 then (if 1 < (((rd_T48 l0 x11_1).f2).length : Int) then ((spec_Right.f kj4 (rdOf ByteArray.empty ((rd_T48 l0 x11_1).f2) 1) 8).bind fun t1370 => (if (((⟨#[78, 111, 100, 101, 32]⟩ : ByteArray) ++ (rdOf ByteArray.empty ((rd_T48 l0 x11_1).f2) 0)) ++ (⟨#[44, 32, 122, 111, 110, 101, 32]⟩ : ByteArray)).size + t1370.size ≤ 9223372036854775807 then (if ((((⟨#[78, 111, 100, 101, 32]⟩ : ByteArray) ++ (rdOf ByteArray.empty ((rd_T48 l0 x11_1).f2) 0)) ++ (⟨#[44, 32, 122, 111, 110, 101, 32]⟩ : ByteArray)) ++ t1370).size + 1 ≤ 9223372036854775807 then (if x4_1.size + (((((⟨#[78, 111, 100, 101, 32]⟩ : ByteArray) ++ (rdOf ByteArray.empty ((rd_T48 l0 x11_1).f2) 0)) ++ (⟨#[44, 32, 122, 111, 110, 101, 32]⟩ : ByteArray)) ++ t1370) ++ (⟨#[32]⟩ : ByteArray)).size ≤ 9223372036854775807 then (spec_BuddyinfoPrint.l1 kj4 l0 (x4_1 ++ (((((⟨#[78, 111, 100, 101, 32]⟩ : ByteArray) ++ (rdOf ByteArray.empty ((rd_T48 l0 x11_1).f2) 0)) ++ (⟨#[44, 32, 122, 111, 110, 101, 32]⟩ : ByteArray)) ++ t1370) ++ (⟨#[32]⟩ : ByteArray))) l0 (l0.length : Int) x11_1 ((rd_T48 l0 x11_1).f1) (((rd_T48 l0 x11_1).f1).length : Int) 0) else (none)) else (none)) else (none))) else (none)) else (none)) else (none)) else (none)) = some (r1, r2) := by rw [if_neg (show ¬ (false = true) by decide)] at H; exact H
             clear H; have H := H1; clear H1
             by_cases c36 : 0 < (((rd_T48 l0 x11_1).f2).length : Int)
             · rw [if_pos c36] at H; have c36b0 : decide (0 < (((rd_T48 l0 x11_1).f2).length : Int)) = true := decide_eq_true c36; have c36b1 : decide (0 < ((rd_T48 l0 x11_1).f2).length) = true := decide_eq_true (by omega); clear c36
               by_cases c37 : 5 + (rdOf ByteArray.empty ((rd_T48 l0 x11_1).f2) 0).size ≤ 9223372036854775807
               · rw [if_pos c37] at H; have c37b0 := eq_true c37; have c37b1 : decide (5 + (rdOf ByteArray.empty ((rd_T48 l0 x11_1).f2) 0).size ≤ 9223372036854775807) = true := decide_eq_true c37; try have c37b2 : (9223372036854775807 < 5 + (rdOf ByteArray.empty ((rd_T48 l0 x11_1).f2) 0).size) = False := eq_false (Nat.not_lt.2 c37)
                 by_cases c38 : ((⟨#[78, 111, 100, 101, 32]⟩ : ByteArray) ++ (rdOf ByteArray.empty ((rd_T48 l0 x11_1).f2) 0)).size + 7 ≤ 9223372036854775807
                 · rw [if_pos c38] at H; have c38b0 := eq_true c38; have c38b1 : decide (((⟨#[78, 111, 100, 101, 32]⟩ : ByteArray) ++ (rdOf ByteArray.empty ((rd_T48 l0 x11_1).f2) 0)).size + 7 ≤ 9223372036854775807) = true := decide_eq_true c38; try have c38b2 : (9223372036854775807 < ((⟨#[78, 111, 100, 101, 32]⟩ : ByteArray) ++ (rdOf ByteArray.empty ((rd_T48 l0 x11_1).f2) 0)).size + 7) = False := eq_false (Nat.not_lt.2 c38)
                   have c38b3 : (9223372036854775807 < 5 + (rdOf ByteArray.empty ((rd_T48 l0 x11_1).f2) 0).size + 7) = False := by have h_ := c38b2; simp only [ByteArray.size_append] at h_; exact h_
                   by_cases c39 : 1 < (((rd_T48 l0 x11_1).f2).length : Int)
                   · rw [if_pos c39] at H; have c39b0 : decide (1 < (((rd_T48 l0 x11_1).f2).length : Int)) = true := decide_eq_true c39; have c39b1 : decide (1 < ((rd_T48 l0 x11_1).f2).length) = true := decide_eq_true (by omega); clear c39; replace H := Option.bind_eq_some_iff.mp H; obtain ⟨t1370, A400, H⟩ := H; (try dsimp only at H); have A40 := Aside0.mk A400; clear A400
                     by_cases c41 : (((⟨#[78, 111, 100, 101, 32]⟩ : ByteArray) ++ (rdOf ByteArray.empty ((rd_T48 l0 x11_1).f2) 0)) ++ (⟨#[44, 32, 122, 111, 110, 101, 32]⟩ : ByteArray)).size + t1370.size ≤ 9223372036854775807
                     · rw [if_pos c41] at H; have c41b0 := eq_true c41; have c41b1 : decide ((((⟨#[78, 111, 100, 101, 32]⟩ : ByteArray) ++ (rdOf ByteArray.empty ((rd_T48 l0 x11_1).f2) 0)) ++ (⟨#[44, 32, 122, 111, 110, 101, 32]⟩ : ByteArray)).size + t1370.size ≤ 9223372036854775807) = true := decide_eq_true c41; try have c41b2 : (9223372036854775807 < (((⟨#[78, 111, 100, 101, 32]⟩ : ByteArray) ++ (rdOf ByteArray.empty ((rd_T48 l0 x11_1).f2) 0)) ++ (⟨#[44, 32, 122, 111, 110, 101, 32]⟩ : ByteArray)).size + t1370.size) = False := eq_false (Nat.not_lt.2 c41)
                       have c41b3 : (9223372036854775807 < 5 + (rdOf ByteArray.empty ((rd_T48 l0 x11_1).f2) 0).size + 7 + t1370.size) = False := by have h_ := c41b2; simp only [ByteArray.size_append] at h_; exact h_
                       by_cases c42 : ((((⟨#[78, 111, 100, 101, 32]⟩ : ByteArray) ++ (rdOf ByteArray.empty ((rd_T48 l0 x11_1).f2) 0)) ++ (⟨#[44, 32, 122, 111, 110, 101, 32]⟩ : ByteArray)) ++ t1370).size + 1 ≤ 9223372036854775807
                       · rw [if_pos c42] at H; have c42b0 := eq_true c42; have c42b1 : decide (((((⟨#[78, 111, 100, 101, 32]⟩ : ByteArray) ++ (rdOf ByteArray.empty ((rd_T48 l0 x11_1).f2) 0)) ++ (⟨#[44, 32, 122, 111, 110, 101, 32]⟩ : ByteArray)) ++ t1370).size + 1 ≤ 9223372036854775807) = true := decide_eq_true c42; try have c42b2 : (9223372036854775807 < ((((⟨#[78, 111, 100, 101, 32]⟩ : ByteArray) ++ (rdOf ByteArray.empty ((rd_T48 l0 x11_1).f2) 0)) ++ (⟨#[44, 32, 122, 111, 110, 101, 32]⟩ : ByteArray)) ++ t1370).size + 1) = False := eq_false (Nat.not_lt.2 c42)
                         have c42b3 : (9223372036854775807 < 5 + (rdOf ByteArray.empty ((rd_T48 l0 x11_1).f2) 0).size + 7 + t1370.size + 1) = False := by have h_ := c42b2; simp only [ByteArray.size_append] at h_; exact h_
                         by_cases c43 : x4_1.size + (((((⟨#[78, 111, 100, 101, 32]⟩ : ByteArray) ++ (rdOf ByteArray.empty ((rd_T48 l0 x11_1).f2) 0)) ++ (⟨#[44, 32, 122, 111, 110, 101, 32]⟩ : ByteArray)) ++ t1370) ++ (⟨#[32]⟩ : ByteArray)).size ≤ 9223372036854775807
                         · rw [if_pos c43] at H; have c43b0 := eq_true c43; have c43b1 : decide (x4_1.size + (((((⟨#[78, 111, 100, 101, 32]⟩ : ByteArray) ++ (rdOf ByteArray.empty ((rd_T48 l0 x11_1).f2) 0)) ++ (⟨#[44, 32, 122, 111, 110, 101, 32]⟩ : ByteArray)) ++ t1370) ++ (⟨#[32]⟩ : ByteArray)).size ≤ 9223372036854775807) = true := decide_eq_true c43; try have c43b2 : (9223372036854775807 < x4_1.size + (((((⟨#[78, 111, 100, 101, 32]⟩ : ByteArray) ++ (rdOf ByteArray.empty ((rd_T48 l0 x11_1).f2) 0)) ++ (⟨#[44, 32, 122, 111, 110, 101, 32]⟩ : ByteArray)) ++ t1370) ++ (⟨#[32]⟩ : ByteArray)).size) = False := eq_false (Nat.not_lt.2 c43)
                           have c43b3 : (9223372036854775807 < x4_1.size + (5 + (rdOf ByteArray.empty ((rd_T48 l0 x11_1).f2) 0).size + 7 + t1370.size + 1)) = False := by have h_ := c43b2; simp only [ByteArray.size_append] at h_; exact h_
                           have H' := Aside0.mk H; clear H; try go_wp2
                           have n0_ := Aside0.mk (blk_drew BK1360.out); have n1_ := Aside0.mk (below_drew1 HB.out); clear BK1360; clear HB; have BK1360 := n0_; have HB := n1_; clear n0_ n1_; have p1368 : 0 ≤ (0 : Int) := (by omega); have q1368 : 0 < (((rd_T48 l0 x11_1).f2).length : Int) := R.od; obtain ⟨ad1368, e1368, hx1368_0⟩ := Kd.at_string HR1359_2.out 0 p1368 q1368; have hw1368_0 := hx1368_0; (try rw [show ((0 : Int)).toNat = 0 from rfl] at hw1368_0); (try rw [show 0 * 1 = 0 from rfl] at hw1368_0); (try rw [Addr.add_zero'] at hw1368_0); cases e1368; have qi1368 : (0 < ((rd_T48 l0 x11_1).f2).length) = True := eq_true (by omega); (try rw [show ((0 : Int)).toNat = 0 from rfl] at hx1368_0); (try rw [Addr.add_zero'] at hx1368_0); replace hx1368_0 := (HB.out.cell (World.block_lt_of_cell? w _ hx1368_0)).trans hx1368_0; replace p1368 := eq_true p1368; replace q1368 := eq_true q1368; have p1369 : 0 ≤ (1 : Int) := (by omega); have q1369 : 1 < (((rd_T48 l0 x11_1).f2).length : Int) := R.od; obtain ⟨ad1369, e1369, hx1369_0⟩ := Kd.at_string HR1359_2.out 1 p1369 q1369; have hw1369_0 := hx1369_0; (try rw [show ((1 : Int)).toNat = 1 from rfl] at hw1369_0); (try rw [show 1 * 1 = 1 from rfl] at hw1369_0); (try simp only [Nat.reduceMul, Nat.reduceEqDiff, Go.Addr.add, ↓reduceIte] at hw1369_0); obtain rfl : ad1368 = ad1369 := (by injection e1369); (try simp only [show (1 : Int).toNat = 1 from rfl, Nat.reduceMul, Nat.reduceEqDiff, Go.Addr.add, ↓reduceIte] at hx1369_0); have qi1369 : (1 < ((rd_T48 l0 x11_1).f2).length) = True := eq_true (by omega); (try rw [show ((1 : Int)).toNat = 1 from rfl] at hx1369_0); replace hx1369_0 := (HB.out.cell (World.block_lt_of_cell? w _ hx1369_0)).trans hx1369_0; replace p1369 := eq_true p1369; replace q1369 := eq_true q1369; refine start_ (n := 16) (S := fun w' => w'.cell? ⟨gb1360, 0, none⟩ = some (.string ((rd_T48 l0 x11_1).f0)) ∧ w'.cell? ⟨gb1360, 1, none⟩ = some (.slice A1359_1 ((rd_T48 l0 x11_1).f1).length c1359_1) ∧ w'.cell? ⟨gb1360, 2, none⟩ = some (.slice (some ad1368) ((rd_T48 l0 x11_1).f2).length c1359_2) ∧ w'.cell? ad1368 = some (.string (rdOf ByteArray.empty ((rd_T48 l0 x11_1).f2) 0)) ∧ w'.cell? ⟨ad1368.block, ad1368.off + 1, none⟩ = some (.string (rdOf ByteArray.empty ((rd_T48 l0 x11_1).f2) 1))) (ds := []) (R.tf 0 16) (by kernel_rfl) rfl rfl ⟨(blk_cell BK1360.out 0).trans rfl, (blk_cell BK1360.out 1).trans rfl, (blk_cell BK1360.out 2).trans rfl, ((HB.out.cell (World.block_lt_of_cell? w _ hw1368_0)).trans hw1368_0), ((HB.out.cell (World.block_lt_of_cell? w _ hw1369_0)).trans hw1369_0)⟩ (fun hHeld => ?_); refine with_tabW spec_BuddyinfoPrint.tab7 spec_BuddyinfoPrint.bits7 (fun HT_ HW_ => ?_); generalize wc.drew = w44 at BK1360 HB hx1368_0 hx1369_0 hHeld ⊢; refine R.pv (i := 0) (N := some 64) (v := ?_) (a' := ?_) (R.tf 1 15) rfl rfl (R.ao HT_.out) ?_ ?_ ?_; rotate_left
                           · intro w'; go_simp; with_reducible rfl
                           rotate_left
                           · simp only [Act.put, R.sa, R.sb, R.sc, i64_w, i32_w]; rfl
                           refine R.pv (i := 1) (N := some 65) (v := ?_) (a' := ?_) (R.tf 2 14) rfl rfl (R.ao HT_.out) ?_ ?_ ?_; rotate_left
                           · intro w'; go_simp; with_reducible rfl
                           rotate_left
                           · simp only [Act.put, R.sa, R.sb, R.sc, i64_w, i32_w]; rfl
                           refine R.pv (i := 7) (N := some 71) (v := ?_) (a' := ?_) #[true, true, false, false, false, false, false, true, false, false, false, false, false, false, false, false] rfl rfl (R.ao HT_.out) ?_ ?_ ?_; rotate_left
                           · intro w'; go_simp; with_reducible rfl
                           rotate_left
                           · simp only [Act.put, R.sa, R.sb, R.sc, i64_w, i32_w]; rfl
                           refine take_ (i := 2) (N := some 66) (v := ?_) (a' := ?_) #[true, true, true, false, false, false, false, true, false, false, false, false, false, false, false, false] rfl rfl (take_ofW HT_.out HW_.out (by kernel_rfl)) (fun _ _ _ h => h) (Or.inl ⟨by rfl, ?_⟩) hHeld ?_ ?_; rotate_left
                           · rintro w' ⟨s0, s1, s2, s3, s4⟩; go_simp; with_reducible rfl
                           rotate_left
                           · simp only [Act.put, R.sa, R.sb, R.sc, i64_w, i32_w]; rfl
                           refine R.pv (i := 3) (N := some 67) (v := ?_) (a' := ?_) #[true, true, true, true, false, false, false, true, false, false, false, false, false, false, false, false] rfl rfl (R.ao HT_.out) ?_ ?_ ?_; rotate_left
                           · intro w'; go_simp; with_reducible rfl
                           rotate_left
                           · simp only [Act.put, R.sa, R.sb, R.sc, i64_w, i32_w]; rfl
                           refine take_ (i := 4) (N := some 68) (v := ?_) (a' := ?_) #[true, true, true, true, true, false, false, true, false, false, false, false, false, false, false, false] rfl rfl (take_ofW HT_.out HW_.out (by kernel_rfl)) (fun _ _ _ h => h) (Or.inl ⟨by rfl, ?_⟩) hHeld ?_ ?_; rotate_left
                           · rintro w' ⟨s0, s1, s2, s3, s4⟩; go_simp; with_reducible rfl
                           rotate_left
                           · simp only [Act.put, R.sa, R.sb, R.sc, i64_w, i32_w]; rfl
                           refine R.pv (i := 5) (N := some 69) (v := ?_) (a' := ?_) #[true, true, true, true, true, true, false, true, false, false, false, false, false, false, false, false] rfl rfl (R.ao HT_.out) ?_ ?_ ?_; rotate_left
                           · intro w'; go_simp; with_reducible rfl
                           rotate_left
                           · simp only [Act.put, R.sa, R.sb, R.sc, i64_w, i32_w]; rfl
                           refine R.pv (i := 6) (N := some 70) (v := ?_) (a' := ?_) (R.tf 8 8) rfl rfl (R.ao HT_.out) ?_ ?_ ?_; rotate_left
                           · intro w'; go_simp; with_reducible rfl
                           rotate_left
                           · simp only [Act.put, R.sa, R.sb, R.sc, i64_w, i32_w]; rfl
                           refine take_ (i := 8) (N := some 72) (v := ?_) (a' := ?_) (R.tf 9 7) rfl rfl (take_ofW HT_.out HW_.out (by kernel_rfl)) (fun _ _ _ h => h) (Or.inl ⟨by rfl, ?_⟩) hHeld ?_ ?_; rotate_left
                           · rintro w' ⟨s0, s1, s2, s3, s4⟩; go_simp; with_reducible rfl
                           rotate_left
                           · simp only [Act.put, R.sa, R.sb, R.sc, i64_w, i32_w]; rfl
                           refine R.pv (i := 9) (N := some 73) (v := ?_) (a' := ?_) (R.tf 10 6) rfl rfl (R.ao HT_.out) ?_ ?_ ?_; rotate_left
                           · intro w'; go_simp; with_reducible rfl
                           rotate_left
                           · simp only [Act.put, R.sa, R.sb, R.sc, i64_w, i32_w]; rfl
                           refine take_ (i := 10) (N := some 74) (v := ?_) (a' := ?_) (R.tf 11 5) rfl rfl (take_ofW HT_.out HW_.out (by kernel_rfl)) (fun _ _ _ h => h) (Or.inl ⟨by rfl, ?_⟩) hHeld ?_ ?_; rotate_left
                           · rintro w' ⟨s0, s1, s2, s3, s4⟩; go_simp; with_reducible rfl
                           rotate_left
                           · simp only [Act.put, R.sa, R.sb, R.sc, i64_w, i32_w]; rfl
                           refine one_ (i := 11) (N := some 75) (R.tf 12 4) rfl rfl (R.oo HT_.out) (by decide) (fun K hK => ?_); refine goes_ Tryz.func108 (by kernel_rfl) rfl #[.string (rdOf ByteArray.empty ((rd_T48 l0 x11_1).f2) 1), .int .i64 8] (by rfl) rfl rfl R.tp ?_; with_reducible refine (spec_Right.calls kj4 (rdOf ByteArray.empty ((rd_T48 l0 x11_1).f2) 1) 8 t1370 _ A40.out).mono ?_
                           rintro e w' ⟨rfl, ⟨nd, rfl⟩⟩; refine ⟨_, rfl, ?_⟩; refine hK.out _ _ ⟨(blk_cell BK1360.out 0).trans rfl, (blk_cell BK1360.out 1).trans rfl, (blk_cell BK1360.out 2).trans rfl, ((HB.out.cell (World.block_lt_of_cell? w _ hw1368_0)).trans hw1368_0), ((HB.out.cell (World.block_lt_of_cell? w _ hw1369_0)).trans hw1369_0)⟩ (fun hHeld => ?_); clear hK K; refine norm_ (a' := ?_) ?_ ?_; rotate_left
                           · show Act.put _ (some 75) _ = _
                             simp only [Act.put, R.sa, R.sb, R.sc, i64_w, i32_w]; rfl
                           refine R.pv (i := 12) (N := some 76) (v := ?_) (a' := ?_) (R.tf 13 3) rfl rfl (R.ao HT_.out) ?_ ?_ ?_; rotate_left
                           · intro w'; go_simp; with_reducible rfl
                           rotate_left
                           · simp only [Act.put, R.sa, R.sb, R.sc, i64_w, i32_w]; rfl
                           refine R.pv (i := 13) (N := some 77) (v := ?_) (a' := ?_) (R.tf 14 2) rfl rfl (R.ao HT_.out) ?_ ?_ ?_; rotate_left
                           · intro w'; go_simp; with_reducible rfl
                           rotate_left
                           · simp only [Act.put, R.sa, R.sb, R.sc, i64_w, i32_w]; rfl
                           refine R.pv (i := 14) (N := some 78) (v := ?_) (a' := ?_) (R.tf 15 1) rfl rfl (R.ao HT_.out) ?_ ?_ ?_; rotate_left
                           · intro w'; go_simp; with_reducible rfl
                           rotate_left
                           · simp only [Act.put, R.sa, R.sb, R.sc, i64_w, i32_w]; rfl
                           refine R.pv (i := 15) (N := some 4) (v := ?_) (a' := ?_) (R.tf 16 0) rfl rfl (R.ao HT_.out) ?_ ?_ ?_; rotate_left
                           · intro w'; go_simp; with_reducible rfl
                           rotate_left
                           · simp only [Act.put, R.sa, R.sb, R.sc, i64_w, i32_w]; rfl
                           refine done_ (R.dn HT_.out) ?_; have hcz45_0 : w44.cell? ⟨gb1360, 0, none⟩ = some (.string ((rd_T48 l0 x11_1).f0)) := (blk_cell BK1360.out 0).trans rfl; have hcz45_1 : w44.cell? ⟨gb1360, 1, none⟩ = some (.slice A1359_1 ((rd_T48 l0 x11_1).f1).length c1359_1) := (blk_cell BK1360.out 1).trans rfl; have hcz45_2 : w44.cell? ⟨gb1360, 2, none⟩ = some (.slice (some ad1368) ((rd_T48 l0 x11_1).f2).length c1359_2) := (blk_cell BK1360.out 2).trans rfl; have hfz45_0 := blk_frozen BK1360.out 0; have hfz45_1 := blk_frozen BK1360.out 1; have hfz45_2 := blk_frozen BK1360.out 2; try go_wp2
                           go_loopg [4, 82] kj4 (fun kq v4 v82 w' => ∃ (x4_3 : ByteArray) (x82_3 : Int), v4 = .string x4_3 ∧ v82 = .int .i64 x82_3 ∧ Aside0 (spec_BuddyinfoPrint.l1 kq l0 x4_3 l0 (l0.length : Int) x11_1 ((rd_T48 l0 x11_1).f1) (((rd_T48 l0 x11_1).f1).length : Int) x82_3 = some (r1, r2)) ∧ Aside0 (kq ≤ kj4) ∧ Aside0 (w'.heap[gb1360]? = some (.cells #[.string ((rd_T48 l0 x11_1).f0), (.slice A1359_1 ((rd_T48 l0 x11_1).f1).length c1359_1), (.slice (some ad1368) ((rd_T48 l0 x11_1).f2).length c1359_2)] 48 (0, 0))) ∧ Aside0 (Below w.heap.size w w'))
                           case atStart => exact ⟨(x4_1 ++ (((((⟨#[78, 111, 100, 101, 32]⟩ : ByteArray) ++ (rdOf ByteArray.empty ((rd_T48 l0 x11_1).f2) 0)) ++ (⟨#[44, 32, 122, 111, 110, 101, 32]⟩ : ByteArray)) ++ t1370) ++ (⟨#[32]⟩ : ByteArray))), (0), R.rs, R.rs, H', ⟨Nat.le_refl _⟩, ⟨by (with_reducible repeat (first | refine blk_drewN ?_ _ | refine blk_drew ?_ | refine blk_alloc ?_ _)); exact BK1360.out⟩, ⟨by repeat (first | (with_reducible first | exact HB.out | apply below_alloc | apply pw_below_drewN | apply below_drew1 | refine below_set ?_ GE1360.out) | exact HB.out)⟩⟩
                           case round =>
                            clear H'; try clear c1
                            try clear p1
                            try clear q1
                            try clear hx1
                            try clear qi1
                            try clear p2
                            try clear c3
                            try clear c4
                            try clear c8
                            try clear c8b0
                            try clear c8b1
                            try clear c10
                            try clear c13
                            try clear p13
                            try clear q13
                            try clear hx13
                            try clear qi13
                            try clear c35
                            try clear c36
                            try clear c36b0
                            try clear c36b1
                            try clear c37
                            try clear c37b0
                            try clear c37b1
                            try clear c37b2
                            try clear c38
                            try clear c38b0
                            try clear c38b1
                            try clear c38b2
                            try clear c39
                            try clear c39b0
                            try clear c39b1
                            try clear c41
                            try clear c41b0
                            try clear c41b1
                            try clear c41b2
                            try clear c42
                            try clear c42b0
                            try clear c42b1
                            try clear c42b2
                            try clear c43
                            try clear c43b0
                            try clear c43b1
                            try clear c43b2
                            try clear hcz45_0
                            try clear hcz45_1
                            try clear hcz45_2
                            try clear hfz45_0
                            try clear hfz45_1
                            try clear hfz45_2
                            try clear hx1368_0
                            try clear hx1369_0
                            try clear p1368
                            try clear p1369
                            try clear p2
                            try clear q1368
                            try clear q1369
                            obtain ⟨x4_3, x82_3, rfl, rfl, HA, HK3, BK1360, HB⟩ := hrel; cases gk with
                            | zero => exact absurd HA.out (by simp [spec_BuddyinfoPrint.l1])
                            | succ k3 =>
                             have H := HA.out; clear HA; simp only [spec_BuddyinfoPrint.l1] at H
                             by_cases c46 : x82_3 < (((rd_T48 l0 x11_1).f1).length : Int)
                             · rw [if_pos c46] at H; have c46b0 : decide (x82_3 < (((rd_T48 l0 x11_1).f1).length : Int)) = true := decide_eq_true c46; clear c46
                               by_cases c47 : 0 ≤ x82_3
                               · rw [if_pos c47] at H; have c47b0 : decide (0 ≤ x82_3) = true := decide_eq_true c47; clear c47
                                 by_cases c48 : x82_3 < (((rd_T48 l0 x11_1).f1).length : Int)
                                 · rw [if_pos c48] at H; have c48b0 : decide (x82_3 < (((rd_T48 l0 x11_1).f1).length : Int)) = true := decide_eq_true c48; clear c48; replace H := Option.bind_eq_some_iff.mp H; obtain ⟨t1372, A490, H⟩ := H; (try dsimp only at H); have A49 := Aside0.mk A490; clear A490; replace H := Option.bind_eq_some_iff.mp H; obtain ⟨t1373, A500, H⟩ := H; (try dsimp only at H); have A50 := Aside0.mk A500; clear A500
                                   by_cases c51 : t1373.size + 1 ≤ 9223372036854775807
                                   · rw [if_pos c51] at H; have c51b0 := eq_true c51; have c51b1 : decide (t1373.size + 1 ≤ 9223372036854775807) = true := decide_eq_true c51; try have c51b2 : (9223372036854775807 < t1373.size + 1) = False := eq_false (Nat.not_lt.2 c51)
                                     by_cases c52 : x4_3.size + (t1373 ++ (⟨#[32]⟩ : ByteArray)).size ≤ 9223372036854775807
                                     · rw [if_pos c52] at H; have c52b0 := eq_true c52; have c52b1 : decide (x4_3.size + (t1373 ++ (⟨#[32]⟩ : ByteArray)).size ≤ 9223372036854775807) = true := decide_eq_true c52; try have c52b2 : (9223372036854775807 < x4_3.size + (t1373 ++ (⟨#[32]⟩ : ByteArray)).size) = False := eq_false (Nat.not_lt.2 c52)
                                       have c52b3 : (9223372036854775807 < x4_3.size + (t1373.size + 1)) = False := by have h_ := c52b2; simp only [ByteArray.size_append] at h_; exact h_
                                       have H' := Aside0.mk H; clear H; have p1371 : 0 ≤ (x82_3 : Int) := R.od; have q1371 : x82_3 < (((rd_T48 l0 x11_1).f1).length : Int) := R.od; obtain ⟨ad1371, e1371, hx1371_0⟩ := Kd.at_int HR1359_1.out x82_3 p1371 q1371; cases e1371; replace hx1371_0 := (HB.out.cell (World.block_lt_of_cell? w _ hx1371_0)).trans hx1371_0; replace p1371 := eq_true p1371; replace q1371 := eq_true q1371
                                       go_wp2_with (first | ((with_reducible refine gate_callee (f := 86) rfl ?_); refine goesL_ (some 88) rfl rfl Tryz.func86 (by kernel_rfl) rfl #[.int .u64 (rd ((rd_T48 l0 x11_1).f1) x82_3)] rfl R.tp ?_; (with_reducible refine (spec_Text.calls k3 (rd ((rd_T48 l0 x11_1).f1) x82_3) t1372 _ A49.out).mono ?_); rintro e w53 ⟨rfl, hb⟩; refine ⟨_, rfl, ?_⟩; have n0_ := Aside0.mk (blk_below (g := gb1360) (o := .cells #[.string ((rd_T48 l0 x11_1).f0), .slice (some ad1371) ((rd_T48 l0 x11_1).f1).length c1359_1, .slice (some ad1368) ((rd_T48 l0 x11_1).f2).length c1359_2] 48 (0, 0)) (R.bl BK1360.out) hb); have n1_ := Aside0.mk (below_step (R.hc1 HB.out GE1360.out) hb); clear BK1360; clear HB; have BK1360 := n0_; have HB := n1_; clear n0_ n1_; (try clear hb); (try clear hb2); (try clear hk); (try clear hi)) | ((with_reducible refine gate_callee (f := 108) rfl ?_); refine goesL_ (some 89) rfl rfl Tryz.func108 (by kernel_rfl) rfl #[.string t1372, .int .i64 6] rfl R.tp ?_; (with_reducible refine (spec_Right.calls k3 t1372 6 t1373 _ A50.out).mono ?_); rintro e w' ⟨rfl, ⟨nd, rfl⟩⟩; refine ⟨_, rfl, ?_⟩))
                                       go_roundg k3
                                       case measure => have := HK1.out; have := HJ4.out; have := HK3.out; omega
                                       case rel => exact ⟨(x4_3 ++ (t1373 ++ (⟨#[32]⟩ : ByteArray))), (wrap64 (x82_3 + 1)), R.rs, R.rs, H', ⟨by have := HK1.out; have := HJ4.out; have := HK3.out; omega⟩, ⟨by (with_reducible repeat (first | refine blk_drewN ?_ _ | refine blk_drew ?_ | refine blk_alloc ?_ _)); exact BK1360.out⟩, ⟨by repeat (first | (with_reducible first | exact HB.out | apply below_alloc | apply pw_below_drewN | apply below_drew1 | refine below_set ?_ GE1360.out) | exact HB.out)⟩⟩
                                     · rw [if_neg c52] at H; exact absurd H (by simp)
                                   · rw [if_neg c51] at H; exact absurd H (by simp)
                                 · rw [if_neg c48] at H; exact absurd H (by simp)
                               · rw [if_neg c47] at H; exact absurd H (by simp)
                             · rw [if_neg c46] at H; have c46b0 : decide (x82_3 < (((rd_T48 l0 x11_1).f1).length : Int)) = false := decide_eq_false c46; clear c46
                               by_cases c54 : x4_3.size + 1 ≤ 9223372036854775807
                               · rw [if_pos c54] at H; have c54b0 := eq_true c54; have c54b1 : decide (x4_3.size + 1 ≤ 9223372036854775807) = true := decide_eq_true c54; try have c54b2 : (9223372036854775807 < x4_3.size + 1) = False := eq_false (Nat.not_lt.2 c54)
                                 have H' := Aside0.mk H; clear H; go_wp2
                                 go_roundg k3
                                 case measure => have := HK1.out; have := HJ4.out; have := HK3.out; omega
                                 case rel => exact ⟨(x4_3 ++ (⟨#[10]⟩ : ByteArray)), (wrap64 (x11_1 + 1)), R.rs, R.rs, H', ⟨by have := HK1.out; have := HJ4.out; have := HK3.out; omega⟩, ⟨by repeat (first | (with_reducible first | exact HB.out | apply below_alloc | apply pw_below_drewN | apply below_drew1 | refine below_set ?_ GE1360.out) | exact HB.out)⟩⟩
                               · rw [if_neg c54] at H; exact absurd H (by simp)
                         · rw [if_neg c43] at H; exact absurd H (by simp)
                       · rw [if_neg c42] at H; exact absurd H (by simp)
                     · rw [if_neg c41] at H; exact absurd H (by simp)
                   · rw [if_neg c39] at H; exact absurd H (by simp)
                 · rw [if_neg c38] at H; exact absurd H (by simp)
               · rw [if_neg c37] at H; exact absurd H (by simp)
             · rw [if_neg c36] at H; exact absurd H (by simp)
       · rw [if_neg c4] at H; exact absurd H (by simp)
     · rw [if_neg c3] at H; exact absurd H (by simp)
   · rw [if_neg c2] at H; have c2b0 : decide (x11_1 < (l0.length : Int)) = false := decide_eq_false c2; clear c2; simp only [Option.some.injEq, Prod.mk.injEq] at H; obtain ⟨rfl, rfl⟩ := H; go_wp2; go_ret2; exact ⟨by first | rfl | (simp [errW_none, errW_some] <;> rfl) | (simp [*, errW_none, errW_some] <;> rfl), by repeat (first | (with_reducible first | exact HB.out | apply below_alloc | apply pw_below_drewN | apply below_drew1) | exact HB.out)⟩
end Go.Proofs.YtabfehcpcjcomaaGreatDoor.QA0
namespace Go.Proofs.YtabfehcpcjcomaaGreatDoor.QA0
open Go.RowKit Go.Proofs.YtabfehcpcjcomaaGreatDoorW.PrintWords Go.Proofs.YtabfehcpcjcomaaGreatDoorW.PrintLast Go.Proofs.YtabfehcpcjcomaaGreatDoorW.PrintMore
attribute [local go_sem] max2_int min2_int max_two min_two max_three min_three max_four min_four
set_option linter.unusedVariables false
set_option linter.unusedSimpArgs false
def spec_meant_49.j0 : Nat → ByteArray → List (S48) → Bool → Bool → Option ((List (S48)) × Bool × Int)
 | 0, _, _, _, _ => none
 | k + 1, x0, x1, x4, x21 => if x21 = true then (some (([] : List (S48)), false, 2)) else ((spec_BuddyinfoPrint.f k x1).bind fun bt1375 => (if bt1375.2 = 1 then (if bt1375.1.toList = x0.toList then (some (x1, true, 1)) else (if x4 = true then ((spec_loose.f k bt1375.1 x0).bind fun t1377 => (if t1377 = true then ((spec_leads.f k x0).bind fun t1378 => (if t1378 = true then (some (x1, true, 1)) else (some (([] : List (S48)), false, 2)))) else (some (([] : List (S48)), false, 2)))) else (some (([] : List (S48)), false, 2)))) else (some (([] : List (S48)), false, 2))))
def spec_meant_49.f (k : Nat) (a0 : ByteArray) (l1 : List (S48)) (a2 : Bool) (a3 : Unit) (a4 : Bool) : Option ((List (S48)) × Bool × Int) := if a2 = true then ((spec_Plain.f k a0).bind fun t1374 => (spec_meant_49.j0 k a0 l1 a4 (!t1374))) else (spec_meant_49.j0 k a0 l1 a4 true)
set_option maxHeartbeats 8000000 in
set_option maxRecDepth 100000 in
theorem spec_meant_49.calls (k : Nat) (a0 : ByteArray) (P1_ : Nat → Prop) (A1 : Option Addr) (c1 : Nat) (l1 : List (S48)) (a2 : Bool) (a3 : Unit) (a4 : Bool) (r1 : List (S48)) (r2 : Bool) (r3 : Int) (w : World) (hs1 : Kd.V k48 48 w w.heap.size (fun k_ => P1_ k_) (.slice A1 l1.length c1) l1) (h : spec_meant_49.f k a0 l1 a2 a3 a4 = some (r1, r2, r3)) :
 Calls Tryz.prog 36 #[.string a0, .slice A1 l1.length c1, .bool a2, .func (.func 49) #[] #[], .bool a4] w fun e w' => ∃ v0_ : Value, e = .returned (.tuple #[v0_, .bool r2, .int .i64 r3]) ∧ Kd.V k48 48 w' w.heap.size (fun k_ => (P1_ k_ ∨ w.heap.size ≤ k_)) v0_ r1 ∧ Below w.heap.size w w' := by
 have HO1 := Aside0.mk (show Kd.V k48 48 w w.heap.size (fun k_ => (P1_ k_ ∨ w.heap.size ≤ k_)) (.slice A1 l1.length c1) l1 from Kd.V_mono hs1 (fun k_ hk => .inl hk)); have HB := Aside0.mk (Below.refl w.heap.size w); have H : (if a2 = true then ((spec_Plain.f k a0).bind fun t1374 => (spec_meant_49.j0 k a0 l1 a4 (!t1374))) else (spec_meant_49.j0 k a0 l1 a4 true)) = some (r1, r2, r3) := h; clear h; have HC6 := Aside0.mk H; clear H
 go_enter Tryz.func36, Tryz.ntmps36
 go_upto_region 1 with (fail)
 go_cut [21] (fun v21 wc => ∃ (kq : Nat) (x21_5 : Bool), v21 = .bool x21_5 ∧ Aside0 (spec_meant_49.j0 kq a0 l1 a4 x21_5 = some (r1, r2, r3)) ∧ Aside0 (kq ≤ k) ∧ Aside0 (Kd.V k48 48 wc w.heap.size (fun k_ => (P1_ k_ ∨ w.heap.size ≤ k_)) (.slice A1 l1.length c1) l1) ∧ Aside0 (Below w.heap.size w wc))
 case first =>
  have H := HC6.out; clear HC6
  by_cases c7 : a2 = true
  · subst c7
    have H1 : ((spec_Plain.f k a0).bind fun t1374 => (spec_meant_49.j0 k a0 l1 a4 (!t1374))) = some (r1, r2, r3) := by rw [if_pos rfl] at H; exact H
    clear H; have H := H1; clear H1; replace H := Option.bind_eq_some_iff.mp H; obtain ⟨t1374, A80, H⟩ := H; replace H : (spec_meant_49.j0 k a0 l1 a4 (!t1374)) = some (r1, r2, r3) := H; have A8 := Aside0.mk A80; clear A80; have H' := Aside0.mk H; clear H
    go_wp2_with (first | (go_at_call 66; (with_reducible refine (spec_Plain.calls k a0 t1374 _ A8.out).mono ?_); rintro e w' ⟨rfl, ⟨nd, rfl⟩⟩))
    go_meet
    case rel => exact ⟨_, (!t1374), R.rs, H', ⟨by first | omega | exact Nat.le_refl _⟩, ⟨by (with_reducible repeat (first | apply Kd.V_alloc | apply Kd.V_drewN | apply Kd.V_drew)); exact HO1.out⟩, ⟨by repeat (first | (with_reducible first | exact HB.out | apply below_alloc | apply pw_below_drewN | apply below_drew1) | exact HB.out)⟩⟩
  · replace c7 := Bool.eq_false_iff.mpr c7; subst c7
    have H1 : (spec_meant_49.j0 k a0 l1 a4 true) = some (r1, r2, r3) := by rw [if_neg (show ¬ (false = true) by decide)] at H; exact H
    clear H; have H := H1; clear H1; have H' := Aside0.mk H; clear H; go_wp2
    go_meet
    case rel => exact ⟨_, (true), R.rs, H', ⟨by first | omega | exact Nat.le_refl _⟩, ⟨by (with_reducible repeat (first | apply Kd.V_alloc | apply Kd.V_drewN | apply Kd.V_drew)); exact HO1.out⟩, ⟨by repeat (first | (with_reducible first | exact HB.out | apply below_alloc | apply pw_below_drewN | apply below_drew1) | exact HB.out)⟩⟩
 case rest =>
  clear HC6; try clear c1
  try clear p2
  try clear c7
  obtain ⟨kq, x21_5, rfl, HA, HJ5, HO_1, HB⟩ := hcut; cases kq with
  | zero => exact absurd HA.out (by simp [spec_meant_49.j0])
  | succ kj5 =>
   have H := HA.out; clear HA; simp only [spec_meant_49.j0] at H
   by_cases c9 : x21_5 = true
   · subst c9
     have H1 : (some (([] : List (S48)), false, 2)) = some (r1, r2, r3) := by rw [if_pos rfl] at H; exact H
     clear H; have H := H1; clear H1; simp only [Option.some.injEq, Prod.mk.injEq] at H; obtain ⟨rfl, rfl, rfl⟩ := H; go_wp2; go_ret3; exact ⟨_, by first | rfl | (simp [errW_none, errW_some] <;> rfl) | (simp [*, errW_none, errW_some] <;> rfl), (by first | exact Kd.V_nil _ _ _ _ _ | exact Kd.V_mono (Kd.S_V (by first | exact Kd.S_nil _ _ _ _ _ | exact Kd.N_nil _ _ _ _ _ | exact Kd.V_nil _ _ _ _ _ | exact Kd.Q_nil _ _ _ _ _ | exact Kd.R_nil _ _ _ _ _)) (fun k_ hk => by first | exact ⟨(.inr (hk.1)), hk.2⟩ | exact (.inr (hk)))), by repeat (first | (with_reducible first | exact HB.out | apply below_alloc | apply pw_below_drewN | apply below_drew1) | exact HB.out)⟩
   · replace c9 := Bool.eq_false_iff.mpr c9; subst c9
     have H1 : ((spec_BuddyinfoPrint.f kj5 l1).bind fun bt1375 => (if bt1375.2 = 1 then (if bt1375.1.toList = a0.toList then (some (l1, true, 1)) else (if a4 = true then ((spec_loose.f kj5 bt1375.1 a0).bind fun t1377 => (if t1377 = true then ((spec_leads.f kj5 a0).bind fun t1378 => (if t1378 = true then (some (l1, true, 1)) else (some (([] : List (S48)), false, 2)))) else (some (([] : List (S48)), false, 2)))) else (some (([] : List (S48)), false, 2)))) else (some (([] : List (S48)), false, 2)))) = some (r1, r2, r3) := by rw [if_neg (show ¬ (false = true) by decide)] at H; exact H
     clear H; have H := H1; clear H1; replace H := Option.bind_eq_some_iff.mp H; obtain ⟨⟨t1375, t1376⟩, A100, H⟩ := H; replace H : (if t1376 = 1 then (if t1375.toList = a0.toList then (some (l1, true, 1)) else (if a4 = true then ((spec_loose.f kj5 t1375 a0).bind fun t1377 => (if t1377 = true then ((spec_leads.f kj5 a0).bind fun t1378 => (if t1378 = true then (some (l1, true, 1)) else (some (([] : List (S48)), false, 2)))) else (some (([] : List (S48)), false, 2)))) else (some (([] : List (S48)), false, 2)))) else (some (([] : List (S48)), false, 2))) = some (r1, r2, r3) := H; have A10 := Aside0.mk A100; clear A100
     by_cases c11 : t1376 = 1
     · rw [if_pos c11] at H; have c11b0 : (t1376 == 1) = true := beq_iff_eq.mpr c11; have c11b1 : (t1376 != 1) = false := bne_eq_false_iff_eq.mpr c11; clear c11
       by_cases c12 : t1375.toList = a0.toList
       · rw [if_pos c12] at H; have c12b0 : (t1375.toList == a0.toList) = true := beq_iff_eq.mpr c12; have c12b1 : (t1375.toList != a0.toList) = false := bne_eq_false_iff_eq.mpr c12; clear c12; simp only [Option.some.injEq, Prod.mk.injEq] at H; obtain ⟨rfl, rfl, rfl⟩ := H
         go_wp2_with (first | (go_at_call 49; (with_reducible refine (spec_BuddyinfoPrint.calls kj5 _ _ l1 t1375 t1376 _ ?side1 ?side2 A10.out).mono ?_); (case side1 => repeat (first | exact (Kd.V_reads' HO_1.out).2.2 | (with_reducible refine Kd.C_alloc ?_ _) | (with_reducible refine Kd.C_drewN ?_ _) | (with_reducible refine Kd.C_drew ?_))); (case side2 => exact (Kd.V_reads' HO_1.out).2.1); rintro e w13 ⟨rfl, hb⟩; have n0_ := Aside0.mk (Kd.V_below (R.lv HO_1.out) hb); have n1_ := Aside0.mk (below_step (R.hb HB.out) hb); clear HO_1; clear HB; have HO_1 := n0_; have HB := n1_; clear n0_ n1_; (try clear hb); (try clear hb2); (try clear hk); (try clear hi)))
         go_ret3; exact ⟨_, by first | rfl | (simp [errW_none, errW_some] <;> rfl) | (simp [*, errW_none, errW_some] <;> rfl), by (with_reducible repeat (first | apply Kd.V_alloc | apply Kd.V_drewN | apply Kd.V_drew)); exact HO_1.out, by repeat (first | (with_reducible first | exact HB.out | apply below_alloc | apply pw_below_drewN | apply below_drew1) | exact HB.out)⟩
       · rw [if_neg c12] at H; have c12b0 : (t1375.toList == a0.toList) = false := beq_eq_false_iff_ne.mpr c12; have c12b1 : (t1375.toList != a0.toList) = true := bne_iff_ne.mpr c12
         by_cases c14 : a4 = true
         · subst c14; rw [if_pos rfl] at H; have H1 := H; clear H; have H := H1; clear H1; replace H := Option.bind_eq_some_iff.mp H; obtain ⟨t1377, A150, H⟩ := H; (try dsimp only at H); have A15 := Aside0.mk A150; clear A150
           by_cases c16 : t1377 = true
           · subst c16; rw [if_pos rfl] at H; have H1 := H; clear H; have H := H1; clear H1; replace H := Option.bind_eq_some_iff.mp H; obtain ⟨t1378, A170, H⟩ := H; replace H : (if t1378 = true then (some (l1, true, 1)) else (some (([] : List (S48)), false, 2))) = some (r1, r2, r3) := H; have A17 := Aside0.mk A170; clear A170
             by_cases c18 : t1378 = true
             · subst c18
               have H1 : (some (l1, true, 1)) = some (r1, r2, r3) := by rw [if_pos rfl] at H; exact H
               clear H; have H := H1; clear H1; simp only [Option.some.injEq, Prod.mk.injEq] at H; obtain ⟨rfl, rfl, rfl⟩ := H
               go_wp2_with (first | (go_at_call 49; (with_reducible refine (spec_BuddyinfoPrint.calls kj5 _ _ l1 t1375 t1376 _ ?side1 ?side2 A10.out).mono ?_); (case side1 => repeat (first | exact (Kd.V_reads' HO_1.out).2.2 | (with_reducible refine Kd.C_alloc ?_ _) | (with_reducible refine Kd.C_drewN ?_ _) | (with_reducible refine Kd.C_drew ?_))); (case side2 => exact (Kd.V_reads' HO_1.out).2.1); rintro e w19 ⟨rfl, hb⟩; have n0_ := Aside0.mk (Kd.V_below (R.lv HO_1.out) hb); have n1_ := Aside0.mk (below_step (R.hb HB.out) hb); clear HO_1; clear HB; have HO_1 := n0_; have HB := n1_; clear n0_ n1_; (try clear hb); (try clear hb2); (try clear hk); (try clear hi)) | (go_at_call 98; (with_reducible refine (spec_loose.calls kj5 t1375 a0 true _ A15.out).mono ?_); rintro e w20 ⟨rfl, hb⟩; have n0_ := Aside0.mk (Kd.V_below (R.lv HO_1.out) hb); have n1_ := Aside0.mk (below_step (R.hb HB.out) hb); clear HO_1; clear HB; have HO_1 := n0_; have HB := n1_; clear n0_ n1_; (try clear hb); (try clear hb2); (try clear hk); (try clear hi)) | (go_at_call 99; (with_reducible refine (spec_leads.calls kj5 a0 true _ A17.out).mono ?_); rintro e w21 ⟨rfl, hb⟩; have n0_ := Aside0.mk (Kd.V_below (R.lv HO_1.out) hb); have n1_ := Aside0.mk (below_step (R.hb HB.out) hb); clear HO_1; clear HB; have HO_1 := n0_; have HB := n1_; clear n0_ n1_; (try clear hb); (try clear hb2); (try clear hk); (try clear hi)))
               go_ret3; exact ⟨_, by first | rfl | (simp [errW_none, errW_some] <;> rfl) | (simp [*, errW_none, errW_some] <;> rfl), by (with_reducible repeat (first | apply Kd.V_alloc | apply Kd.V_drewN | apply Kd.V_drew)); exact HO_1.out, by repeat (first | (with_reducible first | exact HB.out | apply below_alloc | apply pw_below_drewN | apply below_drew1) | exact HB.out)⟩
             · replace c18 := Bool.eq_false_iff.mpr c18; subst c18
               have H1 : (some (([] : List (S48)), false, 2)) = some (r1, r2, r3) := by rw [if_neg (show ¬ (false = true) by decide)] at H; exact H
               clear H; have H := H1; clear H1; simp only [Option.some.injEq, Prod.mk.injEq] at H; obtain ⟨rfl, rfl, rfl⟩ := H
               go_wp2_with (first | (go_at_call 49; (with_reducible refine (spec_BuddyinfoPrint.calls kj5 _ _ l1 t1375 t1376 _ ?side1 ?side2 A10.out).mono ?_); (case side1 => repeat (first | exact (Kd.V_reads' HO_1.out).2.2 | (with_reducible refine Kd.C_alloc ?_ _) | (with_reducible refine Kd.C_drewN ?_ _) | (with_reducible refine Kd.C_drew ?_))); (case side2 => exact (Kd.V_reads' HO_1.out).2.1); rintro e w22 ⟨rfl, hb⟩; have n0_ := Aside0.mk (Kd.V_below (R.lv HO_1.out) hb); have n1_ := Aside0.mk (below_step (R.hb HB.out) hb); clear HO_1; clear HB; have HO_1 := n0_; have HB := n1_; clear n0_ n1_; (try clear hb); (try clear hb2); (try clear hk); (try clear hi)) | (go_at_call 98; (with_reducible refine (spec_loose.calls kj5 t1375 a0 true _ A15.out).mono ?_); rintro e w23 ⟨rfl, hb⟩; have n0_ := Aside0.mk (Kd.V_below (R.lv HO_1.out) hb); have n1_ := Aside0.mk (below_step (R.hb HB.out) hb); clear HO_1; clear HB; have HO_1 := n0_; have HB := n1_; clear n0_ n1_; (try clear hb); (try clear hb2); (try clear hk); (try clear hi)) | (go_at_call 99; (with_reducible refine (spec_leads.calls kj5 a0 false _ A17.out).mono ?_); rintro e w24 ⟨rfl, hb⟩; have n0_ := Aside0.mk (Kd.V_below (R.lv HO_1.out) hb); have n1_ := Aside0.mk (below_step (R.hb HB.out) hb); clear HO_1; clear HB; have HO_1 := n0_; have HB := n1_; clear n0_ n1_; (try clear hb); (try clear hb2); (try clear hk); (try clear hi)))
               go_ret3; exact ⟨_, by first | rfl | (simp [errW_none, errW_some] <;> rfl) | (simp [*, errW_none, errW_some] <;> rfl), (by first | exact Kd.V_nil _ _ _ _ _ | exact Kd.V_mono (Kd.S_V (by first | exact Kd.S_nil _ _ _ _ _ | exact Kd.N_nil _ _ _ _ _ | exact Kd.V_nil _ _ _ _ _ | exact Kd.Q_nil _ _ _ _ _ | exact Kd.R_nil _ _ _ _ _)) (fun k_ hk => by first | exact ⟨(.inr (hk.1)), hk.2⟩ | exact (.inr (hk)))), by repeat (first | (with_reducible first | exact HB.out | apply below_alloc | apply pw_below_drewN | apply below_drew1) | exact HB.out)⟩
           · replace c16 := Bool.eq_false_iff.mpr c16; subst c16
             have H1 : (some (([] : List (S48)), false, 2)) = some (r1, r2, r3) := by rw [if_neg (show ¬ (false = true) by decide)] at H; exact H
             clear H; have H := H1; clear H1; simp only [Option.some.injEq, Prod.mk.injEq] at H; obtain ⟨rfl, rfl, rfl⟩ := H
             go_wp2_with (first | (go_at_call 49; (with_reducible refine (spec_BuddyinfoPrint.calls kj5 _ _ l1 t1375 t1376 _ ?side1 ?side2 A10.out).mono ?_); (case side1 => repeat (first | exact (Kd.V_reads' HO_1.out).2.2 | (with_reducible refine Kd.C_alloc ?_ _) | (with_reducible refine Kd.C_drewN ?_ _) | (with_reducible refine Kd.C_drew ?_))); (case side2 => exact (Kd.V_reads' HO_1.out).2.1); rintro e w25 ⟨rfl, hb⟩; have n0_ := Aside0.mk (Kd.V_below (R.lv HO_1.out) hb); have n1_ := Aside0.mk (below_step (R.hb HB.out) hb); clear HO_1; clear HB; have HO_1 := n0_; have HB := n1_; clear n0_ n1_; (try clear hb); (try clear hb2); (try clear hk); (try clear hi)) | (go_at_call 98; (with_reducible refine (spec_loose.calls kj5 t1375 a0 false _ A15.out).mono ?_); rintro e w26 ⟨rfl, hb⟩; have n0_ := Aside0.mk (Kd.V_below (R.lv HO_1.out) hb); have n1_ := Aside0.mk (below_step (R.hb HB.out) hb); clear HO_1; clear HB; have HO_1 := n0_; have HB := n1_; clear n0_ n1_; (try clear hb); (try clear hb2); (try clear hk); (try clear hi)))
             go_ret3; exact ⟨_, by first | rfl | (simp [errW_none, errW_some] <;> rfl) | (simp [*, errW_none, errW_some] <;> rfl), (by first | exact Kd.V_nil _ _ _ _ _ | exact Kd.V_mono (Kd.S_V (by first | exact Kd.S_nil _ _ _ _ _ | exact Kd.N_nil _ _ _ _ _ | exact Kd.V_nil _ _ _ _ _ | exact Kd.Q_nil _ _ _ _ _ | exact Kd.R_nil _ _ _ _ _)) (fun k_ hk => by first | exact ⟨(.inr (hk.1)), hk.2⟩ | exact (.inr (hk)))), by repeat (first | (with_reducible first | exact HB.out | apply below_alloc | apply pw_below_drewN | apply below_drew1) | exact HB.out)⟩
         · replace c14 := Bool.eq_false_iff.mpr c14; subst c14
           have H1 : (some (([] : List (S48)), false, 2)) = some (r1, r2, r3) := by rw [if_neg (show ¬ (false = true) by decide)] at H; exact H
           clear H; have H := H1; clear H1; simp only [Option.some.injEq, Prod.mk.injEq] at H; obtain ⟨rfl, rfl, rfl⟩ := H
           go_wp2_with (first | (go_at_call 49; (with_reducible refine (spec_BuddyinfoPrint.calls kj5 _ _ l1 t1375 t1376 _ ?side1 ?side2 A10.out).mono ?_); (case side1 => repeat (first | exact (Kd.V_reads' HO_1.out).2.2 | (with_reducible refine Kd.C_alloc ?_ _) | (with_reducible refine Kd.C_drewN ?_ _) | (with_reducible refine Kd.C_drew ?_))); (case side2 => exact (Kd.V_reads' HO_1.out).2.1); rintro e w27 ⟨rfl, hb⟩; have n0_ := Aside0.mk (Kd.V_below (R.lv HO_1.out) hb); have n1_ := Aside0.mk (below_step (R.hb HB.out) hb); clear HO_1; clear HB; have HO_1 := n0_; have HB := n1_; clear n0_ n1_; (try clear hb); (try clear hb2); (try clear hk); (try clear hi)))
           go_ret3; exact ⟨_, by first | rfl | (simp [errW_none, errW_some] <;> rfl) | (simp [*, errW_none, errW_some] <;> rfl), (by first | exact Kd.V_nil _ _ _ _ _ | exact Kd.V_mono (Kd.S_V (by first | exact Kd.S_nil _ _ _ _ _ | exact Kd.N_nil _ _ _ _ _ | exact Kd.V_nil _ _ _ _ _ | exact Kd.Q_nil _ _ _ _ _ | exact Kd.R_nil _ _ _ _ _)) (fun k_ hk => by first | exact ⟨(.inr (hk.1)), hk.2⟩ | exact (.inr (hk)))), by repeat (first | (with_reducible first | exact HB.out | apply below_alloc | apply pw_below_drewN | apply below_drew1) | exact HB.out)⟩
     · rw [if_neg c11] at H; have c11b0 : (t1376 == 1) = false := beq_eq_false_iff_ne.mpr c11; have c11b1 : (t1376 != 1) = true := bne_iff_ne.mpr c11; simp only [Option.some.injEq, Prod.mk.injEq] at H; obtain ⟨rfl, rfl, rfl⟩ := H
       go_wp2_with (first | (go_at_call 49; (with_reducible refine (spec_BuddyinfoPrint.calls kj5 _ _ l1 t1375 t1376 _ ?side1 ?side2 A10.out).mono ?_); (case side1 => repeat (first | exact (Kd.V_reads' HO_1.out).2.2 | (with_reducible refine Kd.C_alloc ?_ _) | (with_reducible refine Kd.C_drewN ?_ _) | (with_reducible refine Kd.C_drew ?_))); (case side2 => exact (Kd.V_reads' HO_1.out).2.1); rintro e w28 ⟨rfl, hb⟩; have n0_ := Aside0.mk (Kd.V_below (R.lv HO_1.out) hb); have n1_ := Aside0.mk (below_step (R.hb HB.out) hb); clear HO_1; clear HB; have HO_1 := n0_; have HB := n1_; clear n0_ n1_; (try clear hb); (try clear hb2); (try clear hk); (try clear hi)))
       go_ret3; exact ⟨_, by first | rfl | (simp [errW_none, errW_some] <;> rfl) | (simp [*, errW_none, errW_some] <;> rfl), (by first | exact Kd.V_nil _ _ _ _ _ | exact Kd.V_mono (Kd.S_V (by first | exact Kd.S_nil _ _ _ _ _ | exact Kd.N_nil _ _ _ _ _ | exact Kd.V_nil _ _ _ _ _ | exact Kd.Q_nil _ _ _ _ _ | exact Kd.R_nil _ _ _ _ _)) (fun k_ hk => by first | exact ⟨(.inr (hk.1)), hk.2⟩ | exact (.inr (hk)))), by repeat (first | (with_reducible first | exact HB.out | apply below_alloc | apply pw_below_drewN | apply below_drew1) | exact HB.out)⟩
end Go.Proofs.YtabfehcpcjcomaaGreatDoor.QA0
