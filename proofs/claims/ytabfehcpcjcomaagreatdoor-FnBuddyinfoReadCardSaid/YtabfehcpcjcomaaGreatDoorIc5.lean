/- The texts QA0x15, without what the claims do not use, laid together by a program of this session (wip/tools/bundle.py). Conditions: those of each theorem. -/
import Derived.Test.YtabfehcpcjcomaaGreatDoorIc2
namespace Go.Proofs.YtabfehcpcjcomaaGreatDoor.QA0
open Go.RowKit Go.Proofs.YtabfehcpcjcomaaGreatDoorW.PrintWords Go.Proofs.YtabfehcpcjcomaaGreatDoorW.PrintLast Go.Proofs.YtabfehcpcjcomaaGreatDoorW.PrintMore
attribute [local go_sem] max2_int min2_int max_two min_two max_three min_three max_four min_four
set_option linter.unusedVariables false
set_option linter.unusedSimpArgs false
mutual
def spec_SameNode.l0 : Nat → Int → Int → ByteArray → Int → Bool → Int → Int → Nat → ByteArray → List (S38) → ByteArray → Int → Bool → Int → Int → Nat → ByteArray → List (S38) → Option (Bool)
 | 0, _, _, _, _, _, _, _, _, _, _, _, _, _, _, _, _, _, _ => none
 | k + 1, x66, x67, x688000, x688001, x688002, x688003, x688004, x688005, x688006, x688007, x689000, x689001, x689002, x689003, x689004, x689005, x689006, x689007 => if x67 < x66 then (if 0 ≤ x67 then (if x67 < (x688007.length : Int) then (if x67 < (x689007.length : Int) then ((spec_SameNode.f k ((rd_T38 x688007 x67).f0) ((rd_T38 x688007 x67).f1) ((rd_T38 x688007 x67).f2) ((rd_T38 x688007 x67).f3) ((rd_T38 x688007 x67).f4) ((rd_T38 x688007 x67).f5) ((rd_T38 x688007 x67).f6) ((rd_T38 x688007 x67).f7) ((rd_T38 x689007 x67).f0) ((rd_T38 x689007 x67).f1) ((rd_T38 x689007 x67).f2) ((rd_T38 x689007 x67).f3) ((rd_T38 x689007 x67).f4) ((rd_T38 x689007 x67).f5) ((rd_T38 x689007 x67).f6) ((rd_T38 x689007 x67).f7)).bind fun t691 => (if t691 = true then (spec_SameNode.l0 k x66 (wrap64 (x67 + 1)) x688000 x688001 x688002 x688003 x688004 x688005 x688006 x688007 x689000 x689001 x689002 x689003 x689004 x689005 x689006 x689007) else (none))) else (none)) else (none)) else (none)) else (some true)
def spec_SameNode.f : Nat → ByteArray → Int → Bool → Int → Int → Nat → ByteArray → List (S38) → ByteArray → Int → Bool → Int → Int → Nat → ByteArray → List (S38) → Option (Bool)
 | 0, _, _, _, _, _, _, _, _, _, _, _, _, _, _, _, _ => none
 | k + 1, a0_0, a0_1, a0_2, a0_3, a0_4, a0_5, a0_6, l0_7, a1_0, a1_1, a1_2, a1_3, a1_4, a1_5, a1_6, l1_7 => if a0_0.toList = a1_0.toList then (if a0_1 = a1_1 then (if (a0_2 != a1_2) = true then (none) else (if a0_3 = a1_3 then (if a0_4 = a1_4 then (if (a0_5 : Int) = (a1_5 : Int) then (if a0_6.toList = a1_6.toList then (if (l0_7.length : Int) = (l1_7.length : Int) then (spec_SameNode.l0 k (l0_7.length : Int) 0 a0_0 a0_1 a0_2 a0_3 a0_4 a0_5 a0_6 l0_7 a1_0 a1_1 a1_2 a1_3 a1_4 a1_5 a1_6 l1_7) else (none)) else (none)) else (none)) else (none)) else (none))) else (none)) else (none)
end
def spec_SameNode.T1 : Bool × List (List Nat × List Nat) := (true, [([], []), ([0], [0]), ([], []), ([2], [2]), ([1, 3], [1, 3]), ([4], [4]), ([5], [5]), ([6, 5], [5, 6]), ([5], [5]), ([8, 5], [5, 8]), ([7, 9, 5], [5, 7, 9]), ([5, 10], [5, 10]), ([11, 5], [11]), ([12], [12]), ([13, 12], [12, 13]), ([12], [12]), ([15, 12], [12, 15]), ([14, 16, 12], [12, 14, 16]), ([12, 17], [12, 17]), ([18, 12], [18]), ([19], [19]), ([20, 19], [19, 20]), ([19], [19]), ([22, 19], [19, 22]), ([21, 23, 19], [19, 21, 23]), ([19, 24], [19, 24]), ([25, 19], [25]), ([26], [26]), ([27, 26], [26, 27]), ([26], [26]), ([29, 26], [26, 29]), ([28, 30, 26], [26, 28, 30]), ([26, 31], [26, 31]), ([32, 26], [32]), ([33], [33]), ([34, 33], [33, 34]), ([35, 33, 33], [33, 35]), ([33], [33]), ([37, 33], [33, 37]), ([38, 36, 33], [33, 38]), ([36, 39, 33], [33, 36, 39]), ([33, 40], [33, 40]), ([41, 39], [41]), ([42], [42]), ([43, 42], [42, 43]), ([42], [42]), ([45, 42], [42, 45]), ([44, 46, 42], [42, 44, 46]), ([42, 47], [42, 47]), ([48, 42], [48]), ([49], [49]), ([50, 49], [49, 50]), ([51, 49], [49, 51]), ([49], [49]), ([53, 49], [49, 53]), ([54, 49], [49, 54]), ([52, 55, 49], [49, 52, 55]), ([49, 56], [49, 56])])
def spec_SameNode.B1 : List Nat := [0, 1, 0, 4, 15, 31, 63, 127, 63, 319, 1023, 2047, 4095, 8191, 16383, 8191, 40959, 131071, 262143, 524287, 1048575, 2097151, 1048575, 5242879, 16777215, 33554431, 67108863, 134217727, 268435455, 134217727, 671088639, 2147483647, 4294967295, 8589934591, 17179869183, 34359738367, 68719476735, 17179869183, 154618822655, 549755813887, 1099511627775, 2199023255551, 4398046511103, 8796093022207, 17592186044415, 8796093022207, 43980465111039, 140737488355327, 281474976710655, 562949953421311, 1125899906842623, 2251799813685247, 4503599627370495, 1125899906842623, 10133099161583615, 28147497671065599, 72057594037927935, 144115188075855871]
theorem spec_SameNode.tab1 : rtab .any (opsOf Tryz.f29 1) = spec_SameNode.T1 := by kernel_rfl
theorem spec_SameNode.bits1 : waitsOk spec_SameNode.T1.2 spec_SameNode.B1 = true := by kernel_rfl
def spec_SameNode.T6 : Bool × List (List Nat × List Nat) := (true, [([], []), ([0], [0]), ([], []), ([1, 2], [1, 2]), ([3], [3]), ([], []), ([5], [5]), ([], []), ([6, 7], [6, 7]), ([8], [8]), ([4, 9], [4, 9]), ([10], [10])])
def spec_SameNode.B6 : List Nat := [0, 1, 0, 7, 15, 0, 32, 0, 224, 480, 1023, 2047]
theorem spec_SameNode.tab6 : rtab .any (opsOf Tryz.f29 6) = spec_SameNode.T6 := by kernel_rfl
theorem spec_SameNode.bits6 : waitsOk spec_SameNode.T6.2 spec_SameNode.B6 = true := by kernel_rfl
set_option maxHeartbeats 8000000 in
set_option maxRecDepth 100000 in
theorem spec_SameNode.calls (k : Nat) : ∀ (a0_0 : ByteArray) (a0_1 : Int) (a0_2 : Bool) (a0_3 : Int) (a0_4 : Int) (a0_5 : Nat) (a0_6 : ByteArray) (A0_7 : Option Addr) (c0_7 : Nat) (l0_7 : List (S38)) (a1_0 : ByteArray) (a1_1 : Int) (a1_2 : Bool) (a1_3 : Int) (a1_4 : Int) (a1_5 : Nat) (a1_6 : ByteArray) (A1_7 : Option Addr) (c1_7 : Nat) (l1_7 : List (S38)) (r : Bool) (w : World) (hr0_7 : Kd.C k38 w A0_7 l0_7.length l0_7) (hc0_7 : l0_7.length ≤ c0_7) (hr1_7 : Kd.C k38 w A1_7 l1_7.length l1_7) (hc1_7 : l1_7.length ≤ c1_7) (h : spec_SameNode.f k a0_0 a0_1 a0_2 a0_3 a0_4 a0_5 a0_6 l0_7 a1_0 a1_1 a1_2 a1_3 a1_4 a1_5 a1_6 l1_7 = some r),
 Calls Tryz.prog 29 #[.agg #[.string a0_0, .int .i64 a0_1, .bool a0_2, .int .i64 a0_3, .int .u64 a0_4, .float .f64 a0_5, .string a0_6, .slice A0_7 l0_7.length c0_7], .agg #[.string a1_0, .int .i64 a1_1, .bool a1_2, .int .i64 a1_3, .int .u64 a1_4, .float .f64 a1_5, .string a1_6, .slice A1_7 l1_7.length c1_7]] w fun e w' => e = .returned (.bool r) ∧ Below w.heap.size w w' := by
 induction k using Nat.strongRecOn with
 | _ k ih =>
 intro a0_0 a0_1 a0_2 a0_3 a0_4 a0_5 a0_6 A0_7 c0_7 l0_7 a1_0 a1_1 a1_2 a1_3 a1_4 a1_5 a1_6 A1_7 c1_7 l1_7 r w hr0_7 hc0_7 hr1_7 hc1_7 h; cases k with
 | zero => exact absurd h (by simp [spec_SameNode.f])
 | succ k =>
 simp only [spec_SameNode.f] at h; have hu38 := Tryz.underlying38; have HR0_7 := Aside0.mk hr0_7; have HC0_7 := Aside0.mk hc0_7; clear hr0_7 hc0_7; have HR1_7 := Aside0.mk hr1_7; have HC1_7 := Aside0.mk hc1_7; clear hr1_7 hc1_7; have HB := Aside0.mk (Below.refl w.heap.size w); have H : (if a0_0.toList = a1_0.toList then (if a0_1 = a1_1 then (if (a0_2 != a1_2) = true then (none) else (if a0_3 = a1_3 then (if a0_4 = a1_4 then (if (a0_5 : Int) = (a1_5 : Int) then (if a0_6.toList = a1_6.toList then (if (l0_7.length : Int) = (l1_7.length : Int) then (spec_SameNode.l0 k (l0_7.length : Int) 0 a0_0 a0_1 a0_2 a0_3 a0_4 a0_5 a0_6 l0_7 a1_0 a1_1 a1_2 a1_3 a1_4 a1_5 a1_6 l1_7) else (none)) else (none)) else (none)) else (none)) else (none))) else (none)) else (none)) = some r := h; clear h
 by_cases c3 : a0_0.toList = a1_0.toList
 · rw [if_pos c3] at H; have c3b0 : (a0_0.toList == a1_0.toList) = true := beq_iff_eq.mpr c3; have c3b1 : (a0_0.toList != a1_0.toList) = false := bne_eq_false_iff_eq.mpr c3; clear c3
   by_cases c4 : a0_1 = a1_1
   · rw [if_pos c4] at H; have c4b0 : (a0_1 == a1_1) = true := beq_iff_eq.mpr c4; have c4b1 : (a0_1 != a1_1) = false := bne_eq_false_iff_eq.mpr c4; clear c4
     by_cases c5 : (a0_2 != a1_2) = true
     · rw [if_pos c5] at H; exact absurd H (by simp)
     · rw [if_neg c5] at H
       have c5b0 : (a0_2 != a1_2) = false := by simpa using c5
       (try (have c5b1 : decide (a0_2 = a1_2) = true := by simpa using c5)); (try (have c5b2 : (a0_2 == a1_2) = true := by simpa using c5)); clear c5
       by_cases c6 : a0_3 = a1_3
       · rw [if_pos c6] at H; have c6b0 : (a0_3 == a1_3) = true := beq_iff_eq.mpr c6; have c6b1 : (a0_3 != a1_3) = false := bne_eq_false_iff_eq.mpr c6; clear c6
         by_cases c7 : a0_4 = a1_4
         · rw [if_pos c7] at H; have c7b0 : (a0_4 == a1_4) = true := beq_iff_eq.mpr c7; have c7b1 : (a0_4 != a1_4) = false := bne_eq_false_iff_eq.mpr c7; clear c7
           by_cases c8 : (a0_5 : Int) = (a1_5 : Int)
           · rw [if_pos c8] at H; have c8b0 : ((a0_5 : Int) == (a1_5 : Int)) = true := beq_iff_eq.mpr c8; have c8b1 : ((a0_5 : Int) != (a1_5 : Int)) = false := bne_eq_false_iff_eq.mpr c8; clear c8
             by_cases c9 : a0_6.toList = a1_6.toList
             · rw [if_pos c9] at H; have c9b0 : (a0_6.toList == a1_6.toList) = true := beq_iff_eq.mpr c9; have c9b1 : (a0_6.toList != a1_6.toList) = false := bne_eq_false_iff_eq.mpr c9; clear c9
               by_cases c10 : (l0_7.length : Int) = (l1_7.length : Int)
               · rw [if_pos c10] at H; have c10b0 : ((l0_7.length : Int) == (l1_7.length : Int)) = true := beq_iff_eq.mpr c10; have c10b1 : ((l0_7.length : Int) != (l1_7.length : Int)) = false := bne_eq_false_iff_eq.mpr c10
                 have c10b2 : (l0_7.length == l1_7.length) = true := by first | simpa using c10 | (simp at c10 ⊢; omega)
                 clear c10; have H' := Aside0.mk H; clear H
                 go_enter Tryz.func29, Tryz.ntmps29
                 try go_wp2_with (first | ((with_reducible refine gate_dst (N := 2) rfl ?_); (try (refine gate_guard (by rfl) ?_; dsimp only)); refine box_event ?hg (N := 2) ?hd (cs := #[.string a0_0, .int .i64 a0_1, .bool a0_2, .int .i64 a0_3, .int .u64 a0_4, .float .f64 a0_5, .string a0_6, .slice A0_7 l0_7.length c0_7]) (t := 38) ?hr ?_; (case hd => rfl); (case hg => rfl); (case hr => first | (go_simp; done) | (go_simp; rfl)); intro gb687 hg w11 hbox hb; have n0_ := Aside0.mk (below_step (R.hb HB.out) hb); have n1_ := Aside0.mk (hbox); have n2_ := Aside0.mk ((by rw [hg]; exact (below_size (R.hb HB.out)) : w.heap.size ≤ gb687)); have n3_ := n2_; clear HB; have HB := n0_; have BK687 := n1_; have GW687 := n2_; have GE687 := n3_; clear n0_ n1_ n2_ n3_; clear hb hbox hg) | ((with_reducible refine gate_dst (N := 3) rfl ?_); (try (refine gate_guard (by rfl) ?_; dsimp only)); refine box_event ?hg (N := 3) ?hd (cs := #[.string a1_0, .int .i64 a1_1, .bool a1_2, .int .i64 a1_3, .int .u64 a1_4, .float .f64 a1_5, .string a1_6, .slice A1_7 l1_7.length c1_7]) (t := 38) ?hr ?_; (case hd => rfl); (case hg => rfl); (case hr => first | (go_simp; done) | (go_simp; rfl)); intro gb688 hg w12 hbox hb; have n0_ := Aside0.mk (blk_below (g := gb687) (o := .cells #[.string a0_0, .int .i64 a0_1, .bool a0_2, .int .i64 a0_3, .int .u64 a0_4, .float .f64 a0_5, .string a0_6, .slice A0_7 l0_7.length c0_7] 38 (0, 0)) (R.bl BK687.out) hb); have n1_ := Aside0.mk (below_step (R.hc1 HB.out GE687.out) hb); have n2_ := Aside0.mk (hbox); have n3_ := Aside0.mk ((by rw [hg]; exact (below_size (R.hc1 HB.out GE687.out)) : w.heap.size ≤ gb688)); have n4_ := n3_; have n5_ := Aside0.mk ((by rw [hg]; exact Nat.ne_of_lt (blk_lt (g := gb687) (o := .cells #[.string a0_0, .int .i64 a0_1, .bool a0_2, .int .i64 a0_3, .int .u64 a0_4, .float .f64 a0_5, .string a0_6, .slice A0_7 l0_7.length c0_7] 38 (0, 0)) (R.bl BK687.out)) : gb687 ≠ gb688)); have n6_ := Aside0.mk ((by rw [hg]; exact Nat.ne_of_gt (blk_lt (g := gb687) (o := .cells #[.string a0_0, .int .i64 a0_1, .bool a0_2, .int .i64 a0_3, .int .u64 a0_4, .float .f64 a0_5, .string a0_6, .slice A0_7 l0_7.length c0_7] 38 (0, 0)) (R.bl BK687.out)) : gb688 ≠ gb687)); clear BK687; clear HB; have BK687 := n0_; have HB := n1_; have BK688 := n2_; have GW688 := n3_; have GE688 := n4_; have NB687_688 := n5_; have NB688_687 := n6_; clear n0_ n1_ n2_ n3_ n4_ n5_ n6_; clear hb hbox hg))
                 have n0_ := Aside0.mk (blk_drew BK687.out); have n1_ := Aside0.mk (blk_drew BK688.out); have n2_ := Aside0.mk (below_drew1 HB.out); clear BK687; clear BK688; clear HB; have BK687 := n0_; have BK688 := n1_; have HB := n2_; clear n0_ n1_ n2_; refine start_ (n := 58) (S := fun w' => w'.cell? ⟨gb687, 0, none⟩ = some (.string a0_0) ∧ w'.cell? ⟨gb687, 1, none⟩ = some (.int .i64 a0_1) ∧ w'.cell? ⟨gb687, 2, none⟩ = some (.bool a0_2) ∧ w'.cell? ⟨gb687, 3, none⟩ = some (.int .i64 a0_3) ∧ w'.cell? ⟨gb687, 4, none⟩ = some (.int .u64 a0_4) ∧ w'.cell? ⟨gb687, 5, none⟩ = some (.float .f64 a0_5) ∧ w'.cell? ⟨gb687, 6, none⟩ = some (.string a0_6) ∧ w'.cell? ⟨gb687, 7, none⟩ = some (.slice A0_7 l0_7.length c0_7) ∧ w'.cell? ⟨gb688, 0, none⟩ = some (.string a1_0) ∧ w'.cell? ⟨gb688, 1, none⟩ = some (.int .i64 a1_1) ∧ w'.cell? ⟨gb688, 2, none⟩ = some (.bool a1_2) ∧ w'.cell? ⟨gb688, 3, none⟩ = some (.int .i64 a1_3) ∧ w'.cell? ⟨gb688, 4, none⟩ = some (.int .u64 a1_4) ∧ w'.cell? ⟨gb688, 5, none⟩ = some (.float .f64 a1_5) ∧ w'.cell? ⟨gb688, 6, none⟩ = some (.string a1_6) ∧ w'.cell? ⟨gb688, 7, none⟩ = some (.slice A1_7 l1_7.length c1_7)) (ds := []) (R.tf 0 58) (by kernel_rfl) rfl rfl ⟨(blk_cell BK687.out 0).trans rfl, (blk_cell BK687.out 1).trans rfl, (blk_cell BK687.out 2).trans rfl, (blk_cell BK687.out 3).trans rfl, (blk_cell BK687.out 4).trans rfl, (blk_cell BK687.out 5).trans rfl, (blk_cell BK687.out 6).trans rfl, (blk_cell BK687.out 7).trans rfl, (blk_cell BK688.out 0).trans rfl, (blk_cell BK688.out 1).trans rfl, (blk_cell BK688.out 2).trans rfl, (blk_cell BK688.out 3).trans rfl, (blk_cell BK688.out 4).trans rfl, (blk_cell BK688.out 5).trans rfl, (blk_cell BK688.out 6).trans rfl, (blk_cell BK688.out 7).trans rfl⟩ (fun hHeld => ?_); refine with_tabW spec_SameNode.tab1 spec_SameNode.bits1 (fun HT_ HW_ => ?_); generalize w12.drew = w13 at BK687 BK688 HB hHeld ⊢; refine R.pv (i := 0) (N := some 6) (v := ?_) (a' := ?_) (R.tf 1 57) rfl rfl (R.ao HT_.out) ?_ ?_ ?_; rotate_left
                 · intro w'; go_simp; with_reducible rfl
                 rotate_left
                 · simp only [Act.put, R.sa, R.sb, R.sc, i64_w, i32_w]; rfl
                 refine R.pv (i := 2) (N := some 8) (v := ?_) (a' := ?_) #[true, false, true, false, false, false, false, false, false, false, false, false, false, false, false, false, false, false, false, false, false, false, false, false, false, false, false, false, false, false, false, false, false, false, false, false, false, false, false, false, false, false, false, false, false, false, false, false, false, false, false, false, false, false, false, false, false, false] rfl rfl (R.ao HT_.out) ?_ ?_ ?_; rotate_left
                 · intro w'; go_simp; with_reducible rfl
                 rotate_left
                 · simp only [Act.put, R.sa, R.sb, R.sc, i64_w, i32_w]; rfl
                 refine take_ (i := 1) (N := some 7) (v := ?_) (a' := ?_) (R.tf 3 55) rfl rfl (take_ofW HT_.out HW_.out (by kernel_rfl)) (fun _ _ _ h => h) (Or.inl ⟨by rfl, ?_⟩) hHeld ?_ ?_; rotate_left
                 · rintro w' ⟨s0, s1, s2, s3, s4, s5, s6, s7, s8, s9, s10, s11, s12, s13, s14, s15⟩; go_simp; with_reducible rfl
                 rotate_left
                 · simp only [Act.put, R.sa, R.sb, R.sc, i64_w, i32_w]; rfl
                 refine take_ (i := 3) (N := some 9) (v := ?_) (a' := ?_) (R.tf 4 54) rfl rfl (take_ofW HT_.out HW_.out (by kernel_rfl)) (fun _ _ _ h => h) (Or.inl ⟨by rfl, ?_⟩) hHeld ?_ ?_; rotate_left
                 · rintro w' ⟨s0, s1, s2, s3, s4, s5, s6, s7, s8, s9, s10, s11, s12, s13, s14, s15⟩; go_simp; with_reducible rfl
                 rotate_left
                 · simp only [Act.put, R.sa, R.sb, R.sc, i64_w, i32_w]; rfl
                 refine R.pv (i := 4) (N := some 10) (v := ?_) (a' := ?_) (R.tf 5 53) rfl rfl (R.ao HT_.out) ?_ ?_ ?_; rotate_left
                 · intro w'; go_simp; with_reducible rfl
                 rotate_left
                 · simp only [Act.put, R.sa, R.sb, R.sc, i64_w, i32_w]; rfl
                 refine R.pv (i := 5) (N := some 11) (v := ?_) (a' := ?_) (R.tf 6 52) rfl rfl (R.ao HT_.out) ?_ ?_ ?_; rotate_left
                 · intro w'; go_simp; with_reducible rfl
                 rotate_left
                 · simp only [Act.put, R.sa, R.sb, R.sc, i64_w, i32_w]; rfl
                 refine R.pv (i := 6) (N := some 12) (v := ?_) (a' := ?_) (R.tf 7 51) rfl rfl (R.ao HT_.out) ?_ ?_ ?_; rotate_left
                 · intro w'; go_simp; with_reducible rfl
                 rotate_left
                 · simp only [Act.put, R.sa, R.sb, R.sc, i64_w, i32_w]; rfl
                 refine R.pv (i := 8) (N := some 14) (v := ?_) (a' := ?_) #[true, true, true, true, true, true, true, false, true, false, false, false, false, false, false, false, false, false, false, false, false, false, false, false, false, false, false, false, false, false, false, false, false, false, false, false, false, false, false, false, false, false, false, false, false, false, false, false, false, false, false, false, false, false, false, false, false, false] rfl rfl (R.ao HT_.out) ?_ ?_ ?_; rotate_left
                 · intro w'; go_simp; with_reducible rfl
                 rotate_left
                 · simp only [Act.put, R.sa, R.sb, R.sc, i64_w, i32_w]; rfl
                 refine take_ (i := 7) (N := some 13) (v := ?_) (a' := ?_) (R.tf 9 49) rfl rfl (take_ofW HT_.out HW_.out (by kernel_rfl)) (fun _ _ _ h => h) (Or.inl ⟨by rfl, ?_⟩) hHeld ?_ ?_; rotate_left
                 · rintro w' ⟨s0, s1, s2, s3, s4, s5, s6, s7, s8, s9, s10, s11, s12, s13, s14, s15⟩; go_simp; with_reducible rfl
                 rotate_left
                 · simp only [Act.put, R.sa, R.sb, R.sc, i64_w, i32_w]; rfl
                 refine take_ (i := 9) (N := some 15) (v := ?_) (a' := ?_) (R.tf 10 48) rfl rfl (take_ofW HT_.out HW_.out (by kernel_rfl)) (fun _ _ _ h => h) (Or.inl ⟨by rfl, ?_⟩) hHeld ?_ ?_; rotate_left
                 · rintro w' ⟨s0, s1, s2, s3, s4, s5, s6, s7, s8, s9, s10, s11, s12, s13, s14, s15⟩; go_simp; with_reducible rfl
                 rotate_left
                 · simp only [Act.put, R.sa, R.sb, R.sc, i64_w, i32_w]; rfl
                 refine R.pv (i := 10) (N := some 16) (v := ?_) (a' := ?_) (R.tf 11 47) rfl rfl (R.ao HT_.out) ?_ ?_ ?_; rotate_left
                 · intro w'; go_simp; with_reducible rfl
                 rotate_left
                 · simp only [Act.put, R.sa, R.sb, R.sc, i64_w, i32_w]; rfl
                 refine R.pv (i := 11) (N := some 17) (v := ?_) (a' := ?_) (R.tf 12 46) rfl rfl (R.ao HT_.out) ?_ ?_ ?_; rotate_left
                 · intro w'; go_simp; with_reducible rfl
                 rotate_left
                 · simp only [Act.put, R.sa, R.sb, R.sc, i64_w, i32_w]; rfl
                 refine R.pv (i := 12) (N := some 18) (v := ?_) (a' := ?_) (R.tf 13 45) rfl rfl (R.ao HT_.out) ?_ ?_ ?_; rotate_left
                 · intro w'; go_simp; with_reducible rfl
                 rotate_left
                 · simp only [Act.put, R.sa, R.sb, R.sc, i64_w, i32_w]; rfl
                 refine R.pv (i := 13) (N := some 19) (v := ?_) (a' := ?_) (R.tf 14 44) rfl rfl (R.ao HT_.out) ?_ ?_ ?_; rotate_left
                 · intro w'; go_simp; with_reducible rfl
                 rotate_left
                 · simp only [Act.put, R.sa, R.sb, R.sc, i64_w, i32_w]; rfl
                 refine R.pv (i := 15) (N := some 21) (v := ?_) (a' := ?_) #[true, true, true, true, true, true, true, true, true, true, true, true, true, true, false, true, false, false, false, false, false, false, false, false, false, false, false, false, false, false, false, false, false, false, false, false, false, false, false, false, false, false, false, false, false, false, false, false, false, false, false, false, false, false, false, false, false, false] rfl rfl (R.ao HT_.out) ?_ ?_ ?_; rotate_left
                 · intro w'; go_simp; with_reducible rfl
                 rotate_left
                 · simp only [Act.put, R.sa, R.sb, R.sc, i64_w, i32_w]; rfl
                 refine take_ (i := 14) (N := some 20) (v := ?_) (a' := ?_) (R.tf 16 42) rfl rfl (take_ofW HT_.out HW_.out (by kernel_rfl)) (fun _ _ _ h => h) (Or.inl ⟨by rfl, ?_⟩) hHeld ?_ ?_; rotate_left
                 · rintro w' ⟨s0, s1, s2, s3, s4, s5, s6, s7, s8, s9, s10, s11, s12, s13, s14, s15⟩; go_simp; with_reducible rfl
                 rotate_left
                 · simp only [Act.put, R.sa, R.sb, R.sc, i64_w, i32_w]; rfl
                 refine take_ (i := 16) (N := some 22) (v := ?_) (a' := ?_) (R.tf 17 41) rfl rfl (take_ofW HT_.out HW_.out (by kernel_rfl)) (fun _ _ _ h => h) (Or.inl ⟨by rfl, ?_⟩) hHeld ?_ ?_; rotate_left
                 · rintro w' ⟨s0, s1, s2, s3, s4, s5, s6, s7, s8, s9, s10, s11, s12, s13, s14, s15⟩; go_simp; with_reducible rfl
                 rotate_left
                 · simp only [Act.put, R.sa, R.sb, R.sc, i64_w, i32_w]; rfl
                 refine R.pv (i := 17) (N := some 23) (v := ?_) (a' := ?_) (R.tf 18 40) rfl rfl (R.ao HT_.out) ?_ ?_ ?_; rotate_left
                 · intro w'; go_simp; with_reducible rfl
                 rotate_left
                 · simp only [Act.put, R.sa, R.sb, R.sc, i64_w, i32_w]; rfl
                 refine R.pv (i := 18) (N := some 24) (v := ?_) (a' := ?_) (R.tf 19 39) rfl rfl (R.ao HT_.out) ?_ ?_ ?_; rotate_left
                 · intro w'; go_simp; with_reducible rfl
                 rotate_left
                 · simp only [Act.put, R.sa, R.sb, R.sc, i64_w, i32_w]; rfl
                 refine R.pv (i := 19) (N := some 25) (v := ?_) (a' := ?_) (R.tf 20 38) rfl rfl (R.ao HT_.out) ?_ ?_ ?_; rotate_left
                 · intro w'; go_simp; with_reducible rfl
                 rotate_left
                 · simp only [Act.put, R.sa, R.sb, R.sc, i64_w, i32_w]; rfl
                 refine R.pv (i := 20) (N := some 26) (v := ?_) (a' := ?_) (R.tf 21 37) rfl rfl (R.ao HT_.out) ?_ ?_ ?_; rotate_left
                 · intro w'; go_simp; with_reducible rfl
                 rotate_left
                 · simp only [Act.put, R.sa, R.sb, R.sc, i64_w, i32_w]; rfl
                 refine R.pv (i := 22) (N := some 28) (v := ?_) (a' := ?_) #[true, true, true, true, true, true, true, true, true, true, true, true, true, true, true, true, true, true, true, true, true, false, true, false, false, false, false, false, false, false, false, false, false, false, false, false, false, false, false, false, false, false, false, false, false, false, false, false, false, false, false, false, false, false, false, false, false, false] rfl rfl (R.ao HT_.out) ?_ ?_ ?_; rotate_left
                 · intro w'; go_simp; with_reducible rfl
                 rotate_left
                 · simp only [Act.put, R.sa, R.sb, R.sc, i64_w, i32_w]; rfl
                 refine take_ (i := 21) (N := some 27) (v := ?_) (a' := ?_) (R.tf 23 35) rfl rfl (take_ofW HT_.out HW_.out (by kernel_rfl)) (fun _ _ _ h => h) (Or.inl ⟨by rfl, ?_⟩) hHeld ?_ ?_; rotate_left
                 · rintro w' ⟨s0, s1, s2, s3, s4, s5, s6, s7, s8, s9, s10, s11, s12, s13, s14, s15⟩; go_simp; with_reducible rfl
                 rotate_left
                 · simp only [Act.put, R.sa, R.sb, R.sc, i64_w, i32_w]; rfl
                 refine take_ (i := 23) (N := some 29) (v := ?_) (a' := ?_) (R.tf 24 34) rfl rfl (take_ofW HT_.out HW_.out (by kernel_rfl)) (fun _ _ _ h => h) (Or.inl ⟨by rfl, ?_⟩) hHeld ?_ ?_; rotate_left
                 · rintro w' ⟨s0, s1, s2, s3, s4, s5, s6, s7, s8, s9, s10, s11, s12, s13, s14, s15⟩; go_simp; with_reducible rfl
                 rotate_left
                 · simp only [Act.put, R.sa, R.sb, R.sc, i64_w, i32_w]; rfl
                 refine R.pv (i := 24) (N := some 30) (v := ?_) (a' := ?_) (R.tf 25 33) rfl rfl (R.ao HT_.out) ?_ ?_ ?_; rotate_left
                 · intro w'; go_simp; with_reducible rfl
                 rotate_left
                 · simp only [Act.put, R.sa, R.sb, R.sc, i64_w, i32_w]; rfl
                 refine R.pv (i := 25) (N := some 31) (v := ?_) (a' := ?_) (R.tf 26 32) rfl rfl (R.ao HT_.out) ?_ ?_ ?_; rotate_left
                 · intro w'; go_simp; with_reducible rfl
                 rotate_left
                 · simp only [Act.put, R.sa, R.sb, R.sc, i64_w, i32_w]; rfl
                 refine R.pv (i := 26) (N := some 32) (v := ?_) (a' := ?_) (R.tf 27 31) rfl rfl (R.ao HT_.out) ?_ ?_ ?_; rotate_left
                 · intro w'; go_simp; with_reducible rfl
                 rotate_left
                 · simp only [Act.put, R.sa, R.sb, R.sc, i64_w, i32_w]; rfl
                 refine R.pv (i := 27) (N := some 33) (v := ?_) (a' := ?_) (R.tf 28 30) rfl rfl (R.ao HT_.out) ?_ ?_ ?_; rotate_left
                 · intro w'; go_simp; with_reducible rfl
                 rotate_left
                 · simp only [Act.put, R.sa, R.sb, R.sc, i64_w, i32_w]; rfl
                 refine R.pv (i := 29) (N := some 35) (v := ?_) (a' := ?_) #[true, true, true, true, true, true, true, true, true, true, true, true, true, true, true, true, true, true, true, true, true, true, true, true, true, true, true, true, false, true, false, false, false, false, false, false, false, false, false, false, false, false, false, false, false, false, false, false, false, false, false, false, false, false, false, false, false, false] rfl rfl (R.ao HT_.out) ?_ ?_ ?_; rotate_left
                 · intro w'; go_simp; with_reducible rfl
                 rotate_left
                 · simp only [Act.put, R.sa, R.sb, R.sc, i64_w, i32_w]; rfl
                 refine take_ (i := 28) (N := some 34) (v := ?_) (a' := ?_) (R.tf 30 28) rfl rfl (take_ofW HT_.out HW_.out (by kernel_rfl)) (fun _ _ _ h => h) (Or.inl ⟨by rfl, ?_⟩) hHeld ?_ ?_; rotate_left
                 · rintro w' ⟨s0, s1, s2, s3, s4, s5, s6, s7, s8, s9, s10, s11, s12, s13, s14, s15⟩; go_simp; with_reducible rfl
                 rotate_left
                 · simp only [Act.put, R.sa, R.sb, R.sc, i64_w, i32_w]; rfl
                 refine take_ (i := 30) (N := some 36) (v := ?_) (a' := ?_) (R.tf 31 27) rfl rfl (take_ofW HT_.out HW_.out (by kernel_rfl)) (fun _ _ _ h => h) (Or.inl ⟨by rfl, ?_⟩) hHeld ?_ ?_; rotate_left
                 · rintro w' ⟨s0, s1, s2, s3, s4, s5, s6, s7, s8, s9, s10, s11, s12, s13, s14, s15⟩; go_simp; with_reducible rfl
                 rotate_left
                 · simp only [Act.put, R.sa, R.sb, R.sc, i64_w, i32_w]; rfl
                 refine R.pv (i := 31) (N := some 37) (v := ?_) (a' := ?_) (R.tf 32 26) rfl rfl (R.ao HT_.out) ?_ ?_ ?_; rotate_left
                 · intro w'; go_simp; with_reducible rfl
                 rotate_left
                 · simp only [Act.put, R.sa, R.sb, R.sc, i64_w, i32_w]; rfl
                 refine R.pv (i := 32) (N := some 38) (v := ?_) (a' := ?_) (R.tf 33 25) rfl rfl (R.ao HT_.out) ?_ ?_ ?_; rotate_left
                 · intro w'; go_simp; with_reducible rfl
                 rotate_left
                 · simp only [Act.put, R.sa, R.sb, R.sc, i64_w, i32_w]; rfl
                 refine R.pv (i := 33) (N := some 39) (v := ?_) (a' := ?_) (R.tf 34 24) rfl rfl (R.ao HT_.out) ?_ ?_ ?_; rotate_left
                 · intro w'; go_simp; with_reducible rfl
                 rotate_left
                 · simp only [Act.put, R.sa, R.sb, R.sc, i64_w, i32_w]; rfl
                 refine R.pv (i := 34) (N := some 40) (v := ?_) (a' := ?_) (R.tf 35 23) rfl rfl (R.ao HT_.out) ?_ ?_ ?_; rotate_left
                 · intro w'; go_simp; with_reducible rfl
                 rotate_left
                 · simp only [Act.put, R.sa, R.sb, R.sc, i64_w, i32_w]; rfl
                 refine R.pv (i := 37) (N := some 43) (v := ?_) (a' := ?_) #[true, true, true, true, true, true, true, true, true, true, true, true, true, true, true, true, true, true, true, true, true, true, true, true, true, true, true, true, true, true, true, true, true, true, true, false, false, true, false, false, false, false, false, false, false, false, false, false, false, false, false, false, false, false, false, false, false, false] rfl rfl (R.ao HT_.out) ?_ ?_ ?_; rotate_left
                 · intro w'; go_simp; with_reducible rfl
                 rotate_left
                 · simp only [Act.put, R.sa, R.sb, R.sc, i64_w, i32_w]; rfl
                 refine take_ (i := 35) (N := some 41) (v := ?_) (a' := ?_) #[true, true, true, true, true, true, true, true, true, true, true, true, true, true, true, true, true, true, true, true, true, true, true, true, true, true, true, true, true, true, true, true, true, true, true, true, false, true, false, false, false, false, false, false, false, false, false, false, false, false, false, false, false, false, false, false, false, false] rfl rfl (take_ofW HT_.out HW_.out (by kernel_rfl)) (fun _ _ _ h => h) (Or.inl ⟨by rfl, ?_⟩) hHeld ?_ ?_; rotate_left
                 · rintro w' ⟨s0, s1, s2, s3, s4, s5, s6, s7, s8, s9, s10, s11, s12, s13, s14, s15⟩; go_simp; with_reducible rfl
                 rotate_left
                 · simp only [Act.put, R.sa, R.sb, R.sc, i64_w, i32_w]; rfl
                 refine R.pv (i := 36) (N := some 42) (v := ?_) (a' := ?_) (R.tf 38 20) rfl rfl (R.ao HT_.out) ?_ ?_ ?_; rotate_left
                 · intro w'; go_simp; with_reducible rfl
                 rotate_left
                 · simp only [Act.put, R.sa, R.sb, R.sc, i64_w, i32_w]; rfl
                 refine take_ (i := 38) (N := some 44) (v := ?_) (a' := ?_) (R.tf 39 19) rfl rfl (take_ofW HT_.out HW_.out (by kernel_rfl)) (fun _ _ _ h => h) (Or.inl ⟨by rfl, ?_⟩) hHeld ?_ ?_; rotate_left
                 · rintro w' ⟨s0, s1, s2, s3, s4, s5, s6, s7, s8, s9, s10, s11, s12, s13, s14, s15⟩; go_simp; with_reducible rfl
                 rotate_left
                 · simp only [Act.put, R.sa, R.sb, R.sc, i64_w, i32_w]; rfl
                 refine R.pv (i := 39) (N := some 45) (v := ?_) (a' := ?_) (R.tf 40 18) rfl rfl (R.ao HT_.out) ?_ ?_ ?_; rotate_left
                 · intro w'; go_simp; with_reducible rfl
                 rotate_left
                 · simp only [Act.put, R.sa, R.sb, R.sc, i64_w, i32_w]; rfl
                 refine R.pv (i := 40) (N := some 46) (v := ?_) (a' := ?_) (R.tf 41 17) rfl rfl (R.ao HT_.out) ?_ ?_ ?_; rotate_left
                 · intro w'; go_simp; with_reducible rfl
                 rotate_left
                 · simp only [Act.put, R.sa, R.sb, R.sc, i64_w, i32_w]; rfl
                 refine R.pv (i := 41) (N := some 47) (v := ?_) (a' := ?_) (R.tf 42 16) rfl rfl (R.ao HT_.out) ?_ ?_ ?_; rotate_left
                 · intro w'; go_simp; with_reducible rfl
                 rotate_left
                 · simp only [Act.put, R.sa, R.sb, R.sc, i64_w, i32_w]; rfl
                 refine R.pv (i := 42) (N := some 48) (v := ?_) (a' := ?_) (R.tf 43 15) rfl rfl (R.ao HT_.out) ?_ ?_ ?_; rotate_left
                 · intro w'; go_simp; with_reducible rfl
                 rotate_left
                 · simp only [Act.put, R.sa, R.sb, R.sc, i64_w, i32_w]; rfl
                 refine R.pv (i := 43) (N := some 49) (v := ?_) (a' := ?_) (R.tf 44 14) rfl rfl (R.ao HT_.out) ?_ ?_ ?_; rotate_left
                 · intro w'; go_simp; with_reducible rfl
                 rotate_left
                 · simp only [Act.put, R.sa, R.sb, R.sc, i64_w, i32_w]; rfl
                 refine R.pv (i := 45) (N := some 51) (v := ?_) (a' := ?_) #[true, true, true, true, true, true, true, true, true, true, true, true, true, true, true, true, true, true, true, true, true, true, true, true, true, true, true, true, true, true, true, true, true, true, true, true, true, true, true, true, true, true, true, true, false, true, false, false, false, false, false, false, false, false, false, false, false, false] rfl rfl (R.ao HT_.out) ?_ ?_ ?_; rotate_left
                 · intro w'; go_simp; with_reducible rfl
                 rotate_left
                 · simp only [Act.put, R.sa, R.sb, R.sc, i64_w, i32_w]; rfl
                 refine take_ (i := 44) (N := some 50) (v := ?_) (a' := ?_) (R.tf 46 12) rfl rfl (take_ofW HT_.out HW_.out (by kernel_rfl)) (fun _ _ _ h => h) (Or.inl ⟨by rfl, ?_⟩) hHeld ?_ ?_; rotate_left
                 · rintro w' ⟨s0, s1, s2, s3, s4, s5, s6, s7, s8, s9, s10, s11, s12, s13, s14, s15⟩; go_simp; with_reducible rfl
                 rotate_left
                 · simp only [Act.put, R.sa, R.sb, R.sc, i64_w, i32_w]; rfl
                 refine take_ (i := 46) (N := some 52) (v := ?_) (a' := ?_) (R.tf 47 11) rfl rfl (take_ofW HT_.out HW_.out (by kernel_rfl)) (fun _ _ _ h => h) (Or.inl ⟨by rfl, ?_⟩) hHeld ?_ ?_; rotate_left
                 · rintro w' ⟨s0, s1, s2, s3, s4, s5, s6, s7, s8, s9, s10, s11, s12, s13, s14, s15⟩; go_simp; with_reducible rfl
                 rotate_left
                 · simp only [Act.put, R.sa, R.sb, R.sc, i64_w, i32_w]; rfl
                 refine R.pv (i := 47) (N := some 53) (v := ?_) (a' := ?_) (R.tf 48 10) rfl rfl (R.ao HT_.out) ?_ ?_ ?_; rotate_left
                 · intro w'; go_simp; with_reducible rfl
                 rotate_left
                 · simp only [Act.put, R.sa, R.sb, R.sc, i64_w, i32_w]; rfl
                 refine R.pv (i := 48) (N := some 54) (v := ?_) (a' := ?_) (R.tf 49 9) rfl rfl (R.ao HT_.out) ?_ ?_ ?_; rotate_left
                 · intro w'; go_simp; with_reducible rfl
                 rotate_left
                 · simp only [Act.put, R.sa, R.sb, R.sc, i64_w, i32_w]; rfl
                 refine R.pv (i := 49) (N := some 55) (v := ?_) (a' := ?_) (R.tf 50 8) rfl rfl (R.ao HT_.out) ?_ ?_ ?_; rotate_left
                 · intro w'; go_simp; with_reducible rfl
                 rotate_left
                 · simp only [Act.put, R.sa, R.sb, R.sc, i64_w, i32_w]; rfl
                 refine R.pv (i := 50) (N := some 56) (v := ?_) (a' := ?_) (R.tf 51 7) rfl rfl (R.ao HT_.out) ?_ ?_ ?_; rotate_left
                 · intro w'; go_simp; with_reducible rfl
                 rotate_left
                 · simp only [Act.put, R.sa, R.sb, R.sc, i64_w, i32_w]; rfl
                 refine R.pv (i := 53) (N := some 59) (v := ?_) (a' := ?_) #[true, true, true, true, true, true, true, true, true, true, true, true, true, true, true, true, true, true, true, true, true, true, true, true, true, true, true, true, true, true, true, true, true, true, true, true, true, true, true, true, true, true, true, true, true, true, true, true, true, true, true, false, false, true, false, false, false, false] rfl rfl (R.ao HT_.out) ?_ ?_ ?_; rotate_left
                 · intro w'; go_simp; with_reducible rfl
                 rotate_left
                 · simp only [Act.put, R.sa, R.sb, R.sc, i64_w, i32_w]; rfl
                 refine take_ (i := 51) (N := some 57) (v := ?_) (a' := ?_) #[true, true, true, true, true, true, true, true, true, true, true, true, true, true, true, true, true, true, true, true, true, true, true, true, true, true, true, true, true, true, true, true, true, true, true, true, true, true, true, true, true, true, true, true, true, true, true, true, true, true, true, true, false, true, false, false, false, false] rfl rfl (take_ofW HT_.out HW_.out (by kernel_rfl)) (fun _ _ _ h => h) (Or.inl ⟨by rfl, ?_⟩) hHeld ?_ ?_; rotate_left
                 · rintro w' ⟨s0, s1, s2, s3, s4, s5, s6, s7, s8, s9, s10, s11, s12, s13, s14, s15⟩; go_simp; with_reducible rfl
                 rotate_left
                 · simp only [Act.put, R.sa, R.sb, R.sc, i64_w, i32_w]; rfl
                 refine R.pv (i := 52) (N := some 58) (v := ?_) (a' := ?_) (R.tf 54 4) rfl rfl (R.ao HT_.out) ?_ ?_ ?_; rotate_left
                 · intro w'; go_simp; with_reducible rfl
                 rotate_left
                 · simp only [Act.put, R.sa, R.sb, R.sc, i64_w, i32_w]; rfl
                 refine take_ (i := 54) (N := some 60) (v := ?_) (a' := ?_) (R.tf 55 3) rfl rfl (take_ofW HT_.out HW_.out (by kernel_rfl)) (fun _ _ _ h => h) (Or.inl ⟨by rfl, ?_⟩) hHeld ?_ ?_; rotate_left
                 · rintro w' ⟨s0, s1, s2, s3, s4, s5, s6, s7, s8, s9, s10, s11, s12, s13, s14, s15⟩; go_simp; with_reducible rfl
                 rotate_left
                 · simp only [Act.put, R.sa, R.sb, R.sc, i64_w, i32_w]; rfl
                 refine R.pv (i := 55) (N := some 61) (v := ?_) (a' := ?_) (R.tf 56 2) rfl rfl (R.ao HT_.out) ?_ ?_ ?_; rotate_left
                 · intro w'; go_simp; with_reducible rfl
                 rotate_left
                 · simp only [Act.put, R.sa, R.sb, R.sc, i64_w, i32_w]; rfl
                 refine R.pv (i := 56) (N := some 62) (v := ?_) (a' := ?_) (R.tf 57 1) rfl rfl (R.ao HT_.out) ?_ ?_ ?_; rotate_left
                 · intro w'; go_simp; with_reducible rfl
                 rotate_left
                 · simp only [Act.put, R.sa, R.sb, R.sc, i64_w, i32_w]; rfl
                 refine R.pv (i := 57) (N := some 63) (v := ?_) (a' := ?_) (R.tf 58 0) rfl rfl (R.ao HT_.out) ?_ ?_ ?_; rotate_left
                 · intro w'; go_simp; with_reducible rfl
                 rotate_left
                 · simp only [Act.put, R.sa, R.sb, R.sc, i64_w, i32_w]; rfl
                 refine done_ (R.dn HT_.out) ?_; have hnb14 := NB687_688.out; have hnc14 := NB688_687.out; have hcz15_0 : w13.cell? ⟨gb687, 0, none⟩ = some (.string a0_0) := (blk_cell BK687.out 0).trans rfl; have hcz15_1 : w13.cell? ⟨gb687, 1, none⟩ = some (.int .i64 a0_1) := (blk_cell BK687.out 1).trans rfl; have hcz15_2 : w13.cell? ⟨gb687, 2, none⟩ = some (.bool a0_2) := (blk_cell BK687.out 2).trans rfl; have hcz15_3 : w13.cell? ⟨gb687, 3, none⟩ = some (.int .i64 a0_3) := (blk_cell BK687.out 3).trans rfl; have hcz15_4 : w13.cell? ⟨gb687, 4, none⟩ = some (.int .u64 a0_4) := (blk_cell BK687.out 4).trans rfl; have hcz15_5 : w13.cell? ⟨gb687, 5, none⟩ = some (.float .f64 a0_5) := (blk_cell BK687.out 5).trans rfl; have hcz15_6 : w13.cell? ⟨gb687, 6, none⟩ = some (.string a0_6) := (blk_cell BK687.out 6).trans rfl; have hcz15_7 : w13.cell? ⟨gb687, 7, none⟩ = some (.slice A0_7 l0_7.length c0_7) := (blk_cell BK687.out 7).trans rfl; have hfz15_0 := blk_frozen BK687.out 0; have hfz15_1 := blk_frozen BK687.out 1; have hfz15_2 := blk_frozen BK687.out 2; have hfz15_3 := blk_frozen BK687.out 3; have hfz15_4 := blk_frozen BK687.out 4; have hfz15_5 := blk_frozen BK687.out 5; have hfz15_6 := blk_frozen BK687.out 6; have hfz15_7 := blk_frozen BK687.out 7; try go_wp2
                 go_loopg [67] k (fun kq v67 w' => ∃ (x67_1 : Int), v67 = .int .i64 x67_1 ∧ Aside0 (spec_SameNode.l0 kq (l0_7.length : Int) x67_1 a0_0 a0_1 a0_2 a0_3 a0_4 a0_5 a0_6 l0_7 a1_0 a1_1 a1_2 a1_3 a1_4 a1_5 a1_6 l1_7 = some r) ∧ Aside0 (kq ≤ k) ∧ Aside0 (w'.heap[gb687]? = some (.cells #[.string a0_0, .int .i64 a0_1, .bool a0_2, .int .i64 a0_3, .int .u64 a0_4, .float .f64 a0_5, .string a0_6, (.slice A0_7 l0_7.length c0_7)] 38 (0, 0))) ∧ Aside0 (w'.heap[gb688]? = some (.cells #[.string a1_0, .int .i64 a1_1, .bool a1_2, .int .i64 a1_3, .int .u64 a1_4, .float .f64 a1_5, .string a1_6, (.slice A1_7 l1_7.length c1_7)] 38 (0, 0))) ∧ Aside0 (Below w.heap.size w w'))
                 case atStart => exact ⟨(0), R.rs, H', ⟨Nat.le_refl _⟩, ⟨by (with_reducible repeat (first | refine blk_drewN ?_ _ | refine blk_drew ?_ | refine blk_alloc ?_ _)); exact BK687.out⟩, ⟨by (with_reducible repeat (first | refine blk_drewN ?_ _ | refine blk_drew ?_ | refine blk_alloc ?_ _)); exact BK688.out⟩, ⟨by repeat (first | (with_reducible first | exact HB.out | apply below_alloc | apply pw_below_drewN | apply below_drew1 | refine below_set ?_ GE687.out | refine below_set ?_ GE688.out) | exact HB.out)⟩⟩
                 case round =>
                  clear H'; try clear c1
                  try clear c2
                  try clear p2
                  try clear c3
                  try clear c3b0
                  try clear c3b1
                  try clear c4
                  try clear c4b0
                  try clear c4b1
                  try clear c5
                  try clear c5b0
                  try clear c5b1
                  try clear c5b2
                  try clear c6
                  try clear c6b0
                  try clear c6b1
                  try clear c7
                  try clear c7b0
                  try clear c7b1
                  try clear c8
                  try clear c8b0
                  try clear c8b1
                  try clear c9
                  try clear c9b0
                  try clear c9b1
                  try clear c10
                  try clear c10b0
                  try clear c10b1
                  try clear c10b2
                  try clear c14
                  try clear hcz15_0
                  try clear hcz15_1
                  try clear hcz15_2
                  try clear hcz15_3
                  try clear hcz15_4
                  try clear hcz15_5
                  try clear hcz15_6
                  try clear hcz15_7
                  try clear hfz15_0
                  try clear hfz15_1
                  try clear hfz15_2
                  try clear hfz15_3
                  try clear hfz15_4
                  try clear hfz15_5
                  try clear hfz15_6
                  try clear hfz15_7
                  obtain ⟨x67_1, rfl, HA, HK1, BK687, BK688, HB⟩ := hrel; cases gk with
                  | zero => exact absurd HA.out (by simp [spec_SameNode.l0])
                  | succ k1 =>
                   have H := HA.out; clear HA; simp only [spec_SameNode.l0] at H
                   by_cases c16 : x67_1 < (l0_7.length : Int)
                   · rw [if_pos c16] at H; have c16b0 : decide (x67_1 < (l0_7.length : Int)) = true := decide_eq_true c16; clear c16
                     by_cases c17 : 0 ≤ x67_1
                     · rw [if_pos c17] at H; have c17b0 : decide (0 ≤ x67_1) = true := decide_eq_true c17; clear c17
                       by_cases c18 : x67_1 < (l0_7.length : Int)
                       · rw [if_pos c18] at H; have c18b0 : decide (x67_1 < (l0_7.length : Int)) = true := decide_eq_true c18; clear c18
                         by_cases c19 : x67_1 < (l1_7.length : Int)
                         · rw [if_pos c19] at H; have c19b0 : decide (x67_1 < (l1_7.length : Int)) = true := decide_eq_true c19; clear c19; replace H := Option.bind_eq_some_iff.mp H; obtain ⟨t691, A200, H⟩ := H; (try dsimp only at H); have A20 := Aside0.mk A200; clear A200
                           by_cases c21 : t691 = true
                           · subst c21; rw [if_pos rfl] at H; have H1 := H; clear H; have H := H1; clear H1; have H' := Aside0.mk H; clear H; try go_wp2
                             have n0_ := Aside0.mk (blk_drew BK687.out); have n1_ := Aside0.mk (blk_drew BK688.out); have n2_ := Aside0.mk (below_drew1 HB.out); clear BK687; clear BK688; clear HB; have BK687 := n0_; have BK688 := n1_; have HB := n2_; clear n0_ n1_ n2_; have p689 : 0 ≤ (x67_1 : Int) := R.od; have q689 : x67_1 < (l0_7.length : Int) := R.od; obtain ⟨ad689, A689_7, c689_7, e689, hx689_0, hx689_1, hx689_2, hx689_3, hx689_4, hx689_5, hx689_6, hx689_7, hl689_7, hi689_7⟩ := at_T38 HR0_7.out x67_1 p689 q689; have hw689_7 := hx689_7; have hw689_6 := hx689_6; have hw689_5 := hx689_5; have hw689_4 := hx689_4; have hw689_3 := hx689_3; have hw689_2 := hx689_2; have hw689_1 := hx689_1; have hw689_0 := hx689_0; cases e689; replace hx689_0 := (HB.out.cell (World.block_lt_of_cell? w _ hx689_0)).trans hx689_0; replace hx689_1 := (HB.out.cell (World.block_lt_of_cell? w _ hx689_1)).trans hx689_1; replace hx689_2 := (HB.out.cell (World.block_lt_of_cell? w _ hx689_2)).trans hx689_2; replace hx689_3 := (HB.out.cell (World.block_lt_of_cell? w _ hx689_3)).trans hx689_3; replace hx689_4 := (HB.out.cell (World.block_lt_of_cell? w _ hx689_4)).trans hx689_4; replace hx689_5 := (HB.out.cell (World.block_lt_of_cell? w _ hx689_5)).trans hx689_5; replace hx689_6 := (HB.out.cell (World.block_lt_of_cell? w _ hx689_6)).trans hx689_6; replace hx689_7 := (HB.out.cell (World.block_lt_of_cell? w _ hx689_7)).trans hx689_7; have HR689_7 := Aside0.mk hi689_7; have HC689_7 := Aside0.mk hl689_7; clear hi689_7 hl689_7; replace p689 := eq_true p689; replace q689 := eq_true q689; have p690 : 0 ≤ (x67_1 : Int) := R.od; have q690 : x67_1 < (l1_7.length : Int) := R.od; obtain ⟨ad690, A690_7, c690_7, e690, hx690_0, hx690_1, hx690_2, hx690_3, hx690_4, hx690_5, hx690_6, hx690_7, hl690_7, hi690_7⟩ := at_T38 HR1_7.out x67_1 p690 q690; have hw690_7 := hx690_7; have hw690_6 := hx690_6; have hw690_5 := hx690_5; have hw690_4 := hx690_4; have hw690_3 := hx690_3; have hw690_2 := hx690_2; have hw690_1 := hx690_1; have hw690_0 := hx690_0; cases e690; replace hx690_0 := (HB.out.cell (World.block_lt_of_cell? w _ hx690_0)).trans hx690_0; replace hx690_1 := (HB.out.cell (World.block_lt_of_cell? w _ hx690_1)).trans hx690_1; replace hx690_2 := (HB.out.cell (World.block_lt_of_cell? w _ hx690_2)).trans hx690_2; replace hx690_3 := (HB.out.cell (World.block_lt_of_cell? w _ hx690_3)).trans hx690_3; replace hx690_4 := (HB.out.cell (World.block_lt_of_cell? w _ hx690_4)).trans hx690_4; replace hx690_5 := (HB.out.cell (World.block_lt_of_cell? w _ hx690_5)).trans hx690_5; replace hx690_6 := (HB.out.cell (World.block_lt_of_cell? w _ hx690_6)).trans hx690_6; replace hx690_7 := (HB.out.cell (World.block_lt_of_cell? w _ hx690_7)).trans hx690_7; have HR690_7 := Aside0.mk hi690_7; have HC690_7 := Aside0.mk hl690_7; clear hi690_7 hl690_7; replace p690 := eq_true p690; replace q690 := eq_true q690; refine start_ (n := 12) (S := fun w' => w'.cell? ⟨gb687, 0, none⟩ = some (.string a0_0) ∧ w'.cell? ⟨gb687, 1, none⟩ = some (.int .i64 a0_1) ∧ w'.cell? ⟨gb687, 2, none⟩ = some (.bool a0_2) ∧ w'.cell? ⟨gb687, 3, none⟩ = some (.int .i64 a0_3) ∧ w'.cell? ⟨gb687, 4, none⟩ = some (.int .u64 a0_4) ∧ w'.cell? ⟨gb687, 5, none⟩ = some (.float .f64 a0_5) ∧ w'.cell? ⟨gb687, 6, none⟩ = some (.string a0_6) ∧ w'.cell? ⟨gb687, 7, none⟩ = some (.slice (some ad689) l0_7.length c0_7) ∧ w'.cell? ⟨gb688, 0, none⟩ = some (.string a1_0) ∧ w'.cell? ⟨gb688, 1, none⟩ = some (.int .i64 a1_1) ∧ w'.cell? ⟨gb688, 2, none⟩ = some (.bool a1_2) ∧ w'.cell? ⟨gb688, 3, none⟩ = some (.int .i64 a1_3) ∧ w'.cell? ⟨gb688, 4, none⟩ = some (.int .u64 a1_4) ∧ w'.cell? ⟨gb688, 5, none⟩ = some (.float .f64 a1_5) ∧ w'.cell? ⟨gb688, 6, none⟩ = some (.string a1_6) ∧ w'.cell? ⟨gb688, 7, none⟩ = some (.slice (some ad690) l1_7.length c1_7) ∧ w'.cell? (ad689.add ((x67_1).toNat * 8)) = some (.string ((rd_T38 l0_7 x67_1).f0)) ∧ w'.cell? ⟨(ad689.add ((x67_1).toNat * 8)).block, (ad689.add ((x67_1).toNat * 8)).off + 1, none⟩ = some (.int .i64 ((rd_T38 l0_7 x67_1).f1)) ∧ w'.cell? ⟨(ad689.add ((x67_1).toNat * 8)).block, (ad689.add ((x67_1).toNat * 8)).off + 2, none⟩ = some (.bool ((rd_T38 l0_7 x67_1).f2)) ∧ w'.cell? ⟨(ad689.add ((x67_1).toNat * 8)).block, (ad689.add ((x67_1).toNat * 8)).off + 3, none⟩ = some (.int .i64 ((rd_T38 l0_7 x67_1).f3)) ∧ w'.cell? ⟨(ad689.add ((x67_1).toNat * 8)).block, (ad689.add ((x67_1).toNat * 8)).off + 4, none⟩ = some (.int .u64 ((rd_T38 l0_7 x67_1).f4)) ∧ w'.cell? ⟨(ad689.add ((x67_1).toNat * 8)).block, (ad689.add ((x67_1).toNat * 8)).off + 5, none⟩ = some (.float .f64 ((rd_T38 l0_7 x67_1).f5)) ∧ w'.cell? ⟨(ad689.add ((x67_1).toNat * 8)).block, (ad689.add ((x67_1).toNat * 8)).off + 6, none⟩ = some (.string ((rd_T38 l0_7 x67_1).f6)) ∧ w'.cell? ⟨(ad689.add ((x67_1).toNat * 8)).block, (ad689.add ((x67_1).toNat * 8)).off + 7, none⟩ = some (.slice A689_7 ((rd_T38 l0_7 x67_1).f7).length c689_7) ∧ w'.cell? (ad690.add ((x67_1).toNat * 8)) = some (.string ((rd_T38 l1_7 x67_1).f0)) ∧ w'.cell? ⟨(ad690.add ((x67_1).toNat * 8)).block, (ad690.add ((x67_1).toNat * 8)).off + 1, none⟩ = some (.int .i64 ((rd_T38 l1_7 x67_1).f1)) ∧ w'.cell? ⟨(ad690.add ((x67_1).toNat * 8)).block, (ad690.add ((x67_1).toNat * 8)).off + 2, none⟩ = some (.bool ((rd_T38 l1_7 x67_1).f2)) ∧ w'.cell? ⟨(ad690.add ((x67_1).toNat * 8)).block, (ad690.add ((x67_1).toNat * 8)).off + 3, none⟩ = some (.int .i64 ((rd_T38 l1_7 x67_1).f3)) ∧ w'.cell? ⟨(ad690.add ((x67_1).toNat * 8)).block, (ad690.add ((x67_1).toNat * 8)).off + 4, none⟩ = some (.int .u64 ((rd_T38 l1_7 x67_1).f4)) ∧ w'.cell? ⟨(ad690.add ((x67_1).toNat * 8)).block, (ad690.add ((x67_1).toNat * 8)).off + 5, none⟩ = some (.float .f64 ((rd_T38 l1_7 x67_1).f5)) ∧ w'.cell? ⟨(ad690.add ((x67_1).toNat * 8)).block, (ad690.add ((x67_1).toNat * 8)).off + 6, none⟩ = some (.string ((rd_T38 l1_7 x67_1).f6)) ∧ w'.cell? ⟨(ad690.add ((x67_1).toNat * 8)).block, (ad690.add ((x67_1).toNat * 8)).off + 7, none⟩ = some (.slice A690_7 ((rd_T38 l1_7 x67_1).f7).length c690_7)) (ds := []) (R.tf 0 12) (by kernel_rfl) rfl rfl ⟨(blk_cell BK687.out 0).trans rfl, (blk_cell BK687.out 1).trans rfl, (blk_cell BK687.out 2).trans rfl, (blk_cell BK687.out 3).trans rfl, (blk_cell BK687.out 4).trans rfl, (blk_cell BK687.out 5).trans rfl, (blk_cell BK687.out 6).trans rfl, (blk_cell BK687.out 7).trans rfl, (blk_cell BK688.out 0).trans rfl, (blk_cell BK688.out 1).trans rfl, (blk_cell BK688.out 2).trans rfl, (blk_cell BK688.out 3).trans rfl, (blk_cell BK688.out 4).trans rfl, (blk_cell BK688.out 5).trans rfl, (blk_cell BK688.out 6).trans rfl, (blk_cell BK688.out 7).trans rfl, ((HB.out.cell (World.block_lt_of_cell? w _ hw689_0)).trans hw689_0), ((HB.out.cell (World.block_lt_of_cell? w _ hw689_1)).trans hw689_1), ((HB.out.cell (World.block_lt_of_cell? w _ hw689_2)).trans hw689_2), ((HB.out.cell (World.block_lt_of_cell? w _ hw689_3)).trans hw689_3), ((HB.out.cell (World.block_lt_of_cell? w _ hw689_4)).trans hw689_4), ((HB.out.cell (World.block_lt_of_cell? w _ hw689_5)).trans hw689_5), ((HB.out.cell (World.block_lt_of_cell? w _ hw689_6)).trans hw689_6), ((HB.out.cell (World.block_lt_of_cell? w _ hw689_7)).trans hw689_7), ((HB.out.cell (World.block_lt_of_cell? w _ hw690_0)).trans hw690_0), ((HB.out.cell (World.block_lt_of_cell? w _ hw690_1)).trans hw690_1), ((HB.out.cell (World.block_lt_of_cell? w _ hw690_2)).trans hw690_2), ((HB.out.cell (World.block_lt_of_cell? w _ hw690_3)).trans hw690_3), ((HB.out.cell (World.block_lt_of_cell? w _ hw690_4)).trans hw690_4), ((HB.out.cell (World.block_lt_of_cell? w _ hw690_5)).trans hw690_5), ((HB.out.cell (World.block_lt_of_cell? w _ hw690_6)).trans hw690_6), ((HB.out.cell (World.block_lt_of_cell? w _ hw690_7)).trans hw690_7)⟩ (fun hHeld => ?_); refine with_tabW spec_SameNode.tab6 spec_SameNode.bits6 (fun HT_ HW_ => ?_); generalize wr.drew = w22 at BK687 BK688 HB HR689_7 HR690_7 hx689_0 hx689_1 hx689_2 hx689_3 hx689_4 hx689_5 hx689_6 hx689_7 hx690_0 hx690_1 hx690_2 hx690_3 hx690_4 hx690_5 hx690_6 hx690_7 hHeld ⊢; refine R.pv (i := 0) (N := some 70) (v := ?_) (a' := ?_) (R.tf 1 11) rfl rfl (R.ao HT_.out) ?_ ?_ ?_; rotate_left
                             · intro w'; go_simp; with_reducible rfl
                             rotate_left
                             · simp only [Act.put, R.sa, R.sb, R.sc, i64_w, i32_w]; rfl
                             refine R.pv (i := 2) (N := some 72) (v := ?_) (a' := ?_) #[true, false, true, false, false, false, false, false, false, false, false, false] rfl rfl (R.ao HT_.out) ?_ ?_ ?_; rotate_left
                             · intro w'; go_simp; with_reducible rfl
                             rotate_left
                             · simp only [Act.put, R.sa, R.sb, R.sc, i64_w, i32_w]; rfl
                             refine R.pv (i := 5) (N := some 75) (v := ?_) (a' := ?_) #[true, false, true, false, false, true, false, false, false, false, false, false] rfl rfl (R.ao HT_.out) ?_ ?_ ?_; rotate_left
                             · intro w'; go_simp; with_reducible rfl
                             rotate_left
                             · simp only [Act.put, R.sa, R.sb, R.sc, i64_w, i32_w]; rfl
                             refine R.pv (i := 7) (N := some 77) (v := ?_) (a' := ?_) #[true, false, true, false, false, true, false, true, false, false, false, false] rfl rfl (R.ao HT_.out) ?_ ?_ ?_; rotate_left
                             · intro w'; go_simp; with_reducible rfl
                             rotate_left
                             · simp only [Act.put, R.sa, R.sb, R.sc, i64_w, i32_w]; rfl
                             refine take_ (i := 1) (N := some 71) (v := ?_) (a' := ?_) #[true, true, true, false, false, true, false, true, false, false, false, false] rfl rfl (take_ofW HT_.out HW_.out (by kernel_rfl)) (fun _ _ _ h => h) (Or.inl ⟨by rfl, ?_⟩) hHeld ?_ ?_; rotate_left
                             · rintro w' ⟨s0, s1, s2, s3, s4, s5, s6, s7, s8, s9, s10, s11, s12, s13, s14, s15, s16, s17, s18, s19, s20, s21, s22, s23, s24, s25, s26, s27, s28, s29, s30, s31⟩; go_simp; with_reducible rfl
                             rotate_left
                             · simp only [Act.put, R.sa, R.sb, R.sc, i64_w, i32_w]; rfl
                             refine R.pv (i := 3) (N := some 73) (v := ?_) (a' := ?_) #[true, true, true, true, false, true, false, true, false, false, false, false] rfl rfl (R.ao HT_.out) ?_ ?_ ?_; rotate_left
                             · intro w'; go_simp; with_reducible rfl
                             rotate_left
                             · simp only [Act.put, R.sa, R.sb, R.sc, i64_w, i32_w]; rfl
                             refine take_ (i := 4) (N := some 74) (v := ?_) (a' := ?_) #[true, true, true, true, true, true, false, true, false, false, false, false] rfl rfl (take_ofW HT_.out HW_.out (by kernel_rfl)) (fun _ _ _ h => h) (Or.inl ⟨by rfl, ?_⟩) hHeld ?_ ?_; rotate_left
                             · rintro w' ⟨s0, s1, s2, s3, s4, s5, s6, s7, s8, s9, s10, s11, s12, s13, s14, s15, s16, s17, s18, s19, s20, s21, s22, s23, s24, s25, s26, s27, s28, s29, s30, s31⟩; go_simp; with_reducible rfl
                             rotate_left
                             · simp only [Act.put, R.sa, R.sb, R.sc, i64_w, i32_w]; rfl
                             refine take_ (i := 6) (N := some 76) (v := ?_) (a' := ?_) (R.tf 8 4) rfl rfl (take_ofW HT_.out HW_.out (by kernel_rfl)) (fun _ _ _ h => h) (Or.inl ⟨by rfl, ?_⟩) hHeld ?_ ?_; rotate_left
                             · rintro w' ⟨s0, s1, s2, s3, s4, s5, s6, s7, s8, s9, s10, s11, s12, s13, s14, s15, s16, s17, s18, s19, s20, s21, s22, s23, s24, s25, s26, s27, s28, s29, s30, s31⟩; go_simp; with_reducible rfl
                             rotate_left
                             · simp only [Act.put, R.sa, R.sb, R.sc, i64_w, i32_w]; rfl
                             refine R.pv (i := 8) (N := some 78) (v := ?_) (a' := ?_) (R.tf 9 3) rfl rfl (R.ao HT_.out) ?_ ?_ ?_; rotate_left
                             · intro w'; go_simp; with_reducible rfl
                             rotate_left
                             · simp only [Act.put, R.sa, R.sb, R.sc, i64_w, i32_w]; rfl
                             refine take_ (i := 9) (N := some 79) (v := ?_) (a' := ?_) (R.tf 10 2) rfl rfl (take_ofW HT_.out HW_.out (by kernel_rfl)) (fun _ _ _ h => h) (Or.inl ⟨by rfl, ?_⟩) hHeld ?_ ?_; rotate_left
                             · rintro w' ⟨s0, s1, s2, s3, s4, s5, s6, s7, s8, s9, s10, s11, s12, s13, s14, s15, s16, s17, s18, s19, s20, s21, s22, s23, s24, s25, s26, s27, s28, s29, s30, s31⟩; go_simp; with_reducible rfl
                             rotate_left
                             · simp only [Act.put, R.sa, R.sb, R.sc, i64_w, i32_w]; rfl
                             refine one_ (i := 10) (N := some 80) (R.tf 11 1) rfl rfl (R.oo HT_.out) (by decide) (fun K hK => ?_); refine goes_ Tryz.func29 (by kernel_rfl) rfl #[.agg #[.string ((rd_T38 l0_7 x67_1).f0), .int .i64 ((rd_T38 l0_7 x67_1).f1), .bool ((rd_T38 l0_7 x67_1).f2), .int .i64 ((rd_T38 l0_7 x67_1).f3), .int .u64 ((rd_T38 l0_7 x67_1).f4), .float .f64 ((rd_T38 l0_7 x67_1).f5), .string ((rd_T38 l0_7 x67_1).f6), .slice A689_7 ((rd_T38 l0_7 x67_1).f7).length c689_7], .agg #[.string ((rd_T38 l1_7 x67_1).f0), .int .i64 ((rd_T38 l1_7 x67_1).f1), .bool ((rd_T38 l1_7 x67_1).f2), .int .i64 ((rd_T38 l1_7 x67_1).f3), .int .u64 ((rd_T38 l1_7 x67_1).f4), .float .f64 ((rd_T38 l1_7 x67_1).f5), .string ((rd_T38 l1_7 x67_1).f6), .slice A690_7 ((rd_T38 l1_7 x67_1).f7).length c690_7]] (by rfl) rfl rfl R.tp ?_; with_reducible refine (ih k1 (by have := HK1.out; omega) ((rd_T38 l0_7 x67_1).f0) ((rd_T38 l0_7 x67_1).f1) ((rd_T38 l0_7 x67_1).f2) ((rd_T38 l0_7 x67_1).f3) ((rd_T38 l0_7 x67_1).f4) ((rd_T38 l0_7 x67_1).f5) ((rd_T38 l0_7 x67_1).f6) _ _ ((rd_T38 l0_7 x67_1).f7) ((rd_T38 l1_7 x67_1).f0) ((rd_T38 l1_7 x67_1).f1) ((rd_T38 l1_7 x67_1).f2) ((rd_T38 l1_7 x67_1).f3) ((rd_T38 l1_7 x67_1).f4) ((rd_T38 l1_7 x67_1).f5) ((rd_T38 l1_7 x67_1).f6) _ _ ((rd_T38 l1_7 x67_1).f7) true _ ?side1 ?side2 ?side3 ?side4 A20.out).mono ?_
                             (case side1 => repeat (first | exact (Kd.C_below HR689_7.out HB.out) | (with_reducible refine Kd.C_alloc ?_ _) | (with_reducible refine Kd.C_drewN ?_ _) | (with_reducible refine Kd.C_drew ?_)))
                             (case side2 => exact HC689_7.out)
                             (case side3 => repeat (first | exact (Kd.C_below HR690_7.out HB.out) | (with_reducible refine Kd.C_alloc ?_ _) | (with_reducible refine Kd.C_drewN ?_ _) | (with_reducible refine Kd.C_drew ?_)))
                             (case side4 => exact HC690_7.out)
                             rintro e w23 ⟨rfl, hb⟩; refine ⟨_, rfl, ?_⟩; have n0_ := Aside0.mk (blk_below (g := gb687) (o := .cells #[.string a0_0, .int .i64 a0_1, .bool a0_2, .int .i64 a0_3, .int .u64 a0_4, .float .f64 a0_5, .string a0_6, .slice (some ad689) l0_7.length c0_7] 38 (0, 0)) (R.bl BK687.out) hb); have n1_ := Aside0.mk (blk_below (g := gb688) (o := .cells #[.string a1_0, .int .i64 a1_1, .bool a1_2, .int .i64 a1_3, .int .u64 a1_4, .float .f64 a1_5, .string a1_6, .slice (some ad690) l1_7.length c1_7] 38 (0, 0)) (R.bl BK688.out) hb); have n2_ := Aside0.mk (below_step (R.hc2 HB.out GE687.out GE688.out) hb); clear BK687; clear BK688; clear HB; have BK687 := n0_; have BK688 := n1_; have HB := n2_; clear n0_ n1_ n2_; (try clear hb); (try clear hb2); (try clear hk); (try clear hi); refine hK.out _ _ ⟨(blk_cell BK687.out 0).trans rfl, (blk_cell BK687.out 1).trans rfl, (blk_cell BK687.out 2).trans rfl, (blk_cell BK687.out 3).trans rfl, (blk_cell BK687.out 4).trans rfl, (blk_cell BK687.out 5).trans rfl, (blk_cell BK687.out 6).trans rfl, (blk_cell BK687.out 7).trans rfl, (blk_cell BK688.out 0).trans rfl, (blk_cell BK688.out 1).trans rfl, (blk_cell BK688.out 2).trans rfl, (blk_cell BK688.out 3).trans rfl, (blk_cell BK688.out 4).trans rfl, (blk_cell BK688.out 5).trans rfl, (blk_cell BK688.out 6).trans rfl, (blk_cell BK688.out 7).trans rfl, ((HB.out.cell (World.block_lt_of_cell? w _ hw689_0)).trans hw689_0), ((HB.out.cell (World.block_lt_of_cell? w _ hw689_1)).trans hw689_1), ((HB.out.cell (World.block_lt_of_cell? w _ hw689_2)).trans hw689_2), ((HB.out.cell (World.block_lt_of_cell? w _ hw689_3)).trans hw689_3), ((HB.out.cell (World.block_lt_of_cell? w _ hw689_4)).trans hw689_4), ((HB.out.cell (World.block_lt_of_cell? w _ hw689_5)).trans hw689_5), ((HB.out.cell (World.block_lt_of_cell? w _ hw689_6)).trans hw689_6), ((HB.out.cell (World.block_lt_of_cell? w _ hw689_7)).trans hw689_7), ((HB.out.cell (World.block_lt_of_cell? w _ hw690_0)).trans hw690_0), ((HB.out.cell (World.block_lt_of_cell? w _ hw690_1)).trans hw690_1), ((HB.out.cell (World.block_lt_of_cell? w _ hw690_2)).trans hw690_2), ((HB.out.cell (World.block_lt_of_cell? w _ hw690_3)).trans hw690_3), ((HB.out.cell (World.block_lt_of_cell? w _ hw690_4)).trans hw690_4), ((HB.out.cell (World.block_lt_of_cell? w _ hw690_5)).trans hw690_5), ((HB.out.cell (World.block_lt_of_cell? w _ hw690_6)).trans hw690_6), ((HB.out.cell (World.block_lt_of_cell? w _ hw690_7)).trans hw690_7)⟩ (fun hHeld => ?_); clear hK K; refine norm_ (a' := ?_) ?_ ?_; rotate_left
                             · show Act.put _ (some 80) _ = _
                               simp only [Act.put, R.sa, R.sb, R.sc, i64_w, i32_w]; rfl
                             refine R.pv (i := 11) (N := some 81) (v := ?_) (a' := ?_) (R.tf 12 0) rfl rfl (R.ao HT_.out) ?_ ?_ ?_; rotate_left
                             · intro w'; go_simp; with_reducible rfl
                             rotate_left
                             · simp only [Act.put, R.sa, R.sb, R.sc, i64_w, i32_w]; rfl
                             refine done_ (R.dn HT_.out) ?_; try go_wp2
                             go_roundg k1
                             case measure => have := HK1.out; omega
                             case rel => exact ⟨(wrap64 (x67_1 + 1)), R.rs, H', ⟨by have := HK1.out; omega⟩, ⟨by (with_reducible repeat (first | refine blk_drewN ?_ _ | refine blk_drew ?_ | refine blk_alloc ?_ _)); exact BK687.out⟩, ⟨by (with_reducible repeat (first | refine blk_drewN ?_ _ | refine blk_drew ?_ | refine blk_alloc ?_ _)); exact BK688.out⟩, ⟨by repeat (first | (with_reducible first | exact HB.out | apply below_alloc | apply pw_below_drewN | apply below_drew1 | refine below_set ?_ GE687.out | refine below_set ?_ GE688.out) | exact HB.out)⟩⟩
                           · replace c21 := Bool.eq_false_iff.mpr c21; subst c21
                             have H1 : (none) = some r := by rw [if_neg (show ¬ (false = true) by decide)] at H; exact H
                             clear H; have H := H1; clear H1; exact absurd H (by simp)
                         · rw [if_neg c19] at H; exact absurd H (by simp)
                       · rw [if_neg c18] at H; exact absurd H (by simp)
                     · rw [if_neg c17] at H; exact absurd H (by simp)
                   · rw [if_neg c16] at H; have c16b0 : decide (x67_1 < (l0_7.length : Int)) = false := decide_eq_false c16; clear c16; obtain rfl := Option.some.inj H; go_wp2
                     go_ret
                     exact ⟨by first | rfl | (simp [errW_none, errW_some] <;> rfl) | (simp [*, errW_none, errW_some] <;> rfl), by repeat (first | (with_reducible first | exact HB.out | apply below_alloc | apply pw_below_drewN | apply below_drew1 | refine below_set ?_ GE687.out | refine below_set ?_ GE688.out) | exact HB.out)⟩
               · rw [if_neg c10] at H; exact absurd H (by simp)
             · rw [if_neg c9] at H; exact absurd H (by simp)
           · rw [if_neg c8] at H; exact absurd H (by simp)
         · rw [if_neg c7] at H; exact absurd H (by simp)
       · rw [if_neg c6] at H; exact absurd H (by simp)
   · rw [if_neg c4] at H; exact absurd H (by simp)
 · rw [if_neg c3] at H; exact absurd H (by simp)
end Go.Proofs.YtabfehcpcjcomaaGreatDoor.QA0
