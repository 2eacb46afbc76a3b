/- The texts QM0x11, N3, N4, N5, Ck, N6, N7, CardFnMountsFilter, without what the claims do not use, laid together by a program of this session (wip/tools/bundle.py). Conditions: those of each theorem. -/
import Derived.Test.YtcpldcndhijecaaDoorZF1
import Derived.Test.YtcpldcndhijecaaDoorCards
import Derived.Test.YtcpldcndhijecaaDoorTie
import Derived.WalkKit
import Derived.ProofKit
import Derived.OpenShut
import Derived.SizedLaws
import Derived.SliceStrings
import Derived.Deep.Slices
import Derived.Deep.DeepHandedRow
import Derived.Deep.DeepWitnessRowRef
import Derived.Lib.LaidIn
namespace Go.Proofs.YtcpldcndhijecaaDoor.QM0
open Go.RowKit Go.Proofs.YtcpldcndhijecaaDoorW.PrintWords Go.Proofs.YtcpldcndhijecaaDoorW.PrintLast Go.Proofs.YtcpldcndhijecaaDoorW.PrintMore
attribute [local go_sem] max2_int min2_int max_two min_two max_three min_three max_four min_four
set_option linter.unusedVariables false
set_option linter.unusedSimpArgs false
mutual
def laws_FnMountsFilter.j0 : Nat → List (S44) → Bool → Int → List ByteArray → Option (Bool)
 | 0, _, _, _, _ => none
 | k + 1, x0, x18, x220000, x220001 => if x18 = true then (some true) else ((laws_printed.f k x0).bind fun bt222 => (if bt222.2 = true then (if x220000 < 0 then (laws_FnMountsFilter.j1 k x0 bt222.1 true x220000 x220001) else (if x220000 > 4 then (laws_FnMountsFilter.j1 k x0 bt222.1 true x220000 x220001) else (if x220000 > 1 then (if (x220001.length : Int) = 1 then (laws_FnMountsFilter.j1 k x0 bt222.1 (decide ((x220001.length : Int) > 20)) x220000 x220001) else (laws_FnMountsFilter.j1 k x0 bt222.1 true x220000 x220001)) else (laws_FnMountsFilter.j1 k x0 bt222.1 (decide ((x220001.length : Int) > 20)) x220000 x220001)))) else (laws_FnMountsFilter.j1 k x0 bt222.1 true x220000 x220001)))
def laws_FnMountsFilter.j1 : Nat → List (S44) → ByteArray → Bool → Int → List ByteArray → Option (Bool)
 | 0, _, _, _, _, _ => none
 | k + 1, x0, x5, x52, x220000, x220001 => if x52 = true then (some true) else ((laws_mountsTo.f k x0).bind fun t224 => ((spec_Filtered.f k x220000 x220001 t224).bind fun bt227 => (if bt227.2 = 1 then ((impl_Mounts.f x5 x220000 x220001).bind fun bt232 => (if bt232.2 = 0 then ((laws_mountsFrom.f k bt227.1).bind fun t236 => ((laws_sameMounts.f k bt232.1 t236).bind fun t239 => (if t239 = true then ((laws_mounts.f).bind fun t240 => (some t240)) else (some false)))) else (some false))) else ((laws_mounts.f).bind fun t231 => (some t231)))))
end
def laws_FnMountsFilter.f (k : Nat) (l0 : List (S44)) (a1_0 : Int) (l1_1 : List ByteArray) : Option (Bool) := (laws_zzFits1.f k l0).bind fun t220 => (if t220 = true then ((laws_zzFits3.f k a1_0 l1_1).bind fun t221 => (laws_FnMountsFilter.j0 k l0 (!t221) a1_0 l1_1)) else (laws_FnMountsFilter.j0 k l0 true a1_0 l1_1))
def laws_FnMountsFilter.T6 : Bool × List (List Nat × List Nat) := (true, [([], []), ([], []), ([1], [1]), ([0, 2, 2], [0, 2]), ([3], [3]), ([4], [4]), ([4], [4]), ([5, 3, 0, 1, 2, 3, 4, 5], [5]), ([6, 7, 0, 1, 2, 3, 4, 5, 6, 7], [6])])
def laws_FnMountsFilter.B6 : List Nat := [0, 0, 2, 7, 15, 31, 31, 63, 255]
theorem laws_FnMountsFilter.tab6 : rtab .any (opsOf Tryd.f4 6) = laws_FnMountsFilter.T6 := by kernel_rfl
theorem laws_FnMountsFilter.bits6 : waitsOk laws_FnMountsFilter.T6.2 laws_FnMountsFilter.B6 = true := by kernel_rfl
set_option maxHeartbeats 8000000 in
set_option maxRecDepth 100000 in
theorem laws_FnMountsFilter.calls (k : Nat) (A0 : Option Addr) (c0 : Nat) (l0 : List (S44)) (a1_0 : Int) (A1_1 : Option Addr) (c1_1 : Nat) (l1_1 : List ByteArray) (r : Bool) (w : World) (hr0 : Kd.C k44 w A0 l0.length l0) (hc0 : l0.length ≤ c0) (hr1_1 : Kd.C Kd.string w A1_1 l1_1.length l1_1) (hc1_1 : l1_1.length ≤ c1_1) (h : laws_FnMountsFilter.f k l0 a1_0 l1_1 = some r) :
 Calls Tryd.prog 4 #[.slice A0 l0.length c0, .agg #[.int .i64 a1_0, .slice A1_1 l1_1.length c1_1]] w fun e w' => e = .returned (.bool r) ∧ Below w.heap.size w w' := by
 have hu30 := Tryd.underlying30
 have HR0 := Aside0.mk hr0
 have HC0 := Aside0.mk hc0
 clear hr0 hc0
 have HR1_1 := Aside0.mk hr1_1
 have HC1_1 := Aside0.mk hc1_1
 clear hr1_1 hc1_1
 have HB := Aside0.mk (Below.refl w.heap.size w)
 have H : ((laws_zzFits1.f k l0).bind fun t220 => (if t220 = true then ((laws_zzFits3.f k a1_0 l1_1).bind fun t221 => (laws_FnMountsFilter.j0 k l0 (!t221) a1_0 l1_1)) else (laws_FnMountsFilter.j0 k l0 true a1_0 l1_1))) = some r := h
 clear h
 have HC3 := Aside0.mk H
 clear H
 go_enter Tryd.func4, Tryd.ntmps4
 go_upto_region 1 with (first | ((with_reducible refine gate_dst (N := 3) rfl ?_); (try (refine gate_guard (by rfl) ?_; dsimp only)); refine box_event ?hg (N := 3) ?hd (cs := #[.int .i64 a1_0, .slice A1_1 l1_1.length c1_1]) (t := 30) ?hr ?_; (case hd => rfl); (case hg => rfl); (case hr => first | (go_simp; done) | (go_simp; rfl)); intro gb219 hg w4 hbox hb; have n0_ := Aside0.mk (below_step (by repeat (first | (with_reducible first | exact HB.out | apply below_alloc | apply pw_below_drewN | apply below_drew1) | exact HB.out)) hb); have n1_ := Aside0.mk (hbox); have n2_ := Aside0.mk ((by rw [hg]; exact (below_size (by repeat (first | (with_reducible first | exact HB.out | apply below_alloc | apply pw_below_drewN | apply below_drew1) | exact HB.out))) : w.heap.size ≤ gb219)); have n3_ := Aside0.mk ((by rw [hg]; exact (below_size (by repeat (first | (with_reducible first | exact HB.out | apply below_alloc | apply pw_below_drewN | apply below_drew1) | exact HB.out))) : w.heap.size ≤ gb219)); clear HB; have HB := n0_; have BK219 := n1_; have GW219 := n2_; have GE219 := n3_; clear n0_ n1_ n2_ n3_; clear hb hbox hg))
 (try simp only [Act.put, List.setIfInBounds_toArray, List.set_cons_zero, List.set_cons_succ])
 go_cut [18] (fun v18 wc => ∃ (kq : Nat) (x18_2 : Bool), v18 = .bool x18_2 ∧ Aside0 (laws_FnMountsFilter.j0 kq l0 x18_2 a1_0 l1_1 = some r) ∧ Aside0 (kq ≤ k) ∧ Aside0 (wc.heap[gb219]? = some (.cells #[.int .i64 a1_0, (.slice A1_1 l1_1.length c1_1)] 30 (0, 0))) ∧ Aside0 (Below w.heap.size w wc))
 case first =>
  have H := HC3.out
  clear HC3
  replace H := Option.bind_eq_some_iff.mp H
  obtain ⟨t220, A50, H⟩ := H
  replace H : (if t220 = true then ((laws_zzFits3.f k a1_0 l1_1).bind fun t221 => (laws_FnMountsFilter.j0 k l0 (!t221) a1_0 l1_1)) else (laws_FnMountsFilter.j0 k l0 true a1_0 l1_1)) = some r := H
  have A5 := Aside0.mk A50
  clear A50
  by_cases c6 : t220 = true
  · subst c6
    have H1 : ((laws_zzFits3.f k a1_0 l1_1).bind fun t221 => (laws_FnMountsFilter.j0 k l0 (!t221) a1_0 l1_1)) = some r := by rw [if_pos rfl] at H; exact H
    clear H
    have H := H1
    clear H1
    replace H := Option.bind_eq_some_iff.mp H
    obtain ⟨t221, A70, H⟩ := H
    replace H : (laws_FnMountsFilter.j0 k l0 (!t221) a1_0 l1_1) = some r := H
    have A7 := Aside0.mk A70
    clear A70
    have H' := Aside0.mk H
    clear H
    go_wp2_with (first | ((with_reducible refine gate_callee (f := 7) rfl ?_); refine goesL_ (some 12) rfl rfl Tryd.func7 (by kernel_rfl) rfl #[.slice A0 l0.length c0] rfl (by (try simp only [List.map_toArray, List.map_cons, List.map_nil]); first | done | rfl | (simp only [List.length_drop, List.length_take]; rfl)) ?_; (with_reducible refine (laws_zzFits1.calls k _ _ l0 true _ ?side1 ?side2 A5.out).mono ?_); (case side1 => repeat (first | exact (Kd.C_below HR0.out HB.out) | (with_reducible refine Kd.C_alloc ?_ _) | (with_reducible refine Kd.C_drewN ?_ _) | (with_reducible refine Kd.C_drew ?_))); (case side2 => exact HC0.out); rintro e w8 ⟨rfl, hb⟩; refine ⟨_, rfl, ?_⟩; have n0_ := Aside0.mk (blk_below (g := gb219) (o := .cells #[.int .i64 a1_0, .slice A1_1 l1_1.length c1_1] 30 (0, 0)) (by (with_reducible repeat (first | refine blk_drewN ?_ _ | refine blk_drew ?_ | refine blk_alloc ?_ _)); exact BK219.out) hb); have n1_ := Aside0.mk (below_step (by repeat (first | (with_reducible first | exact HB.out | apply below_alloc | apply pw_below_drewN | apply below_drew1 | refine below_set ?_ GE219.out) | exact HB.out)) hb); clear BK219; clear HB; have BK219 := n0_; have HB := n1_; clear n0_ n1_; (try clear hb); (try clear hb2); (try clear hk); (try clear hi); have hcz9_0 : w8.cell? ⟨gb219, 0, none⟩ = some (.int .i64 a1_0) := (blk_cell BK219.out 0).trans rfl; have hcz9_1 : w8.cell? ⟨gb219, 1, none⟩ = some (.slice A1_1 l1_1.length c1_1) := (blk_cell BK219.out 1).trans rfl; have hfz9_0 := blk_frozen BK219.out 0; have hfz9_1 := blk_frozen BK219.out 1) | (go_at_call 13; (with_reducible refine (laws_zzFits3.calls k a1_0 _ _ l1_1 t221 _ ?side1 ?side2 A7.out).mono ?_); (case side1 => repeat (first | exact (Kd.C_below HR1_1.out HB.out) | (with_reducible refine Kd.C_alloc ?_ _) | (with_reducible refine Kd.C_drewN ?_ _) | (with_reducible refine Kd.C_drew ?_))); (case side2 => exact HC1_1.out); rintro e w10 ⟨rfl, hb⟩; have n0_ := Aside0.mk (blk_below (g := gb219) (o := .cells #[.int .i64 a1_0, .slice A1_1 l1_1.length c1_1] 30 (0, 0)) (by (with_reducible repeat (first | refine blk_drewN ?_ _ | refine blk_drew ?_ | refine blk_alloc ?_ _)); exact BK219.out) hb); have n1_ := Aside0.mk (below_step (by repeat (first | (with_reducible first | exact HB.out | apply below_alloc | apply pw_below_drewN | apply below_drew1 | refine below_set ?_ GE219.out) | exact HB.out)) hb); clear BK219; clear HB; have BK219 := n0_; have HB := n1_; clear n0_ n1_; (try clear hb); (try clear hb2); (try clear hk); (try clear hi)))
    go_meet
    case rel => exact ⟨_, (!t221), (by first | rfl | (simp; done) | (simp [*]; done)), H', ⟨by first | omega | exact Nat.le_refl _⟩, ⟨by (with_reducible repeat (first | refine blk_drewN ?_ _ | refine blk_drew ?_ | refine blk_alloc ?_ _)); exact BK219.out⟩, ⟨by repeat (first | (with_reducible first | exact HB.out | apply below_alloc | apply pw_below_drewN | apply below_drew1 | refine below_set ?_ GE219.out) | exact HB.out)⟩⟩
  · replace c6 := Bool.eq_false_iff.mpr c6
    subst c6
    have H1 : (laws_FnMountsFilter.j0 k l0 true a1_0 l1_1) = some r := by rw [if_neg (show ¬ (false = true) by decide)] at H; exact H
    clear H
    have H := H1
    clear H1
    have H' := Aside0.mk H
    clear H
    go_wp2_with (first | ((with_reducible refine gate_callee (f := 7) rfl ?_); refine goesL_ (some 12) rfl rfl Tryd.func7 (by kernel_rfl) rfl #[.slice A0 l0.length c0] rfl (by (try simp only [List.map_toArray, List.map_cons, List.map_nil]); first | done | rfl | (simp only [List.length_drop, List.length_take]; rfl)) ?_; (with_reducible refine (laws_zzFits1.calls k _ _ l0 false _ ?side1 ?side2 A5.out).mono ?_); (case side1 => repeat (first | exact (Kd.C_below HR0.out HB.out) | (with_reducible refine Kd.C_alloc ?_ _) | (with_reducible refine Kd.C_drewN ?_ _) | (with_reducible refine Kd.C_drew ?_))); (case side2 => exact HC0.out); rintro e w11 ⟨rfl, hb⟩; refine ⟨_, rfl, ?_⟩; have n0_ := Aside0.mk (blk_below (g := gb219) (o := .cells #[.int .i64 a1_0, .slice A1_1 l1_1.length c1_1] 30 (0, 0)) (by (with_reducible repeat (first | refine blk_drewN ?_ _ | refine blk_drew ?_ | refine blk_alloc ?_ _)); exact BK219.out) hb); have n1_ := Aside0.mk (below_step (by repeat (first | (with_reducible first | exact HB.out | apply below_alloc | apply pw_below_drewN | apply below_drew1 | refine below_set ?_ GE219.out) | exact HB.out)) hb); clear BK219; clear HB; have BK219 := n0_; have HB := n1_; clear n0_ n1_; (try clear hb); (try clear hb2); (try clear hk); (try clear hi)))
    go_meet
    case rel => exact ⟨_, (true), (by first | rfl | (simp; done) | (simp [*]; done)), H', ⟨by first | omega | exact Nat.le_refl _⟩, ⟨by (with_reducible repeat (first | refine blk_drewN ?_ _ | refine blk_drew ?_ | refine blk_alloc ?_ _)); exact BK219.out⟩, ⟨by repeat (first | (with_reducible first | exact HB.out | apply below_alloc | apply pw_below_drewN | apply below_drew1 | refine below_set ?_ GE219.out) | exact HB.out)⟩⟩
 case rest =>
  clear HC3
  try clear c1
  try clear p2
  try clear c4
  try clear c6
  try clear c7
  try clear hcz9_0
  try clear hcz9_1
  try clear hfz9_0
  try clear hfz9_1
  obtain ⟨kq, x18_2, rfl, HA, HJ2, BK219, HB⟩ := hcut
  cases kq with
  | zero => exact absurd HA.out (by simp [laws_FnMountsFilter.j0])
  | succ kj2 =>
   have H := HA.out
   clear HA
   simp only [laws_FnMountsFilter.j0] at H
   by_cases c12 : x18_2 = true
   · subst c12
     have H1 : (some true) = some r := by rw [if_pos rfl] at H; exact H
     clear H
     have H := H1
     clear H1
     obtain rfl := Option.some.inj H
     go_wp2
     go_ret
     exact ⟨by first | rfl | (simp [errW_none, errW_some] <;> rfl) | (simp [*, errW_none, errW_some] <;> rfl), by repeat (first | (with_reducible first | exact HB.out | apply below_alloc | apply pw_below_drewN | apply below_drew1 | refine below_set ?_ GE219.out) | exact HB.out)⟩
   · replace c12 := Bool.eq_false_iff.mpr c12
     subst c12
     have H1 : ((laws_printed.f kj2 l0).bind fun bt222 => (if bt222.2 = true then (if a1_0 < 0 then (laws_FnMountsFilter.j1 kj2 l0 bt222.1 true a1_0 l1_1) else (if a1_0 > 4 then (laws_FnMountsFilter.j1 kj2 l0 bt222.1 true a1_0 l1_1) else (if a1_0 > 1 then (if (l1_1.length : Int) = 1 then (laws_FnMountsFilter.j1 kj2 l0 bt222.1 (decide ((l1_1.length : Int) > 20)) a1_0 l1_1) else (laws_FnMountsFilter.j1 kj2 l0 bt222.1 true a1_0 l1_1)) else (laws_FnMountsFilter.j1 kj2 l0 bt222.1 (decide ((l1_1.length : Int) > 20)) a1_0 l1_1)))) else (laws_FnMountsFilter.j1 kj2 l0 bt222.1 true a1_0 l1_1))) = some r := by rw [if_neg (show ¬ (false = true) by decide)] at H; exact H
     clear H
     have H := H1
     clear H1
     replace H := Option.bind_eq_some_iff.mp H
     obtain ⟨⟨t222, t223⟩, A130, H⟩ := H
     replace H : (if t223 = true then (if a1_0 < 0 then (laws_FnMountsFilter.j1 kj2 l0 t222 true a1_0 l1_1) else (if a1_0 > 4 then (laws_FnMountsFilter.j1 kj2 l0 t222 true a1_0 l1_1) else (if a1_0 > 1 then (if (l1_1.length : Int) = 1 then (laws_FnMountsFilter.j1 kj2 l0 t222 (decide ((l1_1.length : Int) > 20)) a1_0 l1_1) else (laws_FnMountsFilter.j1 kj2 l0 t222 true a1_0 l1_1)) else (laws_FnMountsFilter.j1 kj2 l0 t222 (decide ((l1_1.length : Int) > 20)) a1_0 l1_1)))) else (laws_FnMountsFilter.j1 kj2 l0 t222 true a1_0 l1_1)) = some r := H
     have A13 := Aside0.mk A130
     clear A130
     have HC14 := Aside0.mk H
     clear H
     go_upto_region 4 with (first | ((with_reducible refine gate_callee (f := 8) rfl ?_); refine goesL_ (some 21) rfl rfl Tryd.func8 (by kernel_rfl) rfl #[.slice A0 l0.length c0] rfl (by (try simp only [List.map_toArray, List.map_cons, List.map_nil]); first | done | rfl | (simp only [List.length_drop, List.length_take]; rfl)) ?_; (with_reducible refine (laws_printed.calls kj2 _ _ l0 t222 t223 _ ?side1 ?side2 A13.out).mono ?_); (case side1 => repeat (first | exact (Kd.C_below HR0.out HB.out) | (with_reducible refine Kd.C_alloc ?_ _) | (with_reducible refine Kd.C_drewN ?_ _) | (with_reducible refine Kd.C_drew ?_))); (case side2 => exact HC0.out); rintro e w15 ⟨rfl, hb⟩; refine ⟨_, rfl, ?_⟩; have n0_ := Aside0.mk (blk_below (g := gb219) (o := .cells #[.int .i64 a1_0, .slice A1_1 l1_1.length c1_1] 30 (0, 0)) (by (with_reducible repeat (first | refine blk_drewN ?_ _ | refine blk_drew ?_ | refine blk_alloc ?_ _)); exact BK219.out) hb); have n1_ := Aside0.mk (below_step (by repeat (first | (with_reducible first | exact HB.out | apply below_alloc | apply pw_below_drewN | apply below_drew1 | refine below_set ?_ GE219.out) | exact HB.out)) hb); clear BK219; clear HB; have BK219 := n0_; have HB := n1_; clear n0_ n1_; (try clear hb); (try clear hb2); (try clear hk); (try clear hi)))
     (try simp only [Act.put, List.setIfInBounds_toArray, List.set_cons_zero, List.set_cons_succ])
     go_cut [52] (fun v52 wc => ∃ (kq : Nat) (x52_13 : Bool), v52 = .bool x52_13 ∧ Aside0 (laws_FnMountsFilter.j1 kq l0 t222 x52_13 a1_0 l1_1 = some r) ∧ Aside0 (kq ≤ kj2) ∧ Aside0 (wc.heap[gb219]? = some (.cells #[.int .i64 a1_0, (.slice A1_1 l1_1.length c1_1)] 30 (0, 0))) ∧ Aside0 (Below w.heap.size w wc))
     case first =>
      have H := HC14.out
      clear HC14
      by_cases c16 : t223 = true
      · subst c16
        have H1 : (if a1_0 < 0 then (laws_FnMountsFilter.j1 kj2 l0 t222 true a1_0 l1_1) else (if a1_0 > 4 then (laws_FnMountsFilter.j1 kj2 l0 t222 true a1_0 l1_1) else (if a1_0 > 1 then (if (l1_1.length : Int) = 1 then (laws_FnMountsFilter.j1 kj2 l0 t222 (decide ((l1_1.length : Int) > 20)) a1_0 l1_1) else (laws_FnMountsFilter.j1 kj2 l0 t222 true a1_0 l1_1)) else (laws_FnMountsFilter.j1 kj2 l0 t222 (decide ((l1_1.length : Int) > 20)) a1_0 l1_1)))) = some r := by rw [if_pos rfl] at H; exact H
        clear H
        have H := H1
        clear H1
        by_cases c17 : a1_0 < 0
        · rw [if_pos c17] at H
          have c17b0 : decide (a1_0 < 0) = true := decide_eq_true c17
          clear c17
          (first | rw [c17b0] | (simp only [i64_w, i32_w]; rw [c17b0]) | skip)
          have H' := Aside0.mk H
          clear H
          have hcz18_0 : w15.cell? ⟨gb219, 0, none⟩ = some (.int .i64 a1_0) := (blk_cell BK219.out 0).trans rfl
          have hcz18_1 : w15.cell? ⟨gb219, 1, none⟩ = some (.slice A1_1 l1_1.length c1_1) := (blk_cell BK219.out 1).trans rfl
          have hfz18_0 := blk_frozen BK219.out 0
          have hfz18_1 := blk_frozen BK219.out 1
          go_wp2
          go_meet
          case rel => exact ⟨_, (true), (by first | rfl | (simp; done) | (simp [*]; done)), H', ⟨by have := HJ2.out; first | omega | exact Nat.le_refl _⟩, ⟨by (with_reducible repeat (first | refine blk_drewN ?_ _ | refine blk_drew ?_ | refine blk_alloc ?_ _)); exact BK219.out⟩, ⟨by repeat (first | (with_reducible first | exact HB.out | apply below_alloc | apply pw_below_drewN | apply below_drew1 | refine below_set ?_ GE219.out) | exact HB.out)⟩⟩
        · rw [if_neg c17] at H
          have c17b0 : decide (a1_0 < 0) = false := decide_eq_false c17
          clear c17
          (first | rw [c17b0] | (simp only [i64_w, i32_w]; rw [c17b0]) | skip)
          by_cases c19 : a1_0 > 4
          · rw [if_pos c19] at H
            have c19b0 : decide (4 < a1_0) = true := decide_eq_true c19
            clear c19
            have H' := Aside0.mk H
            clear H
            have hcz20_0 : w15.cell? ⟨gb219, 0, none⟩ = some (.int .i64 a1_0) := (blk_cell BK219.out 0).trans rfl
            have hcz20_1 : w15.cell? ⟨gb219, 1, none⟩ = some (.slice A1_1 l1_1.length c1_1) := (blk_cell BK219.out 1).trans rfl
            have hfz20_0 := blk_frozen BK219.out 0
            have hfz20_1 := blk_frozen BK219.out 1
            go_wp2
            go_meet
            case rel => exact ⟨_, (true), (by first | rfl | (simp; done) | (simp [*]; done)), H', ⟨by have := HJ2.out; first | omega | exact Nat.le_refl _⟩, ⟨by (with_reducible repeat (first | refine blk_drewN ?_ _ | refine blk_drew ?_ | refine blk_alloc ?_ _)); exact BK219.out⟩, ⟨by repeat (first | (with_reducible first | exact HB.out | apply below_alloc | apply pw_below_drewN | apply below_drew1 | refine below_set ?_ GE219.out) | exact HB.out)⟩⟩
          · rw [if_neg c19] at H
            have c19b0 : decide (4 < a1_0) = false := decide_eq_false c19
            clear c19
            by_cases c21 : a1_0 > 1
            · rw [if_pos c21] at H
              have c21b0 : decide (1 < a1_0) = true := decide_eq_true c21
              clear c21
              by_cases c22 : (l1_1.length : Int) = 1
              · rw [if_pos c22] at H
                have c22b0 : ((l1_1.length : Int) == 1) = true := beq_iff_eq.mpr c22
                have c22b1 : ((l1_1.length : Int) != 1) = false := bne_eq_false_iff_eq.mpr c22
                clear c22
                have H' := Aside0.mk H
                clear H
                have hcz23_0 : w15.cell? ⟨gb219, 0, none⟩ = some (.int .i64 a1_0) := (blk_cell BK219.out 0).trans rfl
                have hcz23_1 : w15.cell? ⟨gb219, 1, none⟩ = some (.slice A1_1 l1_1.length c1_1) := (blk_cell BK219.out 1).trans rfl
                have hfz23_0 := blk_frozen BK219.out 0
                have hfz23_1 := blk_frozen BK219.out 1
                go_wp2
                go_meet
                case rel => exact ⟨_, (decide ((l1_1.length : Int) > 20)), (by first | rfl | (simp; done) | (simp [*]; done)), H', ⟨by have := HJ2.out; first | omega | exact Nat.le_refl _⟩, ⟨by (with_reducible repeat (first | refine blk_drewN ?_ _ | refine blk_drew ?_ | refine blk_alloc ?_ _)); exact BK219.out⟩, ⟨by repeat (first | (with_reducible first | exact HB.out | apply below_alloc | apply pw_below_drewN | apply below_drew1 | refine below_set ?_ GE219.out) | exact HB.out)⟩⟩
              · rw [if_neg c22] at H
                have c22b0 : ((l1_1.length : Int) == 1) = false := beq_eq_false_iff_ne.mpr c22
                have c22b1 : ((l1_1.length : Int) != 1) = true := bne_iff_ne.mpr c22
                have H' := Aside0.mk H
                clear H
                have hcz24_0 : w15.cell? ⟨gb219, 0, none⟩ = some (.int .i64 a1_0) := (blk_cell BK219.out 0).trans rfl
                have hcz24_1 : w15.cell? ⟨gb219, 1, none⟩ = some (.slice A1_1 l1_1.length c1_1) := (blk_cell BK219.out 1).trans rfl
                have hfz24_0 := blk_frozen BK219.out 0
                have hfz24_1 := blk_frozen BK219.out 1
                go_wp2
                go_meet
                case rel => exact ⟨_, (true), (by first | rfl | (simp; done) | (simp [*]; done)), H', ⟨by have := HJ2.out; first | omega | exact Nat.le_refl _⟩, ⟨by (with_reducible repeat (first | refine blk_drewN ?_ _ | refine blk_drew ?_ | refine blk_alloc ?_ _)); exact BK219.out⟩, ⟨by repeat (first | (with_reducible first | exact HB.out | apply below_alloc | apply pw_below_drewN | apply below_drew1 | refine below_set ?_ GE219.out) | exact HB.out)⟩⟩
            · rw [if_neg c21] at H
              have c21b0 : decide (1 < a1_0) = false := decide_eq_false c21
              clear c21
              have H' := Aside0.mk H
              clear H
              have hcz25_0 : w15.cell? ⟨gb219, 0, none⟩ = some (.int .i64 a1_0) := (blk_cell BK219.out 0).trans rfl
              have hcz25_1 : w15.cell? ⟨gb219, 1, none⟩ = some (.slice A1_1 l1_1.length c1_1) := (blk_cell BK219.out 1).trans rfl
              have hfz25_0 := blk_frozen BK219.out 0
              have hfz25_1 := blk_frozen BK219.out 1
              go_wp2
              go_meet
              case rel => exact ⟨_, (decide ((l1_1.length : Int) > 20)), (by first | rfl | (simp; done) | (simp [*]; done)), H', ⟨by have := HJ2.out; first | omega | exact Nat.le_refl _⟩, ⟨by (with_reducible repeat (first | refine blk_drewN ?_ _ | refine blk_drew ?_ | refine blk_alloc ?_ _)); exact BK219.out⟩, ⟨by repeat (first | (with_reducible first | exact HB.out | apply below_alloc | apply pw_below_drewN | apply below_drew1 | refine below_set ?_ GE219.out) | exact HB.out)⟩⟩
      · replace c16 := Bool.eq_false_iff.mpr c16
        subst c16
        have H1 : (laws_FnMountsFilter.j1 kj2 l0 t222 true a1_0 l1_1) = some r := by rw [if_neg (show ¬ (false = true) by decide)] at H; exact H
        clear H
        have H := H1
        clear H1
        have H' := Aside0.mk H
        clear H
        go_wp2
        go_meet
        case rel => exact ⟨_, (true), (by first | rfl | (simp; done) | (simp [*]; done)), H', ⟨by have := HJ2.out; first | omega | exact Nat.le_refl _⟩, ⟨by (with_reducible repeat (first | refine blk_drewN ?_ _ | refine blk_drew ?_ | refine blk_alloc ?_ _)); exact BK219.out⟩, ⟨by repeat (first | (with_reducible first | exact HB.out | apply below_alloc | apply pw_below_drewN | apply below_drew1 | refine below_set ?_ GE219.out) | exact HB.out)⟩⟩
     case rest =>
      clear HC14
      try clear c1
      try clear c2
      try clear p2
      try clear c4
      try clear c6
      try clear c7
      try clear c8
      try clear c12
      try clear c16
      try clear c17
      try clear c17b0
      try clear c19
      try clear c19b0
      try clear c21
      try clear c21b0
      try clear c22
      try clear c22b0
      try clear c22b1
      try clear hcz18_0
      try clear hcz18_1
      try clear hcz20_0
      try clear hcz20_1
      try clear hcz23_0
      try clear hcz23_1
      try clear hcz24_0
      try clear hcz24_1
      try clear hcz25_0
      try clear hcz25_1
      try clear hcz9_0
      try clear hcz9_1
      try clear hfz18_0
      try clear hfz18_1
      try clear hfz20_0
      try clear hfz20_1
      try clear hfz23_0
      try clear hfz23_1
      try clear hfz24_0
      try clear hfz24_1
      try clear hfz25_0
      try clear hfz25_1
      try clear hfz9_0
      try clear hfz9_1
      try clear p2
      obtain ⟨kq, x52_13, rfl, HA, HJ13, BK219, HB⟩ := hcut
      cases kq with
      | zero => exact absurd HA.out (by simp [laws_FnMountsFilter.j1])
      | succ kj13 =>
       have H := HA.out
       clear HA
       simp only [laws_FnMountsFilter.j1] at H
       by_cases c26 : x52_13 = true
       · subst c26
         have H1 : (some true) = some r := by rw [if_pos rfl] at H; exact H
         clear H
         have H := H1
         clear H1
         obtain rfl := Option.some.inj H
         go_wp2
         go_ret
         exact ⟨by first | rfl | (simp [errW_none, errW_some] <;> rfl) | (simp [*, errW_none, errW_some] <;> rfl), by repeat (first | (with_reducible first | exact HB.out | apply below_alloc | apply pw_below_drewN | apply below_drew1 | refine below_set ?_ GE219.out) | exact HB.out)⟩
       · replace c26 := Bool.eq_false_iff.mpr c26
         subst c26
         have H1 : ((laws_mountsTo.f kj13 l0).bind fun t224 => ((spec_Filtered.f kj13 a1_0 l1_1 t224).bind fun bt227 => (if bt227.2 = 1 then ((impl_Mounts.f t222 a1_0 l1_1).bind fun bt232 => (if bt232.2 = 0 then ((laws_mountsFrom.f kj13 bt227.1).bind fun t236 => ((laws_sameMounts.f kj13 bt232.1 t236).bind fun t239 => (if t239 = true then ((laws_mounts.f).bind fun t240 => (some t240)) else (some false)))) else (some false))) else ((laws_mounts.f).bind fun t231 => (some t231))))) = some r := by rw [if_neg (show ¬ (false = true) by decide)] at H; exact H
         clear H
         have H := H1
         clear H1
         replace H := Option.bind_eq_some_iff.mp H
         obtain ⟨t224, A270, H⟩ := H
         replace H : ((spec_Filtered.f kj13 a1_0 l1_1 t224).bind fun bt227 => (if bt227.2 = 1 then ((impl_Mounts.f t222 a1_0 l1_1).bind fun bt232 => (if bt232.2 = 0 then ((laws_mountsFrom.f kj13 bt227.1).bind fun t236 => ((laws_sameMounts.f kj13 bt232.1 t236).bind fun t239 => (if t239 = true then ((laws_mounts.f).bind fun t240 => (some t240)) else (some false)))) else (some false))) else ((laws_mounts.f).bind fun t231 => (some t231)))) = some r := H
         have A27 := Aside0.mk A270
         clear A270
         replace H := Option.bind_eq_some_iff.mp H
         obtain ⟨⟨t227, t230⟩, A280, H⟩ := H
         replace H : (if t230 = 1 then ((impl_Mounts.f t222 a1_0 l1_1).bind fun bt232 => (if bt232.2 = 0 then ((laws_mountsFrom.f kj13 t227).bind fun t236 => ((laws_sameMounts.f kj13 bt232.1 t236).bind fun t239 => (if t239 = true then ((laws_mounts.f).bind fun t240 => (some t240)) else (some false)))) else (some false))) else ((laws_mounts.f).bind fun t231 => (some t231))) = some r := H
         have A28 := Aside0.mk A280
         clear A280
         by_cases c29 : t230 = 1
         · rw [if_pos c29] at H
           have c29b0 : (t230 == 1) = true := beq_iff_eq.mpr c29
           have c29b1 : (t230 != 1) = false := bne_eq_false_iff_eq.mpr c29
           clear c29
           replace H := Option.bind_eq_some_iff.mp H
           obtain ⟨⟨t232, t235⟩, A300, H⟩ := H
           replace H : (if t235 = 0 then ((laws_mountsFrom.f kj13 t227).bind fun t236 => ((laws_sameMounts.f kj13 t232 t236).bind fun t239 => (if t239 = true then ((laws_mounts.f).bind fun t240 => (some t240)) else (some false)))) else (some false)) = some r := H
           have A30 := Aside0.mk A300
           clear A300
           by_cases c31 : t235 = 0
           · rw [if_pos c31] at H
             have c31b0 : (t235 == 0) = true := beq_iff_eq.mpr c31
             have c31b1 : (t235 != 0) = false := bne_eq_false_iff_eq.mpr c31
             clear c31
             replace H := Option.bind_eq_some_iff.mp H
             obtain ⟨t236, A320, H⟩ := H
             replace H : ((laws_sameMounts.f kj13 t232 t236).bind fun t239 => (if t239 = true then ((laws_mounts.f).bind fun t240 => (some t240)) else (some false))) = some r := H
             have A32 := Aside0.mk A320
             clear A320
             replace H := Option.bind_eq_some_iff.mp H
             obtain ⟨t239, A330, H⟩ := H
             replace H : (if t239 = true then ((laws_mounts.f).bind fun t240 => (some t240)) else (some false)) = some r := H
             have A33 := Aside0.mk A330
             clear A330
             by_cases c34 : t239 = true
             · subst c34
               have H1 : ((laws_mounts.f).bind fun t240 => (some t240)) = some r := by rw [if_pos rfl] at H; exact H
               clear H
               have H := H1
               clear H1
               replace H := Option.bind_eq_some_iff.mp H
               obtain ⟨t240, A350, H⟩ := H
               replace H : (some t240) = some r := H
               have A35 := Aside0.mk A350
               clear A350
               obtain rfl := Option.some.inj H
               try go_wp2
               have n0_ := Aside0.mk (blk_drew BK219.out)
               have n1_ := Aside0.mk (below_drew1 HB.out)
               clear BK219
               clear HB
               have BK219 := n0_
               have HB := n1_
               clear n0_ n1_
               refine start_ (n := 9) (S := fun w' => w'.cell? ⟨gb219, 0, none⟩ = some (.int .i64 a1_0) ∧ w'.cell? ⟨gb219, 1, none⟩ = some (.slice A1_1 l1_1.length c1_1)) (ds := []) #[false, false, false, false, false, false, false, false, false] (by kernel_rfl) rfl rfl ⟨(blk_cell BK219.out 0).trans rfl, (blk_cell BK219.out 1).trans rfl⟩ (fun hHeld => ?_); refine with_tabW laws_FnMountsFilter.tab6 laws_FnMountsFilter.bits6 (fun HT_ HW_ => ?_)
               generalize wc.drew = w36 at BK219 HB hHeld ⊢
               refine pure_ (i := 1) (N := some 55) (v := ?_) (a' := ?_) #[false, true, false, false, false, false, false, false, false] rfl rfl (any_of HT_.out (by kernel_rfl)) (fun _ _ _ h => h) (Or.inl ⟨by rfl, ?_⟩) ?_ ?_
               rotate_left
               · intro w'
                 go_simp
                 with_reducible rfl
               rotate_left
               · simp only [Act.put, List.setIfInBounds_toArray, List.set_cons_zero, List.set_cons_succ, i64_w, i32_w]
                 rfl
               refine take_ (i := 0) (N := some 54) (v := ?_) (a' := ?_) #[true, true, false, false, false, false, false, false, false] rfl rfl (take_ofW HT_.out HW_.out (by kernel_rfl)) (fun _ _ _ h => h) (Or.inl ⟨by rfl, ?_⟩) hHeld ?_ ?_
               rotate_left
               · rintro w' ⟨s0, s1⟩
                 go_simp
                 with_reducible rfl
               rotate_left
               · simp only [Act.put, List.setIfInBounds_toArray, List.set_cons_zero, List.set_cons_succ, i64_w, i32_w]
                 rfl
               refine one_ (i := 2) (N := some 56) #[true, true, true, false, false, false, false, false, false] rfl rfl (one_of HT_.out (by kernel_rfl)) (by decide) (fun K hK => ?_)
               refine goes_ Tryd.func15 (by kernel_rfl) rfl #[.slice A0 l0.length c0] (by rfl) rfl rfl (by (try simp only [List.map_toArray, List.map_cons, List.map_nil]); first | done | rfl | (simp only [List.length_drop, List.length_take]; rfl)) ?_
               with_reducible refine (laws_mountsTo.calls kj13 _ _ l0 t224 _ ?side1 ?side2 A27.out).mono ?_
               (case side1 => repeat (first | exact (Kd.C_below HR0.out HB.out) | (with_reducible refine Kd.C_alloc ?_ _) | (with_reducible refine Kd.C_drewN ?_ _) | (with_reducible refine Kd.C_drew ?_)))
               (case side2 => exact HC0.out)
               rintro e w37 ⟨v225, rfl, ho0, hb⟩
               refine ⟨_, rfl, ?_⟩
               have n0_ := Aside0.mk (Kd.R_lower ho0 (below_size (by repeat (first | (with_reducible first | exact HB.out | apply below_alloc | apply pw_below_drewN | apply below_drew1 | refine below_set ?_ GE219.out) | exact HB.out))))
               have n1_ := Aside0.mk (blk_below (g := gb219) (o := .cells #[.int .i64 a1_0, .slice A1_1 l1_1.length c1_1] 30 (0, 0)) (by (with_reducible repeat (first | refine blk_drewN ?_ _ | refine blk_drew ?_ | refine blk_alloc ?_ _)); exact BK219.out) hb)
               have n2_ := Aside0.mk (below_step (by repeat (first | (with_reducible first | exact HB.out | apply below_alloc | apply pw_below_drewN | apply below_drew1 | refine below_set ?_ GE219.out) | exact HB.out)) hb)
               clear BK219
               clear HB
               have HO226 := n0_
               have BK219 := n1_
               have HB := n2_
               clear n0_ n1_ n2_
               (try clear hb)
               (try clear hb2)
               (try clear hk)
               (try clear hi)
               (try clear ho0)
               obtain ⟨Ao38, co38, eo38⟩ := Kd.R_slice HO226.out
               (first | subst eo38 | (injection eo38 with f1_ f2_ f3_; have f4_ := f1_.symm; have f5_ := f3_.symm; clear f1_ f2_ f3_; subst f4_; subst f5_))
               refine hK.out _ _ ⟨(blk_cell BK219.out 0).trans rfl, (blk_cell BK219.out 1).trans rfl⟩ (fun hHeld => ?_)
               clear hK K
               refine norm_ (a' := ?_) ?_ ?_
               rotate_left
               · show Act.put _ (some 56) _ = _
                 simp only [Act.put, List.setIfInBounds_toArray, List.set_cons_zero, List.set_cons_succ, i64_w, i32_w]
                 rfl
               refine one_ (i := 3) (N := some 57) #[true, true, true, true, false, false, false, false, false] rfl rfl (one_of HT_.out (by kernel_rfl)) (by decide) (fun K hK => ?_)
               refine goes_ Tryd.func14 (by kernel_rfl) rfl #[.agg #[.int .i64 a1_0, .slice A1_1 l1_1.length c1_1], .slice Ao38 t224.length co38] (by rfl) rfl rfl (by (try simp only [List.map_toArray, List.map_cons, List.map_nil]); first | done | rfl | (simp only [List.length_drop, List.length_take]; rfl)) ?_
               with_reducible refine (spec_Filtered.calls kj13 a1_0 _ _ l1_1 _ _ t224 t227 t230 _ ?side1 ?side2 ?side3 ?side4 A28.out).mono ?_
               (case side1 => repeat (first | exact (Kd.C_below HR1_1.out HB.out) | (with_reducible refine Kd.C_alloc ?_ _) | (with_reducible refine Kd.C_drewN ?_ _) | (with_reducible refine Kd.C_drew ?_)))
               (case side2 => exact HC1_1.out)
               (case side3 => repeat (first | exact (Kd.R_reads' HO226.out).2.2 | (with_reducible refine Kd.C_alloc ?_ _) | (with_reducible refine Kd.C_drewN ?_ _) | (with_reducible refine Kd.C_drew ?_)))
               (case side4 => exact (Kd.R_reads' HO226.out).2.1)
               rintro e w39 ⟨v228, rfl, ho0, hb⟩
               refine ⟨_, rfl, ?_⟩
               have n0_ := Aside0.mk (Kd.R_elder' (by (with_reducible repeat (first | apply Kd.R_alloc | apply Kd.R_drewN | apply Kd.R_drew)); exact HO226.out) (Kd.R_base ho0) hb)
               have n1_ := Aside0.mk (Kd.R_lower (Kd.R_new' ho0 (Kd.R_lt (by (with_reducible repeat (first | apply Kd.R_alloc | apply Kd.R_drewN | apply Kd.R_drew)); exact HO226.out))) (below_size (by repeat (first | (with_reducible first | exact HB.out | apply below_alloc | apply pw_below_drewN | apply below_drew1 | refine below_set ?_ GE219.out) | exact HB.out))))
               have n2_ := Aside0.mk (blk_below (g := gb219) (o := .cells #[.int .i64 a1_0, .slice A1_1 l1_1.length c1_1] 30 (0, 0)) (by (with_reducible repeat (first | refine blk_drewN ?_ _ | refine blk_drew ?_ | refine blk_alloc ?_ _)); exact BK219.out) hb)
               have n3_ := Aside0.mk (below_step (by repeat (first | (with_reducible first | exact HB.out | apply below_alloc | apply pw_below_drewN | apply below_drew1 | refine below_set ?_ GE219.out) | exact HB.out)) hb)
               clear HO226
               clear BK219
               clear HB
               have HO226 := n0_
               have HO229 := n1_
               have BK219 := n2_
               have HB := n3_
               clear n0_ n1_ n2_ n3_
               (try clear hb)
               (try clear hb2)
               (try clear hk)
               (try clear hi)
               (try clear ho0)
               refine hK.out _ _ ⟨(blk_cell BK219.out 0).trans rfl, (blk_cell BK219.out 1).trans rfl⟩ (fun hHeld => ?_)
               clear hK K
               refine norm_ (a' := ?_) ?_ ?_
               rotate_left
               · show Act.put _ (some 57) _ = _
                 simp only [Act.put, List.setIfInBounds_toArray, List.set_cons_zero, List.set_cons_succ, i64_w, i32_w]
                 rfl
               refine pure_ (i := 4) (N := some 53) (v := ?_) (a' := ?_) #[true, true, true, true, true, false, false, false, false] rfl rfl (any_of HT_.out (by kernel_rfl)) (fun _ _ _ h => h) (Or.inl ⟨by rfl, ?_⟩) ?_ ?_
               rotate_left
               · intro w'
                 go_simp
                 with_reducible rfl
               rotate_left
               · simp only [Act.put, List.setIfInBounds_toArray, List.set_cons_zero, List.set_cons_succ, i64_w, i32_w]
                 rfl
               refine pure_ (i := 5) (N := some 58) (v := ?_) (a' := ?_) #[true, true, true, true, true, true, false, false, false] rfl rfl (any_of HT_.out (by kernel_rfl)) (fun _ _ _ h => h) (Or.inl ⟨by rfl, ?_⟩) ?_ ?_
               rotate_left
               · intro w'
                 go_simp
                 with_reducible rfl
               rotate_left
               · simp only [Act.put, List.setIfInBounds_toArray, List.set_cons_zero, List.set_cons_succ, i64_w, i32_w]
                 rfl
               refine pure_ (i := 6) (N := some 59) (v := ?_) (a' := ?_) #[true, true, true, true, true, true, true, false, false] rfl rfl (any_of HT_.out (by kernel_rfl)) (fun _ _ _ h => h) (Or.inl ⟨by rfl, ?_⟩) ?_ ?_
               rotate_left
               · intro w'
                 go_simp
                 with_reducible rfl
               rotate_left
               · simp only [Act.put, List.setIfInBounds_toArray, List.set_cons_zero, List.set_cons_succ, i64_w, i32_w]
                 rfl
               refine pure_ (i := 7) (N := some 7) (v := ?_) (a' := ?_) #[true, true, true, true, true, true, true, true, false] rfl rfl (any_of HT_.out (by kernel_rfl)) (fun _ _ _ h => h) (Or.inl ⟨by rfl, ?_⟩) ?_ ?_
               rotate_left
               · intro w'
                 go_simp
                 with_reducible rfl
               rotate_left
               · simp only [Act.put, List.setIfInBounds_toArray, List.set_cons_zero, List.set_cons_succ, i64_w, i32_w]
                 rfl
               refine pure_ (i := 8) (N := some 8) (v := ?_) (a' := ?_) #[true, true, true, true, true, true, true, true, true] rfl rfl (any_of HT_.out (by kernel_rfl)) (fun _ _ _ h => h) (Or.inl ⟨by rfl, ?_⟩) ?_ ?_
               rotate_left
               · intro w'
                 go_simp
                 with_reducible rfl
               rotate_left
               · simp only [Act.put, List.setIfInBounds_toArray, List.set_cons_zero, List.set_cons_succ, i64_w, i32_w]
                 rfl
               refine done_ (done_of HT_.out (by kernel_rfl)) ?_
               have hcz40_0 : w39.cell? ⟨gb219, 0, none⟩ = some (.int .i64 a1_0) := (blk_cell BK219.out 0).trans rfl
               have hcz40_1 : w39.cell? ⟨gb219, 1, none⟩ = some (.slice A1_1 l1_1.length c1_1) := (blk_cell BK219.out 1).trans rfl
               have hfz40_0 := blk_frozen BK219.out 0
               have hfz40_1 := blk_frozen BK219.out 1
               try go_wp2_with (first | ((with_reducible refine gate_callee (f := 9) rfl ?_); refine goesL_ (some 66) rfl rfl Tryd.func9 (by kernel_rfl) rfl #[.string t222, .agg #[.int .i64 a1_0, .slice A1_1 l1_1.length c1_1]] rfl (by (try simp only [List.map_toArray, List.map_cons, List.map_nil]); first | done | rfl | (simp only [List.length_drop, List.length_take]; rfl)) ?_; (with_reducible refine (impl_Mounts.calls t222 a1_0 _ _ l1_1 t232 t235 _ ?side1 ?side2 A30.out).mono ?_); (case side1 => repeat (first | exact (Kd.C_below HR1_1.out HB.out) | (with_reducible refine Kd.C_alloc ?_ _) | (with_reducible refine Kd.C_drewN ?_ _) | (with_reducible refine Kd.C_drew ?_))); (case side2 => exact HC1_1.out); rintro e w41 ⟨v233, rfl, ho0, hb⟩; refine ⟨_, rfl, ?_⟩; have n0_ := Aside0.mk (Kd.R_below (by (with_reducible repeat (first | apply Kd.R_alloc | apply Kd.R_drewN | apply Kd.R_drew)); exact HO226.out) hb); have n1_ := Aside0.mk (Kd.R_below (by (with_reducible repeat (first | apply Kd.R_alloc | apply Kd.R_drewN | apply Kd.R_drew)); exact HO229.out) hb); have n2_ := Aside0.mk (Kd.R_lower ho0 (below_size (by repeat (first | (with_reducible first | exact HB.out | apply below_alloc | apply pw_below_drewN | apply below_drew1 | refine below_set ?_ GE219.out) | exact HB.out)))); have n3_ := Aside0.mk (blk_below (g := gb219) (o := .cells #[.int .i64 a1_0, .slice A1_1 l1_1.length c1_1] 30 (0, 0)) (by (with_reducible repeat (first | refine blk_drewN ?_ _ | refine blk_drew ?_ | refine blk_alloc ?_ _)); exact BK219.out) hb); have n4_ := Aside0.mk (below_step (by repeat (first | (with_reducible first | exact HB.out | apply below_alloc | apply pw_below_drewN | apply below_drew1 | refine below_set ?_ GE219.out) | exact HB.out)) hb); clear HO226; clear HO229; clear BK219; clear HB; have HO226 := n0_; have HO229 := n1_; have HO234 := n2_; have BK219 := n3_; have HB := n4_; clear n0_ n1_ n2_ n3_ n4_; (try clear hb); (try clear hb2); (try clear hk); (try clear hi); (try clear ho0); obtain ⟨Ao42, co42, eo42⟩ := Kd.R_slice HO229.out; subst eo42) | (go_at_call 16; (with_reducible refine (laws_mountsFrom.calls kj13 _ _ t227 t236 _ ?side1 ?side2 A32.out).mono ?_); (case side1 => repeat (first | exact (Kd.R_reads' HO229.out).2.2 | (with_reducible refine Kd.C_alloc ?_ _) | (with_reducible refine Kd.C_drewN ?_ _) | (with_reducible refine Kd.C_drew ?_))); (case side2 => exact (Kd.R_reads' HO229.out).2.1); rintro e w43 ⟨v237, rfl, ho0, hb⟩; have n0_ := Aside0.mk (Kd.R_below (by (with_reducible repeat (first | apply Kd.R_alloc | apply Kd.R_drewN | apply Kd.R_drew)); exact HO226.out) hb); have n1_ := Aside0.mk (Kd.R_below (by (with_reducible repeat (first | apply Kd.R_alloc | apply Kd.R_drewN | apply Kd.R_drew)); exact HO229.out) hb); have n2_ := Aside0.mk (Kd.R_elder' (by (with_reducible repeat (first | apply Kd.R_alloc | apply Kd.R_drewN | apply Kd.R_drew)); exact HO234.out) (Kd.R_base ho0) hb); have n3_ := Aside0.mk (Kd.R_lower (Kd.R_new' ho0 (Kd.R_lt (by (with_reducible repeat (first | apply Kd.R_alloc | apply Kd.R_drewN | apply Kd.R_drew)); exact HO234.out))) (below_size (by repeat (first | (with_reducible first | exact HB.out | apply below_alloc | apply pw_below_drewN | apply below_drew1 | refine below_set ?_ GE219.out) | exact HB.out)))); have n4_ := Aside0.mk (blk_below (g := gb219) (o := .cells #[.int .i64 a1_0, .slice A1_1 l1_1.length c1_1] 30 (0, 0)) (by (with_reducible repeat (first | refine blk_drewN ?_ _ | refine blk_drew ?_ | refine blk_alloc ?_ _)); exact BK219.out) hb); have n5_ := Aside0.mk (below_step (by repeat (first | (with_reducible first | exact HB.out | apply below_alloc | apply pw_below_drewN | apply below_drew1 | refine below_set ?_ GE219.out) | exact HB.out)) hb); clear HO226; clear HO229; clear HO234; clear BK219; clear HB; have HO226 := n0_; have HO229 := n1_; have HO234 := n2_; have HO238 := n3_; have BK219 := n4_; have HB := n5_; clear n0_ n1_ n2_ n3_ n4_ n5_; (try clear hb); (try clear hb2); (try clear hk); (try clear hi); (try clear ho0); obtain ⟨Ao44, co44, eo44⟩ := Kd.R_slice HO234.out; subst eo44; obtain ⟨Ao45, co45, eo45⟩ := Kd.R_slice HO238.out; subst eo45) | (go_at_call 11; (with_reducible refine (laws_sameMounts.calls kj13 _ _ t232 _ _ t236 true _ ?side1 ?side2 ?side3 ?side4 A33.out).mono ?_); (case side1 => repeat (first | exact (Kd.R_reads' HO234.out).2.2 | (with_reducible refine Kd.C_alloc ?_ _) | (with_reducible refine Kd.C_drewN ?_ _) | (with_reducible refine Kd.C_drew ?_))); (case side2 => exact (Kd.R_reads' HO234.out).2.1); (case side3 => repeat (first | exact (Kd.R_reads' HO238.out).2.2 | (with_reducible refine Kd.C_alloc ?_ _) | (with_reducible refine Kd.C_drewN ?_ _) | (with_reducible refine Kd.C_drew ?_))); (case side4 => exact (Kd.R_reads' HO238.out).2.1); rintro e w' ⟨rfl, ⟨nd, rfl⟩⟩) | (go_at_call 12; (with_reducible refine (laws_mounts.calls  t240 _ A35.out).mono ?_); rintro e w46 ⟨rfl, hb⟩; have n0_ := Aside0.mk (Kd.R_below (by (with_reducible repeat (first | apply Kd.R_alloc | apply Kd.R_drewN | apply Kd.R_drew)); exact HO226.out) hb); have n1_ := Aside0.mk (Kd.R_below (by (with_reducible repeat (first | apply Kd.R_alloc | apply Kd.R_drewN | apply Kd.R_drew)); exact HO229.out) hb); have n2_ := Aside0.mk (Kd.R_below (by (with_reducible repeat (first | apply Kd.R_alloc | apply Kd.R_drewN | apply Kd.R_drew)); exact HO234.out) hb); have n3_ := Aside0.mk (Kd.R_below (by (with_reducible repeat (first | apply Kd.R_alloc | apply Kd.R_drewN | apply Kd.R_drew)); exact HO238.out) hb); have n4_ := Aside0.mk (blk_below (g := gb219) (o := .cells #[.int .i64 a1_0, .slice A1_1 l1_1.length c1_1] 30 (0, 0)) (by (with_reducible repeat (first | refine blk_drewN ?_ _ | refine blk_drew ?_ | refine blk_alloc ?_ _)); exact BK219.out) hb); have n5_ := Aside0.mk (below_step (by repeat (first | (with_reducible first | exact HB.out | apply below_alloc | apply pw_below_drewN | apply below_drew1 | refine below_set ?_ GE219.out) | exact HB.out)) hb); clear HO226; clear HO229; clear HO234; clear HO238; clear BK219; clear HB; have HO226 := n0_; have HO229 := n1_; have HO234 := n2_; have HO238 := n3_; have BK219 := n4_; have HB := n5_; clear n0_ n1_ n2_ n3_ n4_ n5_; (try clear hb); (try clear hb2); (try clear hk); (try clear hi)))
               go_ret
               exact ⟨by first | rfl | (simp [errW_none, errW_some] <;> rfl) | (simp [*, errW_none, errW_some] <;> rfl), by repeat (first | (with_reducible first | exact HB.out | apply below_alloc | apply pw_below_drewN | apply below_drew1 | refine below_set ?_ GE219.out) | exact HB.out)⟩
             · replace c34 := Bool.eq_false_iff.mpr c34
               subst c34
               have H1 : (some false) = some r := by rw [if_neg (show ¬ (false = true) by decide)] at H; exact H
               clear H
               have H := H1
               clear H1
               obtain rfl := Option.some.inj H
               try go_wp2
               have n0_ := Aside0.mk (blk_drew BK219.out)
               have n1_ := Aside0.mk (below_drew1 HB.out)
               clear BK219
               clear HB
               have BK219 := n0_
               have HB := n1_
               clear n0_ n1_
               refine start_ (n := 9) (S := fun w' => w'.cell? ⟨gb219, 0, none⟩ = some (.int .i64 a1_0) ∧ w'.cell? ⟨gb219, 1, none⟩ = some (.slice A1_1 l1_1.length c1_1)) (ds := []) #[false, false, false, false, false, false, false, false, false] (by kernel_rfl) rfl rfl ⟨(blk_cell BK219.out 0).trans rfl, (blk_cell BK219.out 1).trans rfl⟩ (fun hHeld => ?_); refine with_tabW laws_FnMountsFilter.tab6 laws_FnMountsFilter.bits6 (fun HT_ HW_ => ?_)
               generalize wc.drew = w47 at BK219 HB hHeld ⊢
               refine pure_ (i := 1) (N := some 55) (v := ?_) (a' := ?_) #[false, true, false, false, false, false, false, false, false] rfl rfl (any_of HT_.out (by kernel_rfl)) (fun _ _ _ h => h) (Or.inl ⟨by rfl, ?_⟩) ?_ ?_
               rotate_left
               · intro w'
                 go_simp
                 with_reducible rfl
               rotate_left
               · simp only [Act.put, List.setIfInBounds_toArray, List.set_cons_zero, List.set_cons_succ, i64_w, i32_w]
                 rfl
               refine take_ (i := 0) (N := some 54) (v := ?_) (a' := ?_) #[true, true, false, false, false, false, false, false, false] rfl rfl (take_ofW HT_.out HW_.out (by kernel_rfl)) (fun _ _ _ h => h) (Or.inl ⟨by rfl, ?_⟩) hHeld ?_ ?_
               rotate_left
               · rintro w' ⟨s0, s1⟩
                 go_simp
                 with_reducible rfl
               rotate_left
               · simp only [Act.put, List.setIfInBounds_toArray, List.set_cons_zero, List.set_cons_succ, i64_w, i32_w]
                 rfl
               refine one_ (i := 2) (N := some 56) #[true, true, true, false, false, false, false, false, false] rfl rfl (one_of HT_.out (by kernel_rfl)) (by decide) (fun K hK => ?_)
               refine goes_ Tryd.func15 (by kernel_rfl) rfl #[.slice A0 l0.length c0] (by rfl) rfl rfl (by (try simp only [List.map_toArray, List.map_cons, List.map_nil]); first | done | rfl | (simp only [List.length_drop, List.length_take]; rfl)) ?_
               with_reducible refine (laws_mountsTo.calls kj13 _ _ l0 t224 _ ?side1 ?side2 A27.out).mono ?_
               (case side1 => repeat (first | exact (Kd.C_below HR0.out HB.out) | (with_reducible refine Kd.C_alloc ?_ _) | (with_reducible refine Kd.C_drewN ?_ _) | (with_reducible refine Kd.C_drew ?_)))
               (case side2 => exact HC0.out)
               rintro e w48 ⟨v225, rfl, ho0, hb⟩
               refine ⟨_, rfl, ?_⟩
               have n0_ := Aside0.mk (Kd.R_lower ho0 (below_size (by repeat (first | (with_reducible first | exact HB.out | apply below_alloc | apply pw_below_drewN | apply below_drew1 | refine below_set ?_ GE219.out) | exact HB.out))))
               have n1_ := Aside0.mk (blk_below (g := gb219) (o := .cells #[.int .i64 a1_0, .slice A1_1 l1_1.length c1_1] 30 (0, 0)) (by (with_reducible repeat (first | refine blk_drewN ?_ _ | refine blk_drew ?_ | refine blk_alloc ?_ _)); exact BK219.out) hb)
               have n2_ := Aside0.mk (below_step (by repeat (first | (with_reducible first | exact HB.out | apply below_alloc | apply pw_below_drewN | apply below_drew1 | refine below_set ?_ GE219.out) | exact HB.out)) hb)
               clear BK219
               clear HB
               have HO226 := n0_
               have BK219 := n1_
               have HB := n2_
               clear n0_ n1_ n2_
               (try clear hb)
               (try clear hb2)
               (try clear hk)
               (try clear hi)
               (try clear ho0)
               obtain ⟨Ao49, co49, eo49⟩ := Kd.R_slice HO226.out
               (first | subst eo49 | (injection eo49 with f1_ f2_ f3_; have f4_ := f1_.symm; have f5_ := f3_.symm; clear f1_ f2_ f3_; subst f4_; subst f5_))
               refine hK.out _ _ ⟨(blk_cell BK219.out 0).trans rfl, (blk_cell BK219.out 1).trans rfl⟩ (fun hHeld => ?_)
               clear hK K
               refine norm_ (a' := ?_) ?_ ?_
               rotate_left
               · show Act.put _ (some 56) _ = _
                 simp only [Act.put, List.setIfInBounds_toArray, List.set_cons_zero, List.set_cons_succ, i64_w, i32_w]
                 rfl
               refine one_ (i := 3) (N := some 57) #[true, true, true, true, false, false, false, false, false] rfl rfl (one_of HT_.out (by kernel_rfl)) (by decide) (fun K hK => ?_)
               refine goes_ Tryd.func14 (by kernel_rfl) rfl #[.agg #[.int .i64 a1_0, .slice A1_1 l1_1.length c1_1], .slice Ao49 t224.length co49] (by rfl) rfl rfl (by (try simp only [List.map_toArray, List.map_cons, List.map_nil]); first | done | rfl | (simp only [List.length_drop, List.length_take]; rfl)) ?_
               with_reducible refine (spec_Filtered.calls kj13 a1_0 _ _ l1_1 _ _ t224 t227 t230 _ ?side1 ?side2 ?side3 ?side4 A28.out).mono ?_
               (case side1 => repeat (first | exact (Kd.C_below HR1_1.out HB.out) | (with_reducible refine Kd.C_alloc ?_ _) | (with_reducible refine Kd.C_drewN ?_ _) | (with_reducible refine Kd.C_drew ?_)))
               (case side2 => exact HC1_1.out)
               (case side3 => repeat (first | exact (Kd.R_reads' HO226.out).2.2 | (with_reducible refine Kd.C_alloc ?_ _) | (with_reducible refine Kd.C_drewN ?_ _) | (with_reducible refine Kd.C_drew ?_)))
               (case side4 => exact (Kd.R_reads' HO226.out).2.1)
               rintro e w50 ⟨v228, rfl, ho0, hb⟩
               refine ⟨_, rfl, ?_⟩
               have n0_ := Aside0.mk (Kd.R_elder' (by (with_reducible repeat (first | apply Kd.R_alloc | apply Kd.R_drewN | apply Kd.R_drew)); exact HO226.out) (Kd.R_base ho0) hb)
               have n1_ := Aside0.mk (Kd.R_lower (Kd.R_new' ho0 (Kd.R_lt (by (with_reducible repeat (first | apply Kd.R_alloc | apply Kd.R_drewN | apply Kd.R_drew)); exact HO226.out))) (below_size (by repeat (first | (with_reducible first | exact HB.out | apply below_alloc | apply pw_below_drewN | apply below_drew1 | refine below_set ?_ GE219.out) | exact HB.out))))
               have n2_ := Aside0.mk (blk_below (g := gb219) (o := .cells #[.int .i64 a1_0, .slice A1_1 l1_1.length c1_1] 30 (0, 0)) (by (with_reducible repeat (first | refine blk_drewN ?_ _ | refine blk_drew ?_ | refine blk_alloc ?_ _)); exact BK219.out) hb)
               have n3_ := Aside0.mk (below_step (by repeat (first | (with_reducible first | exact HB.out | apply below_alloc | apply pw_below_drewN | apply below_drew1 | refine below_set ?_ GE219.out) | exact HB.out)) hb)
               clear HO226
               clear BK219
               clear HB
               have HO226 := n0_
               have HO229 := n1_
               have BK219 := n2_
               have HB := n3_
               clear n0_ n1_ n2_ n3_
               (try clear hb)
               (try clear hb2)
               (try clear hk)
               (try clear hi)
               (try clear ho0)
               refine hK.out _ _ ⟨(blk_cell BK219.out 0).trans rfl, (blk_cell BK219.out 1).trans rfl⟩ (fun hHeld => ?_)
               clear hK K
               refine norm_ (a' := ?_) ?_ ?_
               rotate_left
               · show Act.put _ (some 57) _ = _
                 simp only [Act.put, List.setIfInBounds_toArray, List.set_cons_zero, List.set_cons_succ, i64_w, i32_w]
                 rfl
               refine pure_ (i := 4) (N := some 53) (v := ?_) (a' := ?_) #[true, true, true, true, true, false, false, false, false] rfl rfl (any_of HT_.out (by kernel_rfl)) (fun _ _ _ h => h) (Or.inl ⟨by rfl, ?_⟩) ?_ ?_
               rotate_left
               · intro w'
                 go_simp
                 with_reducible rfl
               rotate_left
               · simp only [Act.put, List.setIfInBounds_toArray, List.set_cons_zero, List.set_cons_succ, i64_w, i32_w]
                 rfl
               refine pure_ (i := 5) (N := some 58) (v := ?_) (a' := ?_) #[true, true, true, true, true, true, false, false, false] rfl rfl (any_of HT_.out (by kernel_rfl)) (fun _ _ _ h => h) (Or.inl ⟨by rfl, ?_⟩) ?_ ?_
               rotate_left
               · intro w'
                 go_simp
                 with_reducible rfl
               rotate_left
               · simp only [Act.put, List.setIfInBounds_toArray, List.set_cons_zero, List.set_cons_succ, i64_w, i32_w]
                 rfl
               refine pure_ (i := 6) (N := some 59) (v := ?_) (a' := ?_) #[true, true, true, true, true, true, true, false, false] rfl rfl (any_of HT_.out (by kernel_rfl)) (fun _ _ _ h => h) (Or.inl ⟨by rfl, ?_⟩) ?_ ?_
               rotate_left
               · intro w'
                 go_simp
                 with_reducible rfl
               rotate_left
               · simp only [Act.put, List.setIfInBounds_toArray, List.set_cons_zero, List.set_cons_succ, i64_w, i32_w]
                 rfl
               refine pure_ (i := 7) (N := some 7) (v := ?_) (a' := ?_) #[true, true, true, true, true, true, true, true, false] rfl rfl (any_of HT_.out (by kernel_rfl)) (fun _ _ _ h => h) (Or.inl ⟨by rfl, ?_⟩) ?_ ?_
               rotate_left
               · intro w'
                 go_simp
                 with_reducible rfl
               rotate_left
               · simp only [Act.put, List.setIfInBounds_toArray, List.set_cons_zero, List.set_cons_succ, i64_w, i32_w]
                 rfl
               refine pure_ (i := 8) (N := some 8) (v := ?_) (a' := ?_) #[true, true, true, true, true, true, true, true, true] rfl rfl (any_of HT_.out (by kernel_rfl)) (fun _ _ _ h => h) (Or.inl ⟨by rfl, ?_⟩) ?_ ?_
               rotate_left
               · intro w'
                 go_simp
                 with_reducible rfl
               rotate_left
               · simp only [Act.put, List.setIfInBounds_toArray, List.set_cons_zero, List.set_cons_succ, i64_w, i32_w]
                 rfl
               refine done_ (done_of HT_.out (by kernel_rfl)) ?_
               have hcz51_0 : w50.cell? ⟨gb219, 0, none⟩ = some (.int .i64 a1_0) := (blk_cell BK219.out 0).trans rfl
               have hcz51_1 : w50.cell? ⟨gb219, 1, none⟩ = some (.slice A1_1 l1_1.length c1_1) := (blk_cell BK219.out 1).trans rfl
               have hfz51_0 := blk_frozen BK219.out 0
               have hfz51_1 := blk_frozen BK219.out 1
               try go_wp2_with (first | ((with_reducible refine gate_callee (f := 9) rfl ?_); refine goesL_ (some 66) rfl rfl Tryd.func9 (by kernel_rfl) rfl #[.string t222, .agg #[.int .i64 a1_0, .slice A1_1 l1_1.length c1_1]] rfl (by (try simp only [List.map_toArray, List.map_cons, List.map_nil]); first | done | rfl | (simp only [List.length_drop, List.length_take]; rfl)) ?_; (with_reducible refine (impl_Mounts.calls t222 a1_0 _ _ l1_1 t232 t235 _ ?side1 ?side2 A30.out).mono ?_); (case side1 => repeat (first | exact (Kd.C_below HR1_1.out HB.out) | (with_reducible refine Kd.C_alloc ?_ _) | (with_reducible refine Kd.C_drewN ?_ _) | (with_reducible refine Kd.C_drew ?_))); (case side2 => exact HC1_1.out); rintro e w52 ⟨v233, rfl, ho0, hb⟩; refine ⟨_, rfl, ?_⟩; have n0_ := Aside0.mk (Kd.R_below (by (with_reducible repeat (first | apply Kd.R_alloc | apply Kd.R_drewN | apply Kd.R_drew)); exact HO226.out) hb); have n1_ := Aside0.mk (Kd.R_below (by (with_reducible repeat (first | apply Kd.R_alloc | apply Kd.R_drewN | apply Kd.R_drew)); exact HO229.out) hb); have n2_ := Aside0.mk (Kd.R_lower ho0 (below_size (by repeat (first | (with_reducible first | exact HB.out | apply below_alloc | apply pw_below_drewN | apply below_drew1 | refine below_set ?_ GE219.out) | exact HB.out)))); have n3_ := Aside0.mk (blk_below (g := gb219) (o := .cells #[.int .i64 a1_0, .slice A1_1 l1_1.length c1_1] 30 (0, 0)) (by (with_reducible repeat (first | refine blk_drewN ?_ _ | refine blk_drew ?_ | refine blk_alloc ?_ _)); exact BK219.out) hb); have n4_ := Aside0.mk (below_step (by repeat (first | (with_reducible first | exact HB.out | apply below_alloc | apply pw_below_drewN | apply below_drew1 | refine below_set ?_ GE219.out) | exact HB.out)) hb); clear HO226; clear HO229; clear BK219; clear HB; have HO226 := n0_; have HO229 := n1_; have HO234 := n2_; have BK219 := n3_; have HB := n4_; clear n0_ n1_ n2_ n3_ n4_; (try clear hb); (try clear hb2); (try clear hk); (try clear hi); (try clear ho0); obtain ⟨Ao53, co53, eo53⟩ := Kd.R_slice HO229.out; subst eo53) | (go_at_call 16; (with_reducible refine (laws_mountsFrom.calls kj13 _ _ t227 t236 _ ?side1 ?side2 A32.out).mono ?_); (case side1 => repeat (first | exact (Kd.R_reads' HO229.out).2.2 | (with_reducible refine Kd.C_alloc ?_ _) | (with_reducible refine Kd.C_drewN ?_ _) | (with_reducible refine Kd.C_drew ?_))); (case side2 => exact (Kd.R_reads' HO229.out).2.1); rintro e w54 ⟨v237, rfl, ho0, hb⟩; have n0_ := Aside0.mk (Kd.R_below (by (with_reducible repeat (first | apply Kd.R_alloc | apply Kd.R_drewN | apply Kd.R_drew)); exact HO226.out) hb); have n1_ := Aside0.mk (Kd.R_below (by (with_reducible repeat (first | apply Kd.R_alloc | apply Kd.R_drewN | apply Kd.R_drew)); exact HO229.out) hb); have n2_ := Aside0.mk (Kd.R_elder' (by (with_reducible repeat (first | apply Kd.R_alloc | apply Kd.R_drewN | apply Kd.R_drew)); exact HO234.out) (Kd.R_base ho0) hb); have n3_ := Aside0.mk (Kd.R_lower (Kd.R_new' ho0 (Kd.R_lt (by (with_reducible repeat (first | apply Kd.R_alloc | apply Kd.R_drewN | apply Kd.R_drew)); exact HO234.out))) (below_size (by repeat (first | (with_reducible first | exact HB.out | apply below_alloc | apply pw_below_drewN | apply below_drew1 | refine below_set ?_ GE219.out) | exact HB.out)))); have n4_ := Aside0.mk (blk_below (g := gb219) (o := .cells #[.int .i64 a1_0, .slice A1_1 l1_1.length c1_1] 30 (0, 0)) (by (with_reducible repeat (first | refine blk_drewN ?_ _ | refine blk_drew ?_ | refine blk_alloc ?_ _)); exact BK219.out) hb); have n5_ := Aside0.mk (below_step (by repeat (first | (with_reducible first | exact HB.out | apply below_alloc | apply pw_below_drewN | apply below_drew1 | refine below_set ?_ GE219.out) | exact HB.out)) hb); clear HO226; clear HO229; clear HO234; clear BK219; clear HB; have HO226 := n0_; have HO229 := n1_; have HO234 := n2_; have HO238 := n3_; have BK219 := n4_; have HB := n5_; clear n0_ n1_ n2_ n3_ n4_ n5_; (try clear hb); (try clear hb2); (try clear hk); (try clear hi); (try clear ho0); obtain ⟨Ao55, co55, eo55⟩ := Kd.R_slice HO234.out; subst eo55; obtain ⟨Ao56, co56, eo56⟩ := Kd.R_slice HO238.out; subst eo56) | (go_at_call 11; (with_reducible refine (laws_sameMounts.calls kj13 _ _ t232 _ _ t236 false _ ?side1 ?side2 ?side3 ?side4 A33.out).mono ?_); (case side1 => repeat (first | exact (Kd.R_reads' HO234.out).2.2 | (with_reducible refine Kd.C_alloc ?_ _) | (with_reducible refine Kd.C_drewN ?_ _) | (with_reducible refine Kd.C_drew ?_))); (case side2 => exact (Kd.R_reads' HO234.out).2.1); (case side3 => repeat (first | exact (Kd.R_reads' HO238.out).2.2 | (with_reducible refine Kd.C_alloc ?_ _) | (with_reducible refine Kd.C_drewN ?_ _) | (with_reducible refine Kd.C_drew ?_))); (case side4 => exact (Kd.R_reads' HO238.out).2.1); rintro e w' ⟨rfl, ⟨nd, rfl⟩⟩))
               go_ret
               exact ⟨by first | rfl | (simp [errW_none, errW_some] <;> rfl) | (simp [*, errW_none, errW_some] <;> rfl), by repeat (first | (with_reducible first | exact HB.out | apply below_alloc | apply pw_below_drewN | apply below_drew1 | refine below_set ?_ GE219.out) | exact HB.out)⟩
           · rw [if_neg c31] at H
             have c31b0 : (t235 == 0) = false := beq_eq_false_iff_ne.mpr c31
             have c31b1 : (t235 != 0) = true := bne_iff_ne.mpr c31
             obtain rfl := Option.some.inj H
             try go_wp2
             have n0_ := Aside0.mk (blk_drew BK219.out)
             have n1_ := Aside0.mk (below_drew1 HB.out)
             clear BK219
             clear HB
             have BK219 := n0_
             have HB := n1_
             clear n0_ n1_
             refine start_ (n := 9) (S := fun w' => w'.cell? ⟨gb219, 0, none⟩ = some (.int .i64 a1_0) ∧ w'.cell? ⟨gb219, 1, none⟩ = some (.slice A1_1 l1_1.length c1_1)) (ds := []) #[false, false, false, false, false, false, false, false, false] (by kernel_rfl) rfl rfl ⟨(blk_cell BK219.out 0).trans rfl, (blk_cell BK219.out 1).trans rfl⟩ (fun hHeld => ?_); refine with_tabW laws_FnMountsFilter.tab6 laws_FnMountsFilter.bits6 (fun HT_ HW_ => ?_)
             generalize wc.drew = w57 at BK219 HB hHeld ⊢
             refine pure_ (i := 1) (N := some 55) (v := ?_) (a' := ?_) #[false, true, false, false, false, false, false, false, false] rfl rfl (any_of HT_.out (by kernel_rfl)) (fun _ _ _ h => h) (Or.inl ⟨by rfl, ?_⟩) ?_ ?_
             rotate_left
             · intro w'
               go_simp
               with_reducible rfl
             rotate_left
             · simp only [Act.put, List.setIfInBounds_toArray, List.set_cons_zero, List.set_cons_succ, i64_w, i32_w]
               rfl
             refine take_ (i := 0) (N := some 54) (v := ?_) (a' := ?_) #[true, true, false, false, false, false, false, false, false] rfl rfl (take_ofW HT_.out HW_.out (by kernel_rfl)) (fun _ _ _ h => h) (Or.inl ⟨by rfl, ?_⟩) hHeld ?_ ?_
             rotate_left
             · rintro w' ⟨s0, s1⟩
               go_simp
               with_reducible rfl
             rotate_left
             · simp only [Act.put, List.setIfInBounds_toArray, List.set_cons_zero, List.set_cons_succ, i64_w, i32_w]
               rfl
             refine one_ (i := 2) (N := some 56) #[true, true, true, false, false, false, false, false, false] rfl rfl (one_of HT_.out (by kernel_rfl)) (by decide) (fun K hK => ?_)
             refine goes_ Tryd.func15 (by kernel_rfl) rfl #[.slice A0 l0.length c0] (by rfl) rfl rfl (by (try simp only [List.map_toArray, List.map_cons, List.map_nil]); first | done | rfl | (simp only [List.length_drop, List.length_take]; rfl)) ?_
             with_reducible refine (laws_mountsTo.calls kj13 _ _ l0 t224 _ ?side1 ?side2 A27.out).mono ?_
             (case side1 => repeat (first | exact (Kd.C_below HR0.out HB.out) | (with_reducible refine Kd.C_alloc ?_ _) | (with_reducible refine Kd.C_drewN ?_ _) | (with_reducible refine Kd.C_drew ?_)))
             (case side2 => exact HC0.out)
             rintro e w58 ⟨v225, rfl, ho0, hb⟩
             refine ⟨_, rfl, ?_⟩
             have n0_ := Aside0.mk (Kd.R_lower ho0 (below_size (by repeat (first | (with_reducible first | exact HB.out | apply below_alloc | apply pw_below_drewN | apply below_drew1 | refine below_set ?_ GE219.out) | exact HB.out))))
             have n1_ := Aside0.mk (blk_below (g := gb219) (o := .cells #[.int .i64 a1_0, .slice A1_1 l1_1.length c1_1] 30 (0, 0)) (by (with_reducible repeat (first | refine blk_drewN ?_ _ | refine blk_drew ?_ | refine blk_alloc ?_ _)); exact BK219.out) hb)
             have n2_ := Aside0.mk (below_step (by repeat (first | (with_reducible first | exact HB.out | apply below_alloc | apply pw_below_drewN | apply below_drew1 | refine below_set ?_ GE219.out) | exact HB.out)) hb)
             clear BK219
             clear HB
             have HO226 := n0_
             have BK219 := n1_
             have HB := n2_
             clear n0_ n1_ n2_
             (try clear hb)
             (try clear hb2)
             (try clear hk)
             (try clear hi)
             (try clear ho0)
             obtain ⟨Ao59, co59, eo59⟩ := Kd.R_slice HO226.out
             (first | subst eo59 | (injection eo59 with f1_ f2_ f3_; have f4_ := f1_.symm; have f5_ := f3_.symm; clear f1_ f2_ f3_; subst f4_; subst f5_))
             refine hK.out _ _ ⟨(blk_cell BK219.out 0).trans rfl, (blk_cell BK219.out 1).trans rfl⟩ (fun hHeld => ?_)
             clear hK K
             refine norm_ (a' := ?_) ?_ ?_
             rotate_left
             · show Act.put _ (some 56) _ = _
               simp only [Act.put, List.setIfInBounds_toArray, List.set_cons_zero, List.set_cons_succ, i64_w, i32_w]
               rfl
             refine one_ (i := 3) (N := some 57) #[true, true, true, true, false, false, false, false, false] rfl rfl (one_of HT_.out (by kernel_rfl)) (by decide) (fun K hK => ?_)
             refine goes_ Tryd.func14 (by kernel_rfl) rfl #[.agg #[.int .i64 a1_0, .slice A1_1 l1_1.length c1_1], .slice Ao59 t224.length co59] (by rfl) rfl rfl (by (try simp only [List.map_toArray, List.map_cons, List.map_nil]); first | done | rfl | (simp only [List.length_drop, List.length_take]; rfl)) ?_
             with_reducible refine (spec_Filtered.calls kj13 a1_0 _ _ l1_1 _ _ t224 t227 t230 _ ?side1 ?side2 ?side3 ?side4 A28.out).mono ?_
             (case side1 => repeat (first | exact (Kd.C_below HR1_1.out HB.out) | (with_reducible refine Kd.C_alloc ?_ _) | (with_reducible refine Kd.C_drewN ?_ _) | (with_reducible refine Kd.C_drew ?_)))
             (case side2 => exact HC1_1.out)
             (case side3 => repeat (first | exact (Kd.R_reads' HO226.out).2.2 | (with_reducible refine Kd.C_alloc ?_ _) | (with_reducible refine Kd.C_drewN ?_ _) | (with_reducible refine Kd.C_drew ?_)))
             (case side4 => exact (Kd.R_reads' HO226.out).2.1)
             rintro e w60 ⟨v228, rfl, ho0, hb⟩
             refine ⟨_, rfl, ?_⟩
             have n0_ := Aside0.mk (Kd.R_elder' (by (with_reducible repeat (first | apply Kd.R_alloc | apply Kd.R_drewN | apply Kd.R_drew)); exact HO226.out) (Kd.R_base ho0) hb)
             have n1_ := Aside0.mk (Kd.R_lower (Kd.R_new' ho0 (Kd.R_lt (by (with_reducible repeat (first | apply Kd.R_alloc | apply Kd.R_drewN | apply Kd.R_drew)); exact HO226.out))) (below_size (by repeat (first | (with_reducible first | exact HB.out | apply below_alloc | apply pw_below_drewN | apply below_drew1 | refine below_set ?_ GE219.out) | exact HB.out))))
             have n2_ := Aside0.mk (blk_below (g := gb219) (o := .cells #[.int .i64 a1_0, .slice A1_1 l1_1.length c1_1] 30 (0, 0)) (by (with_reducible repeat (first | refine blk_drewN ?_ _ | refine blk_drew ?_ | refine blk_alloc ?_ _)); exact BK219.out) hb)
             have n3_ := Aside0.mk (below_step (by repeat (first | (with_reducible first | exact HB.out | apply below_alloc | apply pw_below_drewN | apply below_drew1 | refine below_set ?_ GE219.out) | exact HB.out)) hb)
             clear HO226
             clear BK219
             clear HB
             have HO226 := n0_
             have HO229 := n1_
             have BK219 := n2_
             have HB := n3_
             clear n0_ n1_ n2_ n3_
             (try clear hb)
             (try clear hb2)
             (try clear hk)
             (try clear hi)
             (try clear ho0)
             refine hK.out _ _ ⟨(blk_cell BK219.out 0).trans rfl, (blk_cell BK219.out 1).trans rfl⟩ (fun hHeld => ?_)
             clear hK K
             refine norm_ (a' := ?_) ?_ ?_
             rotate_left
             · show Act.put _ (some 57) _ = _
               simp only [Act.put, List.setIfInBounds_toArray, List.set_cons_zero, List.set_cons_succ, i64_w, i32_w]
               rfl
             refine pure_ (i := 4) (N := some 53) (v := ?_) (a' := ?_) #[true, true, true, true, true, false, false, false, false] rfl rfl (any_of HT_.out (by kernel_rfl)) (fun _ _ _ h => h) (Or.inl ⟨by rfl, ?_⟩) ?_ ?_
             rotate_left
             · intro w'
               go_simp
               with_reducible rfl
             rotate_left
             · simp only [Act.put, List.setIfInBounds_toArray, List.set_cons_zero, List.set_cons_succ, i64_w, i32_w]
               rfl
             refine pure_ (i := 5) (N := some 58) (v := ?_) (a' := ?_) #[true, true, true, true, true, true, false, false, false] rfl rfl (any_of HT_.out (by kernel_rfl)) (fun _ _ _ h => h) (Or.inl ⟨by rfl, ?_⟩) ?_ ?_
             rotate_left
             · intro w'
               go_simp
               with_reducible rfl
             rotate_left
             · simp only [Act.put, List.setIfInBounds_toArray, List.set_cons_zero, List.set_cons_succ, i64_w, i32_w]
               rfl
             refine pure_ (i := 6) (N := some 59) (v := ?_) (a' := ?_) #[true, true, true, true, true, true, true, false, false] rfl rfl (any_of HT_.out (by kernel_rfl)) (fun _ _ _ h => h) (Or.inl ⟨by rfl, ?_⟩) ?_ ?_
             rotate_left
             · intro w'
               go_simp
               with_reducible rfl
             rotate_left
             · simp only [Act.put, List.setIfInBounds_toArray, List.set_cons_zero, List.set_cons_succ, i64_w, i32_w]
               rfl
             refine pure_ (i := 7) (N := some 7) (v := ?_) (a' := ?_) #[true, true, true, true, true, true, true, true, false] rfl rfl (any_of HT_.out (by kernel_rfl)) (fun _ _ _ h => h) (Or.inl ⟨by rfl, ?_⟩) ?_ ?_
             rotate_left
             · intro w'
               go_simp
               with_reducible rfl
             rotate_left
             · simp only [Act.put, List.setIfInBounds_toArray, List.set_cons_zero, List.set_cons_succ, i64_w, i32_w]
               rfl
             refine pure_ (i := 8) (N := some 8) (v := ?_) (a' := ?_) #[true, true, true, true, true, true, true, true, true] rfl rfl (any_of HT_.out (by kernel_rfl)) (fun _ _ _ h => h) (Or.inl ⟨by rfl, ?_⟩) ?_ ?_
             rotate_left
             · intro w'
               go_simp
               with_reducible rfl
             rotate_left
             · simp only [Act.put, List.setIfInBounds_toArray, List.set_cons_zero, List.set_cons_succ, i64_w, i32_w]
               rfl
             refine done_ (done_of HT_.out (by kernel_rfl)) ?_
             have hcz61_0 : w60.cell? ⟨gb219, 0, none⟩ = some (.int .i64 a1_0) := (blk_cell BK219.out 0).trans rfl
             have hcz61_1 : w60.cell? ⟨gb219, 1, none⟩ = some (.slice A1_1 l1_1.length c1_1) := (blk_cell BK219.out 1).trans rfl
             have hfz61_0 := blk_frozen BK219.out 0
             have hfz61_1 := blk_frozen BK219.out 1
             try go_wp2_with (first | ((with_reducible refine gate_callee (f := 9) rfl ?_); refine goesL_ (some 66) rfl rfl Tryd.func9 (by kernel_rfl) rfl #[.string t222, .agg #[.int .i64 a1_0, .slice A1_1 l1_1.length c1_1]] rfl (by (try simp only [List.map_toArray, List.map_cons, List.map_nil]); first | done | rfl | (simp only [List.length_drop, List.length_take]; rfl)) ?_; (with_reducible refine (impl_Mounts.calls t222 a1_0 _ _ l1_1 t232 t235 _ ?side1 ?side2 A30.out).mono ?_); (case side1 => repeat (first | exact (Kd.C_below HR1_1.out HB.out) | (with_reducible refine Kd.C_alloc ?_ _) | (with_reducible refine Kd.C_drewN ?_ _) | (with_reducible refine Kd.C_drew ?_))); (case side2 => exact HC1_1.out); rintro e w62 ⟨v233, rfl, ho0, hb⟩; refine ⟨_, rfl, ?_⟩; have n0_ := Aside0.mk (Kd.R_below (by (with_reducible repeat (first | apply Kd.R_alloc | apply Kd.R_drewN | apply Kd.R_drew)); exact HO226.out) hb); have n1_ := Aside0.mk (Kd.R_below (by (with_reducible repeat (first | apply Kd.R_alloc | apply Kd.R_drewN | apply Kd.R_drew)); exact HO229.out) hb); have n2_ := Aside0.mk (Kd.R_lower ho0 (below_size (by repeat (first | (with_reducible first | exact HB.out | apply below_alloc | apply pw_below_drewN | apply below_drew1 | refine below_set ?_ GE219.out) | exact HB.out)))); have n3_ := Aside0.mk (blk_below (g := gb219) (o := .cells #[.int .i64 a1_0, .slice A1_1 l1_1.length c1_1] 30 (0, 0)) (by (with_reducible repeat (first | refine blk_drewN ?_ _ | refine blk_drew ?_ | refine blk_alloc ?_ _)); exact BK219.out) hb); have n4_ := Aside0.mk (below_step (by repeat (first | (with_reducible first | exact HB.out | apply below_alloc | apply pw_below_drewN | apply below_drew1 | refine below_set ?_ GE219.out) | exact HB.out)) hb); clear HO226; clear HO229; clear BK219; clear HB; have HO226 := n0_; have HO229 := n1_; have HO234 := n2_; have BK219 := n3_; have HB := n4_; clear n0_ n1_ n2_ n3_ n4_; (try clear hb); (try clear hb2); (try clear hk); (try clear hi); (try clear ho0)))
             go_ret
             exact ⟨by first | rfl | (simp [errW_none, errW_some] <;> rfl) | (simp [*, errW_none, errW_some] <;> rfl), by repeat (first | (with_reducible first | exact HB.out | apply below_alloc | apply pw_below_drewN | apply below_drew1 | refine below_set ?_ GE219.out) | exact HB.out)⟩
         · rw [if_neg c29] at H
           have c29b0 : (t230 == 1) = false := beq_eq_false_iff_ne.mpr c29
           have c29b1 : (t230 != 1) = true := bne_iff_ne.mpr c29
           replace H := Option.bind_eq_some_iff.mp H
           obtain ⟨t231, A630, H⟩ := H
           replace H : (some t231) = some r := H
           have A63 := Aside0.mk A630
           clear A630
           obtain rfl := Option.some.inj H
           try go_wp2
           have n0_ := Aside0.mk (blk_drew BK219.out)
           have n1_ := Aside0.mk (below_drew1 HB.out)
           clear BK219
           clear HB
           have BK219 := n0_
           have HB := n1_
           clear n0_ n1_
           refine start_ (n := 9) (S := fun w' => w'.cell? ⟨gb219, 0, none⟩ = some (.int .i64 a1_0) ∧ w'.cell? ⟨gb219, 1, none⟩ = some (.slice A1_1 l1_1.length c1_1)) (ds := []) #[false, false, false, false, false, false, false, false, false] (by kernel_rfl) rfl rfl ⟨(blk_cell BK219.out 0).trans rfl, (blk_cell BK219.out 1).trans rfl⟩ (fun hHeld => ?_); refine with_tabW laws_FnMountsFilter.tab6 laws_FnMountsFilter.bits6 (fun HT_ HW_ => ?_)
           generalize wc.drew = w64 at BK219 HB hHeld ⊢
           refine pure_ (i := 1) (N := some 55) (v := ?_) (a' := ?_) #[false, true, false, false, false, false, false, false, false] rfl rfl (any_of HT_.out (by kernel_rfl)) (fun _ _ _ h => h) (Or.inl ⟨by rfl, ?_⟩) ?_ ?_
           rotate_left
           · intro w'
             go_simp
             with_reducible rfl
           rotate_left
           · simp only [Act.put, List.setIfInBounds_toArray, List.set_cons_zero, List.set_cons_succ, i64_w, i32_w]
             rfl
           refine take_ (i := 0) (N := some 54) (v := ?_) (a' := ?_) #[true, true, false, false, false, false, false, false, false] rfl rfl (take_ofW HT_.out HW_.out (by kernel_rfl)) (fun _ _ _ h => h) (Or.inl ⟨by rfl, ?_⟩) hHeld ?_ ?_
           rotate_left
           · rintro w' ⟨s0, s1⟩
             go_simp
             with_reducible rfl
           rotate_left
           · simp only [Act.put, List.setIfInBounds_toArray, List.set_cons_zero, List.set_cons_succ, i64_w, i32_w]
             rfl
           refine one_ (i := 2) (N := some 56) #[true, true, true, false, false, false, false, false, false] rfl rfl (one_of HT_.out (by kernel_rfl)) (by decide) (fun K hK => ?_)
           refine goes_ Tryd.func15 (by kernel_rfl) rfl #[.slice A0 l0.length c0] (by rfl) rfl rfl (by (try simp only [List.map_toArray, List.map_cons, List.map_nil]); first | done | rfl | (simp only [List.length_drop, List.length_take]; rfl)) ?_
           with_reducible refine (laws_mountsTo.calls kj13 _ _ l0 t224 _ ?side1 ?side2 A27.out).mono ?_
           (case side1 => repeat (first | exact (Kd.C_below HR0.out HB.out) | (with_reducible refine Kd.C_alloc ?_ _) | (with_reducible refine Kd.C_drewN ?_ _) | (with_reducible refine Kd.C_drew ?_)))
           (case side2 => exact HC0.out)
           rintro e w65 ⟨v225, rfl, ho0, hb⟩
           refine ⟨_, rfl, ?_⟩
           have n0_ := Aside0.mk (Kd.R_lower ho0 (below_size (by repeat (first | (with_reducible first | exact HB.out | apply below_alloc | apply pw_below_drewN | apply below_drew1 | refine below_set ?_ GE219.out) | exact HB.out))))
           have n1_ := Aside0.mk (blk_below (g := gb219) (o := .cells #[.int .i64 a1_0, .slice A1_1 l1_1.length c1_1] 30 (0, 0)) (by (with_reducible repeat (first | refine blk_drewN ?_ _ | refine blk_drew ?_ | refine blk_alloc ?_ _)); exact BK219.out) hb)
           have n2_ := Aside0.mk (below_step (by repeat (first | (with_reducible first | exact HB.out | apply below_alloc | apply pw_below_drewN | apply below_drew1 | refine below_set ?_ GE219.out) | exact HB.out)) hb)
           clear BK219
           clear HB
           have HO226 := n0_
           have BK219 := n1_
           have HB := n2_
           clear n0_ n1_ n2_
           (try clear hb)
           (try clear hb2)
           (try clear hk)
           (try clear hi)
           (try clear ho0)
           obtain ⟨Ao66, co66, eo66⟩ := Kd.R_slice HO226.out
           (first | subst eo66 | (injection eo66 with f1_ f2_ f3_; have f4_ := f1_.symm; have f5_ := f3_.symm; clear f1_ f2_ f3_; subst f4_; subst f5_))
           refine hK.out _ _ ⟨(blk_cell BK219.out 0).trans rfl, (blk_cell BK219.out 1).trans rfl⟩ (fun hHeld => ?_)
           clear hK K
           refine norm_ (a' := ?_) ?_ ?_
           rotate_left
           · show Act.put _ (some 56) _ = _
             simp only [Act.put, List.setIfInBounds_toArray, List.set_cons_zero, List.set_cons_succ, i64_w, i32_w]
             rfl
           refine one_ (i := 3) (N := some 57) #[true, true, true, true, false, false, false, false, false] rfl rfl (one_of HT_.out (by kernel_rfl)) (by decide) (fun K hK => ?_)
           refine goes_ Tryd.func14 (by kernel_rfl) rfl #[.agg #[.int .i64 a1_0, .slice A1_1 l1_1.length c1_1], .slice Ao66 t224.length co66] (by rfl) rfl rfl (by (try simp only [List.map_toArray, List.map_cons, List.map_nil]); first | done | rfl | (simp only [List.length_drop, List.length_take]; rfl)) ?_
           with_reducible refine (spec_Filtered.calls kj13 a1_0 _ _ l1_1 _ _ t224 t227 t230 _ ?side1 ?side2 ?side3 ?side4 A28.out).mono ?_
           (case side1 => repeat (first | exact (Kd.C_below HR1_1.out HB.out) | (with_reducible refine Kd.C_alloc ?_ _) | (with_reducible refine Kd.C_drewN ?_ _) | (with_reducible refine Kd.C_drew ?_)))
           (case side2 => exact HC1_1.out)
           (case side3 => repeat (first | exact (Kd.R_reads' HO226.out).2.2 | (with_reducible refine Kd.C_alloc ?_ _) | (with_reducible refine Kd.C_drewN ?_ _) | (with_reducible refine Kd.C_drew ?_)))
           (case side4 => exact (Kd.R_reads' HO226.out).2.1)
           rintro e w67 ⟨v228, rfl, ho0, hb⟩
           refine ⟨_, rfl, ?_⟩
           have n0_ := Aside0.mk (Kd.R_elder' (by (with_reducible repeat (first | apply Kd.R_alloc | apply Kd.R_drewN | apply Kd.R_drew)); exact HO226.out) (Kd.R_base ho0) hb)
           have n1_ := Aside0.mk (Kd.R_lower (Kd.R_new' ho0 (Kd.R_lt (by (with_reducible repeat (first | apply Kd.R_alloc | apply Kd.R_drewN | apply Kd.R_drew)); exact HO226.out))) (below_size (by repeat (first | (with_reducible first | exact HB.out | apply below_alloc | apply pw_below_drewN | apply below_drew1 | refine below_set ?_ GE219.out) | exact HB.out))))
           have n2_ := Aside0.mk (blk_below (g := gb219) (o := .cells #[.int .i64 a1_0, .slice A1_1 l1_1.length c1_1] 30 (0, 0)) (by (with_reducible repeat (first | refine blk_drewN ?_ _ | refine blk_drew ?_ | refine blk_alloc ?_ _)); exact BK219.out) hb)
           have n3_ := Aside0.mk (below_step (by repeat (first | (with_reducible first | exact HB.out | apply below_alloc | apply pw_below_drewN | apply below_drew1 | refine below_set ?_ GE219.out) | exact HB.out)) hb)
           clear HO226
           clear BK219
           clear HB
           have HO226 := n0_
           have HO229 := n1_
           have BK219 := n2_
           have HB := n3_
           clear n0_ n1_ n2_ n3_
           (try clear hb)
           (try clear hb2)
           (try clear hk)
           (try clear hi)
           (try clear ho0)
           refine hK.out _ _ ⟨(blk_cell BK219.out 0).trans rfl, (blk_cell BK219.out 1).trans rfl⟩ (fun hHeld => ?_)
           clear hK K
           refine norm_ (a' := ?_) ?_ ?_
           rotate_left
           · show Act.put _ (some 57) _ = _
             simp only [Act.put, List.setIfInBounds_toArray, List.set_cons_zero, List.set_cons_succ, i64_w, i32_w]
             rfl
           refine pure_ (i := 4) (N := some 53) (v := ?_) (a' := ?_) #[true, true, true, true, true, false, false, false, false] rfl rfl (any_of HT_.out (by kernel_rfl)) (fun _ _ _ h => h) (Or.inl ⟨by rfl, ?_⟩) ?_ ?_
           rotate_left
           · intro w'
             go_simp
             with_reducible rfl
           rotate_left
           · simp only [Act.put, List.setIfInBounds_toArray, List.set_cons_zero, List.set_cons_succ, i64_w, i32_w]
             rfl
           refine pure_ (i := 5) (N := some 58) (v := ?_) (a' := ?_) #[true, true, true, true, true, true, false, false, false] rfl rfl (any_of HT_.out (by kernel_rfl)) (fun _ _ _ h => h) (Or.inl ⟨by rfl, ?_⟩) ?_ ?_
           rotate_left
           · intro w'
             go_simp
             with_reducible rfl
           rotate_left
           · simp only [Act.put, List.setIfInBounds_toArray, List.set_cons_zero, List.set_cons_succ, i64_w, i32_w]
             rfl
           refine pure_ (i := 6) (N := some 59) (v := ?_) (a' := ?_) #[true, true, true, true, true, true, true, false, false] rfl rfl (any_of HT_.out (by kernel_rfl)) (fun _ _ _ h => h) (Or.inl ⟨by rfl, ?_⟩) ?_ ?_
           rotate_left
           · intro w'
             go_simp
             with_reducible rfl
           rotate_left
           · simp only [Act.put, List.setIfInBounds_toArray, List.set_cons_zero, List.set_cons_succ, i64_w, i32_w]
             rfl
           refine pure_ (i := 7) (N := some 7) (v := ?_) (a' := ?_) #[true, true, true, true, true, true, true, true, false] rfl rfl (any_of HT_.out (by kernel_rfl)) (fun _ _ _ h => h) (Or.inl ⟨by rfl, ?_⟩) ?_ ?_
           rotate_left
           · intro w'
             go_simp
             with_reducible rfl
           rotate_left
           · simp only [Act.put, List.setIfInBounds_toArray, List.set_cons_zero, List.set_cons_succ, i64_w, i32_w]
             rfl
           refine pure_ (i := 8) (N := some 8) (v := ?_) (a' := ?_) #[true, true, true, true, true, true, true, true, true] rfl rfl (any_of HT_.out (by kernel_rfl)) (fun _ _ _ h => h) (Or.inl ⟨by rfl, ?_⟩) ?_ ?_
           rotate_left
           · intro w'
             go_simp
             with_reducible rfl
           rotate_left
           · simp only [Act.put, List.setIfInBounds_toArray, List.set_cons_zero, List.set_cons_succ, i64_w, i32_w]
             rfl
           refine done_ (done_of HT_.out (by kernel_rfl)) ?_
           try go_wp2_with (first | ((with_reducible refine gate_callee (f := 12) rfl ?_); refine goesL_ (some 62) rfl rfl Tryd.func12 (by kernel_rfl) rfl #[] rfl (by (try simp only [List.map_toArray, List.map_cons, List.map_nil]); first | done | rfl | (simp only [List.length_drop, List.length_take]; rfl)) ?_; (with_reducible refine (laws_mounts.calls  t231 _ A63.out).mono ?_); rintro e w68 ⟨rfl, hb⟩; refine ⟨_, rfl, ?_⟩; have n0_ := Aside0.mk (Kd.R_below (by (with_reducible repeat (first | apply Kd.R_alloc | apply Kd.R_drewN | apply Kd.R_drew)); exact HO226.out) hb); have n1_ := Aside0.mk (Kd.R_below (by (with_reducible repeat (first | apply Kd.R_alloc | apply Kd.R_drewN | apply Kd.R_drew)); exact HO229.out) hb); have n2_ := Aside0.mk (blk_below (g := gb219) (o := .cells #[.int .i64 a1_0, .slice A1_1 l1_1.length c1_1] 30 (0, 0)) (by (with_reducible repeat (first | refine blk_drewN ?_ _ | refine blk_drew ?_ | refine blk_alloc ?_ _)); exact BK219.out) hb); have n3_ := Aside0.mk (below_step (by repeat (first | (with_reducible first | exact HB.out | apply below_alloc | apply pw_below_drewN | apply below_drew1 | refine below_set ?_ GE219.out) | exact HB.out)) hb); clear HO226; clear HO229; clear BK219; clear HB; have HO226 := n0_; have HO229 := n1_; have BK219 := n2_; have HB := n3_; clear n0_ n1_ n2_ n3_; (try clear hb); (try clear hb2); (try clear hk); (try clear hi)))
           go_ret
           exact ⟨by first | rfl | (simp [errW_none, errW_some] <;> rfl) | (simp [*, errW_none, errW_some] <;> rfl), by repeat (first | (with_reducible first | exact HB.out | apply below_alloc | apply pw_below_drewN | apply below_drew1 | refine below_set ?_ GE219.out) | exact HB.out)⟩
end Go.Proofs.YtcpldcndhijecaaDoor.QM0
namespace Go.Proofs.YtcpldcndhijecaaDoor.Pu
open Go.RowKit Go.Proofs.YtcpldcndhijecaaDoorW.PrintWords Go.Proofs.YtcpldcndhijecaaDoorW.PrintLast
open Go.Proofs.YtcpldcndhijecaaDoor.QM0
set_option linter.unusedVariables false
set_option linter.unusedSimpArgs false
theorem son_B (xs : List Int) : strOfNums xs = B (xs.map fun n => UInt8.ofNat n.toNat) := rfl
theorem natural_f : ∀ (k n : Nat), n < k → n ≤ 2147483647 → spec_natural.f k (n : Int) = some (B (natL n))
  | 0, n, h, _ => by omega
  | k + 1, n, h, hn => by
    rw [spec_natural.f, natL]
    by_cases h10 : n < 10
    · rw [if_pos (by omega), if_pos h10]
      have : (wrap64 (48 + (n : Int))) % 256 = ((48 + n : Nat) : Int) := by unfold wrap64; omega
      rw [this, son_B]
      rfl
    · rw [if_neg (by omega), if_neg h10]
      have e1 : wrap64 (Int.tdiv (n : Int) 10) = ((n / 10 : Nat) : Int) := by
        have : Int.tdiv (n : Int) 10 = ((n / 10 : Nat) : Int) := rfl
        rw [this]
        unfold wrap64
        omega
      have e2 : (wrap64 (48 + (Int.tmod (n : Int) 10))) % 256 = ((48 + n % 10 : Nat) : Int) := by
        have : Int.tmod (n : Int) 10 = ((n % 10 : Nat) : Int) := rfl
        rw [this]
        unfold wrap64
        omega
      rw [e1, natural_f k (n / 10) (by omega) (by omega)]
      simp only [Option.bind_some]
      rw [e2, son_B]
      have hl := natL_len 9 (n / 10) (by omega)
      have h1 : (B (natL (n / 10))).size + (B (List.map (fun n => UInt8.ofNat n.toNat) [((48 + n % 10 : Nat) : Int)])).size ≤ 9223372036854775807 := by
        rw [B_size, B_size]
        simp only [List.length_map, List.length_cons, List.length_nil]
        omega
      rw [if_pos h1, B_append]
      rfl
theorem octal_step (s : Bs) (p : Nat) (c : UInt8) (acc : Bs) (k : Nat) (hp : s[p]? = some c) (hs : s.length ≤ 4611686018427387904) (ha : acc.length ≤ 4611686018427387904) :
    spec_octal.l0 (k + 1) (B s) (B acc) (s.length : Int) (p : Int) = spec_octal.l0 k (B s) (B (acc ++ octc c)) (s.length : Int) ((p + 1 : Nat) : Int) := by
  obtain ⟨hlt, hc⟩ := List.getElem?_eq_some_iff.1 hp
  have q1 : (p : Int) < (s.length : Int) := by omega
  have q2 : (p : Int) < ((B s).size : Int) := by rw [B_size]; omega
  have z0 : (0 : Int) ≤ (p : Int) := by omega
  have q3 : (p : Int) ≤ ((p + 1 : Nat) : Int) := by omega
  have q4 : ((p + 1 : Nat) : Int) ≤ ((B s).size : Int) := by rw [B_size]; omega
  have q5 : (B acc).size + (B [c]).size ≤ 9223372036854775807 := by rw [B_size, B_size]; simp only [List.length_singleton]; omega
  have q6 : ∀ a b d : UInt8, 1 + (B [a, b, d]).size ≤ 9223372036854775807 := fun a b d => by rw [B_size]; simp only [List.length_cons, List.length_nil]; omega
  have q7 : ∀ a b d : UInt8, (B acc).size + (B [92, a, b, d]).size ≤ 9223372036854775807 := fun a b d => by rw [B_size, B_size]; simp only [List.length_cons, List.length_nil]; omega
  have w1 := wr1 p (by omega)
  have b0 := bt_B' s p c hp
  have lit : (⟨#[92]⟩ : ByteArray) = B [92] := rfl
  have ex : (B s).extract p (p + 1) = B [c] := by rw [B_extract, (one_win s p c).2 hp]
  have hb : ∀ d : UInt8, (((c.toNat : Nat) : Int) = ((d.toNat : Nat) : Int)) ↔ c = d := fun d => ⟨u8_eq, fun h => by rw [h]⟩
  rw [spec_octal.l0, if_pos q1, if_pos z0, if_pos q2]
  simp only [b0, w1]
  rcases octc_cases c with h | ⟨rfl, h⟩ | ⟨rfl, h⟩ | ⟨rfl, h⟩ | ⟨rfl, h⟩
  · have n32 : ¬ ((c.toNat : Nat) : Int) = 32 := fun e => h.2.2.1 ((hb 32).1 e)
    have n92 : ¬ ((c.toNat : Nat) : Int) = 92 := fun e => h.2.1 ((hb 92).1 e)
    have n10 : ¬ ((c.toNat : Nat) : Int) = 10 := fun e => h.2.2.2 ((hb 10).1 e)
    have n9 : ¬ ((c.toNat : Nat) : Int) = 9 := fun e => by
      have := (hb 9).1 e
      rw [this] at h
      exact absurd h.1 (by decide)
    rw [if_neg n32, if_neg n9, if_neg n10, if_neg n92, if_pos q3, if_pos q4]
    simp only [Int.toNat_natCast]
    rw [ex, if_pos q5, B_append, h.1]
  · have e : strOfNums [(48 + ((((32 : UInt8).toNat : Nat) : Int) / 64)) % 256, (48 + (Go.bits .and .u8 ((((32 : UInt8).toNat : Nat) : Int) / 8) 7)) % 256, (48 + (Go.bits .and .u8 (((32 : UInt8).toNat : Nat) : Int) 7)) % 256] = B [48, 52, 48] := by decide
    rw [if_pos (by decide)]
    simp only [Option.bind_some, e, lit, B_append]
    rw [if_pos (q6 _ _ _), List.cons_append, List.nil_append, if_pos (q7 _ _ _), h]
  · have e : strOfNums [(48 + ((((9 : UInt8).toNat : Nat) : Int) / 64)) % 256, (48 + (Go.bits .and .u8 ((((9 : UInt8).toNat : Nat) : Int) / 8) 7)) % 256, (48 + (Go.bits .and .u8 (((9 : UInt8).toNat : Nat) : Int) 7)) % 256] = B [48, 49, 49] := by decide
    rw [if_neg (by decide), if_pos (by decide)]
    simp only [Option.bind_some, e, lit, B_append]
    rw [if_pos (q6 _ _ _), List.cons_append, List.nil_append, if_pos (q7 _ _ _), h]
  · have e : strOfNums [(48 + ((((10 : UInt8).toNat : Nat) : Int) / 64)) % 256, (48 + (Go.bits .and .u8 ((((10 : UInt8).toNat : Nat) : Int) / 8) 7)) % 256, (48 + (Go.bits .and .u8 (((10 : UInt8).toNat : Nat) : Int) 7)) % 256] = B [48, 49, 50] := by decide
    rw [if_neg (by decide), if_neg (by decide), if_pos (by decide)]
    simp only [Option.bind_some, e, lit, B_append]
    rw [if_pos (q6 _ _ _), List.cons_append, List.nil_append, if_pos (q7 _ _ _), h]
  · have e : strOfNums [(48 + ((((92 : UInt8).toNat : Nat) : Int) / 64)) % 256, (48 + (Go.bits .and .u8 ((((92 : UInt8).toNat : Nat) : Int) / 8) 7)) % 256, (48 + (Go.bits .and .u8 (((92 : UInt8).toNat : Nat) : Int) 7)) % 256] = B [49, 51, 52] := by decide
    rw [if_neg (by decide), if_neg (by decide), if_neg (by decide), if_pos (by decide)]
    simp only [Option.bind_some, e, lit, B_append]
    rw [if_pos (q6 _ _ _), List.cons_append, List.nil_append, if_pos (q7 _ _ _), h]
theorem octal_l0 (s : Bs) (hs : s.length ≤ 1000000000000000000) : ∀ (d p : Nat) (acc : Bs) (k : Nat), p + d = s.length → acc.length ≤ 4 * p → d < k →
    spec_octal.l0 k (B s) (B acc) (s.length : Int) (p : Int) = some (B (acc ++ octL (s.drop p)))
  | 0, p, acc, k, hd, ha, hk => by
    obtain ⟨k, rfl⟩ : ∃ m, k = m + 1 := ⟨k - 1, by omega⟩
    rw [spec_octal.l0, if_neg (by omega), List.drop_eq_nil_of_le (by omega)]
    simp [octL]
  | d + 1, p, acc, k, hd, ha, hk => by
    obtain ⟨k, rfl⟩ : ∃ m, k = m + 1 := ⟨k - 1, by omega⟩
    have hlt : p < s.length := by omega
    have hc := octc_len s[p]
    rw [octal_step s p s[p] acc k (List.getElem?_eq_getElem hlt) (by omega) (by omega), octal_l0 s hs d (p + 1) (acc ++ octc s[p]) k (by omega) (by rw [List.length_append]; omega) (by omega)]
    rw [List.drop_eq_getElem_cons hlt, octL_cons, List.append_assoc]
theorem octal_f (s : Bs) (k : Nat) (hs : s.length ≤ 1000000000000000000) (hk : s.length < k) : spec_octal.f k (B s) = some (B (octL s)) := by
  unfold spec_octal.f
  rw [B_nil]
  have := octal_l0 s hs s.length 0 [] k (by omega) (by simp) hk
  rw [B_size]
  simpa using this
def prnN (wide : Bool) (n : Nat) : Bool := (decide (32 < n) && decide (n < 127)) || (wide && (decide (n = 32) || decide (n = 9) || decide (n = 10)))
def prn (wide : Bool) (c : UInt8) : Bool := prnN wide c.toNat
theorem printable_step (s : Bs) (p : Nat) (c : UInt8) (w : Bool) (k : Nat) (hp : s[p]? = some c) (hs : s.length ≤ 4611686018427387904) :
    spec_printable.l0 (k + 1) (B s) w (s.length : Int) (p : Int) = if prn w c = true then spec_printable.l0 k (B s) w (s.length : Int) ((p + 1 : Nat) : Int) else some false := by
  obtain ⟨hlt, hc⟩ := List.getElem?_eq_some_iff.1 hp
  have q1 : (p : Int) < (s.length : Int) := by omega
  have q2 : (p : Int) < ((B s).size : Int) := by rw [B_size]; omega
  have z0 : (0 : Int) ≤ (p : Int) := by omega
  have w1 := wr1 p (by omega)
  have b0 := bt_B' s p c hp
  rw [spec_printable.l0, if_pos q1, if_pos z0, if_pos q2]
  simp only [b0, w1]
  clear b0 w1 hc hp
  unfold prn
  generalize c.toNat = n
  have e1 : ((n : Int) > 32) = (32 < n) := by apply propext; omega
  have e2 : ((n : Int) < 127) = (n < 127) := by apply propext; omega
  have e3 : ((n : Int) = 32) = (n = 32) := by apply propext; omega
  have e4 : ((n : Int) = 9) = (n = 9) := by apply propext; omega
  have e5 : ((n : Int) = 10) = (n = 10) := by apply propext; omega
  simp only [e1, e2, e3, e4, e5]
  unfold prnN
  by_cases h1 : 32 < n <;> by_cases h2 : n < 127 <;> cases w <;> by_cases h3 : n = 32 <;> by_cases h4 : n = 9 <;> by_cases h5 : n = 10 <;> simp [h1, h2, h3, h4, h5]
theorem printable_l0 (s : Bs) (w : Bool) (hs : s.length ≤ 4611686018427387904) : ∀ (d p k : Nat), p + d = s.length → d < k →
    spec_printable.l0 k (B s) w (s.length : Int) (p : Int) = some ((s.drop p).all (prn w))
  | 0, p, k, hd, hk => by
    obtain ⟨k, rfl⟩ : ∃ m, k = m + 1 := ⟨k - 1, by omega⟩
    rw [spec_printable.l0, if_neg (by omega), List.drop_eq_nil_of_le (by omega)]
    rfl
  | d + 1, p, k, hd, hk => by
    obtain ⟨k, rfl⟩ : ∃ m, k = m + 1 := ⟨k - 1, by omega⟩
    have hlt : p < s.length := by omega
    rw [printable_step s p s[p] w k (List.getElem?_eq_getElem hlt) hs, List.drop_eq_getElem_cons hlt, List.all_cons]
    by_cases h : prn w s[p] = true
    · rw [if_pos h, h, printable_l0 s w hs d (p + 1) k (by omega) (by omega)]
      rfl
    · rw [if_neg h]
      simp [h]
theorem printable_f (s : Bs) (w : Bool) (k : Nat) (hs : s.length ≤ 4611686018427387904) (hk : s.length < k) : spec_printable.f k (B s) w = some (s.all (prn w)) := by
  unfold spec_printable.f
  have := printable_l0 s w hs s.length 0 k (by omega) hk
  rw [B_size]
  simpa using this
theorem word_l0 (s : Bs) (hs : s.length ≤ 4611686018427387904) : ∀ (d p k : Nat), p + d = s.length → d + s.length + 1 < k →
    spec_word.l0 k (B s) (s.length : Int) (p : Int) = some ((s.drop p).all (fun c => c != 92) && (!s.isEmpty && s.all (prn false)))
  | 0, p, k, hd, hk => by
    obtain ⟨k, rfl⟩ : ∃ m, k = m + 1 := ⟨k - 1, by omega⟩
    rw [spec_word.l0, if_neg (by omega), List.drop_eq_nil_of_le (by omega)]
    simp only [B_toList]
    by_cases h : s = []
    · rw [if_pos h, h]; rfl
    · rw [if_neg h, printable_f s false k hs (by omega)]
      have : s.isEmpty = false := by simpa using h
      simp [this]
  | d + 1, p, k, hd, hk => by
    obtain ⟨k, rfl⟩ : ∃ m, k = m + 1 := ⟨k - 1, by omega⟩
    have hlt : p < s.length := by omega
    have q1 : (p : Int) < (s.length : Int) := by omega
    have q2 : (p : Int) < ((B s).size : Int) := by rw [B_size]; omega
    have z0 : (0 : Int) ≤ (p : Int) := by omega
    have w1 := wr1 p (by omega)
    have b0 := bt_B' s p s[p] (List.getElem?_eq_getElem hlt)
    rw [spec_word.l0, if_pos q1, if_pos z0, if_pos q2, b0, w1, List.drop_eq_getElem_cons hlt, List.all_cons]
    by_cases h : s[p] = 92
    · have : (((s[p]).toNat : Nat) : Int) = 92 := by rw [h]; rfl
      rw [if_pos this]
      simp [h]
    · have : ¬ (((s[p]).toNat : Nat) : Int) = 92 := fun e => h (u8_eq (b := 92) e)
      rw [if_neg this, word_l0 s hs d (p + 1) k (by omega) (by omega), show (s[p] != 92) = true from by simpa using h, Bool.true_and]
theorem word_f (s : Bs) (k : Nat) (hs : s.length ≤ 4611686018427387904) (hk : 2 * s.length + 1 < k) : ∃ b, spec_word.f k (B s) = some b ∧ (b = true ↔ wordL s) := by
  unfold spec_word.f
  have := word_l0 s hs s.length 0 k (by omega) (by omega)
  rw [B_size]
  refine ⟨_, by simpa using this, ?_⟩
  unfold wordL prn prnN
  constructor
  · intro h
    simp only [Bool.and_eq_true, List.all_eq_true, Bool.not_eq_true', bne_iff_ne] at h
    refine ⟨by intro e; rw [e] at h; exact absurd h.2.1 (by decide), fun c hc => ⟨?_, h.1 c hc⟩⟩
    have := h.2.2 c hc
    simpa using this
  · rintro ⟨h0, h1⟩
    simp only [Bool.and_eq_true, List.all_eq_true, Bool.not_eq_true', bne_iff_ne]
    refine ⟨fun c hc => (h1 c hc).2, by simpa using h0, fun c hc => ?_⟩
    have := (h1 c hc).1
    simp [this]
def pieces : Bs → List Bs
  | [] => [[]]
  | c :: r => if c = 32 then [] :: pieces r else match pieces r with
    | [] => [[c]]
    | h :: t => (c :: h) :: t
theorem pieces_ne : ∀ s : Bs, pieces s ≠ []
  | [] => by simp [pieces]
  | c :: r => by
    unfold pieces
    split
    · simp
    · split <;> simp
theorem pieces_join : ∀ s : Bs, joinc 32 (pieces s) = s
  | [] => rfl
  | c :: r => by
    have ih := pieces_join r
    unfold pieces
    split
    · rename_i h
      cases hp : pieces r with
      | nil => exact absurd hp (pieces_ne r)
      | cons x t =>
        rw [hp] at ih
        show [] ++ 32 :: joinc 32 (x :: t) = _
        rw [ih, h]
        rfl
    · cases hp : pieces r with
      | nil => exact absurd hp (pieces_ne r)
      | cons x t =>
        rw [hp] at ih
        simp only
        cases t with
        | nil => simp only [joinc] at ih ⊢; rw [ih]
        | cons y t => simp only [joinc] at ih ⊢; rw [List.cons_append, ih]
theorem pieces_len (s : Bs) : (pieces s).length ≤ s.length + 1 := by
  have := joinc_len 32 (pieces s)
  rwa [pieces_join] at this
def gl (cur : Bs) : List Bs → List Bs
  | [] => [cur]
  | h :: t => (cur ++ h) :: t
theorem gl_nil (ps : List Bs) (h : ps ≠ []) : gl [] ps = ps := by
  cases ps with
  | nil => exact absurd rfl h
  | cons x t => rfl
theorem fields_l0 (s : Bs) (hs : s.length ≤ 4611686018427387904) : ∀ (rest cur pre : Bs) (acc : List ByteArray) (k : Nat), s = pre ++ (cur ++ rest) → acc.length + rest.length + 1 < 8796093022208 → rest.length < k →
    spec_fields.l0 k (B s) acc (pre.length : Int) (s.length : Int) ((pre.length + cur.length : Nat) : Int) = some (acc ++ (gl cur (pieces rest)).map B)
  | [], cur, pre, acc, k, hS, ha, hk => by
    obtain ⟨k, rfl⟩ : ∃ m, k = m + 1 := ⟨k - 1, by omega⟩
    have hlen : s.length = pre.length + cur.length := by rw [hS]; simp
    simp only [List.length_nil] at ha
    have q1 : ¬ ((pre.length + cur.length : Nat) : Int) < (s.length : Int) := by omega
    have q2 : (0 : Int) ≤ (pre.length : Int) := by omega
    have q3 : (pre.length : Int) ≤ ((B s).size : Int) := by rw [B_size]; omega
    have q4 : acc.length < 8796093022208 := by omega
    have ex : (B s).extract pre.length (B s).size = B cur := by
      rw [B_extract, B_size, hS]
      simp
    rw [spec_fields.l0, if_neg q1, if_pos q2, if_pos q3, if_pos q4]
    simp only [Int.toNat_natCast]
    rw [ex]
    simp [pieces, gl]
  | c :: r, cur, pre, acc, k, hS, ha, hk => by
    simp only [List.length_cons] at ha hk
    obtain ⟨k, rfl⟩ : ∃ m, k = m + 1 := ⟨k - 1, by omega⟩
    have hlen : s.length = pre.length + cur.length + 1 + r.length := by rw [hS]; simp; omega
    have q1 : ((pre.length + cur.length : Nat) : Int) < (s.length : Int) := by omega
    have z1 : (0 : Int) ≤ ((pre.length + cur.length : Nat) : Int) := by omega
    have q2 : ((pre.length + cur.length : Nat) : Int) < ((B s).size : Int) := by rw [B_size]; omega
    have z0 : (0 : Int) ≤ (pre.length : Int) := by omega
    have q3 : (pre.length : Int) ≤ ((pre.length + cur.length : Nat) : Int) := by omega
    have q4 : ((pre.length + cur.length : Nat) : Int) ≤ ((B s).size : Int) := by rw [B_size]; omega
    have q5 : acc.length < 8796093022208 := by omega
    have w1 := wr1 (pre.length + cur.length) (by omega)
    have hc : s[pre.length + cur.length]? = some c := by
      rw [hS, ← List.append_assoc, List.getElem?_append_right (by simp)]
      simp
    have b0 := bt_B' s _ c hc
    have ex : (B s).extract pre.length (pre.length + cur.length) = B cur := by
      rw [B_extract, hS]
      simp
    rw [spec_fields.l0, if_pos q1, if_pos z1, if_pos q2, b0, w1]
    unfold pieces
    by_cases h : c = 32
    · have e : ((c.toNat : Nat) : Int) = 32 := by rw [h]; rfl
      rw [if_pos e, if_pos z0, if_pos q3, if_pos q4, if_pos q5, if_pos h]
      simp only [Int.toNat_natCast]
      rw [ex]
      have ih := fields_l0 s hs r [] (pre ++ (cur ++ [c])) (acc ++ [B cur]) k (by rw [hS]; simp) (by simp only [List.length_append, List.length_cons, List.length_nil]; omega) (by omega)
      have e2 : (pre ++ (cur ++ [c])).length = pre.length + cur.length + 1 := by simp; omega
      rw [e2, List.length_nil, Nat.add_zero, gl_nil _ (pieces_ne r)] at ih
      rw [ih]
      simp [gl]
    · have e : ¬ ((c.toNat : Nat) : Int) = 32 := fun e => h (u8_eq (b := 32) e)
      rw [if_neg e, if_neg h]
      have ih := fields_l0 s hs r (cur ++ [c]) pre acc k (by rw [hS]; simp) (by omega) (by omega)
      rw [show pre.length + (cur ++ [c]).length = pre.length + cur.length + 1 by simp; omega] at ih
      rw [ih]
      cases hp : pieces r with
      | nil => exact absurd hp (pieces_ne r)
      | cons x t => simp [gl]
theorem fields_f (s : Bs) (k : Nat) (hs : s.length ≤ 4000000000) (hk : s.length < k) : spec_fields.f k (B s) = some ((pieces s).map B) := by
  unfold spec_fields.f
  have := fields_l0 s (by omega) s [] [] [] k (by simp) (by simp only [List.length_nil]; omega) hk
  rw [B_size]
  rw [gl_nil _ (pieces_ne s)] at this
  simpa using this
end Go.Proofs.YtcpldcndhijecaaDoor.Pu
namespace Go.Proofs.YtcpldcndhijecaaDoor.Pu
open Go.RowKit Go.Proofs.YtcpldcndhijecaaDoorW.PrintWords Go.Proofs.YtcpldcndhijecaaDoorW.PrintLast
open Go.Proofs.YtcpldcndhijecaaDoor.QM0
set_option linter.unusedVariables false
set_option linter.unusedSimpArgs false
abbrev Inf := QT0.Inf
theorem words_l1 (L : List Bs) (hL : L.length ≤ 2147483648) (hw : ∀ f ∈ L, f.length ≤ 2147483647) : ∀ (d p k : Nat), p + d = L.length → d + 10000000000 ≤ k →
    ∃ b, spec_mountValid.l1 k (L.map B) (L.length : Int) (p : Int) = some b ∧ (b = true → ∀ f ∈ L.drop p, wordL f)
  | 0, p, k, hd, hk => by
    obtain ⟨k, rfl⟩ : ∃ m, k = m + 1 := ⟨k - 1, by omega⟩
    rw [spec_mountValid.l1, if_neg (by omega), List.drop_eq_nil_of_le (by omega)]
    exact ⟨true, rfl, fun _ f hf => by simp at hf⟩
  | d + 1, p, k, hd, hk => by
    obtain ⟨k, rfl⟩ : ∃ m, k = m + 1 := ⟨k - 1, by omega⟩
    have hlt : p < L.length := by omega
    have hm : L[p] ∈ L := List.getElem_mem hlt
    have hr : rdOf ByteArray.empty (L.map B) (p : Int) = B L[p] := by
      unfold rdOf
      simp only [Int.toNat_natCast, List.getD_eq_getElem?_getD, List.getElem?_map, List.getElem?_eq_getElem hlt]
      rfl
    have q1 : (p : Int) < (L.length : Int) := by omega
    have q2 : (p : Int) < ((L.map B).length : Int) := by rw [List.length_map]; omega
    have z0 : (0 : Int) ≤ (p : Int) := by omega
    have w1 := wr1 p (by omega)
    obtain ⟨b, hb, hbw⟩ := word_f L[p] k (by have := hw _ hm; omega) (by have := hw _ hm; omega)
    rw [spec_mountValid.l1, if_pos q1, if_pos z0, if_pos q2, hr, hb, w1]
    simp only [Option.bind_some]
    by_cases h : b = true
    · rw [if_pos h]
      by_cases h2 : (B L[p]).toList = [45]
      · rw [if_pos h2]
        exact ⟨false, rfl, by simp⟩
      · rw [if_neg h2]
        obtain ⟨b', hb', hw'⟩ := words_l1 L hL hw d (p + 1) k (by omega) (by omega)
        refine ⟨b', hb', fun e => ?_⟩
        rw [List.drop_eq_getElem_cons hlt]
        intro f hf
        rcases List.mem_cons.1 hf with rfl | hf
        · exact hbw.1 h
        · exact hw' e f hf
    · rw [if_neg h]
      exact ⟨false, rfl, by simp⟩
theorem valid_j1 (m : Inf) (bad : Bool) (k : Nat) (hk : 20000000000 ≤ k) (h7 : m.f7.size ≤ 2147483647) :
    ∃ b, spec_mountValid.j1 k bad m.f0 m.f1 m.f2 m.f3 m.f4 m.f5 m.f6 m.f7 m.f8 m.f9 m.f10 = some b ∧ (b = true → bad = false ∧ ∃ os, dl m.f7 = joinc 32 os ∧ (∀ f ∈ os, wordL f) ∧ (dl m.f7 = [] → os = []) ∧ (dl m.f7 ≠ [] → os ≠ [])) := by
  obtain ⟨k, rfl⟩ : ∃ j, k = j + 1 := ⟨k - 1, by omega⟩
  rw [spec_mountValid.j1]
  by_cases hb : bad = true
  · rw [if_pos hb]
    exact ⟨false, rfl, by simp⟩
  · have hb' : bad = false := by simpa using hb
    rw [if_neg hb]
    rw [Lib.toList_data]
    by_cases h0 : m.f7.data.toList = []
    · rw [if_pos h0]
      exact ⟨true, rfl, fun _ => ⟨hb', [], h0, by simp, fun _ => rfl, fun h => absurd h0 h⟩⟩
    · rw [if_neg h0]
      have hf := fields_f (dl m.f7) k (by rw [dl_len]; omega) (by rw [dl_len]; omega)
      rw [B_dl] at hf
      rw [hf]
      simp only [Option.bind_some, List.length_map]
      have hp := pieces_len (dl m.f7)
      rw [dl_len] at hp
      obtain ⟨b, hb1, hb2⟩ := words_l1 (pieces (dl m.f7)) (by omega) (fun f hf => by
        have := joinc_mem 32 _ f hf
        rw [pieces_join, dl_len] at this
        omega) (pieces (dl m.f7)).length 0 k (by omega) (by omega)
      exact ⟨b, hb1, fun e => ⟨hb', _, (pieces_join _).symm, by simpa using hb2 e, fun h => absurd h h0, fun _ => pieces_ne _⟩⟩
theorem valid_num (a0 a1 a2 a3 : Int) (m : Inf) (i : Nat) (x : Int) (k : Nat) (hx : [a0, a1, a2, a3][i]? = some x) :
    spec_mountValid.l0 (k + 1) [a0, a1, a2, a3] 4 (i : Int) m.f0 m.f1 m.f2 m.f3 m.f4 m.f5 m.f6 m.f7 m.f8 m.f9 m.f10 =
      if x < 0 then some false else if x > 2147483647 then some false else spec_mountValid.l0 k [a0, a1, a2, a3] 4 ((i + 1 : Nat) : Int) m.f0 m.f1 m.f2 m.f3 m.f4 m.f5 m.f6 m.f7 m.f8 m.f9 m.f10 := by
  have hi : i < 4 := by
    obtain ⟨h, _⟩ := List.getElem?_eq_some_iff.1 hx
    simpa using h
  have hr : rd [a0, a1, a2, a3] (i : Int) = x := by
    unfold rd
    simp only [Int.toNat_natCast, List.getD_eq_getElem?_getD, hx]
    rfl
  have w1 := wr1 i (by omega)
  rw [spec_mountValid.l0, if_pos (by omega), if_pos (by omega), if_pos (by simp only [List.length_cons, List.length_nil]; omega), hr, w1]
theorem valid_f (m : Inf) (k : Nat) (hk : 30000000000 ≤ k) (h4 : m.f4.size ≤ 2147483647) (h5 : m.f5.size ≤ 2147483647) (h6 : m.f6.size ≤ 2147483647) (h7 : m.f7.size ≤ 2147483647) (h8 : m.f8.size ≤ 2147483647) (h9 : m.f9.size ≤ 2147483647) (h10 : m.f10.size ≤ 2147483647) :
    ∃ b, spec_mountValid.f k m.f0 m.f1 m.f2 m.f3 m.f4 m.f5 m.f6 m.f7 m.f8 m.f9 m.f10 = some b ∧ (b = true → ∃ os, Good m os ∧ (dl m.f7 = [] → os = []) ∧ (dl m.f7 ≠ [] → os ≠ [])) := by
  obtain ⟨k, rfl⟩ : ∃ j, k = j + 5 := ⟨k - 5, by omega⟩
  unfold spec_mountValid.f
  simp only [Option.bind_some]
  have hl4 : (([m.f0, m.f1, m.f2, m.f3] : List Int).length : Int) = 4 := rfl
  rw [hl4, show (0 : Int) = ((0 : Nat) : Int) from rfl, valid_num m.f0 m.f1 m.f2 m.f3 m 0 m.f0 (k + 4) rfl]
  have no : ∀ P : Prop, ∃ b, some false = some b ∧ (b = true → P) := fun P => ⟨false, rfl, by simp⟩
  by_cases a0 : m.f0 < 0
  · rw [if_pos a0]; exact no _
  rw [if_neg a0]
  by_cases c0 : m.f0 > 2147483647
  · rw [if_pos c0]; exact no _
  rw [if_neg c0, valid_num m.f0 m.f1 m.f2 m.f3 m (0 + 1) m.f1 (k + 3) rfl]
  by_cases a1 : m.f1 < 0
  · rw [if_pos a1]; exact no _
  rw [if_neg a1]
  by_cases c1 : m.f1 > 2147483647
  · rw [if_pos c1]; exact no _
  rw [if_neg c1, valid_num m.f0 m.f1 m.f2 m.f3 m (0 + 1 + 1) m.f2 (k + 2) rfl]
  by_cases a2 : m.f2 < 0
  · rw [if_pos a2]; exact no _
  rw [if_neg a2]
  by_cases c2 : m.f2 > 2147483647
  · rw [if_pos c2]; exact no _
  rw [if_neg c2, valid_num m.f0 m.f1 m.f2 m.f3 m (0 + 1 + 1 + 1) m.f3 (k + 1) rfl]
  by_cases a3 : m.f3 < 0
  · rw [if_pos a3]; exact no _
  rw [if_neg a3]
  by_cases c3 : m.f3 > 2147483647
  · rw [if_pos c3]; exact no _
  rw [if_neg c3, spec_mountValid.l0, if_neg (by decide)]
  obtain ⟨bT, hT, hTf⟩ := valid_j1 m true k (by omega) h7
  have hTf' : bT = false := by
    cases bT with
    | false => rfl
    | true => exact absurd (hTf rfl).1 (by simp)
  subst hTf'
  simp only [hT]
  have pr : ∀ (T : ByteArray) (w : Bool), T.size ≤ 2147483647 → spec_printable.f k T w = some ((dl T).all (prn w)) := fun T w h => by
    have := printable_f (dl T) w k (by rw [dl_len]; omega) (by rw [dl_len]; omega)
    rwa [B_dl] at this
  have wd : ∀ (T : ByteArray), T.size ≤ 2147483647 → ∃ b, spec_word.f k T = some b ∧ (b = true ↔ wordL (dl T)) := fun T h => by
    have := word_f (dl T) k (by rw [dl_len]; omega) (by rw [dl_len]; omega)
    rwa [B_dl] at this
  rw [pr _ _ h4, pr _ _ h5, pr _ _ h9]
  obtain ⟨b6, e6, i6⟩ := wd _ h6
  obtain ⟨b8, e8, i8⟩ := wd _ h8
  obtain ⟨b10, e10, i10⟩ := wd _ h10
  rw [e6, e8, e10]
  simp only [Option.bind_some]
  split
  · exact no _
  split
  · exact no _
  split
  · exact no _
  split
  · split
    · split
      · split
        · rename_i t6
          split
          · rename_i t8
            obtain ⟨b, hb, hg⟩ := valid_j1 m (!b10) k (by omega) h7
            refine ⟨b, hb, fun e => ?_⟩
            obtain ⟨hbad, os, ho, how, hn1, hn2⟩ := hg e
            refine ⟨os, ⟨⟨by omega, by omega⟩, ⟨by omega, by omega⟩, ⟨by omega, by omega⟩, ⟨by omega, by omega⟩, i6.1 t6, i8.1 t8, i10.1 (by simpa using hbad), ho, how⟩, hn1, hn2⟩
          · exact no _
        · exact no _
      · exact no _
    · exact no _
  · exact no _
def lineX (a0 a1 a2 a3 : Nat) (s4 s5 s6 s7 s8 s9 s10 : Bs) : Bs :=
  (natL a0 ++ [32] ++ natL a1 ++ [32] ++ natL a2 ++ [58] ++ natL a3 ++ [32] ++ octL s4 ++ [32] ++ octL s5 ++ [32] ++ s6) ++ ((if s7 = [] then [] else [32] ++ s7) ++ ([32, 45, 32] ++ s8 ++ [32] ++ octL s9 ++ [32] ++ s10 ++ [10]))
theorem lineX_lineL (a0 a1 a2 a3 : Nat) (s4 s5 s6 s7 s8 s9 s10 : Bs) (os : List Bs) (ho : s7 = joinc 32 os) (h1 : s7 = [] → os = []) (h2 : s7 ≠ [] → os ≠ []) :
    lineX a0 a1 a2 a3 s4 s5 s6 s7 s8 s9 s10 = lineL ⟨(a0 : Int), (a1 : Int), (a2 : Int), (a3 : Int), B s4, B s5, B s6, B s7, B s8, B s9, B s10⟩ os ++ [10] := by
  unfold lineL lineFs
  have ht : joinc 32 (tailFs ⟨(a0 : Int), (a1 : Int), (a2 : Int), (a3 : Int), B s4, B s5, B s6, B s7, B s8, B s9, B s10⟩) = [45, 32] ++ s8 ++ [32] ++ octL s9 ++ [32] ++ s10 := by
    simp [tailFs, joinc, dl, B_data]
  have hh : joinc 32 (headFs ⟨(a0 : Int), (a1 : Int), (a2 : Int), (a3 : Int), B s4, B s5, B s6, B s7, B s8, B s9, B s10⟩) = natL a0 ++ [32] ++ natL a1 ++ [32] ++ natL a2 ++ [58] ++ natL a3 ++ [32] ++ octL s4 ++ [32] ++ octL s5 ++ [32] ++ s6 := by
    simp [headFs, joinc, dl, B_data]
  rw [joinc_append 32 _ _ (by simp [headFs]) (by simp [tailFs]), hh]
  unfold lineX
  by_cases h : s7 = []
  · rw [if_pos h, h1 h, List.nil_append, List.nil_append, ht]
    simp
  · rw [if_neg h, joinc_append 32 _ _ (h2 h) (by simp [tailFs]), ← ho, ht]
    simp
theorem print_valid (ms : List S63) (p : Nat) (a0 a1 a2 a3 : Nat) (s4 s5 s6 s7 s8 s9 s10 acc : Bs) (k : Nat) (hk : 3000000000 ≤ k)
    (hp : ms[p]? = some ⟨(a0 : Int), (a1 : Int), (a2 : Int), (a3 : Int), B s4, B s5, B s6, B s7, B s8, B s9, B s10⟩) (hms : ms.length ≤ 1000000)
    (b0 : a0 ≤ 2147483647) (b1 : a1 ≤ 2147483647) (b2 : a2 ≤ 2147483647) (b3 : a3 ≤ 2147483647)
    (h4 : s4.length ≤ 2147483647) (h5 : s5.length ≤ 2147483647) (h6 : s6.length ≤ 2147483647) (h7 : s7.length ≤ 2147483647) (h8 : s8.length ≤ 2147483647) (h9 : s9.length ≤ 2147483647) (h10 : s10.length ≤ 2147483647)
    (ha : acc.length ≤ 1000000000000000000)
    (hv : spec_mountValid.f k (a0 : Int) (a1 : Int) (a2 : Int) (a3 : Int) (B s4) (B s5) (B s6) (B s7) (B s8) (B s9) (B s10) = some true) :
    spec_MountsPrint.l0 (k + 1) (B acc) ms (ms.length : Int) (p : Int) = spec_MountsPrint.l0 k (B (acc ++ lineX a0 a1 a2 a3 s4 s5 s6 s7 s8 s9 s10)) ms (ms.length : Int) ((p + 1 : Nat) : Int) := by
  obtain ⟨hlt, hx⟩ := List.getElem?_eq_some_iff.1 hp
  have hr : rd_T63 ms (p : Int) = ⟨(a0 : Int), (a1 : Int), (a2 : Int), (a3 : Int), B s4, B s5, B s6, B s7, B s8, B s9, B s10⟩ := by
    unfold rd_T63
    simp only [Int.toNat_natCast, List.getD_eq_getElem?_getD, hp]
    rfl
  have l0 := natL_len 9 a0 (by omega)
  have l1 := natL_len 9 a1 (by omega)
  have l2 := natL_len 9 a2 (by omega)
  have l3 := natL_len 9 a3 (by omega)
  have l4 := octL_len s4
  have l5 := octL_len s5
  have l9 := octL_len s9
  have n0 := natural_f k a0 (by omega) b0
  have n1 := natural_f k a1 (by omega) b1
  have n2 := natural_f k a2 (by omega) b2
  have n3 := natural_f k a3 (by omega) b3
  have o4 := octal_f s4 k (by omega) (by omega)
  have o5 := octal_f s5 k (by omega) (by omega)
  have o9 := octal_f s9 k (by omega) (by omega)
  have q1 : (p : Int) < (ms.length : Int) := by omega
  have z0 : (0 : Int) ≤ (p : Int) := by omega
  have w1 := wr1 p (by omega)
  have L32 : (⟨#[32]⟩ : ByteArray) = B [32] := rfl
  have L58 : (⟨#[58]⟩ : ByteArray) = B [58] := rfl
  have L10 : (⟨#[10]⟩ : ByteArray) = B [10] := rfl
  have LD : (⟨#[32, 45, 32]⟩ : ByteArray) = B [32, 45, 32] := rfl
  rw [spec_MountsPrint.l0, if_pos q1, if_pos z0, if_pos q1, hr]
  dsimp only
  rw [hv, n0, n1, n2, n3, o4, o5, o9]
  simp only [Option.bind_some, L32, L58, L10, LD, B_append, B_toList, w1, B_size, List.length_append, List.length_cons, List.length_nil]
  clear hv n0 n1 n2 n3 o4 o5 o9 w1 hr hp hx
  rw [if_pos trivial]
  rw [if_pos (by omega), if_pos (by omega), if_pos (by omega), if_pos (by omega), if_pos (by omega), if_pos (by omega), if_pos (by omega), if_pos (by omega), if_pos (by omega), if_pos (by omega), if_pos (by omega), if_pos (by omega), if_pos (by omega)]
  unfold lineX
  by_cases h : s7 = []
  · rw [if_pos h, if_pos h]
    rw [if_pos (by omega), if_pos (by omega), if_pos (by omega), if_pos (by omega), if_pos (by omega), if_pos (by omega), if_pos (by omega)]
    simp only [List.append_assoc, List.nil_append]
  · rw [if_neg h, if_neg h]
    rw [if_pos (by omega), if_pos (by omega), if_pos (by omega), if_pos (by omega), if_pos (by omega), if_pos (by omega), if_pos (by omega), if_pos (by omega), if_pos (by omega)]
    simp only [List.append_assoc, List.nil_append]
def i63 (x : S63) : Inf := ⟨x.f0, x.f1, x.f2, x.f3, x.f4, x.f5, x.f6, x.f7, x.f8, x.f9, x.f10⟩
structure Fits (m : Inf) : Prop where
  h4 : m.f4.size ≤ 2147483647
  h5 : m.f5.size ≤ 2147483647
  h6 : m.f6.size ≤ 2147483647
  h7 : m.f7.size ≤ 2147483647
  h8 : m.f8.size ≤ 2147483647
  h9 : m.f9.size ≤ 2147483647
  h10 : m.f10.size ≤ 2147483647
theorem lineX_len (a0 a1 a2 a3 : Nat) (s4 s5 s6 s7 s8 s9 s10 : Bs)
    (b0 : a0 ≤ 2147483647) (b1 : a1 ≤ 2147483647) (b2 : a2 ≤ 2147483647) (b3 : a3 ≤ 2147483647)
    (h4 : s4.length ≤ 2147483647) (h5 : s5.length ≤ 2147483647) (h6 : s6.length ≤ 2147483647) (h7 : s7.length ≤ 2147483647) (h8 : s8.length ≤ 2147483647) (h9 : s9.length ≤ 2147483647) (h10 : s10.length ≤ 2147483647) :
    (lineX a0 a1 a2 a3 s4 s5 s6 s7 s8 s9 s10).length ≤ 40000000000 := by
  have l0 := natL_len 9 a0 (by omega)
  have l1 := natL_len 9 a1 (by omega)
  have l2 := natL_len 9 a2 (by omega)
  have l3 := natL_len 9 a3 (by omega)
  have l4 := octL_len s4
  have l5 := octL_len s5
  have l9 := octL_len s9
  unfold lineX
  by_cases h : s7 = []
  · rw [if_pos h]
    simp only [List.length_append, List.length_cons, List.length_nil]
    omega
  · rw [if_neg h]
    simp only [List.length_append, List.length_cons, List.length_nil]
    omega
theorem print_l0 (ms : List S63) (hms : ms.length ≤ 200) (hf : ∀ x ∈ ms, Fits (i63 x)) : ∀ (d p : Nat) (acc : Bs) (k : Nat), p + d = ms.length → acc.length ≤ p * 40000000000 → d + 40000000000 ≤ k →
    ∃ t c, spec_MountsPrint.l0 k (B acc) ms (ms.length : Int) (p : Int) = some (t, c) ∧ (c = 1 → ∃ ps : List (Inf × List Bs), ps.map (·.1) = (ms.drop p).map i63 ∧ (∀ y ∈ ps, Good y.1 y.2) ∧ t = B (acc ++ textL ps))
  | 0, p, acc, k, hd, ha, hk => by
    obtain ⟨k, rfl⟩ : ∃ m, k = m + 1 := ⟨k - 1, by omega⟩
    rw [spec_MountsPrint.l0, if_neg (by omega), List.drop_eq_nil_of_le (by omega)]
    exact ⟨_, _, rfl, fun _ => ⟨[], rfl, by simp, by simp [textL]⟩⟩
  | d + 1, p, acc, k, hd, ha, hk => by
    obtain ⟨k, rfl⟩ : ∃ m, k = m + 1 := ⟨k - 1, by omega⟩
    have hlt : p < ms.length := by omega
    have hp := List.getElem?_eq_getElem hlt
    have hF := hf _ (List.getElem_mem hlt)
    obtain ⟨b, hb, hg⟩ := valid_f (i63 ms[p]) k (by omega) hF.h4 hF.h5 hF.h6 hF.h7 hF.h8 hF.h9 hF.h10
    have hdrop := List.drop_eq_getElem_cons hlt
    have hr : rd_T63 ms (p : Int) = ms[p] := by
      unfold rd_T63
      simp only [Int.toNat_natCast, List.getD_eq_getElem?_getD, hp]
      rfl
    have q1 : (p : Int) < (ms.length : Int) := by omega
    have z0 : (0 : Int) ≤ (p : Int) := by omega
    generalize ms[p] = x at *
    by_cases h : b = true
    · subst h
      obtain ⟨os, hG, hn1, hn2⟩ := hg rfl
      obtain ⟨i0, i1, i2, i3, T4, T5, T6, T7, T8, T9, T10⟩ := x
      have g0 := hG.n0
      have g1 := hG.n1
      have g2 := hG.n2
      have g3 := hG.n3
      obtain ⟨a0, ha0⟩ := Int.eq_ofNat_of_zero_le g0.1
      obtain ⟨a1, ha1⟩ := Int.eq_ofNat_of_zero_le g1.1
      obtain ⟨a2, ha2⟩ := Int.eq_ofNat_of_zero_le g2.1
      obtain ⟨a3, ha3⟩ := Int.eq_ofNat_of_zero_le g3.1
      simp only [i63] at ha0 ha1 ha2 ha3 g0 g1 g2 g3
      subst ha0 ha1 ha2 ha3
      obtain ⟨s4, rfl⟩ : ∃ s, T4 = B s := ⟨_, B_of T4⟩
      obtain ⟨s5, rfl⟩ : ∃ s, T5 = B s := ⟨_, B_of T5⟩
      obtain ⟨s6, rfl⟩ : ∃ s, T6 = B s := ⟨_, B_of T6⟩
      obtain ⟨s7, rfl⟩ : ∃ s, T7 = B s := ⟨_, B_of T7⟩
      obtain ⟨s8, rfl⟩ : ∃ s, T8 = B s := ⟨_, B_of T8⟩
      obtain ⟨s9, rfl⟩ : ∃ s, T9 = B s := ⟨_, B_of T9⟩
      obtain ⟨s10, rfl⟩ : ∃ s, T10 = B s := ⟨_, B_of T10⟩
      have h4 := hF.h4
      have h5 := hF.h5
      have h6 := hF.h6
      have h7 := hF.h7
      have h8 := hF.h8
      have h9 := hF.h9
      have h10 := hF.h10
      simp only [i63, B_size] at h4 h5 h6 h7 h8 h9 h10
      have b0 : a0 ≤ 2147483647 := by omega
      have b1 : a1 ≤ 2147483647 := by omega
      have b2 : a2 ≤ 2147483647 := by omega
      have b3 : a3 ≤ 2147483647 := by omega
      have hl := lineX_len a0 a1 a2 a3 s4 s5 s6 s7 s8 s9 s10 b0 b1 b2 b3 h4 h5 h6 h7 h8 h9 h10
      have hle := lineX_lineL a0 a1 a2 a3 s4 s5 s6 s7 s8 s9 s10 os hG.o hn1 hn2
      rw [print_valid ms p a0 a1 a2 a3 s4 s5 s6 s7 s8 s9 s10 acc k (by omega) hp (by omega) b0 b1 b2 b3 h4 h5 h6 h7 h8 h9 h10 (by omega) hb]
      obtain ⟨t, c, e, hc⟩ := print_l0 ms hms hf d (p + 1) (acc ++ lineX a0 a1 a2 a3 s4 s5 s6 s7 s8 s9 s10) k (by omega) (by rw [List.length_append]; omega) (by omega)
      refine ⟨t, c, e, fun h1 => ?_⟩
      obtain ⟨ps, hps, hgd, ht⟩ := hc h1
      refine ⟨(i63 ⟨(a0 : Int), (a1 : Int), (a2 : Int), (a3 : Int), B s4, B s5, B s6, B s7, B s8, B s9, B s10⟩, os) :: ps, ?_, ?_, ?_⟩
      · rw [hdrop, List.map_cons, List.map_cons, hps]
      · intro y hy
        rcases List.mem_cons.1 hy with rfl | hy
        · exact hG
        · exact hgd y hy
      · rw [ht, hle]
        congr 1
        show _ = acc ++ (lineL _ os ++ 10 :: textL ps)
        rw [List.append_assoc, List.append_assoc]
        rfl
    · have h' : b = false := by simpa using h
      subst h'
      rw [spec_MountsPrint.l0, if_pos q1, if_pos z0, if_pos q1, hr]
      have hb' : spec_mountValid.f k x.f0 x.f1 x.f2 x.f3 x.f4 x.f5 x.f6 x.f7 x.f8 x.f9 x.f10 = some false := hb
      rw [hb']
      simp only [Option.bind_some]
      rw [if_neg (by simp)]
      exact ⟨_, _, rfl, fun h => absurd h (by decide)⟩
theorem print_f (ms : List S63) (k : Nat) (hms : ms.length ≤ 200) (hf : ∀ x ∈ ms, Fits (i63 x)) (hk : 50000000000 ≤ k) :
    ∃ t c, spec_MountsPrint.f k ms = some (t, c) ∧ (c = 1 → ∃ ps : List (Inf × List Bs), ps.map (·.1) = ms.map i63 ∧ (∀ y ∈ ps, Good y.1 y.2) ∧ t = B (textL ps)) := by
  obtain ⟨t, c, e, h⟩ := print_l0 ms hms hf ms.length 0 [] k (by omega) (by simp) (by omega)
  refine ⟨t, c, e, fun h1 => ?_⟩
  obtain ⟨ps, h2, h3, h4⟩ := h h1
  exact ⟨ps, by simpa using h2, h3, by simpa using h4⟩
end Go.Proofs.YtcpldcndhijecaaDoor.Pu
namespace Go.Proofs.YtcpldcndhijecaaDoor.Pu
open Go.RowKit Go.Proofs.YtcpldcndhijecaaDoorW.PrintWords Go.Proofs.YtcpldcndhijecaaDoorW.PrintLast
open Go.Proofs.YtcpldcndhijecaaDoor.QM0
set_option linter.unusedVariables false
set_option linter.unusedSimpArgs false
def i44 (x : S44) : Inf := ⟨x.f0, x.f1, x.f2, x.f3, x.f4, x.f5, x.f6, x.f7, x.f8, x.f9, x.f10⟩
def to63 (x : S44) : S63 := ⟨x.f0, x.f1, x.f2, x.f3, x.f4, x.f5, x.f6, x.f7, x.f8, x.f9, x.f10⟩
def to44 (x : S63) : S44 := ⟨x.f0, x.f1, x.f2, x.f3, x.f4, x.f5, x.f6, x.f7, x.f8, x.f9, x.f10⟩
theorem rd44 (l : List S44) (p : Nat) (x : S44) (h : l[p]? = some x) : rd_T44 l (p : Int) = x := by
  unfold rd_T44
  simp only [Int.toNat_natCast, List.getD_eq_getElem?_getD, h]
  rfl
theorem rd63 (l : List S63) (p : Nat) (x : S63) (h : l[p]? = some x) : rd_T63 l (p : Int) = x := by
  unfold rd_T63
  simp only [Int.toNat_natCast, List.getD_eq_getElem?_getD, h]
  rfl
theorem fits2_f (x : S44) : ∃ b, laws_zzFits2.f x.f0 x.f1 x.f2 x.f3 x.f4 x.f5 x.f6 x.f7 x.f8 x.f9 x.f10 = some b ∧ (b = true → Fits (i44 x)) := by
  unfold laws_zzFits2.f
  have no : ∀ P : Prop, ∃ b, some false = some b ∧ (b = true → P) := fun P => ⟨false, rfl, by simp⟩
  by_cases h4 : (x.f4.size : Int) > 2147483647
  · rw [if_pos h4]; exact no _
  rw [if_neg h4]
  by_cases h5 : (x.f5.size : Int) > 2147483647
  · rw [if_pos h5]; exact no _
  rw [if_neg h5]
  by_cases h6 : (x.f6.size : Int) > 2147483647
  · rw [if_pos h6]; exact no _
  rw [if_neg h6]
  by_cases h7 : (x.f7.size : Int) > 2147483647
  · rw [if_pos h7]; exact no _
  rw [if_neg h7]
  by_cases h8 : (x.f8.size : Int) > 2147483647
  · rw [if_pos h8]; exact no _
  rw [if_neg h8]
  by_cases h9 : (x.f9.size : Int) > 2147483647
  · rw [if_pos h9]; exact no _
  rw [if_neg h9]
  by_cases h10 : (x.f10.size : Int) > 2147483647
  · rw [if_pos h10]; exact no _
  rw [if_neg h10]
  exact ⟨true, rfl, fun _ => ⟨by show x.f4.size ≤ _; omega, by show x.f5.size ≤ _; omega, by show x.f6.size ≤ _; omega, by show x.f7.size ≤ _; omega, by show x.f8.size ≤ _; omega, by show x.f9.size ≤ _; omega, by show x.f10.size ≤ _; omega⟩⟩
theorem fits1_l0 (l : List S44) (hl : l.length ≤ 2147483647) : ∀ (d p k : Nat), p + d = l.length → d < k →
    ∃ b, laws_zzFits1.l0 k l (l.length : Int) (p : Int) = some b ∧ (b = true → ∀ x ∈ l.drop p, Fits (i44 x))
  | 0, p, k, hd, hk => by
    obtain ⟨k, rfl⟩ : ∃ m, k = m + 1 := ⟨k - 1, by omega⟩
    rw [laws_zzFits1.l0, if_neg (by omega), List.drop_eq_nil_of_le (by omega)]
    exact ⟨true, rfl, fun _ x hx => by simp at hx⟩
  | d + 1, p, k, hd, hk => by
    obtain ⟨k, rfl⟩ : ∃ m, k = m + 1 := ⟨k - 1, by omega⟩
    have hlt : p < l.length := by omega
    have q1 : (p : Int) < (l.length : Int) := by omega
    have z0 : (0 : Int) ≤ (p : Int) := by omega
    obtain ⟨b', hb', hw'⟩ := fits1_l0 l hl d (p + 1) k (by omega) (by omega)
    have w1 := wr1 p (by omega)
    obtain ⟨b, hb, hg⟩ := fits2_f l[p]
    rw [laws_zzFits1.l0, if_pos q1, if_pos z0, if_pos q1, rd44 l p l[p] (List.getElem?_eq_getElem hlt), hb, w1]
    simp only [Option.bind_some]
    by_cases h : b = true
    · rw [if_pos h]
      refine ⟨b', hb', fun e => ?_⟩
      rw [List.drop_eq_getElem_cons hlt]
      intro x hx
      rcases List.mem_cons.1 hx with rfl | hx
      · exact hg h
      · exact hw' e x hx
    · rw [if_neg h]
      exact ⟨false, rfl, by simp⟩
theorem fits1_f (l : List S44) (k : Nat) (hk : l.length < k) : ∃ b, laws_zzFits1.f k l = some b ∧ (b = true → ∀ x ∈ l, Fits (i44 x)) := by
  unfold laws_zzFits1.f
  by_cases h : (l.length : Int) > 2147483647
  · rw [if_pos h]
    exact ⟨false, rfl, by simp⟩
  · rw [if_neg h]
    obtain ⟨b, hb, hw⟩ := fits1_l0 l (by omega) l.length 0 k (by omega) hk
    exact ⟨b, hb, by simpa using hw⟩
theorem mountsTo_l0 (l : List S44) (hl : l.length ≤ 1000000) : ∀ (d p : Nat) (acc : List S63) (k : Nat), p + d = l.length → acc.length ≤ 1000000 + p → d < k →
    laws_mountsTo.l0 k acc l (l.length : Int) (p : Int) = some (acc ++ (l.drop p).map to63)
  | 0, p, acc, k, hd, ha, hk => by
    obtain ⟨k, rfl⟩ : ∃ m, k = m + 1 := ⟨k - 1, by omega⟩
    rw [laws_mountsTo.l0, if_neg (by omega), List.drop_eq_nil_of_le (by omega)]
    simp
  | d + 1, p, acc, k, hd, ha, hk => by
    obtain ⟨k, rfl⟩ : ∃ m, k = m + 1 := ⟨k - 1, by omega⟩
    have hlt : p < l.length := by omega
    have q1 : (p : Int) < (l.length : Int) := by omega
    have z0 : (0 : Int) ≤ (p : Int) := by omega
    have q2 : acc.length < 977343669134 := by omega
    have ih := mountsTo_l0 l hl d (p + 1) (acc ++ [to63 l[p]]) k (by omega) (by rw [List.length_append, List.length_singleton]; omega) (by omega)
    have w1 := wr1 p (by omega)
    rw [laws_mountsTo.l0, if_pos q1, if_pos z0, if_pos q1, if_pos q2, rd44 l p l[p] (List.getElem?_eq_getElem hlt), w1]
    show laws_mountsTo.l0 k (acc ++ [to63 l[p]]) l (l.length : Int) ((p + 1 : Nat) : Int) = _
    rw [ih, List.drop_eq_getElem_cons hlt, List.map_cons, List.append_assoc]
    rfl
theorem mountsTo_f (l : List S44) (k : Nat) (hl : l.length ≤ 200) (hk : l.length < k) : laws_mountsTo.f k l = some (l.map to63) := by
  unfold laws_mountsTo.f
  have := mountsTo_l0 l (by omega) l.length 0 [] k (by omega) (by simp) hk
  simpa using this
theorem same_l0 (l : List S44) (hl : l.length ≤ 1000000) : ∀ (d p k : Nat), p + d = l.length → d < k →
    laws_sameMounts.l0 k l l (l.length : Int) (p : Int) = some true
  | 0, p, k, hd, hk => by
    obtain ⟨k, rfl⟩ : ∃ m, k = m + 1 := ⟨k - 1, by omega⟩
    rw [laws_sameMounts.l0, if_neg (by omega)]
  | d + 1, p, k, hd, hk => by
    obtain ⟨k, rfl⟩ : ∃ m, k = m + 1 := ⟨k - 1, by omega⟩
    have q1 : (p : Int) < (l.length : Int) := by omega
    have z0 : (0 : Int) ≤ (p : Int) := by omega
    have ih := same_l0 l hl d (p + 1) k (by omega) (by omega)
    have w1 := wr1 p (by omega)
    rw [laws_sameMounts.l0, if_pos q1, if_pos z0, if_pos q1, if_pos q1, w1, if_neg (by simp), ih]
theorem same_f (l : List S44) (k : Nat) (hl : l.length ≤ 1000000) (hk : l.length < k) : laws_sameMounts.f k l l = some true := by
  unfold laws_sameMounts.f
  rw [if_pos rfl]
  exact same_l0 l hl l.length 0 k (by omega) hk
def m0 : Inf := ⟨36, 35, 98, 0, B [47, 109, 110, 116, 49], B [47, 109, 110, 116, 50], B [114, 119, 44, 110, 111, 97, 116, 105, 109, 101], B [109, 97, 115, 116, 101, 114, 58, 49], B [101, 120, 116, 51], B [47, 100, 101, 118, 47, 114, 111, 111, 116], B [114, 119, 44, 101, 114, 114, 111, 114, 115, 61, 99, 111, 110, 116, 105, 110, 117, 101]⟩
def os0 : List Bs := [[109, 97, 115, 116, 101, 114, 58, 49]]
theorem good0 : Good m0 os0 where
  n0 := by decide
  n1 := by decide
  n2 := by decide
  n3 := by decide
  w6 := by unfold wordL; decide
  w8 := by unfold wordL; decide
  w10 := by unfold wordL; decide
  o := rfl
  ow := by unfold os0 wordL; decide
theorem text0 : textL [(m0, os0)] = [51, 54, 32, 51, 53, 32, 57, 56, 58, 48, 32, 47, 109, 110, 116, 49, 32, 47, 109, 110, 116, 50, 32, 114, 119, 44, 110, 111, 97, 116, 105, 109, 101, 32, 109, 97, 115, 116, 101, 114, 58, 49, 32, 45, 32, 101, 120, 116, 51, 32, 47, 100, 101, 118, 47, 114, 111, 111, 116, 32, 114, 119, 44, 101, 114, 114, 111, 114, 115, 61, 99, 111, 110, 116, 105, 110, 117, 101, 10] := by
  have a : natL 36 = [51, 54] := by rw [natL, if_neg (by decide), natL, if_pos (by decide)]; rfl
  have b : natL 35 = [51, 53] := by rw [natL, if_neg (by decide), natL, if_pos (by decide)]; rfl
  have c : natL 98 = [57, 56] := by rw [natL, if_neg (by decide), natL, if_pos (by decide)]; rfl
  have d : natL 0 = [48] := by rw [natL, if_pos (by decide)]; rfl
  have e : lineFs m0 os0 = [natL 36, natL 35, natL 98 ++ 58 :: natL 0, octL (dl m0.f4), octL (dl m0.f5), dl m0.f6] ++ (os0 ++ tailFs m0) := rfl
  show joinc 32 (lineFs m0 os0) ++ 10 :: [] = _
  rw [e, a, b, c, d]
  decide
theorem mounts_ok : laws_mounts.f = some true := by
  have h := mountsF_text 0 [] _ rfl [(m0, os0)] (by intro x hx; rw [List.mem_singleton.1 hx]; exact good0) (by rw [text0]; decide)
  rw [text0, runF_all] at h
  unfold laws_mounts.f laws_all.f impl_Mounts.f
  simp only [Option.bind_some]
  rw [show (⟨#[51, 54, 32, 51, 53, 32, 57, 56, 58, 48, 32, 47, 109, 110, 116, 49, 32, 47, 109, 110, 116, 50, 32, 114, 119, 44, 110, 111, 97, 116, 105, 109, 101, 32, 109, 97, 115, 116, 101, 114, 58, 49, 32, 45, 32, 101, 120, 116, 51, 32, 47, 100, 101, 118, 47, 114, 111, 111, 116, 32, 114, 119, 44, 101, 114, 114, 111, 114, 115, 61, 99, 111, 110, 116, 105, 110, 117, 101, 10]⟩ : ByteArray) = B [51, 54, 32, 51, 53, 32, 57, 56, 58, 48, 32, 47, 109, 110, 116, 49, 32, 47, 109, 110, 116, 50, 32, 114, 119, 44, 110, 111, 97, 116, 105, 109, 101, 32, 109, 97, 115, 116, 101, 114, 58, 49, 32, 45, 32, 101, 120, 116, 51, 32, 47, 100, 101, 118, 47, 114, 111, 111, 116, 32, 114, 119, 44, 101, 114, 114, 111, 114, 115, 61, 99, 111, 110, 116, 105, 110, 117, 101, 10] from rfl, h]
  simp only [Option.map_some, Option.bind_some]
  rw [if_pos trivial]
  have e : rd_T44 (List.map impl_Mounts.of (List.map (fun x => x.fst) [(m0, os0)])) 0 = impl_Mounts.of m0 := rfl
  rw [e]
  simp only [List.map_cons, List.map_nil, List.length_cons, List.length_nil]
  rw [if_pos (by decide), if_pos (by decide)]
  simp only [impl_Mounts.of, m0, B_toList]
  decide
end Go.Proofs.YtcpldcndhijecaaDoor.Pu
namespace Go.Proofs.YtcpldcndhijecaaDoor.Ck
open Go.ChangeShapes Go.WideShapes Go.ChangeAt Go.RowKit Go.Deep
open Go.Proofs.YtcpldcndhijecaaDoorW.PrintWords Go.Proofs.YtcpldcndhijecaaDoor.QM0
set_option linter.unusedVariables false
set_option linter.unusedSimpArgs false
theorem own : ownKnob Tryd.prog.godebug = none := by kernel_rfl
theorem laidOut : laidOutB Tryd.prog = true := by kernel_rfl
noncomputable def laidWorld (os : Os) : World :=
  let N := (World.settled Tryd.prog os).heap.size
  let w0 := World.holding Tryd.prog os ⟨#[.cells #[.string ⟨#[105, 110, 118, 97, 108, 105, 100, 32, 115, 121, 110, 116, 97, 120]⟩] 90, .cells #[.string ⟨#[118, 97, 108, 117, 101, 32, 111, 117, 116, 32, 111, 102, 32, 114, 97, 110, 103, 101]⟩] 90], #[], []⟩
  let put (h : Array Obj) (g : Nat) (cs : Array Value) : Array Obj := h.modify g fun
    | .cells _ t frozen => .cells cs t frozen
    | o => o
  let h0 := put (put w0.heap 0 #[.iface 88 (.pointer (some ⟨N, 0, none⟩))]) 1 #[.iface 88 (.pointer (some ⟨N + 1, 0, none⟩))]
  let h1 := put h0 3 #[.int .u64 1, .int .u64 10, .int .u64 100, .int .u64 1000, .int .u64 10000, .int .u64 100000, .int .u64 1000000, .int .u64 10000000, .int .u64 100000000, .int .u64 1000000000, .int .u64 10000000000, .int .u64 100000000000, .int .u64 1000000000000, .int .u64 10000000000000, .int .u64 100000000000000, .int .u64 1000000000000000, .int .u64 10000000000000000, .int .u64 100000000000000000, .int .u64 1000000000000000000, .int .u64 10000000000000000000]
  let h2 := put h1 4 (([0, 1, 28, 2, 29, 14, 24, 3, 30, 22, 20, 15, 25, 17, 4, 8, 31, 27, 13, 23, 21, 19, 16, 7, 26, 12, 18, 6, 11, 5, 10, 9] : List Int).map fun z => Value.int .u8 z).toArray
  let h3 := put h2 5 (([0, 1, 56, 2, 57, 49, 28, 3, 61, 58, 42, 50, 38, 29, 17, 4, 62, 47, 59, 36, 45, 43, 51, 22, 53, 39, 33, 30, 24, 18, 12, 5, 63, 55, 48, 27, 60, 41, 37, 16, 46, 35, 44, 21, 52, 32, 23, 11, 54, 26, 40, 15, 34, 20, 31, 10, 25, 14, 19, 9, 13, 8, 7, 6] : List Int).map fun z => Value.int .u8 z).toArray
  { w0 with heap := h3 }
noncomputable abbrev N0 : Nat := (World.settled Tryd.prog default).heap.size
theorem choose_lt' {α : Type} [Inhabited α] {n : Nat} {p : Nat → α → Prop} (h : ∀ i, i < n → ∃ q, p i q) : ∃ f : Nat → α, ∀ i, i < n → p i (f i) :=
  ⟨fun i => if hi : i < n then (h i hi).choose else default, fun i hi => by simp only [dif_pos hi]; exact (h i hi).choose_spec⟩
instance : Inhabited S44 := ⟨z44⟩
set_option maxRecDepth 100000 in
theorem open_mount {H : Type} {enc : TypeId × Value → H} {W : World} {base : Nat} {spare : Nat → Bool} {held : Bool} {n : Nat} {cs : List Value} {y : DataW H × List MemPlace} (hl : cs.length = 11)
    (h : DataW.trod enc Tryd.prog W base spare held n 44 cs = some y) : ∃ x : S44, cs = [.int .i64 x.f0, .int .i64 x.f1, .int .i64 x.f2, .int .i64 x.f3, .string x.f4, .string x.f5, .string x.f6, .string x.f7, .string x.f8, .string x.f9, .string x.f10] := by
  obtain ⟨xs, k, _, _, _, hxl, hf⟩ := DataW.trod_struct Tryd.underlying44 h
  match cs, hl with
  | [c0, c1, c2, c3, c4, c5, c6, c7, c8, c9, c10], _ =>
    have hxl' : xs.length = 11 := hxl
    match xs, hxl' with
    | [y0, y1, y2, y3, y4, y5, y6, y7, y8, y9, y10], _ =>
      have k3 : Tryd.prog.cellsOf 3 = 1 := by kernel_rfl
      have k9 : Tryd.prog.cellsOf 9 = 1 := by kernel_rfl
      have g0 := hf 0 _ rfl
      have g1 := hf 1 _ rfl
      have g2 := hf 2 _ rfl
      have g3 := hf 3 _ rfl
      have g4 := hf 4 _ rfl
      have g5 := hf 5 _ rfl
      have g6 := hf 6 _ rfl
      have g7 := hf 7 _ rfl
      have g8 := hf 8 _ rfl
      have g9 := hf 9 _ rfl
      have g10 := hf 10 _ rfl
      simp [k3, k9] at g0 g1 g2 g3 g4 g5 g6 g7 g8 g9 g10
      obtain ⟨a0, e0, _⟩ := DataW.trod_int Tryd.underlying3 g0
      obtain ⟨a1, e1, _⟩ := DataW.trod_int Tryd.underlying3 g1
      obtain ⟨a2, e2, _⟩ := DataW.trod_int Tryd.underlying3 g2
      obtain ⟨a3, e3, _⟩ := DataW.trod_int Tryd.underlying3 g3
      obtain ⟨s4, e4, _⟩ := DataW.trod_string Tryd.underlying9 g4
      obtain ⟨s5, e5, _⟩ := DataW.trod_string Tryd.underlying9 g5
      obtain ⟨s6, e6, _⟩ := DataW.trod_string Tryd.underlying9 g6
      obtain ⟨s7, e7, _⟩ := DataW.trod_string Tryd.underlying9 g7
      obtain ⟨s8, e8, _⟩ := DataW.trod_string Tryd.underlying9 g8
      obtain ⟨s9, e9, _⟩ := DataW.trod_string Tryd.underlying9 g9
      obtain ⟨s10, e10, _⟩ := DataW.trod_string Tryd.underlying9 g10
      simp at e0 e1 e2 e3 e4 e5 e6 e7 e8 e9 e10
      subst e0 e1 e2 e3 e4 e5 e6 e7 e8 e9 e10
      exact ⟨⟨a0, a1, a2, a3, s4, s5, s6, s7, s8, s9, s10⟩, rfl⟩
theorem open_mounts {H : Type} {enc : TypeId × Value → H} {W : World} {base : Nat} {a : Option Addr} {len cap : Nat} {fuel : Nat} {x : DataW H × List MemPlace} {spare : Nat → Bool} {held : Bool}
    (hf : DataW.trod enc Tryd.prog W base spare held fuel 22 [.slice a len cap] = some x) : ∃ l : List S44, l.length = len ∧ len ≤ cap ∧ Kd.C k44 W a l.length l := by
  rcases open_slice Tryd.underlying22 hf with ⟨hcs, _⟩ | ⟨ad, l', c', m, n, D, Pl, hcs, _, hl, hm, hmm, _, hx⟩
  · simp at hcs
    obtain ⟨rfl, rfl, rfl⟩ := hcs
    exact ⟨[], rfl, Nat.le_refl _, rfl, by decide, fun h => absurd h (by decide)⟩
  · simp at hcs
    obtain ⟨rfl, rfl, rfl⟩ := hcs
    have hle : len ≤ m := by rw [hmm]; split <;> omega
    have k44c : Tryd.prog.cellsOf 44 = 11 := by kernel_rfl
    have each : ∀ i, i < m → ∃ q : S44, ∀ j u, [Value.int .i64 q.f0, .int .i64 q.f1, .int .i64 q.f2, .int .i64 q.f3, .string q.f4, .string q.f5, .string q.f6, .string q.f7, .string q.f8, .string q.f9, .string q.f10][j]? = some u → W.cell? (ad.add (i * 11 + j)) = some u := by
      intro i hi
      obtain ⟨cs', h1, h2⟩ := hx i hi
      rw [k44c] at h1
      obtain ⟨_, hlen, hcell⟩ := World.cells?_some h1
      obtain ⟨q, rfl⟩ := open_mount hlen h2
      refine ⟨q, fun j u hu => ?_⟩
      have hj : j < 11 := (List.getElem?_eq_some_iff.1 hu).1
      have := hcell j hj
      rw [Deep.add_add] at this
      rw [this, hu]
    obtain ⟨q, hq⟩ := choose_lt' each
    refine ⟨(List.range len).map q, by simp, hl, by simp, by simp only [List.length_map, List.length_range]; unfold maxLen at hm; omega, fun _ => ⟨ad, rfl, fun j p hj => ?_⟩⟩
    have hj' : j < len := by
      have := (List.getElem?_eq_some_iff.1 hj).1
      simpa using this
    rw [List.getElem?_map, List.getElem?_range hj'] at hj
    obtain rfl := Option.some.inj hj
    exact ⟨_, rfl, k44_mk W (q j), fun i u hu => hq j (by omega) i u hu⟩
end Go.Proofs.YtcpldcndhijecaaDoor.Ck
namespace Go.Proofs.YtcpldcndhijecaaDoor.Pu
open Go.RowKit Go.Proofs.YtcpldcndhijecaaDoorW.PrintWords Go.Proofs.YtcpldcndhijecaaDoorW.PrintLast
open Go.Proofs.YtcpldcndhijecaaDoor.QM0
set_option linter.unusedVariables false
set_option linter.unusedSimpArgs false
def underB (path above : ByteArray) : Bool := path.toList == above.toList || (above.toList == [47] || Lib.hasPrefix path.data.toList (above ++ QT0.slash).data.toList)
theorem parents_is (path : ByteArray) (m : Inf) : QT0.parents path m = (!(underB path m.f5), false) := by
  unfold QT0.parents underB
  have : (m.f5.toList == path.toList) = (path.toList == m.f5.toList) := by
    rw [Bool.eq_iff_iff, beq_iff_eq, beq_iff_eq]
    exact eq_comm
  rw [this]
  cases (m.f5.toList == [47]) <;> cases (path.toList == m.f5.toList) <;> simp
theorem printed_f (l : List S44) (k : Nat) (hk : 60000000000 ≤ k) (hF : ∀ x ∈ l, Fits (i44 x)) :
    ∃ t b, laws_printed.f k l = some (t, b) ∧ (b = true → l.length ≤ 200 ∧ ∃ ps : List (Inf × List Bs), ps.map (·.1) = l.map i44 ∧ (∀ y ∈ ps, Good y.1 y.2) ∧ t = B (textL ps) ∧ (textL ps).length ≤ 65000) := by
  unfold laws_printed.f
  by_cases hl : (l.length : Int) > 200
  · rw [if_pos hl]
    exact ⟨_, _, rfl, by simp⟩
  rw [if_neg hl, mountsTo_f l k (by omega) (by omega), Option.bind_some]
  obtain ⟨t, c, ht, hc⟩ := print_f (l.map to63) k (by rw [List.length_map]; omega) (by
    intro x hx
    obtain ⟨y, hy, rfl⟩ := List.mem_map.1 hx
    exact hF y hy) (by omega)
  rw [ht, Option.bind_some]
  by_cases h1 : c = 1
  rotate_left
  · rw [if_neg h1]
    exact ⟨_, _, rfl, by simp⟩
  rw [if_pos h1]
  refine ⟨_, _, rfl, fun h6 => ?_⟩
  have h6' : (t.size : Int) ≤ 60000 := by simpa using h6
  obtain ⟨ps, hps, hgd, rfl⟩ := hc h1
  rw [B_size] at h6'
  refine ⟨by omega, ps, ?_, hgd, rfl, by omega⟩
  rw [hps, List.map_map]
  rfl
theorem impl_f (kind : Int) (paths : List ByteArray) (F : Inf → Bool × Bool) (hF : QT0.filterOf kind paths = some F) (l : List S44) (ps : List (Inf × List Bs)) (hps : ps.map (·.1) = l.map i44) (hg : ∀ y ∈ ps, Good y.1 y.2) (hl : (textL ps).length ≤ 65000) :
    impl_Mounts.f (B (textL ps)) kind paths = some ((runF F (l.map i44)).map impl_Mounts.of, 0) := by
  unfold impl_Mounts.f
  rw [mountsF_text kind paths F hF ps hg hl, hps]
  rfl
theorem filter_2 (p : ByteArray) (h : p.size ≤ 4611686018427387904) : QT0.filterOf 2 [p] = some (QT0.parents p) := by
  unfold QT0.filterOf
  rw [if_neg (by decide), if_neg (by decide)]
  show (if p.size ≤ 4611686018427387904 then _ else none) = _
  rw [if_pos h]
  rfl
theorem filter_3 (p : ByteArray) (h : p.size ≤ 4611686018427387904) : QT0.filterOf 3 [p] = some (QT0.prefix_ p) := by
  unfold QT0.filterOf
  rw [if_neg (by decide), if_neg (by decide)]
  show (if p.size ≤ 4611686018427387904 then _ else none) = _
  rw [if_pos h]
  rfl
theorem filter_4 (p : ByteArray) (h : p.size ≤ 4611686018427387904) : QT0.filterOf 4 [p] = some (QT0.single p) := by
  unfold QT0.filterOf
  rw [if_neg (by decide), if_neg (by decide)]
  show (if p.size ≤ 4611686018427387904 then _ else none) = _
  rw [if_pos h]
  rfl
end Go.Proofs.YtcpldcndhijecaaDoor.Pu
namespace Go.Proofs.YtcpldcndhijecaaDoor.Pu
open Go.RowKit Go.Proofs.YtcpldcndhijecaaDoorW.PrintWords Go.Proofs.YtcpldcndhijecaaDoorW.PrintLast
open Go.Proofs.YtcpldcndhijecaaDoor.QM0
set_option linter.unusedVariables false
set_option linter.unusedSimpArgs false
theorem sclean_l0 (s : Bs) (hs : s.length ≤ 2147483647) : ∀ (d i k : Nat) (part : Bs), i + d = s.length + 1 → part.length ≤ i → 2 * d < k → ∃ b, spec_cleanPath.l0 k (B s) (B part) (i : Int) = some b
  | 0, i, k, part, hd, hp, hk => by
    obtain ⟨k, rfl⟩ : ∃ m, k = m + 1 := ⟨k - 1, by omega⟩
    rw [spec_cleanPath.l0, if_neg (by rw [B_size]; omega)]
    exact ⟨_, rfl⟩
  | d + 1, i, k, part, hd, hp, hk => by
    obtain ⟨k, rfl⟩ : ∃ m, k = m + 2 := ⟨k - 2, by omega⟩
    have q0 : (i : Int) ≤ ((B s).size : Int) := by rw [B_size]; omega
    have z0 : (0 : Int) ≤ (i : Int) := by omega
    have q3 : (i : Int) ≤ ((i + 1 : Nat) : Int) := by omega
    obtain ⟨b0, hb0⟩ := sclean_l0 s hs d (i + 1) k [] (by omega) (by simp) (by omega)
    by_cases hi : i = s.length
    · have q1 : ¬ (i : Int) < ((B s).size : Int) := by rw [B_size]; omega
      have w1 := wr1 i (by omega)
      rw [spec_cleanPath.l0, if_pos q0, if_neg q1, spec_cleanPath.j2, if_neg (by simp), w1, B_nil, hb0]
      split
      · exact ⟨_, rfl⟩
      · split
        · exact ⟨_, rfl⟩
        · split <;> exact ⟨_, rfl⟩
    · have q2 : (i : Int) < ((B s).size : Int) := by rw [B_size]; omega
      have q4 : ((i + 1 : Nat) : Int) ≤ ((B s).size : Int) := by rw [B_size]; omega
      have hlt : i < s.length := by omega
      have ex : (B s).extract i (i + 1) = B [s[i]] := by rw [B_extract, (one_win s i s[i]).2 (List.getElem?_eq_getElem hlt)]
      have q5 : (B part).size + (B [s[i]]).size ≤ 9223372036854775807 := by rw [B_size, B_size]; simp only [List.length_singleton]; omega
      obtain ⟨b1, hb1⟩ := sclean_l0 s hs d (i + 1) k (part ++ [s[i]]) (by omega) (by rw [List.length_append, List.length_singleton]; omega) (by omega)
      have w1 := wr1 i (by omega)
      rw [spec_cleanPath.l0, if_pos q0, if_pos q2, if_pos z0, spec_cleanPath.j2, w1, B_nil, hb0, if_pos z0, if_pos q3, if_pos q4]
      simp only [Int.toNat_natCast]
      rw [ex, if_pos q5, B_append, hb1]
      split
      · exact ⟨_, rfl⟩
      · split
        · exact ⟨_, rfl⟩
        · split
          · exact ⟨_, rfl⟩
          · split <;> exact ⟨_, rfl⟩
theorem sclean_j0 (s : Bs) (hs : s.length ≤ 2147483647) (b : Bool) (k : Nat) (hk : 2 * s.length + 1 < k) : ∃ r, spec_cleanPath.j0 k (B s) b = some r := by
  obtain ⟨k, rfl⟩ : ∃ m, k = m + 1 := ⟨k - 1, by omega⟩
  rw [spec_cleanPath.j0]
  split
  · exact ⟨_, rfl⟩
  · rw [B_nil]
    exact sclean_l0 s hs s.length 1 k [] (by omega) (by simp) (by omega)
theorem sclean_f (T : ByteArray) (k : Nat) (hs : T.size ≤ 2147483647) (hk : 5000000000 ≤ k) : ∃ r, spec_cleanPath.f k T = some r := by
  obtain ⟨s, rfl⟩ : ∃ s, T = B s := ⟨_, B_of T⟩
  rw [B_size] at hs
  unfold spec_cleanPath.f
  obtain ⟨r1, h1⟩ := sclean_j0 s hs true k (by omega)
  obtain ⟨r2, h2⟩ := sclean_j0 s hs ((bt (B s) (wrap64 (((B s).size : Int) - 1))) == 47) k (by omega)
  rw [h1, h2]
  simp only [B_toList]
  split
  · exact ⟨_, rfl⟩
  · split
    · exact ⟨_, rfl⟩
    · rename_i hne
      have hl : 0 < s.length := List.length_pos_iff.2 hne
      rw [if_pos (by rw [B_size]; omega)]
      split
      · have w : wrap64 (((B s).size : Int) - 1) = ((s.length - 1 : Nat) : Int) := by
          rw [B_size]
          unfold wrap64
          omega
        rw [w, if_pos (by omega), if_pos (by rw [B_size]; omega)]
        exact ⟨_, rfl⟩
      · exact ⟨_, rfl⟩
theorem prefix_slash (s top : Bs) : Lib.hasPrefix s (top ++ [47]) = (decide (top.length < s.length) && (s.take top.length == top && s[top.length]? == some 47)) := by
  rw [← Lib.hasPrefix_of_take, List.length_append, List.length_singleton]
  by_cases h : top.length < s.length
  · have e1 : decide (top.length + 1 ≤ s.length) = true := by rw [decide_eq_true_eq]; omega
    have e2 : decide (top.length < s.length) = true := by simpa using h
    rw [e1, e2, Bool.true_and, Bool.true_and, List.take_add_one, List.getElem?_eq_getElem h]
    show (s.take top.length ++ [s[top.length]] == top ++ [47]) = _
    rw [Bool.eq_iff_iff, beq_iff_eq, Bool.and_eq_true, beq_iff_eq, beq_iff_eq]
    constructor
    · intro e
      have := List.append_inj e (by rw [List.length_take]; omega)
      exact ⟨this.1, by rw [List.singleton_inj.1 this.2]⟩
    · rintro ⟨e3, e4⟩
      rw [e3, Option.some.inj e4]
  · have e1 : decide (top.length + 1 ≤ s.length) = false := by rw [decide_eq_false_iff_not]; omega
    have e2 : decide (top.length < s.length) = false := by rw [decide_eq_false_iff_not]; omega
    rw [e1, e2]
    rfl
theorem below_f (s top : ByteArray) : spec_below.f s top = some (if top.toList = [47] then (s.toList != [47]) else Lib.hasPrefix s.data.toList (top ++ QT0.slash).data.toList) := by
  unfold spec_below.f
  by_cases h1 : top.toList = [47]
  · rw [if_pos h1, if_pos h1]
  · rw [if_neg h1, if_neg h1]
    have e : (top ++ QT0.slash).data.toList = top.data.toList ++ [47] := by simp [ByteArray.data_append, QT0.slash]
    rw [e, prefix_slash]
    have ls := Lib.size_eq s
    have lt := Lib.size_eq top
    by_cases h2 : (s.size : Int) > (top.size : Int)
    · have d1 : decide (top.data.toList.length < s.data.toList.length) = true := by rw [decide_eq_true_eq]; omega
      rw [if_pos h2, if_pos (by omega), if_pos (by omega), d1]
      simp only [Int.toNat_natCast, Lib.toList_data, Lib.extract_data, Bool.true_and, List.drop_zero, Nat.sub_zero]
      rw [lt]
      by_cases h3 : s.data.toList.take top.data.toList.length = top.data.toList
      · have b3 : (s.data.toList.take top.data.toList.length == top.data.toList) = true := by simpa using h3
        rw [if_pos h3, b3, if_pos (by omega), Bool.true_and]
        have hlt : top.data.toList.length < s.data.toList.length := by omega
        rw [QT0.bt_list s top.data.toList.length (by omega), List.getElem?_eq_getElem hlt]
        congr 1
        rw [Bool.eq_iff_iff, beq_iff_eq, beq_iff_eq]
        constructor
        · intro h
          rw [u8_eq (b := 47) h]
        · intro h
          rw [Option.some.inj h]
          rfl
      · have b3 : (s.data.toList.take top.data.toList.length == top.data.toList) = false := by simpa using h3
        rw [if_neg h3, b3]
        rfl
    · have d1 : decide (top.data.toList.length < s.data.toList.length) = false := by rw [decide_eq_false_iff_not]; omega
      rw [if_neg h2, d1]
      rfl
theorem types_l0 (l : List ByteArray) (m : Inf) (hl : l.length ≤ 1000000) : ∀ (d p k : Nat), p + d = l.length → d < k →
    spec_Keeps.l0 k l (l.length : Int) (p : Int) m.f0 m.f1 m.f2 m.f3 m.f4 m.f5 m.f6 m.f7 m.f8 m.f9 m.f10 = some (!((l.drop p).any fun t => m.f8.toList == t.toList), false, 1)
  | 0, p, k, hd, hk => by
    obtain ⟨k, rfl⟩ : ∃ j, k = j + 1 := ⟨k - 1, by omega⟩
    rw [spec_Keeps.l0, if_neg (by omega), List.drop_eq_nil_of_le (by omega)]
    rfl
  | d + 1, p, k, hd, hk => by
    obtain ⟨k, rfl⟩ : ∃ j, k = j + 1 := ⟨k - 1, by omega⟩
    have hlt : p < l.length := by omega
    have q1 : (p : Int) < (l.length : Int) := by omega
    have z0 : (0 : Int) ≤ (p : Int) := by omega
    have ih := types_l0 l m hl d (p + 1) k (by omega) (by omega)
    have hr : rdOf ByteArray.empty l (p : Int) = l[p] := by
      unfold rdOf
      simp only [Int.toNat_natCast, List.getD_eq_getElem?_getD, List.getElem?_eq_getElem hlt]
      rfl
    have w1 := wr1 p (by omega)
    rw [spec_Keeps.l0, if_pos q1, if_pos z0, if_pos q1, hr, w1, List.drop_eq_getElem_cons hlt, List.any_cons]
    by_cases h : (l[p]).toList = m.f8.toList
    · rw [if_pos h, h]
      simp
    · have : (m.f8.toList == (l[p]).toList) = false := by
        rw [beq_eq_false_iff_ne]
        exact fun e => h e.symm
      rw [if_neg h, ih, this, Bool.false_or]
theorem one_rd (p : ByteArray) : rdOf ByteArray.empty [p] 0 = p := rfl
theorem keeps_f (kind : Int) (paths : List ByteArray) (F : Inf → Bool × Bool) (hF : QT0.filterOf kind paths = some F) (hk4 : kind ≤ 4) (h0 : 0 ≤ kind) (hp1 : 1 < kind → ∃ p, paths = [p] ∧ p.size ≤ 2147483647) (hl : paths.length ≤ 20) (m : Inf) (h5 : m.f5.size ≤ 2147483647) (k : Nat) (hk : 6000000000 ≤ k) :
    ∃ a b c, spec_Keeps.f k kind paths m.f0 m.f1 m.f2 m.f3 m.f4 m.f5 m.f6 m.f7 m.f8 m.f9 m.f10 = some (a, b, c) ∧ (c = 1 → F m = (a, b)) ∧ (a = true → b = false) := by
  have hkk : kind = 0 ∨ kind = 1 ∨ kind = 2 ∨ kind = 3 ∨ kind = 4 := by omega
  unfold spec_Keeps.f
  by_cases e0 : kind = 0
  · subst e0
    rw [if_pos rfl]
    refine ⟨_, _, _, rfl, fun _ => ?_, by simp⟩
    obtain rfl := Option.some.inj hF
    rfl
  rw [if_neg e0]
  by_cases e1 : kind = 1
  · subst e1
    rw [if_pos rfl]
    have := types_l0 paths m (by omega) paths.length 0 k (by omega) (by omega)
    rw [show (0 : Int) = ((0 : Nat) : Int) from rfl, this]
    refine ⟨_, _, _, rfl, fun _ => ?_, by simp⟩
    obtain rfl := Option.some.inj hF
    simp [QT0.types]
  rw [if_neg e1]
  obtain ⟨p, rfl, hp⟩ := hp1 (by omega)
  obtain ⟨k, rfl⟩ : ∃ j, k = j + 1 := ⟨k - 1, by omega⟩
  rw [if_pos (show (([p].length : Nat) : Int) = 1 from rfl), if_pos (show (0 : Int) < (([p].length : Nat) : Int) by simp), one_rd]
  obtain ⟨r1, c1⟩ := sclean_f p (k + 1) hp (by omega)
  obtain ⟨r2, c2⟩ := sclean_f m.f5 (k + 1) h5 (by omega)
  rw [c1, c2, Option.bind_some, Option.bind_some]
  have bad : spec_Keeps.j1 (k + 1) true kind [p] m.f0 m.f1 m.f2 m.f3 m.f4 m.f5 m.f6 m.f7 m.f8 m.f9 m.f10 = some (false, false, 2) := by rw [spec_Keeps.j1, if_pos rfl]
  have done : ∃ (a b : Bool) (c : Int), some (false, false, (2 : Int)) = some (a, b, c) ∧ (c = 1 → F m = (a, b)) ∧ (a = true → b = false) := ⟨false, false, (2 : Int), rfl, fun e => absurd e (by decide), by simp⟩
  rw [bad]
  split
  rotate_left
  · exact done
  cases r2 with
  | false => show ∃ a b c, spec_Keeps.j1 (k + 1) true kind [p] m.f0 m.f1 m.f2 m.f3 m.f4 m.f5 m.f6 m.f7 m.f8 m.f9 m.f10 = some (a, b, c) ∧ _; rw [bad]; exact done
  | true =>
    rw [spec_Keeps.j1, if_neg (by simp), if_pos (show (0 : Int) < (([p].length : Nat) : Int) by simp), one_rd]
    by_cases k2 : kind = 2
    · subst k2
      rw [filter_2 p (by omega)] at hF
      obtain rfl := Option.some.inj hF
      rw [if_pos rfl]
      rw [parents_is]
      unfold underB
      by_cases hpm : p.toList = m.f5.toList
      · rw [if_pos hpm]
        exact ⟨_, _, _, rfl, fun _ => by simp [hpm], by simp⟩
      · rw [if_neg hpm, below_f]
        have e : (p.toList == m.f5.toList) = false := by simpa using hpm
        rw [e]
        refine ⟨_, _, _, rfl, fun _ => ?_, by simp⟩
        by_cases h47 : m.f5.toList = [47]
        · have : ¬ p.toList = [47] := fun h => hpm (h.trans h47.symm)
          simp [h47, this]
        · simp [h47]
    rw [if_neg k2]
    by_cases k3 : kind = 3
    · subst k3
      rw [filter_3 p (by omega)] at hF
      obtain rfl := Option.some.inj hF
      rw [if_pos rfl]
      unfold QT0.prefix_
      have es : ∀ T : ByteArray, (T ++ QT0.slash).data.toList = T.data.toList ++ [47] := fun T => by simp [ByteArray.data_append, QT0.slash]
      by_cases hpm : p.toList = m.f5.toList
      · rw [if_pos hpm]
        refine ⟨_, _, _, rfl, fun _ => ?_, by simp⟩
        have : p.data.toList = m.f5.data.toList := by rw [← Lib.toList_data, ← Lib.toList_data, hpm]
        rw [es, es, this]
        have : Lib.hasPrefix (m.f5.data.toList ++ [47]) (m.f5.data.toList ++ [47]) = true := by simp [Lib.hasPrefix]
        rw [this]
        simp
      · rw [if_neg hpm, below_f]
        refine ⟨_, _, _, rfl, fun _ => ?_, by simp⟩
        by_cases h47 : p.toList = [47]
        · have : ¬ m.f5.toList = [47] := fun h => hpm (h47.trans h.symm)
          simp [h47, this]
        · have e47 : (p.toList == [47]) = false := by simpa using h47
          rw [if_neg h47, e47, es, es]
          have hne : ¬ p.data.toList = m.f5.data.toList := fun h => hpm (by rw [Lib.toList_data, Lib.toList_data, h])
          have : Lib.hasPrefix (m.f5.data.toList ++ [47]) (p.data.toList ++ [47]) = Lib.hasPrefix m.f5.data.toList (p.data.toList ++ [47]) := by
            rw [prefix_slash, prefix_slash, List.length_append, List.length_singleton]
            rcases Nat.lt_trichotomy p.data.toList.length m.f5.data.toList.length with h | h | h
            · have d1 : decide (p.data.toList.length < m.f5.data.toList.length + 1) = true := by rw [decide_eq_true_eq]; omega
              have d2 : decide (p.data.toList.length < m.f5.data.toList.length) = true := by rw [decide_eq_true_eq]; omega
              rw [d1, d2, List.take_append_of_le_length (by omega), List.getElem?_append_left h]
            · have d2 : decide (p.data.toList.length < m.f5.data.toList.length) = false := by rw [decide_eq_false_iff_not]; omega
              rw [d2, List.take_append_of_le_length (by omega), h, List.take_length]
              have : (m.f5.data.toList == p.data.toList) = false := by
                rw [beq_eq_false_iff_ne]
                exact fun e => hne e.symm
              rw [this]
              simp
            · have d1 : decide (p.data.toList.length < m.f5.data.toList.length + 1) = false := by rw [decide_eq_false_iff_not]; omega
              have d2 : decide (p.data.toList.length < m.f5.data.toList.length) = false := by rw [decide_eq_false_iff_not]; omega
              rw [d1, d2]
              rfl
          rw [this]
          rfl
    rw [if_neg k3]
    have k4 : kind = 4 := by
      rcases hkk with h | h | h | h | h
      · exact absurd h e0
      · exact absurd h e1
      · exact absurd h k2
      · exact absurd h k3
      · exact h
    subst k4
    rw [filter_4 p (by omega)] at hF
    obtain rfl := Option.some.inj hF
    rw [if_pos rfl]
    refine ⟨_, _, _, rfl, fun _ => ?_, ?_⟩
    · unfold QT0.single
      have : (m.f5.toList == p.toList) = (p.toList == m.f5.toList) := by
        rw [Bool.eq_iff_iff, beq_iff_eq, beq_iff_eq]
        exact eq_comm
      rw [this]
      rfl
    · intro h
      simpa using h
theorem filtered_l0 (kind : Int) (paths : List ByteArray) (F : Inf → Bool × Bool) (hF : QT0.filterOf kind paths = some F) (hk4 : kind ≤ 4) (h0 : 0 ≤ kind) (hp1 : 1 < kind → ∃ p, paths = [p] ∧ p.size ≤ 2147483647) (hl : paths.length ≤ 20) (ms : List S63) (hm : ms.length ≤ 200) (hf : ∀ x ∈ ms, Fits (i63 x)) :
    ∀ (d p : Nat) (acc : List S63) (k : Nat), p + d = ms.length → acc.length ≤ p → d + 10000000000 ≤ k →
    ∃ r c, spec_Filtered.l0 k acc ms (ms.length : Int) (p : Int) kind paths = some (r, c) ∧ (c = 1 → r.map i63 = acc.map i63 ++ runF F ((ms.drop p).map i63) ∧ r.length ≤ 400)
  | 0, p, acc, k, hd, ha, hk => by
    obtain ⟨k, rfl⟩ : ∃ j, k = j + 1 := ⟨k - 1, by omega⟩
    rw [spec_Filtered.l0, if_neg (by omega), List.drop_eq_nil_of_le (by omega)]
    exact ⟨_, _, rfl, fun _ => ⟨by simp [runF], by omega⟩⟩
  | d + 1, p, acc, k, hd, ha, hk => by
    obtain ⟨k, rfl⟩ : ∃ j, k = j + 1 := ⟨k - 1, by omega⟩
    have hlt : p < ms.length := by omega
    have q1 : (p : Int) < (ms.length : Int) := by omega
    have z0 : (0 : Int) ≤ (p : Int) := by omega
    have qa : acc.length < 977343669134 := by omega
    have hFx := hf _ (List.getElem_mem hlt)
    obtain ⟨a, b, c, hkp, hc, hab⟩ := keeps_f kind paths F hF hk4 h0 hp1 hl (i63 ms[p]) hFx.h5 k (by omega)
    have ih := fun acc' h1 => filtered_l0 kind paths F hF hk4 h0 hp1 hl ms hm hf d (p + 1) acc' k (by omega) h1 (by omega)
    have ih1 := ih acc (by omega)
    have ih2 := ih (acc ++ [ms[p]]) (by rw [List.length_append, List.length_singleton]; omega)
    have hal : acc.length + 1 ≤ 400 := by omega
    have hkp' : spec_Keeps.f k kind paths (ms[p]).f0 (ms[p]).f1 (ms[p]).f2 (ms[p]).f3 (ms[p]).f4 (ms[p]).f5 (ms[p]).f6 (ms[p]).f7 (ms[p]).f8 (ms[p]).f9 (ms[p]).f10 = some (a, b, c) := hkp
    have w1 := wr1 p (by omega)
    rw [spec_Filtered.l0, if_pos q1, if_pos z0, if_pos q1, rd63 ms p ms[p] (List.getElem?_eq_getElem hlt), hkp', Option.bind_some, w1]
    rw [List.drop_eq_getElem_cons hlt, List.map_cons]
    show ∃ r c', (if c = 1 then (if a = true then (if b = true then _ else _) else _) else _) = some (r, c') ∧ _
    by_cases hc1 : c = 1
    · rw [if_pos hc1]
      have hFm := hc hc1
      unfold runF
      rw [hFm]
      by_cases hat : a = true
      · have hbf := hab hat
        subst hat hbf
        rw [if_pos rfl, if_neg (by simp), if_pos rfl]
        exact ih1
      · have haf : a = false := by simpa using hat
        subst haf
        cases b with
        | true =>
          refine ⟨acc ++ [ms[p]], 1, ?_, fun _ => ⟨?_, by rw [List.length_append, List.length_singleton]; exact hal⟩⟩
          · simp only [Bool.false_eq_true, if_false, if_pos qa, Option.bind_some, if_true]
          · simp only [Bool.false_eq_true, if_false, if_true, List.map_append, List.map_cons, List.map_nil]
        | false =>
          obtain ⟨r, c', e, h⟩ := ih2
          refine ⟨r, c', ?_, fun h1 => ⟨?_, (h h1).2⟩⟩
          · simp only [Bool.false_eq_true, if_false, if_pos qa, Option.bind_some]
            exact e
          · simp only [Bool.false_eq_true, if_false]
            rw [(h h1).1, List.map_append, List.append_assoc]
            rfl
    · rw [if_neg hc1]
      exact ⟨_, _, rfl, fun h => absurd h (by decide)⟩
theorem mountsFrom_l0 (l : List S63) (hl : l.length ≤ 1000000) : ∀ (d p : Nat) (acc : List S44) (k : Nat), p + d = l.length → acc.length ≤ 1000000 + p → d < k →
    laws_mountsFrom.l0 k acc l (l.length : Int) (p : Int) = some (acc ++ (l.drop p).map to44)
  | 0, p, acc, k, hd, ha, hk => by
    obtain ⟨k, rfl⟩ : ∃ m, k = m + 1 := ⟨k - 1, by omega⟩
    rw [laws_mountsFrom.l0, if_neg (by omega), List.drop_eq_nil_of_le (by omega)]
    simp
  | d + 1, p, acc, k, hd, ha, hk => by
    obtain ⟨k, rfl⟩ : ∃ m, k = m + 1 := ⟨k - 1, by omega⟩
    have hlt : p < l.length := by omega
    have q1 : (p : Int) < (l.length : Int) := by omega
    have z0 : (0 : Int) ≤ (p : Int) := by omega
    have q2 : acc.length < 977343669134 := by omega
    have ih := mountsFrom_l0 l hl d (p + 1) (acc ++ [to44 l[p]]) k (by omega) (by rw [List.length_append, List.length_singleton]; omega) (by omega)
    have w1 := wr1 p (by omega)
    rw [laws_mountsFrom.l0, if_pos q1, if_pos z0, if_pos q1, if_pos q2, rd63 l p l[p] (List.getElem?_eq_getElem hlt), w1]
    show laws_mountsFrom.l0 k (acc ++ [to44 l[p]]) l (l.length : Int) ((p + 1 : Nat) : Int) = _
    rw [ih, List.drop_eq_getElem_cons hlt, List.map_cons, List.append_assoc]
    rfl
theorem mountsFrom_f (l : List S63) (k : Nat) (hl : l.length ≤ 400) (hk : l.length < k) : laws_mountsFrom.f k l = some (l.map to44) := by
  unfold laws_mountsFrom.f
  have := mountsFrom_l0 l (by omega) l.length 0 [] k (by omega) (by simp) hk
  simpa using this
theorem fits4_l0 (l : List ByteArray) (hl : l.length ≤ 2147483647) : ∀ (d p k : Nat), p + d = l.length → d < k →
    ∃ b, laws_zzFits4.l0 k l (l.length : Int) (p : Int) = some b ∧ (b = true → ∀ x ∈ l.drop p, x.size ≤ 2147483647)
  | 0, p, k, hd, hk => by
    obtain ⟨k, rfl⟩ : ∃ m, k = m + 1 := ⟨k - 1, by omega⟩
    rw [laws_zzFits4.l0, if_neg (by omega), List.drop_eq_nil_of_le (by omega)]
    exact ⟨true, rfl, fun _ x hx => by simp at hx⟩
  | d + 1, p, k, hd, hk => by
    obtain ⟨k, rfl⟩ : ∃ m, k = m + 1 := ⟨k - 1, by omega⟩
    have hlt : p < l.length := by omega
    have q1 : (p : Int) < (l.length : Int) := by omega
    have z0 : (0 : Int) ≤ (p : Int) := by omega
    obtain ⟨b', hb', hw'⟩ := fits4_l0 l hl d (p + 1) k (by omega) (by omega)
    have hr : rdOf ByteArray.empty l (p : Int) = l[p] := by
      unfold rdOf
      simp only [Int.toNat_natCast, List.getD_eq_getElem?_getD, List.getElem?_eq_getElem hlt]
      rfl
    by_cases h : ((l[p]).size : Int) > 2147483647
    · have w1 := wr1 p (by omega)
      rw [laws_zzFits4.l0, if_pos q1, if_pos z0, if_pos q1, hr, if_pos h]
      exact ⟨false, rfl, by simp⟩
    · have h' : (l[p]).size ≤ 2147483647 := by omega
      have w1 := wr1 p (by omega)
      rw [laws_zzFits4.l0, if_pos q1, if_pos z0, if_pos q1, hr, if_neg h, w1]
      refine ⟨b', hb', fun e => ?_⟩
      rw [List.drop_eq_getElem_cons hlt]
      intro x hx
      rcases List.mem_cons.1 hx with rfl | hx
      · exact h'
      · exact hw' e x hx
theorem fits3_f (kind : Int) (l : List ByteArray) (k : Nat) (hk : l.length < k) : ∃ b, laws_zzFits3.f k kind l = some b ∧ (b = true → ∀ x ∈ l, x.size ≤ 2147483647) := by
  unfold laws_zzFits3.f laws_zzFits4.f
  by_cases h : (l.length : Int) > 2147483647
  · rw [if_pos h, Option.bind_some, if_neg (by simp)]
    exact ⟨false, rfl, by simp⟩
  · rw [if_neg h]
    obtain ⟨b, hb, hw⟩ := fits4_l0 l (by omega) l.length 0 k (by omega) hk
    rw [show (0 : Int) = ((0 : Nat) : Int) from rfl, hb, Option.bind_some]
    by_cases hbt : b = true
    · rw [if_pos hbt]
      exact ⟨true, rfl, fun _ => by simpa using hw hbt⟩
    · rw [if_neg hbt]
      exact ⟨false, rfl, by simp⟩
theorem filter_some (kind : Int) (paths : List ByteArray) (h0 : 0 ≤ kind) (h4 : kind ≤ 4) (hp : 1 < kind → ∃ p, paths = [p] ∧ p.size ≤ 2147483647) : ∃ F, QT0.filterOf kind paths = some F := by
  have hkk : kind = 0 ∨ kind = 1 ∨ kind = 2 ∨ kind = 3 ∨ kind = 4 := by omega
  rcases hkk with rfl | rfl | rfl | rfl | rfl
  · exact ⟨_, rfl⟩
  · exact ⟨_, rfl⟩
  · obtain ⟨p, rfl, hs⟩ := hp (by decide)
    exact ⟨_, filter_2 p (by omega)⟩
  · obtain ⟨p, rfl, hs⟩ := hp (by decide)
    exact ⟨_, filter_3 p (by omega)⟩
  · obtain ⟨p, rfl, hs⟩ := hp (by decide)
    exact ⟨_, filter_4 p (by omega)⟩
theorem filter_j1 (l : List S44) (kind : Int) (paths : List ByteArray) (ps : List (Inf × List Bs)) (hps : ps.map (·.1) = l.map i44) (hg : ∀ y ∈ ps, Good y.1 y.2) (hlen : (textL ps).length ≤ 65000) (hl : l.length ≤ 200) (hF : ∀ x ∈ l, Fits (i44 x))
    (bad : Bool) (hbad : bad = false → 0 ≤ kind ∧ kind ≤ 4 ∧ (1 < kind → ∃ p, paths = [p] ∧ p.size ≤ 2147483647) ∧ paths.length ≤ 20) (k : Nat) (hk : 100000000000 ≤ k) :
    laws_FnMountsFilter.j1 k l (B (textL ps)) bad kind paths = some true := by
  obtain ⟨k, rfl⟩ : ∃ m, k = m + 1 := ⟨k - 1, by omega⟩
  rw [laws_FnMountsFilter.j1]
  cases bad with
  | true => rw [if_pos rfl]
  | false =>
    obtain ⟨h0, h4, hp, h20⟩ := hbad rfl
    rw [if_neg (by simp), mountsTo_f l k hl (by omega), Option.bind_some]
    obtain ⟨F, hFo⟩ := filter_some kind paths h0 h4 hp
    obtain ⟨r, c, hfl, hc⟩ := filtered_l0 kind paths F hFo h4 h0 hp h20 (l.map to63) (by rw [List.length_map]; exact hl) (by
      intro x hx
      obtain ⟨y, hy, rfl⟩ := List.mem_map.1 hx
      exact hF y hy) (l.map to63).length 0 [] k (by omega) (by simp) (by rw [List.length_map]; omega)
    have hfl' : spec_Filtered.f k kind paths (l.map to63) = some (r, c) := hfl
    rw [hfl', Option.bind_some]
    by_cases hc1 : c = 1
    · rw [if_pos hc1]
      obtain ⟨hr, hrl⟩ := hc hc1
      rw [impl_f kind paths F hFo l ps hps hg hlen, Option.bind_some, if_pos rfl, mountsFrom_f r k hrl (by omega), Option.bind_some]
      have e : (runF F (l.map i44)).map impl_Mounts.of = r.map to44 := by
        have e1 : runF F (l.map i44) = r.map i63 := by
          rw [hr, List.drop_zero, List.map_map]
          rfl
        rw [e1, List.map_map]
        rfl
      rw [e, same_f (r.map to44) k (by rw [List.length_map]; omega) (by rw [List.length_map]; omega), Option.bind_some, if_pos rfl, mounts_ok, Option.bind_some]
    · rw [if_neg hc1, mounts_ok, Option.bind_some]
theorem filter_bad (k : Nat) (l : List S44) (t : ByteArray) (kind : Int) (paths : List ByteArray) : laws_FnMountsFilter.j1 (k + 1) l t true kind paths = some true := by
  rw [laws_FnMountsFilter.j1, if_pos rfl]
theorem FnMountsFilter (l : List S44) (kind : Int) (paths : List ByteArray) : ∃ k, laws_FnMountsFilter.f k l kind paths = some true := by
  refine ⟨l.length + paths.length + 1000000000000, ?_⟩
  generalize hK : l.length + paths.length + 1000000000000 = k
  unfold laws_FnMountsFilter.f
  obtain ⟨b, hb, hF⟩ := fits1_f l k (by omega)
  obtain ⟨b3, hb3, hP⟩ := fits3_f kind paths k (by omega)
  obtain ⟨k, rfl⟩ : ∃ m, k = m + 2 := ⟨k - 2, by omega⟩
  rw [hb, Option.bind_some]
  by_cases h : b = true
  rotate_left
  · rw [if_neg h, laws_FnMountsFilter.j0, if_pos rfl]
  rw [if_pos h, hb3, Option.bind_some, laws_FnMountsFilter.j0]
  replace hF := hF h
  by_cases h3 : b3 = true
  rotate_left
  · rw [if_pos (by simpa using h3)]
  rw [if_neg (by simpa using h3)]
  replace hP := hP h3
  obtain ⟨t, bb, ht, hc⟩ := printed_f l (k + 1) (by omega) hF
  rw [ht, Option.bind_some]
  by_cases hbb : bb = true
  rotate_left
  · rw [if_neg hbb, filter_bad]
  rw [if_pos hbb]
  obtain ⟨hl, ps, hps, hgd, rfl, hlen⟩ := hc hbb
  by_cases c0 : kind < 0
  · rw [if_pos c0, filter_bad]
  rw [if_neg c0]
  by_cases c4 : kind > 4
  · rw [if_pos c4, filter_bad]
  rw [if_neg c4]
  have j := fun bad hbad => filter_j1 l kind paths ps hps hgd hlen hl hF bad hbad (k + 1) (by omega)
  by_cases c1 : kind > 1
  · rw [if_pos c1]
    by_cases p1 : (paths.length : Int) = 1
    · rw [if_pos p1]
      refine j _ (fun hb => ⟨by omega, by omega, fun _ => ?_, ?_⟩)
      · match paths, p1 with
        | [p], _ => exact ⟨p, rfl, hP p (by simp)⟩
      · have : ¬ (paths.length : Int) > 20 := by simpa using hb
        omega
    · rw [if_neg p1, filter_bad]
  · rw [if_neg c1]
    refine j _ (fun hb => ⟨by omega, by omega, fun h => absurd h (by omega), ?_⟩)
    have : ¬ (paths.length : Int) > 20 := by simpa using hb
    omega
end Go.Proofs.YtcpldcndhijecaaDoor.Pu
namespace Go.Proofs.YtcpldcndhijecaaDoor.fnMountsFilter
open Go.ChangeShapes Go.WideShapes Go.ChangeAt Go.RowKit
open Go.Proofs.YtcpldcndhijecaaDoorW.PrintWords Go.Proofs.YtcpldcndhijecaaDoor.QM0 Go.Proofs.YtcpldcndhijecaaDoor.Ck
set_option linter.unusedVariables false
set_option linter.unusedSimpArgs false
theorem open_strs {H : Type} {enc : TypeId × Value → H} {W : World} {base : Nat} {a : Option Addr} {len cap : Nat} {fuel : Nat} {x : DataW H × List MemPlace} {spare : Nat → Bool} {held : Bool}
    (hf : DataW.trod enc Tryd.prog W base spare held fuel 28 [.slice a len cap] = some x) : ∃ l : List ByteArray, l.length = len ∧ len ≤ cap ∧ Kd.C Kd.string W a l.length l := by
  rcases open_strings Tryd.underlying28 Tryd.underlying9 (by kernel_rfl) hf with ⟨hcs, _⟩ | ⟨ad, l', c', ss, hcs, _, hl, hm, hz, _, hcell, _⟩
  · simp at hcs
    obtain ⟨rfl, rfl, rfl⟩ := hcs
    exact ⟨[], rfl, Nat.le_refl _, rfl, by decide, fun h => absurd h (by decide)⟩
  · simp at hcs
    obtain ⟨rfl, rfl, rfl⟩ := hcs
    have hle : len ≤ ss.length := by rw [hz]; split <;> omega
    refine ⟨ss.take len, by rw [List.length_take]; omega, hl, rfl, by rw [List.length_take]; unfold maxLen at hm; omega, fun _ => ⟨ad, rfl, fun j p hj => ?_⟩⟩
    have hj' : j < len := by
      have := (List.getElem?_eq_some_iff.1 hj).1
      rw [List.length_take] at this
      omega
    refine ⟨[.string p], rfl, rfl, fun i u hu => ?_⟩
    match i, hu with
    | 0, hu =>
      simp only [List.getElem?_cons_zero, Option.some.injEq] at hu
      subst hu
      have h := hcell j (by omega)
      rw [List.getElem?_take_of_lt hj'] at hj
      rw [List.getD_eq_getElem?_getD, hj] at h
      show W.cell? (ad.add (j * 1 + 0)) = _
      rw [Nat.mul_one, Nat.add_zero]
      exact h
set_option maxRecDepth 100000 in
theorem open_filter {H : Type} {enc : TypeId × Value → H} {W : World} {base : Nat} {cs : Array Value} {fuel : Nat} {x : DataW H × List MemPlace} {spare : Nat → Bool} {held : Bool}
    (hf : DataW.trod enc Tryd.prog W base spare held fuel 30 (Value.agg cs).cells.toList = some x) : ∃ (kind : Int) (a : Option Addr) (len cap : Nat) (l : List ByteArray), cs = #[.int .i64 kind, .slice a len cap] ∧ l.length = len ∧ len ≤ cap ∧ Kd.C Kd.string W a l.length l := by
  obtain ⟨cs⟩ := cs
  have hf' : DataW.trod enc Tryd.prog W base spare held fuel 30 cs = some x := hf
  obtain ⟨xs, k, _, _, hlen, hxl, hg⟩ := DataW.trod_struct Tryd.underlying30 hf'
  have hlen' : cs.length = 2 := hlen.trans (by kernel_rfl)
  match cs, hlen' with
  | [c0, c1], _ =>
    have hxl' : xs.length = 2 := hxl
    match xs, hxl' with
    | [y0, y1], _ =>
      have k3 : Tryd.prog.cellsOf 3 = 1 := by kernel_rfl
      have k28 : Tryd.prog.cellsOf 28 = 1 := by kernel_rfl
      have g0 := hg 0 _ rfl
      have g1 := hg 1 _ rfl
      simp [k3, k28] at g0 g1
      obtain ⟨kind, e0, _⟩ := DataW.trod_int Tryd.underlying3 g0
      simp at e0
      subst e0
      have hs : ∃ a len cap, c1 = .slice a len cap := by
        rcases open_strings Tryd.underlying28 Tryd.underlying9 (by kernel_rfl) g1 with ⟨hcs, _⟩ | ⟨ad, l', c', ss, hcs, _⟩
        · exact ⟨_, _, _, List.singleton_inj.1 hcs⟩
        · exact ⟨_, _, _, List.singleton_inj.1 hcs⟩
      obtain ⟨a, len, cap, rfl⟩ := hs
      obtain ⟨l, h1, h2, h3⟩ := open_strs g1
      exact ⟨kind, a, len, cap, l, rfl, h1, h2, h3⟩
theorem laid_met (os : Os) (args : Array Value) : laidMet Tryd.prog Rows.fnMountsFilterRow.laid ((laidWorld os).forCall (fun _ _ => 0) ⟨#[], args, []⟩).memory :=
  (LaidIn.of_run [4, 5, 3, 1, N0 + 1, 0, N0] 8 (by kernel_rfl) (by kernel_rfl) (by kernel_rfl) (by kernel_rfl)).met
theorem witness_row (os : Os) {H : Type} (enc : TypeId × Value → H) :
    (OpenSpec.ofChange Rows.fnMountsFilterSpec).preRow enc Tryd.prog Tryd.f4 Rows.fnMountsFilterRow.domain false Rows.fnMountsFilterRow.laid ((laidWorld os).forCall (fun _ _ => 0) ⟨#[], #[.slice none 0 0, .agg #[.int .i64 0, .slice none 0 0]], []⟩).memory #[.slice none 0 0, .agg #[.int .i64 0, .slice none 0 0]] := by
  have hw : (DataW.whole enc Tryd.prog ((laidWorld os).forCall (fun _ _ => 0) ⟨#[], #[.slice none 0 0, .agg #[.int .i64 0, .slice none 0 0]], []⟩).memory Tryd.f4.params.toList Rows.fnMountsFilterSpec.vars false (#[.slice none 0 0, .agg #[.int .i64 0, .slice none 0 0]] : Array Value).toList 8).map (fun x => (x.1, x.2.1)) =
      some ([.nil, .agg [.lit (.int .i64 0), .nil]], []) := by kernel_rfl
  obtain ⟨⟨x1, x2, x3⟩, hx, hx1⟩ := Option.map_eq_some_iff.1 hw
  simp only [Prod.mk.injEq] at hx1
  obtain ⟨rfl, rfl⟩ := hx1
  exact OpenSpec.preRow_of_cond 8 hx (by kernel_rfl) (fun k hk => by cases hk) (by kernel_rfl) (laid_met os _)
set_option maxRecDepth 100000 in
theorem lifted (os : Os) (started : os.Started) (H : Type) (enc : TypeId × Value → H) (F : Stop.Interp) :
    ReturnsInHanded {} Tryd.checked os 4 .any ((OpenSpec.ofChange Rows.fnMountsFilterSpec).preRow enc Tryd.prog Tryd.f4 Rows.fnMountsFilterRow.domain false Rows.fnMountsFilterRow.laid) (((OpenSpec.ofChange Rows.fnMountsFilterSpec).at F).post enc Tryd.prog Tryd.f4 false true false false) := by
  refine returnsInHanded_of_row (C := Tryd.checked) (s := OpenSpec.ofChange Rows.fnMountsFilterSpec) own started (by kernel_rfl) Tryd.func4
    (witness_row_atRef (enc := enc) (C := Tryd.checked) false (laidWorld os) #[.slice none 0 0, .agg #[.int .i64 0, .slice none 0 0]] rfl (by kernel_rfl) (by kernel_rfl) (by kernel_rfl) (witness_row os enc)) ?_
  intro W base args ds gs before hval0 hW hcnd _ hsz0 hL hsh _
  have hsz : (DataW.weightsEach Tryd.prog (Tryd.f4.params.toList ++ (OpenSpec.ofChange Rows.fnMountsFilterSpec).bare.plain.varTypes Tryd.prog) (ds ++ gs)).all (· ≤ reachBytes) = true := hsz0
  have hval : ∀ (j : Nat) t v, Tryd.f4.params[j]? = some t → args[j]? = some v → Value.okWide Tryd.prog W .any base t v := hval0
  have hW' := hW
  obtain ⟨p, q, hA0, hV, rfl, hfz, hnd⟩ := hW
  have hA : DataW.TrodAll enc Tryd.prog W 0 (fun _ => true) true Tryd.f4.params.toList args.toList ds p := hA0
  rw [Tryd.params4] at hA hval hsz
  obtain ⟨v0, vs0, d0, ds0, p0, q0, hargs, rfl, rfl, h0, r0⟩ := trodAll_cons hA
  obtain ⟨v1, vs1, d1, ds1, p1, q1, hargs1, rfl, rfl, h1, r1⟩ := trodAll_cons r0
  obtain ⟨rfl, rfl, rfl⟩ := trodAll_nil r1
  obtain rfl : args = #[v0, v1] := by cases args; simp_all
  obtain ⟨rfl, rfl⟩ := trodVars_none hV
  obtain ⟨a0, len0, cap0, rfl⟩ := okWide_slice Tryd.underlying22 (hval 0 22 v0 rfl rfl)
  have k0 := h0
  have k1 := h1
  have lt0 : ∀ x ∈ p0, x.block < W.heap.size := by obtain ⟨m, hm⟩ := k0; exact DataW.trod_lt m _ _ _ hm
  have lt1 : ∀ x ∈ p1, x.block < W.heap.size := by obtain ⟨m, hm⟩ := k1; exact DataW.trod_lt m _ _ _ hm
  obtain ⟨l, hlen, hcap, hC⟩ : ∃ l : List S44, l.length = len0 ∧ len0 ≤ cap0 ∧ Kd.C k44 W a0 l.length l := by
    obtain ⟨fuel, hf⟩ := h0
    exact open_mounts hf
  subst hlen
  obtain ⟨cs1, rfl, hcs1⟩ := okWide_struct Tryd.underlying30 (hval 1 30 v1 rfl rfl)
  obtain ⟨kind, a1, len1, cap1, l1, rfl, hl1, hc1, hC1⟩ : ∃ (kind : Int) (a1 : Option Addr) (len1 cap1 : Nat) (l1 : List ByteArray), cs1 = #[.int .i64 kind, .slice a1 len1 cap1] ∧ l1.length = len1 ∧ len1 ≤ cap1 ∧ Kd.C Kd.string W a1 l1.length l1 := by
    obtain ⟨fuel, hf⟩ := h1
    exact open_filter hf
  subst hl1
  clear hA0 hval0 hsz0 hsz
  obtain ⟨k, hk⟩ := Pu.FnMountsFilter l kind l1
  refine (laws_FnMountsFilter.calls k a0 cap0 l kind a1 cap1 l1 true W hC hcap hC1 hc1 hk).mono fun e W' ⟨he, bel⟩ => ?_
  subst he
  exact ⟨_, rfl, _, _, _, [], _, [], hW', trodAll_mk1 (shut_bool Tryd.underlying4 _), (trodAll_cons_mk (Below.trod laidOut (by kernel_rfl) (of_decide_eq_true (by kernel_rfl)) k0 bel lt0) (trodAll_cons_mk (Below.trod laidOut (by kernel_rfl) (of_decide_eq_true (by kernel_rfl)) k1 bel lt1) trodAll_mk0)), rfl, bel.frame _, fun h => by cases h⟩
theorem said : Rows.FnMountsFilterSaid :=
  OpenClaim.holds_of_cond 4 Tryd.f4 rfl rfl rfl rfl rfl rfl rfl ⟨rfl, rfl, rfl, rfl, rfl⟩ rfl rfl rfl rfl rfl (by kernel_rfl) Tryd.func4 (by kernel_rfl)
    (of_decide_eq_true (by kernel_rfl)) (by unfold Func.isWrapper; first | (rw [if_pos (by decide +kernel)]; kernel_rfl) | (rw [if_neg (by decide +kernel)]; exact ⟨rfl, rfl⟩))
    (fun os started H enc _ F => by rw [OpenClaim.pre_eq_preRow]; exact lifted os started H enc F)
theorem plain (f : FuncId) (fn : Func) (hf : Tryd.pinned.checked.prog.funcNamed "pub-frontispiece/laws.FnMountsFilter" = some f) (hfn : Tryd.pinned.checked.prog.funcs[f]? = some fn) :
    true = Tryd.pinned.checked.prog.looks [] ∧ ∀ (j : Nat) t, fn.params[j]? = some t → Tryd.pinned.checked.prog.wantsStandIn t = false := by
  obtain rfl : f = 4 := Option.some.inj ((show Tryd.prog.funcNamed "pub-frontispiece/laws.FnMountsFilter" = some 4 by kernel_rfl).symm.trans hf) |>.symm
  obtain rfl : fn = Tryd.f4 := (Option.some.inj (Tryd.func4.symm.trans hfn)).symm
  refine ⟨by kernel_rfl, fun j t ht => ?_⟩
  rw [Tryd.params4] at ht
  have hm : t = 22 ∨ t = 30 := by simpa using Array.mem_of_getElem? ht
  rcases hm with rfl | rfl
  · exact (show Tryd.prog.wantsStandIn 22 = false by kernel_rfl)
  · exact (show Tryd.prog.wantsStandIn 30 = false by kernel_rfl)
theorem card : Rows.FnMountsFilterCardSaid :=
  Claim7.holds_tied_plain_at .later [] _ _ _ _ said (fun _ h => by cases h) (by kernel_rfl) (fun _ h => by cases h) fnMountsFilter_row_tie rfl ⟨rfl, rfl⟩ (by kernel_rfl) rfl plain (by kernel_rfl)
#print axioms card
end Go.Proofs.YtcpldcndhijecaaDoor.fnMountsFilter
namespace Go.Proofs.YtcpldcndhijecaaDoor
theorem fnMountsFilter_card_holds : Rows.FnMountsFilterCardSaid := fnMountsFilter.card
end Go.Proofs.YtcpldcndhijecaaDoor
