/- The texts QA0x21, QA0x22, without what the claims do not use, laid together by a program of this session (wip/tools/bundle.py). Conditions: those of each theorem. -/
import Derived.Test.YtabfehcpcjcomaaGreatDoorXc4
namespace Go.Proofs.YtabfehcpcjcomaaGreatDoor.QA0
open Go.RowKit Go.Proofs.YtabfehcpcjcomaaGreatDoorW.PrintWords Go.Proofs.YtabfehcpcjcomaaGreatDoorW.PrintLast Go.Proofs.YtabfehcpcjcomaaGreatDoorW.PrintMore
attribute [local go_sem] max2_int min2_int max_two min_two max_three min_three max_four min_four
set_option linter.unusedVariables false
set_option linter.unusedSimpArgs false
mutual
def spec_LoadavgRead.j0 : Nat → ByteArray → List ByteArray → Bool → Option ((List (S48)) × Bool × Int)
 | 0, _, _, _ => none
 | k + 1, x0, x5, x26 => if x26 = true then (some (([] : List (S48)), false, 2)) else (if 3 ≤ (x5.length : Int) then ((some (x5.take 3 : List ByteArray)).bind fun y801 => (spec_LoadavgRead.l0 k x0 x5 y801 (y801.length : Int) 0 (⟨#[]⟩ : ByteArray) ([] : List Int))) else (none))
def spec_LoadavgRead.l0 : Nat → ByteArray → List ByteArray → List ByteArray → Int → Int → ByteArray → List Int → Option ((List (S48)) × Bool × Int)
 | 0, _, _, _, _, _, _, _ => none
 | k + 1, x0, x5, x29, x30, x31, x801000, x801001 => if x31 < x30 then (if 0 ≤ x31 then (if x31 < (x29.length : Int) then ((spec_hundreds.f k (rdOf ByteArray.empty x29 x31)).bind fun bt807 => (if bt807.2 = true then ((some (([bt807.1] : List Int) : List Int)).bind fun y809 => (if x801001.length + y809.length < 17592186044416 then (spec_LoadavgRead.l0 k x0 x5 x29 x30 (wrap64 (x31 + 1)) x801000 (x801001 ++ y809)) else (none))) else (some (([] : List (S48)), false, 2)))) else (none)) else (none)) else (if 3 < (x5.length : Int) then ((spec_Parts.f k (rdOf ByteArray.empty x5 3) 47).bind fun t816 => (if 4 < (x5.length : Int) then ((some (([rdOf ByteArray.empty x5 4] : List ByteArray) : List ByteArray)).bind fun y820 => (if t816.length + y820.length < 8796093022208 then ((spec_decimals.f k (t816 ++ y820)).bind fun bt826 => (if x801001.length + bt826.1.length < 17592186044416 then ((spec_meant_37.f k x0 (([(⟨x801000, (x801001 ++ bt826.1), ([] : List ByteArray)⟩ : S48)] : List (S48))) bt826.2 () false).bind fun bt836 => (some (bt836.1, bt836.2.1, bt836.2.2))) else (none))) else (none))) else (none))) else (none))
end
def spec_LoadavgRead.f (k : Nat) (a0 : ByteArray) : Option ((List (S48)) × Bool × Int) := (spec_single.f k a0).bind fun t792 => ((spec_Fields.f k t792).bind fun t793 => (if (t793.length : Int) = 5 then (if 3 < (t793.length : Int) then ((spec_Parts.f k (rdOf ByteArray.empty t793 3) 47).bind fun t797 => (spec_LoadavgRead.j0 k a0 t793 ((t797.length : Int) != 2))) else (none)) else (spec_LoadavgRead.j0 k a0 t793 true)))
def spec_LoadavgRead.T13 : Bool × List (List Nat × List Nat) := (true, [([], []), ([0], [0]), ([1], [1]), ([2], [2]), ([], []), ([4], [4]), ([5], [5]), ([6], [6]), ([3, 7, 3], [3, 7]), ([8, 8], [8]), ([9], [9]), ([10], [10]), ([10], [10]), ([11, 9, 0, 1, 2, 3, 4, 5, 6, 7, 8, 9, 10, 11], [11]), ([12, 13, 0, 1, 2, 3, 4, 5, 6, 7, 8, 9, 10, 11, 12, 13], [12])])
def spec_LoadavgRead.B13 : List Nat := [0, 1, 3, 7, 0, 16, 48, 112, 255, 511, 1023, 2047, 2047, 4095, 16383]
theorem spec_LoadavgRead.tab13 : rtab .any (opsOf Tryz.f10 13) = spec_LoadavgRead.T13 := by kernel_rfl
theorem spec_LoadavgRead.bits13 : waitsOk spec_LoadavgRead.T13.2 spec_LoadavgRead.B13 = true := by kernel_rfl
set_option maxHeartbeats 8000000 in
set_option maxRecDepth 100000 in
theorem spec_LoadavgRead.calls (k : Nat) (a0 : ByteArray) (r1 : List (S48)) (r2 : Bool) (r3 : Int) (w : World) (h : spec_LoadavgRead.f k a0 = some (r1, r2, r3)) :
 Calls Tryz.prog 10 #[.string a0] w fun e w' => ∃ v0_ : Value, e = .returned (.tuple #[v0_, .bool r2, .int .i64 r3]) ∧ Kd.V k48 48 w' w.heap.size (fun k_ => (w.heap.size ≤ k_)) v0_ r1 ∧ Below w.heap.size w w' := by
 have hu48 := Tryz.underlying48
 have HB := Aside0.mk (Below.refl w.heap.size w)
 have H : ((spec_single.f k a0).bind fun t792 => ((spec_Fields.f k t792).bind fun t793 => (if (t793.length : Int) = 5 then (if 3 < (t793.length : Int) then ((spec_Parts.f k (rdOf ByteArray.empty t793 3) 47).bind fun t797 => (spec_LoadavgRead.j0 k a0 t793 ((t797.length : Int) != 2))) else (none)) else (spec_LoadavgRead.j0 k a0 t793 true)))) = some (r1, r2, r3) := h
 clear h
 replace H := Option.bind_eq_some_iff.mp H
 obtain ⟨t792, A20, H⟩ := H
 replace H : ((spec_Fields.f k t792).bind fun t793 => (if (t793.length : Int) = 5 then (if 3 < (t793.length : Int) then ((spec_Parts.f k (rdOf ByteArray.empty t793 3) 47).bind fun t797 => (spec_LoadavgRead.j0 k a0 t793 ((t797.length : Int) != 2))) else (none)) else (spec_LoadavgRead.j0 k a0 t793 true))) = some (r1, r2, r3) := H
 have A2 := Aside0.mk A20
 clear A20
 replace H := Option.bind_eq_some_iff.mp H
 obtain ⟨t793, A30, H⟩ := H
 replace H : (if (t793.length : Int) = 5 then (if 3 < (t793.length : Int) then ((spec_Parts.f k (rdOf ByteArray.empty t793 3) 47).bind fun t797 => (spec_LoadavgRead.j0 k a0 t793 ((t797.length : Int) != 2))) else (none)) else (spec_LoadavgRead.j0 k a0 t793 true)) = some (r1, r2, r3) := H
 have A3 := Aside0.mk A30
 clear A30
 have HC4 := Aside0.mk H
 clear H
 go_enter Tryz.func10, Tryz.ntmps10
 go_upto_region 2 with (first | ((with_reducible refine gate_callee (f := 32) rfl ?_); refine goesL_ (some 14) rfl rfl Tryz.func32 (by kernel_rfl) rfl #[.string a0] rfl (by (try simp only [List.map_toArray, List.map_cons, List.map_nil]); first | done | rfl | (simp only [List.length_drop, List.length_take]; rfl)) ?_; (with_reducible refine (spec_single.calls k a0 t792 _ A2.out).mono ?_); rintro e w5 ⟨rfl, hb⟩; refine ⟨_, rfl, ?_⟩; have n0_ := Aside0.mk (below_step (by repeat (first | (with_reducible first | exact HB.out | apply below_alloc | apply pw_below_drewN | apply below_drew1) | exact HB.out)) hb); clear HB; have HB := n0_; clear n0_; (try clear hb); (try clear hb2); (try clear hk); (try clear hi)) | ((with_reducible refine gate_callee (f := 31) rfl ?_); refine goesL_ (some 15) rfl rfl Tryz.func31 (by kernel_rfl) rfl #[.string t792] rfl (by (try simp only [List.map_toArray, List.map_cons, List.map_nil]); first | done | rfl | (simp only [List.length_drop, List.length_take]; rfl)) ?_; (with_reducible refine (spec_Fields.calls k t792 t793 _ A3.out).mono ?_); rintro e w6 ⟨v794, rfl, ho0, hb⟩; refine ⟨_, rfl, ?_⟩; have n0_ := Aside0.mk (Kd.R_lower (Kd.R_newM (M := fun k_ => (w.heap.size ≤ k_)) ho0 (below_size (by repeat (first | (with_reducible first | exact HB.out | apply below_alloc | apply pw_below_drewN | apply below_drew1) | exact HB.out))) (fun k_ h_ => h_)) (below_size (by repeat (first | (with_reducible first | exact HB.out | apply below_alloc | apply pw_below_drewN | apply below_drew1) | exact HB.out)))); have n1_ := Aside0.mk (below_step (by repeat (first | (with_reducible first | exact HB.out | apply below_alloc | apply pw_below_drewN | apply below_drew1) | exact HB.out)) hb); clear HB; have HO795 := n0_; have HB := n1_; clear n0_ n1_; (try clear hb); (try clear hb2); (try clear hk); (try clear hi); (try clear ho0)))
 (try simp only [Act.put, List.setIfInBounds_toArray, List.set_cons_zero, List.set_cons_succ])
 go_cut [26] (fun v26 wc => ∃ (kq : Nat) (x26_3 : Bool), v26 = .bool x26_3 ∧ Aside0 (spec_LoadavgRead.j0 kq a0 t793 x26_3 = some (r1, r2, r3)) ∧ Aside0 (kq ≤ k) ∧ Aside0 (Kd.R Kd.string 9 wc w.heap.size (fun k_ => (w.heap.size ≤ k_)) v794 t793) ∧ Aside0 (Below w.heap.size w wc))
 case first =>
  have H := HC4.out
  clear HC4
  by_cases c7 : (t793.length : Int) = 5
  · rw [if_pos c7] at H
    have c7b0 : ((t793.length : Int) == 5) = true := beq_iff_eq.mpr c7
    have c7b1 : ((t793.length : Int) != 5) = false := bne_eq_false_iff_eq.mpr c7
    clear c7
    (first | rw [c7b0] | (simp only [i64_w, i32_w]; rw [c7b0]) | skip)
    by_cases c8 : 3 < (t793.length : Int)
    · rw [if_pos c8] at H
      have c8b0 : decide (3 < (t793.length : Int)) = true := decide_eq_true c8
      have c8b1 : decide (3 < t793.length) = true := decide_eq_true (by omega)
      clear c8
      replace H := Option.bind_eq_some_iff.mp H
      obtain ⟨t797, A90, H⟩ := H
      replace H : (spec_LoadavgRead.j0 k a0 t793 ((t797.length : Int) != 2)) = some (r1, r2, r3) := H
      have A9 := Aside0.mk A90
      clear A90
      have H' := Aside0.mk H
      clear H
      obtain ⟨Ao10, co10, eo10⟩ := Kd.R_slice HO795.out
      subst eo10
      have p796 : 0 ≤ (3 : Int) := (by omega)
      have q796 : 3 < (t793.length : Int) := of_decide_eq_true (by first | (with_reducible assumption) | assumption)
      obtain ⟨ad796, e796, hx796_0⟩ := Kd.at_string (Kd.R_reads' HO795.out).2.2 3 p796 q796
      cases e796
      (try simp only [show (3 : Int).toNat = 3 from rfl, Nat.reduceMul, Nat.reduceEqDiff, Go.Addr.add, ↓reduceIte] at hx796_0)
      have qi796 : (3 < t793.length) = True := eq_true (by omega)
      (try rw [show ((3 : Int)).toNat = 3 from rfl] at hx796_0)
      replace p796 := eq_true p796
      replace q796 := eq_true q796
      go_wp2_with (first | (go_at_call 33; (with_reducible refine (spec_Parts.calls k (rdOf ByteArray.empty t793 3) 47 t797 _ A9.out).mono ?_); rintro e w11 ⟨v798, rfl, ho0, hb⟩; have n0_ := Aside0.mk (Kd.R_elder' (by (with_reducible repeat (first | apply Kd.R_alloc | apply Kd.R_drewN | apply Kd.R_drew)); exact HO795.out) (Kd.R_base ho0) hb); have n1_ := Aside0.mk (Kd.R_lower (Kd.R_new' (Kd.R_newM (M := fun k_ => (w.heap.size ≤ k_)) ho0 (below_size (by repeat (first | (with_reducible first | exact HB.out | apply below_alloc | apply pw_below_drewN | apply below_drew1) | exact HB.out))) (fun k_ h_ => h_)) (Kd.R_lt (by (with_reducible repeat (first | apply Kd.R_alloc | apply Kd.R_drewN | apply Kd.R_drew)); exact HO795.out))) (below_size (by repeat (first | (with_reducible first | exact HB.out | apply below_alloc | apply pw_below_drewN | apply below_drew1) | exact HB.out)))); have n2_ := Aside0.mk (below_step (by repeat (first | (with_reducible first | exact HB.out | apply below_alloc | apply pw_below_drewN | apply below_drew1) | exact HB.out)) hb); clear HO795; clear HB; have HO795 := n0_; have HO799 := n1_; have HB := n2_; clear n0_ n1_ n2_; (try clear hb); (try clear hb2); (try clear hk); (try clear hi); (try clear ho0); obtain ⟨Ao12, co12, eo12⟩ := Kd.R_slice HO799.out; subst eo12))
      go_meet
      case rel => exact ⟨_, (((t797.length : Int) != 2)), (by first | rfl | (simp; done) | (simp [*]; done)), H', ⟨by first | omega | exact Nat.le_refl _⟩, ⟨by (with_reducible repeat (first | apply Kd.R_alloc | apply Kd.R_drewN | apply Kd.R_drew)); exact Kd.R_mono HO795.out (fun _ hk => hk.1.1)⟩, ⟨by repeat (first | (with_reducible first | exact HB.out | apply below_alloc | apply pw_below_drewN | apply below_drew1) | exact HB.out)⟩⟩
    · rw [if_neg c8] at H
      exact absurd H (by simp)
  · rw [if_neg c7] at H
    have c7b0 : ((t793.length : Int) == 5) = false := beq_eq_false_iff_ne.mpr c7
    have c7b1 : ((t793.length : Int) != 5) = true := bne_iff_ne.mpr c7
    (first | rw [c7b0] | (simp only [i64_w, i32_w]; rw [c7b0]) | skip)
    have H' := Aside0.mk H
    clear H
    obtain ⟨Ao13, co13, eo13⟩ := Kd.R_slice HO795.out
    subst eo13
    go_wp2
    go_meet
    case rel => exact ⟨_, (true), (by first | rfl | (simp; done) | (simp [*]; done)), H', ⟨by first | omega | exact Nat.le_refl _⟩, ⟨by (with_reducible repeat (first | apply Kd.R_alloc | apply Kd.R_drewN | apply Kd.R_drew)); exact Kd.R_mono HO795.out (fun _ hk => hk.1)⟩, ⟨by repeat (first | (with_reducible first | exact HB.out | apply below_alloc | apply pw_below_drewN | apply below_drew1) | exact HB.out)⟩⟩
 case rest =>
  clear HC4
  try clear c1
  try clear p2
  try clear c3
  try clear c7
  try clear c7b0
  try clear c7b1
  try clear p7
  try clear q7
  try clear hx7
  try clear qi7
  try clear c8
  try clear c8b0
  try clear c8b1
  try clear c10
  try clear hx796_0
  try clear p796
  try clear q796
  obtain ⟨kq, x26_3, rfl, HA, HJ3, HO_5, HB⟩ := hcut
  cases kq with
  | zero => exact absurd HA.out (by simp [spec_LoadavgRead.j0])
  | succ kj3 =>
   have H := HA.out
   clear HA
   simp only [spec_LoadavgRead.j0] at H
   by_cases c14 : x26_3 = true
   · subst c14
     have H1 : (some (([] : List (S48)), false, 2)) = some (r1, r2, r3) := by rw [if_pos rfl] at H; exact H
     clear H
     have H := H1
     clear H1
     simp only [Option.some.injEq, Prod.mk.injEq] at H
     obtain ⟨rfl, rfl, rfl⟩ := H
     go_wp2
     go_ret3
     exact ⟨.slice none 0 0, by first | rfl | (simp [errW_none, errW_some] <;> rfl) | (simp [*, errW_none, errW_some] <;> rfl), Kd.N_V (by first | exact Kd.N_nil _ _ _ 0 _ | exact Kd.V_nil _ _ _ _ _ | exact Kd.Q_nil _ _ _ _ _ | exact Kd.R_nil _ _ _ _ _), by repeat (first | (with_reducible first | exact HB.out | apply below_alloc | apply pw_below_drewN | apply below_drew1) | exact HB.out)⟩
   · replace c14 := Bool.eq_false_iff.mpr c14
     subst c14
     have H1 : (if 3 ≤ (t793.length : Int) then ((some (t793.take 3 : List ByteArray)).bind fun y801 => (spec_LoadavgRead.l0 kj3 a0 t793 y801 (y801.length : Int) 0 (⟨#[]⟩ : ByteArray) ([] : List Int))) else (none)) = some (r1, r2, r3) := by rw [if_neg (show ¬ (false = true) by decide)] at H; exact H
     clear H
     have H := H1
     clear H1
     by_cases c15 : 3 ≤ (t793.length : Int)
     · rw [if_pos c15] at H
       have c15b0 := eq_true c15
       have c15b1 : decide (3 ≤ (t793.length : Int)) = true := decide_eq_true c15
       clear c15
       obtain ⟨y801, hy801⟩ : ∃ y_ : List ByteArray, y_ = (t793.take 3) := ⟨_, rfl⟩
       replace H : (spec_LoadavgRead.l0 kj3 a0 t793 y801 (y801.length : Int) 0 (⟨#[]⟩ : ByteArray) ([] : List Int)) = some (r1, r2, r3) := by first | (rw [hy801]; with_reducible exact H) | (have H2_ := (Option.bind_some _ _).symm.trans H; rw [hy801]; with_reducible exact H2_) | (have H2_ := (Option.bind_some _ _).symm.trans H; with_reducible exact H2_) | with_reducible exact H | (rw [hy801]; exact H) | exact H
       have Ny801 := Aside0.mk hy801
       clear hy801
       have H' := Aside0.mk H
       clear H
       go_wp2_with (first | ((with_reducible refine gate_dst (N := 6) rfl ?_); (try (refine gate_guard (by rfl) ?_; dsimp only)); refine box_event ?hg (N := 6) ?hd (cs := #[.string (⟨#[]⟩ : ByteArray), .slice none 0 0, .slice none 0 0]) (t := 48) ?hr ?_; (case hd => rfl); (case hg => rfl); (case hr => first | (go_simp; done) | (go_simp; rfl)); intro gb800 hg w16 hbox hb; have n0_ := Aside0.mk (Kd.R_below (by (with_reducible repeat (first | apply Kd.R_alloc | apply Kd.R_drewN | apply Kd.R_drew)); exact HO_5.out) hb); have n1_ := Aside0.mk (below_step (by repeat (first | (with_reducible first | exact HB.out | apply below_alloc | apply pw_below_drewN | apply below_drew1) | exact HB.out)) hb); have n2_ := Aside0.mk (hbox); have n3_ := Aside0.mk ((by rw [hg]; exact (below_size (by repeat (first | (with_reducible first | exact HB.out | apply below_alloc | apply pw_below_drewN | apply below_drew1) | exact HB.out))) : w.heap.size ≤ gb800)); have n4_ := Aside0.mk ((by rw [hg]; exact (below_size (by repeat (first | (with_reducible first | exact HB.out | apply below_alloc | apply pw_below_drewN | apply below_drew1) | exact HB.out))) : w.heap.size ≤ gb800)); clear HO_5; clear HB; have HO_5 := n0_; have HB := n1_; have BK800 := n2_; have GW800 := n3_; have GE800 := n4_; clear n0_ n1_ n2_ n3_ n4_; clear hb hbox hg; have hcz17_0 : w16.cell? ⟨gb800, 0, none⟩ = some (.string (⟨#[]⟩ : ByteArray)) := (blk_cell BK800.out 0).trans rfl; have hcz17_1 : w16.cell? ⟨gb800, 1, none⟩ = some (.slice none 0 0) := (blk_cell BK800.out 1).trans rfl; have hcz17_2 : w16.cell? ⟨gb800, 2, none⟩ = some (.slice none 0 0) := (blk_cell BK800.out 2).trans rfl; have hfz17_0 := blk_frozen BK800.out 0; have hfz17_1 := blk_frozen BK800.out 1; have hfz17_2 := blk_frozen BK800.out 2) | ((with_reducible refine gate_store (t := 48) (p := 6) rfl ?_); refine store_event (t := 48) (p := 6) (v := ?vo_w18) (w1 := (((w16.setCell ⟨gb800, 0, none⟩ (.string (⟨#[]⟩ : ByteArray))).setCell ⟨gb800, 1, none⟩ (.slice none 0 0)).setCell ⟨gb800, 2, none⟩ (.slice none 0 0))) ?hg ?ho ?hn ?hr ?_; (case ho => rfl); (case hg => rfl); (case hn => rfl); (case hr => first | (go_simp; done) | (go_simp; rfl)); intro w18 hw; have n0_ : Aside0 (Kd.R Kd.string 9 w18 w.heap.size (fun k_ => (w.heap.size ≤ k_)) v794 t793) := ⟨(by rw [hw]; exact (by (with_reducible repeat (first | apply Kd.R_alloc | apply Kd.R_drewN | apply Kd.R_drew)); exact Kd.R_mono (Kd.R_far (p := ⟨gb800, 2, none⟩) (Kd.R_far (p := ⟨gb800, 1, none⟩) (Kd.R_far (p := ⟨gb800, 0, none⟩) (Kd.R_types HO_5.out BK800.out (by decide)) (fun _ hk => hk.2) (.string (⟨#[]⟩ : ByteArray))) (fun _ hk => hk.2) (.slice none 0 0)) (fun _ hk => hk.2) (.slice none 0 0)) (fun _ hk => hk.1)))⟩; have n1_ : Aside0 (w18.heap[gb800]? = some (.cells #[.string (⟨#[]⟩ : ByteArray), .slice none 0 0, .slice none 0 0] 48 (0, 0))) := ⟨(by rw [hw]; exact (by (with_reducible repeat (first | refine blk_drewN ?_ _ | refine blk_drew ?_ | refine blk_alloc ?_ _)); refine blk_put (cs := #[.string (⟨#[]⟩ : ByteArray), .slice none 0 0, .slice none 0 0]) ?_ 2 _ rfl; (with_reducible repeat (first | refine blk_drewN ?_ _ | refine blk_drew ?_ | refine blk_alloc ?_ _)); refine blk_put (cs := #[.string (⟨#[]⟩ : ByteArray), .slice none 0 0, .slice none 0 0]) ?_ 1 _ rfl; (with_reducible repeat (first | refine blk_drewN ?_ _ | refine blk_drew ?_ | refine blk_alloc ?_ _)); refine blk_put (cs := #[.string (⟨#[]⟩ : ByteArray), .slice none 0 0, .slice none 0 0]) ?_ 0 _ rfl; (with_reducible repeat (first | refine blk_drewN ?_ _ | refine blk_drew ?_ | refine blk_alloc ?_ _)); exact BK800.out))⟩; have n2_ : Aside0 (Below w.heap.size w w18) := ⟨(by rw [hw]; exact (by repeat (first | (with_reducible first | exact HB.out | apply below_alloc | apply pw_below_drewN | apply below_drew1 | refine below_set ?_ GE800.out) | exact HB.out)))⟩; clear hw; clear HO_5; clear BK800; clear HB; have HO_5 := n0_; have BK800 := n1_; have HB := n2_; clear n0_ n1_ n2_; obtain ⟨Ao20, co20, eo20⟩ := Kd.R_slice HO_5.out; subst eo20; have q19 : (3 : Int) ≤ ((t793.length : Int) : Int) := of_decide_eq_true (by first | (with_reducible assumption) | assumption); obtain ⟨i019, hi019, _, hsz19, _⟩ := info_parts info9; have hroom19 : t793.length ≤ co20 := (Kd.R_reads' HO_5.out).2.1; have hC19 : Kd.F Kd.string _ _ Ao20 t793.length t793 := (Kd.V_at (base := w.heap.size) (Kd.R_V (Kd.R_types (HO_5.out) BK800.out (by decide)))).2.2; have hcut19 := cut_to (P := Tryz.prog) 42 9 .i64 Tryz.underlying42 hi019 Ao20 t793.length co20 3 (by omega) q19 hroom19; have hr19 := Kd.F_take (m := 3) hC19 (by omega); have hy19 : y801.length = (3 : Int).toNat := (by rw [Ny801.out, List.length_take]; omega); rw [← Ny801.out] at hr19; rw [← hy19] at hcut19; have HO805 := Aside0.mk (show Kd.V Kd.string 9 _ w.heap.size _ (.slice Ao20 y801.length co20) y801 from Kd.V_mk (by omega) hr19); have HC805 := Aside0.mk (show y801.length ≤ co20 from by omega); clear hr19 hC19 hroom19 hi019 hsz19; have KY19 := Aside0.mk hy19; clear hy19; replace q19 := eq_true q19))
       go_loopg [31] kj3 (fun kq v31 w' => ∃ (x31_2 : Int) (x801001_2 : List Int) (u801001 : Value), v31 = .int .i64 x31_2 ∧ Aside0 (spec_LoadavgRead.l0 kq a0 t793 y801 (y801.length : Int) x31_2 (⟨#[]⟩ : ByteArray) x801001_2 = some (r1, r2, r3)) ∧ Aside0 (kq ≤ kj3) ∧ Aside0 (Kd.R Kd.string 9 w' w.heap.size (fun k_ => (w.heap.size ≤ k_)) (.slice Ao20 t793.length co20) t793) ∧ Aside0 (Kd.V Kd.string 9 w' w.heap.size (fun k_ => (w.heap.size ≤ k_) ∧ some k_ ≠ (u801001 : Value).ownBlock ∧ k_ ≠ gb800) (.slice Ao20 y801.length co20) y801) ∧ Aside0 (Kd.R (Kd.int .u64) 30 w' w.heap.size (fun k_ => (w.heap.size ≤ k_)) u801001 x801001_2) ∧ Aside0 (w'.heap[gb800]? = some (.cells #[.string (⟨#[]⟩ : ByteArray), u801001, (.slice none 0 0)] 48 (0, 0))) ∧ Aside0 (Below w.heap.size w w'))
       case atStart => exact ⟨(0), (([] : List Int)), (.slice none 0 0), (by first | rfl | (simp; done) | (simp [*]; done)), H', ⟨Nat.le_refl _⟩, ⟨by (with_reducible repeat (first | apply Kd.R_alloc | apply Kd.R_drewN | apply Kd.R_drew)); exact HO_5.out⟩, ⟨by (with_reducible repeat (first | apply Kd.V_alloc | apply Kd.V_drewN | apply Kd.V_drew)); exact Kd.V_mono HO805.out (fun _ hk => ⟨hk.1, ⟨(by simp [Value.ownBlock]), hk.2⟩⟩)⟩, ⟨by first | exact Kd.R_nil _ _ _ _ _ | exact Kd.N_nil _ _ _ _ _ | exact Kd.V_nil _ _ _ _ _ | exact Kd.Q_nil _ _ _ _ _ | exact Kd.S_nil _ _ _ _ _⟩, ⟨by (with_reducible repeat (first | refine blk_drewN ?_ _ | refine blk_drew ?_ | refine blk_alloc ?_ _)); exact BK800.out⟩, ⟨by repeat (first | (with_reducible first | exact HB.out | apply below_alloc | apply pw_below_drewN | apply below_drew1 | refine below_set ?_ GE800.out) | exact HB.out)⟩⟩
       case round =>
        clear H'
        try clear c1
        try clear q1
        try clear p2
        try clear c3
        try clear c7
        try clear c7b0
        try clear c7b1
        try clear p7
        try clear q7
        try clear hx7
        try clear qi7
        try clear c8
        try clear c8b0
        try clear c8b1
        try clear c10
        try clear c14
        try clear c15
        try clear c15b0
        try clear c15b1
        try clear q19
        try clear hcz17_0
        try clear hcz17_1
        try clear hcz17_2
        try clear hfz17_0
        try clear hfz17_1
        try clear hfz17_2
        try clear hx796_0
        try clear p2
        try clear p7
        try clear p796
        try clear q19
        try clear q7
        try clear q796
        obtain ⟨x31_2, x801001_2, u801001, rfl, HA, HK2, HO_5, HO_29, HO_801001, BK800, HB⟩ := hrel
        cases gk with
        | zero => exact absurd HA.out (by simp [spec_LoadavgRead.l0])
        | succ k2 =>
         have H := HA.out
         clear HA
         simp only [spec_LoadavgRead.l0] at H
         by_cases c21 : x31_2 < (y801.length : Int)
         · rw [if_pos c21] at H
           have c21b0 : decide (x31_2 < (y801.length : Int)) = true := decide_eq_true c21
           clear c21
           by_cases c22 : 0 ≤ x31_2
           · rw [if_pos c22] at H
             have c22b0 : decide (0 ≤ x31_2) = true := decide_eq_true c22
             clear c22
             by_cases c23 : x31_2 < (y801.length : Int)
             · rw [if_pos c23] at H
               have c23b0 : decide (x31_2 < (y801.length : Int)) = true := decide_eq_true c23
               clear c23
               replace H := Option.bind_eq_some_iff.mp H
               obtain ⟨⟨t807, t808⟩, A240, H⟩ := H
               replace H : (if t808 = true then ((some (([t807] : List Int) : List Int)).bind fun y809 => (if x801001_2.length + y809.length < 17592186044416 then (spec_LoadavgRead.l0 k2 a0 t793 y801 (y801.length : Int) (wrap64 (x31_2 + 1)) (⟨#[]⟩ : ByteArray) (x801001_2 ++ y809)) else (none))) else (some (([] : List (S48)), false, 2))) = some (r1, r2, r3) := H
               have A24 := Aside0.mk A240
               clear A240
               by_cases c25 : t808 = true
               · subst c25
                 have H1 : ((some (([t807] : List Int) : List Int)).bind fun y809 => (if x801001_2.length + y809.length < 17592186044416 then (spec_LoadavgRead.l0 k2 a0 t793 y801 (y801.length : Int) (wrap64 (x31_2 + 1)) (⟨#[]⟩ : ByteArray) (x801001_2 ++ y809)) else (none))) = some (r1, r2, r3) := by rw [if_pos rfl] at H; exact H
                 clear H
                 have H := H1
                 clear H1
                 obtain ⟨y809, hy809⟩ : ∃ y_ : List Int, y_ = (([t807] : List Int)) := ⟨_, rfl⟩
                 replace H : (if x801001_2.length + y809.length < 17592186044416 then (spec_LoadavgRead.l0 k2 a0 t793 y801 (y801.length : Int) (wrap64 (x31_2 + 1)) (⟨#[]⟩ : ByteArray) (x801001_2 ++ y809)) else (none)) = some (r1, r2, r3) := by first | (rw [hy809]; with_reducible exact H) | (have H2_ := (Option.bind_some _ _).symm.trans H; rw [hy809]; with_reducible exact H2_) | (have H2_ := (Option.bind_some _ _).symm.trans H; with_reducible exact H2_) | with_reducible exact H | (rw [hy809]; exact H) | exact H
                 have Ny809 := Aside0.mk hy809
                 clear hy809
                 by_cases c26 : x801001_2.length + y809.length < 17592186044416
                 · rw [if_pos c26] at H
                   have LMc26 := Aside0.mk c26
                   clear c26
                   obtain ⟨y812, hy812⟩ : ∃ y_ : List Int, y_ = (x801001_2 ++ y809) := ⟨_, rfl⟩
                   replace H : (spec_LoadavgRead.l0 k2 a0 t793 y801 (y801.length : Int) (wrap64 (x31_2 + 1)) (⟨#[]⟩ : ByteArray) y812) = some (r1, r2, r3) := by first | (rw [hy812]; with_reducible exact H) | (have H2_ := (Option.bind_some _ _).symm.trans H; rw [hy812]; with_reducible exact H2_) | (have H2_ := (Option.bind_some _ _).symm.trans H; with_reducible exact H2_) | with_reducible exact H | (rw [hy812]; exact H) | exact H
                   have Ny812 := Aside0.mk hy812
                   clear hy812
                   have H' := Aside0.mk H
                   clear H
                   have p806 : 0 ≤ (x31_2 : Int) := of_decide_eq_true (by first | (with_reducible assumption) | assumption)
                   have q806 : x31_2 < (y801.length : Int) := of_decide_eq_true (by first | (with_reducible assumption) | assumption)
                   obtain ⟨ad806, e806, hx806_0⟩ := Kd.at_string (Kd.V_reads' HO_29.out).2.2 x31_2 p806 q806
                   cases e806
                   replace p806 := eq_true p806
                   replace q806 := eq_true q806
                   go_wp2_with (first | ((with_reducible refine gate_callee (f := 34) rfl ?_); refine goesL_ (some 37) rfl rfl Tryz.func34 (by kernel_rfl) rfl #[.string (rdOf ByteArray.empty y801 x31_2)] rfl (by (try simp only [List.map_toArray, List.map_cons, List.map_nil]); first | done | rfl | (simp only [List.length_drop, List.length_take]; rfl)) ?_; (with_reducible refine (spec_hundreds.calls k2 (rdOf ByteArray.empty y801 x31_2) t807 true _ A24.out).mono ?_); rintro e w' ⟨rfl, ⟨nd, rfl⟩⟩; refine ⟨_, rfl, ?_⟩; (try (rw [drewN_self wr]; generalize hq_ : World.drewN wr _ = wr; have n0_ : Aside0 (Kd.V Kd.string 9 wr w.heap.size (fun k_ => (w.heap.size ≤ k_) ∧ some k_ ≠ (u801001 : Value).ownBlock ∧ k_ ≠ gb800) (.slice (some ad806) y801.length co20) y801) := ⟨by rw [← hq_]; exact (by (with_reducible repeat (first | apply Kd.V_alloc | apply Kd.V_drewN | apply Kd.V_drew)); exact HO_29.out)⟩; have n1_ : Aside0 (Kd.R Kd.string 9 wr w.heap.size (fun k_ => (w.heap.size ≤ k_)) (.slice (some ad806) t793.length co20) t793) := ⟨by rw [← hq_]; exact (by (with_reducible repeat (first | apply Kd.R_alloc | apply Kd.R_drewN | apply Kd.R_drew)); exact HO_5.out)⟩; have n2_ : Aside0 (Kd.R (Kd.int .u64) 30 wr w.heap.size (fun k_ => (w.heap.size ≤ k_)) u801001 x801001_2) := ⟨by rw [← hq_]; exact (by (with_reducible repeat (first | apply Kd.R_alloc | apply Kd.R_drewN | apply Kd.R_drew)); exact HO_801001.out)⟩; have n3_ : Aside0 (wr.heap[gb800]? = some (.cells #[.string (⟨#[]⟩ : ByteArray), u801001, .slice none 0 0] 48 (0, 0))) := ⟨by rw [← hq_]; exact (by (with_reducible repeat (first | refine blk_drewN ?_ _ | refine blk_drew ?_ | refine blk_alloc ?_ _)); exact BK800.out)⟩; have n4_ : Aside0 (Below w.heap.size w wr) := ⟨by rw [← hq_]; exact (by repeat (first | (with_reducible first | exact HB.out | apply below_alloc | apply pw_below_drewN | apply below_drew1 | refine below_set ?_ GE800.out) | exact HB.out))⟩; clear HO_29 HO_5 HO_801001 BK800 HB hq_; have HO_29 := n0_; have HO_5 := n1_; have HO_801001 := n2_; have BK800 := n3_; have HB := n4_; clear n0_ n1_ n2_ n3_ n4_)); have hcz27_0 : wr.cell? ⟨gb800, 0, none⟩ = some (.string (⟨#[]⟩ : ByteArray)) := (blk_cell BK800.out 0).trans rfl; have hcz27_1 : wr.cell? ⟨gb800, 1, none⟩ = some (u801001) := (blk_cell BK800.out 1).trans rfl; have hcz27_2 : wr.cell? ⟨gb800, 2, none⟩ = some (.slice none 0 0) := (blk_cell BK800.out 2).trans rfl; have hfz27_0 := blk_frozen BK800.out 0; have hfz27_1 := blk_frozen BK800.out 1; have hfz27_2 := blk_frozen BK800.out 2) | ((with_reducible refine gate_dst (N := 45) rfl ?_); (try (refine gate_guard (by rfl) ?_; dsimp only)); refine Kd.R_lit (Kd.int .u64) _ 30 ?hg (N := 45) ?hd (xs := ([t807] : List Int)) (inner := [.int .u64 t807]) (ok := fun _ => True) (okp := fun _ => True) ?hr ?hp (fun _ hk => hk) trivial (Below.refl _ _) (Nat.le_refl _) (by simp) ?_; (case hd => rfl); (case hg => rfl); (case hr => first | (go_simp; done) | (go_simp; rfl)); (case hp => exact (Reps.one (show Kd.M (Kd.int .u64) _ _ _ t807 [.int .u64 t807] from rfl) (Reps.none _ _))); intro v810 w28 ho29 hb hg_ hnew_; clear hg_ hnew_; (first | rw [← Ny809.out] at ho29 | (simp only [Int.reduceToNat] at ho29; rw [← Ny809.out] at ho29)); have n0_ := Aside0.mk (Kd.R_below (by (with_reducible repeat (first | apply Kd.R_alloc | apply Kd.R_drewN | apply Kd.R_drew)); exact HO_5.out) hb); have n1_ := Aside0.mk (Kd.V_elder' (by (with_reducible repeat (first | apply Kd.V_alloc | apply Kd.V_drewN | apply Kd.V_drew)); exact HO_29.out) (Kd.R_base ho29) hb); have n2_ := Aside0.mk (Kd.R_elder' (by (with_reducible repeat (first | apply Kd.R_alloc | apply Kd.R_drewN | apply Kd.R_drew)); exact HO_801001.out) (Kd.R_base ho29) hb); have n3_ := Aside0.mk (Kd.R_lower (Kd.R_new' (Kd.R_newM (M := fun k_ => (w.heap.size ≤ k_)) ho29 (below_size (by repeat (first | (with_reducible first | exact HB.out | apply below_alloc | apply pw_below_drewN | apply below_drew1 | refine below_set ?_ GE800.out) | exact HB.out))) (fun k_ h_ => h_)) (Kd.R_lt (by (with_reducible repeat (first | apply Kd.R_alloc | apply Kd.R_drewN | apply Kd.R_drew)); exact HO_801001.out))) (below_size (by repeat (first | (with_reducible first | exact HB.out | apply below_alloc | apply pw_below_drewN | apply below_drew1 | refine below_set ?_ GE800.out) | exact HB.out)))); have n4_ := Aside0.mk (blk_below (g := gb800) (o := .cells #[.string (⟨#[]⟩ : ByteArray), u801001, .slice none 0 0] 48 (0, 0)) (by (with_reducible repeat (first | refine blk_drewN ?_ _ | refine blk_drew ?_ | refine blk_alloc ?_ _)); exact BK800.out) hb); have n5_ := Aside0.mk (below_step (by repeat (first | (with_reducible first | exact HB.out | apply below_alloc | apply pw_below_drewN | apply below_drew1 | refine below_set ?_ GE800.out) | exact HB.out)) hb); clear HO_5; clear HO_29; clear HO_801001; clear BK800; clear HB; have HO_5 := n0_; have HO_29 := n1_; have HO_801001 := n2_; have HO811 := n3_; have BK800 := n4_; have HB := n5_; clear n0_ n1_ n2_ n3_ n4_ n5_; clear hb ho29; obtain ⟨Ao31, co31, eo31⟩ := Kd.R_slice HO811.out; subst eo31) | ((with_reducible refine gate_builtin (b := .append) (xs := #[.tmp 43, .tmp 45]) rfl ?_); (try (refine gate_guard (by rfl) ?_; dsimp only)); at_builtin; refine Kd.R_append_rows (Kd.int .u64) (w0 := w) w.heap.size rfl (.tmp 43) (.tmp 45) 46 30 (.int .u64 0) 8 rfl Tryz.underlying46 info30 rfl (by decide) (by omega) u801001 x801001_2 y809 _ _ _ (fun k_ => (w.heap.size ≤ k_) ∧ some k_ ≠ (.slice Ao31 y809.length co31 : Value).ownBlock) (fun _ => False) rfl rfl ?aO ?aR (fun _ _ h => h) (fun _ h => h.elim) ?aF ?aB ?aS ?aL ?_; (case aR => repeat (first | exact (Kd.R_reads' HO811.out).2.2 | (with_reducible refine Kd.C_alloc ?_ _) | (with_reducible refine Kd.C_drewN ?_ _) | (with_reducible refine Kd.C_drew ?_))); (case aB => exact (by repeat (first | (with_reducible first | exact HB.out | apply below_alloc | apply pw_below_drewN | apply below_drew1 | refine below_set ?_ GE800.out) | exact HB.out))); (case aF => exact (fun k_ hk => ⟨(Nat.le_trans (below_size (by repeat (first | (with_reducible first | exact HB.out | apply below_alloc | apply pw_below_drewN | apply below_drew1 | refine below_set ?_ GE800.out) | exact HB.out))) hk), Kd.fresh' (Kd.R_lt (by (with_reducible repeat (first | apply Kd.R_alloc | apply Kd.R_drewN | apply Kd.R_drew)); exact HO811.out)) k_ hk⟩)); (case aO => exact (by (with_reducible repeat (first | apply Kd.R_alloc | apply Kd.R_drewN | apply Kd.R_drew)); exact HO_801001.out)); (case aS => exact (below_size (by repeat (first | (with_reducible first | exact HB.out | apply below_alloc | apply pw_below_drewN | apply below_drew1 | refine below_set ?_ GE800.out) | exact HB.out)))); (case aL => have := LMc26.out; omega); intro v813 w30 ho hb hg hat; rw [← Ny812.out] at ho; have n0_ := Aside0.mk (Kd.R_over' (by (with_reducible repeat (first | apply Kd.R_alloc | apply Kd.R_drewN | apply Kd.R_drew)); exact HO_5.out) (Kd.R_typed (by (with_reducible repeat (first | apply Kd.R_alloc | apply Kd.R_drewN | apply Kd.R_drew)); exact HO_801001.out)) (by decide) hg); have n1_ := Aside0.mk (Kd.V_afterv (ok := (fun k_ => (w.heap.size ≤ k_) ∧ some k_ ≠ (.slice Ao31 y809.length co31 : Value).ownBlock ∧ k_ ≠ gb800)) (by (with_reducible repeat (first | apply Kd.V_alloc | apply Kd.V_drewN | apply Kd.V_drew)); exact Kd.V_mono HO_29.out (fun _ hk => ⟨⟨hk.1.1, ⟨hk.2, hk.1.2.2⟩⟩, hk.1.2.1⟩)) hg hat); have n2_ := Aside0.mk (blk_grown (g := gb800) (o := .cells #[.string (⟨#[]⟩ : ByteArray), u801001, .slice none 0 0] 48 (0, 0)) (by (with_reducible repeat (first | refine blk_drewN ?_ _ | refine blk_drew ?_ | refine blk_alloc ?_ _)); exact BK800.out) hg (Kd.R_ne HO_801001.out BK800.out (by decide))); have n3_ := Aside0.mk (Kd.R_after (ok := (fun k_ => (w.heap.size ≤ k_))) (by (with_reducible repeat (first | apply Kd.R_alloc | apply Kd.R_drewN | apply Kd.R_drew)); exact Kd.R_mono HO811.out (fun _ hk => ⟨hk.1.1, hk.2⟩)) hg hat); have n4_ := Aside0.mk (hb); have n5_ := Aside0.mk (ho); clear HO_5; clear HO_29; clear BK800; clear HO811; clear HB; clear HO_801001; have HO_5 := n0_; have HO_29 := n1_; have BK800 := n2_; have HO811 := n3_; have HB := n4_; have HO814 := n5_; clear n0_ n1_ n2_ n3_ n4_ n5_; clear ho hb hg hat; obtain ⟨Ao32, co32, eo32⟩ := Kd.R_slice HO814.out; subst eo32; have hcz33_0 : w30.cell? ⟨gb800, 0, none⟩ = some (.string (⟨#[]⟩ : ByteArray)) := (blk_cell BK800.out 0).trans rfl; have hcz33_1 : w30.cell? ⟨gb800, 1, none⟩ = some (u801001) := (blk_cell BK800.out 1).trans rfl; have hcz33_2 : w30.cell? ⟨gb800, 2, none⟩ = some (.slice none 0 0) := (blk_cell BK800.out 2).trans rfl; have hfz33_0 := blk_frozen BK800.out 0; have hfz33_1 := blk_frozen BK800.out 1; have hfz33_2 := blk_frozen BK800.out 2))
                   go_roundg k2
                   case measure => have := HJ3.out; have := HK2.out; omega
                   case rel => exact ⟨(wrap64 (x31_2 + 1)), (y812), (.slice Ao32 y812.length co32), (by first | rfl | (simp; done) | (simp [*]; done)), H', ⟨by have := HJ3.out; have := HK2.out; omega⟩, ⟨by (with_reducible repeat (first | apply Kd.R_alloc | apply Kd.R_drewN | apply Kd.R_drew)); exact Kd.R_mono (Kd.R_far (p := ⟨gb800, 1, none⟩) (Kd.R_types HO_5.out BK800.out (by decide)) (fun _ hk => hk.2) (.slice Ao32 y812.length co32)) (fun _ hk => hk.1)⟩, ⟨by (with_reducible repeat (first | apply Kd.V_alloc | apply Kd.V_drewN | apply Kd.V_drew)); exact Kd.V_mono (Kd.V_far (p := ⟨gb800, 1, none⟩) (Kd.V_mono HO_29.out (fun k_ hk => (⟨hk, hk.1.2.2⟩ : _ ∧ k_ ≠ gb800))) (fun _ hk => hk.2) (.slice Ao32 y812.length co32)) (fun _ hk => ⟨hk.1.1.1, ⟨hk.1.2, hk.1.1.2.2⟩⟩)⟩, ⟨by (with_reducible repeat (first | apply Kd.R_alloc | apply Kd.R_drewN | apply Kd.R_drew)); exact Kd.R_mono (Kd.R_far (p := ⟨gb800, 1, none⟩) (Kd.R_types HO814.out BK800.out (by decide)) (fun _ hk => hk.2) (.slice Ao32 y812.length co32)) (fun _ hk => hk.1.1)⟩, ⟨by (with_reducible repeat (first | refine blk_drewN ?_ _ | refine blk_drew ?_ | refine blk_alloc ?_ _)); refine blk_put (cs := #[.string (⟨#[]⟩ : ByteArray), u801001, .slice none 0 0]) ?_ 1 _ rfl; (with_reducible repeat (first | refine blk_drewN ?_ _ | refine blk_drew ?_ | refine blk_alloc ?_ _)); exact BK800.out⟩, ⟨by repeat (first | (with_reducible first | exact HB.out | apply below_alloc | apply pw_below_drewN | apply below_drew1 | refine below_set ?_ GE800.out) | exact HB.out)⟩⟩
                 · rw [if_neg c26] at H
                   exact absurd H (by simp)
               · replace c25 := Bool.eq_false_iff.mpr c25
                 subst c25
                 have H1 : (some (([] : List (S48)), false, 2)) = some (r1, r2, r3) := by rw [if_neg (show ¬ (false = true) by decide)] at H; exact H
                 clear H
                 have H := H1
                 clear H1
                 simp only [Option.some.injEq, Prod.mk.injEq] at H
                 obtain ⟨rfl, rfl, rfl⟩ := H
                 have p806 : 0 ≤ (x31_2 : Int) := of_decide_eq_true (by first | (with_reducible assumption) | assumption)
                 have q806 : x31_2 < (y801.length : Int) := of_decide_eq_true (by first | (with_reducible assumption) | assumption)
                 obtain ⟨ad806, e806, hx806_0⟩ := Kd.at_string (Kd.V_reads' HO_29.out).2.2 x31_2 p806 q806
                 cases e806
                 replace p806 := eq_true p806
                 replace q806 := eq_true q806
                 go_wp2_with (first | ((with_reducible refine gate_callee (f := 34) rfl ?_); refine goesL_ (some 37) rfl rfl Tryz.func34 (by kernel_rfl) rfl #[.string (rdOf ByteArray.empty y801 x31_2)] rfl (by (try simp only [List.map_toArray, List.map_cons, List.map_nil]); first | done | rfl | (simp only [List.length_drop, List.length_take]; rfl)) ?_; (with_reducible refine (spec_hundreds.calls k2 (rdOf ByteArray.empty y801 x31_2) t807 false _ A24.out).mono ?_); rintro e w' ⟨rfl, ⟨nd, rfl⟩⟩; refine ⟨_, rfl, ?_⟩))
                 go_ret3
                 exact ⟨.slice none 0 0, by first | rfl | (simp [errW_none, errW_some] <;> rfl) | (simp [*, errW_none, errW_some] <;> rfl), Kd.N_V (by first | exact Kd.N_nil _ _ _ 0 _ | exact Kd.V_nil _ _ _ _ _ | exact Kd.Q_nil _ _ _ _ _ | exact Kd.R_nil _ _ _ _ _), by repeat (first | (with_reducible first | exact HB.out | apply below_alloc | apply pw_below_drewN | apply below_drew1 | refine below_set ?_ GE800.out) | exact HB.out)⟩
             · rw [if_neg c23] at H
               exact absurd H (by simp)
           · rw [if_neg c22] at H
             exact absurd H (by simp)
         · rw [if_neg c21] at H
           have c21b0 : decide (x31_2 < (y801.length : Int)) = false := decide_eq_false c21
           clear c21
           by_cases c34 : 3 < (t793.length : Int)
           · rw [if_pos c34] at H
             have c34b0 : decide (3 < (t793.length : Int)) = true := decide_eq_true c34
             have c34b1 : decide (3 < t793.length) = true := decide_eq_true (by omega)
             clear c34
             replace H := Option.bind_eq_some_iff.mp H
             obtain ⟨t816, A350, H⟩ := H
             replace H : (if 4 < (t793.length : Int) then ((some (([rdOf ByteArray.empty t793 4] : List ByteArray) : List ByteArray)).bind fun y820 => (if t816.length + y820.length < 8796093022208 then ((spec_decimals.f k2 (t816 ++ y820)).bind fun bt826 => (if x801001_2.length + bt826.1.length < 17592186044416 then ((spec_meant_37.f k2 a0 (([(⟨(⟨#[]⟩ : ByteArray), (x801001_2 ++ bt826.1), ([] : List ByteArray)⟩ : S48)] : List (S48))) bt826.2 () false).bind fun bt836 => (some (bt836.1, bt836.2.1, bt836.2.2))) else (none))) else (none))) else (none)) = some (r1, r2, r3) := H
             have A35 := Aside0.mk A350
             clear A350
             by_cases c36 : 4 < (t793.length : Int)
             · rw [if_pos c36] at H
               have c36b0 : decide (4 < (t793.length : Int)) = true := decide_eq_true c36
               have c36b1 : decide (4 < t793.length) = true := decide_eq_true (by omega)
               clear c36
               obtain ⟨y820, hy820⟩ : ∃ y_ : List ByteArray, y_ = (([rdOf ByteArray.empty t793 4] : List ByteArray)) := ⟨_, rfl⟩
               replace H : (if t816.length + y820.length < 8796093022208 then ((spec_decimals.f k2 (t816 ++ y820)).bind fun bt826 => (if x801001_2.length + bt826.1.length < 17592186044416 then ((spec_meant_37.f k2 a0 (([(⟨(⟨#[]⟩ : ByteArray), (x801001_2 ++ bt826.1), ([] : List ByteArray)⟩ : S48)] : List (S48))) bt826.2 () false).bind fun bt836 => (some (bt836.1, bt836.2.1, bt836.2.2))) else (none))) else (none)) = some (r1, r2, r3) := by first | (rw [hy820]; with_reducible exact H) | (have H2_ := (Option.bind_some _ _).symm.trans H; rw [hy820]; with_reducible exact H2_) | (have H2_ := (Option.bind_some _ _).symm.trans H; with_reducible exact H2_) | with_reducible exact H | (rw [hy820]; exact H) | exact H
               have Ny820 := Aside0.mk hy820
               clear hy820
               by_cases c37 : t816.length + y820.length < 8796093022208
               · rw [if_pos c37] at H
                 have LMc37 := Aside0.mk c37
                 clear c37
                 obtain ⟨y823, hy823⟩ : ∃ y_ : List ByteArray, y_ = (t816 ++ y820) := ⟨_, rfl⟩
                 replace H : ((spec_decimals.f k2 y823).bind fun bt826 => (if x801001_2.length + bt826.1.length < 17592186044416 then ((spec_meant_37.f k2 a0 (([(⟨(⟨#[]⟩ : ByteArray), (x801001_2 ++ bt826.1), ([] : List ByteArray)⟩ : S48)] : List (S48))) bt826.2 () false).bind fun bt836 => (some (bt836.1, bt836.2.1, bt836.2.2))) else (none))) = some (r1, r2, r3) := by first | (rw [hy823]; with_reducible exact H) | (have H2_ := (Option.bind_some _ _).symm.trans H; rw [hy823]; with_reducible exact H2_) | (have H2_ := (Option.bind_some _ _).symm.trans H; with_reducible exact H2_) | with_reducible exact H | (rw [hy823]; exact H) | exact H
                 have Ny823 := Aside0.mk hy823
                 clear hy823
                 replace H := Option.bind_eq_some_iff.mp H
                 obtain ⟨⟨t826, t827⟩, A380, H⟩ := H
                 replace H : (if x801001_2.length + t826.length < 17592186044416 then ((spec_meant_37.f k2 a0 (([(⟨(⟨#[]⟩ : ByteArray), (x801001_2 ++ t826), ([] : List ByteArray)⟩ : S48)] : List (S48))) t827 () false).bind fun bt836 => (some (bt836.1, bt836.2.1, bt836.2.2))) else (none)) = some (r1, r2, r3) := H
                 have A38 := Aside0.mk A380
                 clear A380
                 by_cases c39 : x801001_2.length + t826.length < 17592186044416
                 · rw [if_pos c39] at H
                   have LMc39 := Aside0.mk c39
                   clear c39
                   obtain ⟨y830, hy830⟩ : ∃ y_ : List Int, y_ = (x801001_2 ++ t826) := ⟨_, rfl⟩
                   replace H : ((spec_meant_37.f k2 a0 (([(⟨(⟨#[]⟩ : ByteArray), y830, ([] : List ByteArray)⟩ : S48)] : List (S48))) t827 () false).bind fun bt836 => (some (bt836.1, bt836.2.1, bt836.2.2))) = some (r1, r2, r3) := by first | (rw [hy830]; with_reducible exact H) | (have H2_ := (Option.bind_some _ _).symm.trans H; rw [hy830]; with_reducible exact H2_) | (have H2_ := (Option.bind_some _ _).symm.trans H; with_reducible exact H2_) | with_reducible exact H | (rw [hy830]; exact H) | exact H
                   have Ny830 := Aside0.mk hy830
                   clear hy830
                   obtain ⟨y833, hy833⟩ : ∃ y_ : List (S48), y_ = (([(⟨(⟨#[]⟩ : ByteArray), y830, ([] : List ByteArray)⟩ : S48)] : List (S48))) := ⟨_, rfl⟩
                   replace H : ((spec_meant_37.f k2 a0 y833 t827 () false).bind fun bt836 => (some (bt836.1, bt836.2.1, bt836.2.2))) = some (r1, r2, r3) := by first | (rw [hy833]; with_reducible exact H) | (have H2_ := (Option.bind_some _ _).symm.trans H; rw [hy833]; with_reducible exact H2_) | (have H2_ := (Option.bind_some _ _).symm.trans H; with_reducible exact H2_) | with_reducible exact H | (rw [hy833]; exact H) | exact H
                   have Ny833 := Aside0.mk hy833
                   clear hy833
                   replace H := Option.bind_eq_some_iff.mp H
                   obtain ⟨⟨t836, t839, t840⟩, A400, H⟩ := H
                   replace H : (some (t836, t839, t840)) = some (r1, r2, r3) := H
                   have A40 := Aside0.mk A400
                   clear A400
                   simp only [Option.some.injEq, Prod.mk.injEq] at H
                   obtain ⟨rfl, rfl, rfl⟩ := H
                   try go_wp2
                   have n0_ := Aside0.mk (Kd.R_drew HO_5.out)
                   have n1_ := Aside0.mk (Kd.V_drew HO_29.out)
                   have n2_ := Aside0.mk (Kd.R_drew HO_801001.out)
                   have n3_ := Aside0.mk (blk_drew BK800.out)
                   have n4_ := Aside0.mk (below_drew1 HB.out)
                   clear HO_5
                   clear HO_29
                   clear HO_801001
                   clear BK800
                   clear HB
                   have HO_5 := n0_
                   have HO_29 := n1_
                   have HO_801001 := n2_
                   have BK800 := n3_
                   have HB := n4_
                   clear n0_ n1_ n2_ n3_ n4_
                   have p815 : 0 ≤ (3 : Int) := (by omega)
                   have q815 : 3 < (t793.length : Int) := of_decide_eq_true (by first | (with_reducible assumption) | assumption)
                   obtain ⟨ad815, e815, hx815_0⟩ := Kd.at_string (Kd.R_reads' HO_5.out).2.2 3 p815 q815
                   cases e815
                   (try simp only [show (3 : Int).toNat = 3 from rfl, Nat.reduceMul, Nat.reduceEqDiff, Go.Addr.add, ↓reduceIte] at hx815_0)
                   have qi815 : (3 < t793.length) = True := eq_true (by omega)
                   (try rw [show ((3 : Int)).toNat = 3 from rfl] at hx815_0)
                   replace p815 := eq_true p815
                   replace q815 := eq_true q815
                   have p819 : 0 ≤ (4 : Int) := (by omega)
                   have q819 : 4 < (t793.length : Int) := of_decide_eq_true (by first | (with_reducible assumption) | assumption)
                   obtain ⟨ad819, e819, hx819_0⟩ := Kd.at_string (Kd.R_reads' HO_5.out).2.2 4 p819 q819
                   obtain rfl : ad815 = ad819 := (by injection e819)
                   (try simp only [show (4 : Int).toNat = 4 from rfl, Nat.reduceMul, Nat.reduceEqDiff, Go.Addr.add, ↓reduceIte] at hx819_0)
                   have qi819 : (4 < t793.length) = True := eq_true (by omega)
                   (try rw [show ((4 : Int)).toNat = 4 from rfl] at hx819_0)
                   replace p819 := eq_true p819
                   replace q819 := eq_true q819
                   refine start_ (n := 15) (S := fun w' => w'.cell? ⟨ad815.block, ad815.off + 3, none⟩ = some (.string (rdOf ByteArray.empty t793 3)) ∧ w'.cell? ⟨ad815.block, ad815.off + 4, none⟩ = some (.string (rdOf ByteArray.empty t793 4))) (ds := [8]) #[false, false, false, false, false, false, false, false, false, false, false, false, false, false, false] (by kernel_rfl) rfl rfl ⟨hx815_0, hx819_0⟩ (fun hHeld => ?_); refine with_tabW spec_LoadavgRead.tab13 spec_LoadavgRead.bits13 (fun HT_ HW_ => ?_)
                   generalize wr.drew = w41 at HO_5 HO_29 HO_801001 BK800 HB hx815_0 hx819_0 hHeld ⊢
                   refine pure_ (i := 0) (N := some 50) (v := ?_) (a' := ?_) #[true, false, false, false, false, false, false, false, false, false, false, false, false, false, false] rfl rfl (any_of HT_.out (by kernel_rfl)) (fun _ _ _ h => h) (Or.inl ⟨by rfl, ?_⟩) ?_ ?_
                   rotate_left
                   · intro w'
                     go_simp
                     with_reducible rfl
                   rotate_left
                   · simp only [Act.put, List.setIfInBounds_toArray, List.set_cons_zero, List.set_cons_succ, i64_w, i32_w]
                     rfl
                   refine pure_ (i := 1) (N := some 51) (v := ?_) (a' := ?_) #[true, true, false, false, false, false, false, false, false, false, false, false, false, false, false] rfl rfl (any_of HT_.out (by kernel_rfl)) (fun _ _ _ h => h) (Or.inl ⟨by rfl, ?_⟩) ?_ ?_
                   rotate_left
                   · intro w'
                     go_simp
                     with_reducible rfl
                   rotate_left
                   · simp only [Act.put, List.setIfInBounds_toArray, List.set_cons_zero, List.set_cons_succ, i64_w, i32_w]
                     rfl
                   refine pure_ (i := 4) (N := some 54) (v := ?_) (a' := ?_) #[true, true, false, false, true, false, false, false, false, false, false, false, false, false, false] rfl rfl (any_of HT_.out (by kernel_rfl)) (fun _ _ _ h => h) (Or.inl ⟨by rfl, ?_⟩) ?_ ?_
                   rotate_left
                   · intro w'
                     go_simp
                     with_reducible rfl
                   rotate_left
                   · simp only [Act.put, List.setIfInBounds_toArray, List.set_cons_zero, List.set_cons_succ, i64_w, i32_w]
                     rfl
                   refine pure_ (i := 5) (N := some 55) (v := ?_) (a' := ?_) #[true, true, false, false, true, true, false, false, false, false, false, false, false, false, false] rfl rfl (any_of HT_.out (by kernel_rfl)) (fun _ _ _ h => h) (Or.inl ⟨by rfl, ?_⟩) ?_ ?_
                   rotate_left
                   · intro w'
                     go_simp
                     with_reducible rfl
                   rotate_left
                   · simp only [Act.put, List.setIfInBounds_toArray, List.set_cons_zero, List.set_cons_succ, i64_w, i32_w]
                     rfl
                   refine take_ (i := 2) (N := some 52) (v := ?_) (a' := ?_) #[true, true, true, false, true, true, false, false, false, false, false, false, false, false, false] rfl rfl (take_ofW HT_.out HW_.out (by kernel_rfl)) (fun _ _ _ h => h) (Or.inl ⟨by rfl, ?_⟩) hHeld ?_ ?_
                   rotate_left
                   · rintro w' ⟨s0, s1⟩
                     go_simp
                     with_reducible rfl
                   rotate_left
                   · simp only [Act.put, List.setIfInBounds_toArray, List.set_cons_zero, List.set_cons_succ, i64_w, i32_w]
                     rfl
                   refine take_ (i := 6) (N := some 56) (v := ?_) (a' := ?_) #[true, true, true, false, true, true, true, false, false, false, false, false, false, false, false] rfl rfl (take_ofW HT_.out HW_.out (by kernel_rfl)) (fun _ _ _ h => h) (Or.inl ⟨by rfl, ?_⟩) hHeld ?_ ?_
                   rotate_left
                   · rintro w' ⟨s0, s1⟩
                     go_simp
                     with_reducible rfl
                   rotate_left
                   · simp only [Act.put, List.setIfInBounds_toArray, List.set_cons_zero, List.set_cons_succ, i64_w, i32_w]
                     rfl
                   refine join_ (σ := Value × Value) 7 #[true, true, true, true, true, true, true, true, false, false, false, false, false, false, false] (fun s_ => [(53, s_.1), (57, s_.2)]) (fun s_ w' => (w'.cell? ⟨ad815.block, ad815.off + 3, none⟩ = some (.string (rdOf ByteArray.empty t793 3)) ∧ w'.cell? ⟨ad815.block, ad815.off + 4, none⟩ = some (.string (rdOf ByteArray.empty t793 4))) ∧ (Kd.R Kd.string 9 w' w.heap.size (fun k_ => (w.heap.size ≤ k_) ∧ some k_ ≠ (s_.2 : Value).ownBlock ∧ some k_ ≠ (.slice (some ad815) t793.length co20 : Value).ownBlock) s_.1 t816) ∧ (Kd.R Kd.string 9 w' w.heap.size (fun k_ => (w.heap.size ≤ k_) ∧ some k_ ≠ (s_.1 : Value).ownBlock ∧ some k_ ≠ (.slice (some ad815) t793.length co20 : Value).ownBlock) s_.2 y820) ∧ (Kd.V Kd.string 9 w' w.heap.size (fun k_ => (w.heap.size ≤ k_) ∧ some k_ ≠ (s_.1 : Value).ownBlock ∧ some k_ ≠ (s_.2 : Value).ownBlock ∧ some k_ ≠ (u801001 : Value).ownBlock ∧ k_ ≠ gb800) (.slice (some ad815) y801.length co20) y801) ∧ (Kd.R Kd.string 9 w' w.heap.size (fun k_ => (w.heap.size ≤ k_) ∧ some k_ ≠ (s_.1 : Value).ownBlock ∧ some k_ ≠ (s_.2 : Value).ownBlock) (.slice (some ad815) t793.length co20) t793) ∧ (Kd.R (Kd.int .u64) 30 w' w.heap.size (fun k_ => (w.heap.size ≤ k_)) u801001 x801001_2) ∧ (w'.heap[gb800]? = some (.cells #[.string (⟨#[]⟩ : ByteArray), u801001, .slice none 0 0] 48 (0, 0))) ∧ (Below w.heap.size w w')) ?_ ?_
                   rotate_left
                   · intro hCont
                     refine two_ (i := 3) (j := 7) (Ni := some 53) (Nj := some 57) #[true, true, true, true, true, true, true, false, false, false, false, false, false, false, false] #[true, true, true, false, true, true, true, true, false, false, false, false, false, false, false] rfl rfl rfl rfl (two_of HT_.out (by kernel_rfl)) (by decide) (by decide) (fun K hK => ?_) (fun K hK => ?_)
                     · skip
                       refine goes_ Tryz.func33 (by kernel_rfl) rfl #[.string (rdOf ByteArray.empty t793 3), .int .u8 47] (by rfl) rfl rfl (by (try simp only [List.map_toArray, List.map_cons, List.map_nil]); first | done | rfl | (simp only [List.length_drop, List.length_take]; rfl)) ?_
                       with_reducible refine (spec_Parts.calls k2 (rdOf ByteArray.empty t793 3) 47 t816 _ A35.out).mono ?_
                       rintro e w42 ⟨v817, rfl, ho0, hb⟩
                       have HS0_ := (hb.cell (World.block_lt_of_cell? _ _ (hHeld.1))).trans (hHeld.1)
                       have HS1_ := (hb.cell (World.block_lt_of_cell? _ _ (hHeld.2))).trans (hHeld.2)
                       refine ⟨_, rfl, ?_⟩
                       have n0_ := Aside0.mk (Kd.R_elder' (by (with_reducible repeat (first | apply Kd.R_alloc | apply Kd.R_drewN | apply Kd.R_drew)); exact HO_5.out) (Kd.R_base ho0) hb)
                       have n1_ := Aside0.mk (Kd.V_elder' (by (with_reducible repeat (first | apply Kd.V_alloc | apply Kd.V_drewN | apply Kd.V_drew)); exact HO_29.out) (Kd.R_base ho0) hb)
                       have n2_ := Aside0.mk (Kd.R_below (by (with_reducible repeat (first | apply Kd.R_alloc | apply Kd.R_drewN | apply Kd.R_drew)); exact HO_801001.out) hb)
                       have n3_ := Aside0.mk (Kd.R_lower (Kd.R_new' (Kd.R_newM (M := fun k_ => (w.heap.size ≤ k_)) ho0 (below_size (by repeat (first | (with_reducible first | exact HB.out | apply below_alloc | apply pw_below_drewN | apply below_drew1 | refine below_set ?_ GE800.out) | exact HB.out))) (fun k_ h_ => h_)) (Kd.R_lt (by (with_reducible repeat (first | apply Kd.R_alloc | apply Kd.R_drewN | apply Kd.R_drew)); exact HO_5.out))) (below_size (by repeat (first | (with_reducible first | exact HB.out | apply below_alloc | apply pw_below_drewN | apply below_drew1 | refine below_set ?_ GE800.out) | exact HB.out))))
                       have n4_ := Aside0.mk (blk_below (g := gb800) (o := .cells #[.string (⟨#[]⟩ : ByteArray), u801001, .slice none 0 0] 48 (0, 0)) (by (with_reducible repeat (first | refine blk_drewN ?_ _ | refine blk_drew ?_ | refine blk_alloc ?_ _)); exact BK800.out) hb)
                       have n5_ := Aside0.mk (below_step (by repeat (first | (with_reducible first | exact HB.out | apply below_alloc | apply pw_below_drewN | apply below_drew1 | refine below_set ?_ GE800.out) | exact HB.out)) hb)
                       clear HO_5
                       clear HO_29
                       clear HO_801001
                       clear BK800
                       clear HB
                       have HO_5 := n0_
                       have HO_29 := n1_
                       have HO_801001 := n2_
                       have HO818 := n3_
                       have BK800 := n4_
                       have HB := n5_
                       clear n0_ n1_ n2_ n3_ n4_ n5_
                       (try clear hb)
                       (try clear hb2)
                       (try clear hk)
                       (try clear hi)
                       (try clear ho0)
                       refine hK.out _ _ ⟨HS0_, HS1_⟩ (fun hHeld => ?_)
                       clear hK K
                       refine norm_ (a' := ?_) ?_ ?_
                       rotate_left
                       · show Act.put _ (some 53) _ = _
                         simp only [Act.put, List.setIfInBounds_toArray, List.set_cons_zero, List.set_cons_succ, i64_w, i32_w]
                         rfl
                       refine one_ (i := 7) (N := some 57) #[true, true, true, true, true, true, true, true, false, false, false, false, false, false, false] rfl rfl (one_of HT_.out (by kernel_rfl)) (by decide) (fun K hK => ?_)
                       refine Kd.R_lit_step Kd.string _ 9 ?hg (N := 57) ?hd (xs := ([rdOf ByteArray.empty t793 4] : List ByteArray)) (inner := [.string (rdOf ByteArray.empty t793 4)]) (ok := fun _ => True) (okp := fun _ => True) ?hr ?hp (fun _ hk => hk) trivial (Below.refl _ _) (Nat.le_refl _) (by simp) ?_; (case hd => rfl); (case hg => rfl); (case hr => first | (go_simp; done) | (go_simp; rfl)); (case hp => exact (Reps.one (show Kd.M Kd.string _ _ _ (rdOf ByteArray.empty t793 4) [.string (rdOf ByteArray.empty t793 4)] from rfl) (Reps.none _ _)))
                       intro v821 w43 ho44 hb hg_ hnew_
                       have HS0_ := (hb.cell (World.block_lt_of_cell? _ _ (hHeld.1))).trans (hHeld.1)
                       have HS1_ := (hb.cell (World.block_lt_of_cell? _ _ (hHeld.2))).trans (hHeld.2)
                       clear hg_ hnew_
                       (first | rw [← Ny820.out] at ho44 | (simp only [Int.reduceToNat] at ho44; rw [← Ny820.out] at ho44))
                       have n0_ := Aside0.mk (Kd.R_elder' (by (with_reducible repeat (first | apply Kd.R_alloc | apply Kd.R_drewN | apply Kd.R_drew)); exact HO_5.out) (Kd.R_base ho44) hb)
                       have n1_ := Aside0.mk (Kd.V_elder' (by (with_reducible repeat (first | apply Kd.V_alloc | apply Kd.V_drewN | apply Kd.V_drew)); exact HO_29.out) (Kd.R_base ho44) hb)
                       have n2_ := Aside0.mk (Kd.R_below (by (with_reducible repeat (first | apply Kd.R_alloc | apply Kd.R_drewN | apply Kd.R_drew)); exact HO_801001.out) hb)
                       have n3_ := Aside0.mk (Kd.R_elder' (by (with_reducible repeat (first | apply Kd.R_alloc | apply Kd.R_drewN | apply Kd.R_drew)); exact HO818.out) (Kd.R_base ho44) hb)
                       have n4_ := Aside0.mk (Kd.R_lower (Kd.R_new' (Kd.R_new' (Kd.R_newM (M := fun k_ => (w.heap.size ≤ k_)) ho44 (below_size (by repeat (first | (with_reducible first | exact HB.out | apply below_alloc | apply pw_below_drewN | apply below_drew1 | refine below_set ?_ GE800.out) | exact HB.out))) (fun k_ h_ => h_)) (Kd.R_lt (by (with_reducible repeat (first | apply Kd.R_alloc | apply Kd.R_drewN | apply Kd.R_drew)); exact HO_5.out))) (Kd.R_lt (by (with_reducible repeat (first | apply Kd.R_alloc | apply Kd.R_drewN | apply Kd.R_drew)); exact HO818.out))) (below_size (by repeat (first | (with_reducible first | exact HB.out | apply below_alloc | apply pw_below_drewN | apply below_drew1 | refine below_set ?_ GE800.out) | exact HB.out))))
                       have n5_ := Aside0.mk (blk_below (g := gb800) (o := .cells #[.string (⟨#[]⟩ : ByteArray), u801001, .slice none 0 0] 48 (0, 0)) (by (with_reducible repeat (first | refine blk_drewN ?_ _ | refine blk_drew ?_ | refine blk_alloc ?_ _)); exact BK800.out) hb)
                       have n6_ := Aside0.mk (below_step (by repeat (first | (with_reducible first | exact HB.out | apply below_alloc | apply pw_below_drewN | apply below_drew1 | refine below_set ?_ GE800.out) | exact HB.out)) hb)
                       clear HO_5
                       clear HO_29
                       clear HO_801001
                       clear HO818
                       clear BK800
                       clear HB
                       have HO_5 := n0_
                       have HO_29 := n1_
                       have HO_801001 := n2_
                       have HO818 := n3_
                       have HO822 := n4_
                       have BK800 := n5_
                       have HB := n6_
                       clear n0_ n1_ n2_ n3_ n4_ n5_ n6_
                       clear hb ho44
                       refine hK.out _ _ ⟨HS0_, HS1_⟩ (fun hHeld => ?_)
                       clear hK K
                       refine norm_ (a' := ?_) ?_ ?_
                       rotate_left
                       · show Act.put _ (some 57) _ = _
                         simp only [Act.put, List.setIfInBounds_toArray, List.set_cons_zero, List.set_cons_succ, i64_w, i32_w]
                         rfl
                       exact norm_ (by simp only [putAll, Act.put, List.setIfInBounds_toArray, List.set_cons_zero, List.set_cons_succ]) (hCont (v817, v821) _ ⟨hHeld, (by (with_reducible repeat (first | apply Kd.R_alloc | apply Kd.R_drewN | apply Kd.R_drew)); exact Kd.R_mono HO818.out (fun _ hk => ⟨hk.1.1.1, ⟨hk.2, hk.1.2⟩⟩)), (by (with_reducible repeat (first | apply Kd.R_alloc | apply Kd.R_drewN | apply Kd.R_drew)); exact Kd.R_mono HO822.out (fun _ hk => ⟨hk.1.1.1, ⟨hk.2, hk.1.2⟩⟩)), (by (with_reducible repeat (first | apply Kd.V_alloc | apply Kd.V_drewN | apply Kd.V_drew)); exact Kd.V_mono HO_29.out (fun _ hk => ⟨hk.1.1.1, ⟨hk.1.2, ⟨hk.2, ⟨hk.1.1.2.1, hk.1.1.2.2⟩⟩⟩⟩)), (by (with_reducible repeat (first | apply Kd.R_alloc | apply Kd.R_drewN | apply Kd.R_drew)); exact Kd.R_mono HO_5.out (fun _ hk => ⟨hk.1.1, ⟨hk.1.2, hk.2⟩⟩)), (by (with_reducible repeat (first | apply Kd.R_alloc | apply Kd.R_drewN | apply Kd.R_drew)); exact HO_801001.out), (by (with_reducible repeat (first | refine blk_drewN ?_ _ | refine blk_drew ?_ | refine blk_alloc ?_ _)); exact BK800.out), (by repeat (first | (with_reducible first | exact HB.out | apply below_alloc | apply pw_below_drewN | apply below_drew1 | refine below_set ?_ GE800.out) | exact HB.out))⟩)
                     · skip
                       refine Kd.R_lit_step Kd.string _ 9 ?hg (N := 57) ?hd (xs := ([rdOf ByteArray.empty t793 4] : List ByteArray)) (inner := [.string (rdOf ByteArray.empty t793 4)]) (ok := fun _ => True) (okp := fun _ => True) ?hr ?hp (fun _ hk => hk) trivial (Below.refl _ _) (Nat.le_refl _) (by simp) ?_; (case hd => rfl); (case hg => rfl); (case hr => first | (go_simp; done) | (go_simp; rfl)); (case hp => exact (Reps.one (show Kd.M Kd.string _ _ _ (rdOf ByteArray.empty t793 4) [.string (rdOf ByteArray.empty t793 4)] from rfl) (Reps.none _ _)))
                       intro v821 w42 ho43 hb hg_ hnew_
                       have HS0_ := (hb.cell (World.block_lt_of_cell? _ _ (hHeld.1))).trans (hHeld.1)
                       have HS1_ := (hb.cell (World.block_lt_of_cell? _ _ (hHeld.2))).trans (hHeld.2)
                       clear hg_ hnew_
                       (first | rw [← Ny820.out] at ho43 | (simp only [Int.reduceToNat] at ho43; rw [← Ny820.out] at ho43))
                       have n0_ := Aside0.mk (Kd.R_elder' (by (with_reducible repeat (first | apply Kd.R_alloc | apply Kd.R_drewN | apply Kd.R_drew)); exact HO_5.out) (Kd.R_base ho43) hb)
                       have n1_ := Aside0.mk (Kd.V_elder' (by (with_reducible repeat (first | apply Kd.V_alloc | apply Kd.V_drewN | apply Kd.V_drew)); exact HO_29.out) (Kd.R_base ho43) hb)
                       have n2_ := Aside0.mk (Kd.R_below (by (with_reducible repeat (first | apply Kd.R_alloc | apply Kd.R_drewN | apply Kd.R_drew)); exact HO_801001.out) hb)
                       have n3_ := Aside0.mk (Kd.R_lower (Kd.R_new' (Kd.R_newM (M := fun k_ => (w.heap.size ≤ k_)) ho43 (below_size (by repeat (first | (with_reducible first | exact HB.out | apply below_alloc | apply pw_below_drewN | apply below_drew1 | refine below_set ?_ GE800.out) | exact HB.out))) (fun k_ h_ => h_)) (Kd.R_lt (by (with_reducible repeat (first | apply Kd.R_alloc | apply Kd.R_drewN | apply Kd.R_drew)); exact HO_5.out))) (below_size (by repeat (first | (with_reducible first | exact HB.out | apply below_alloc | apply pw_below_drewN | apply below_drew1 | refine below_set ?_ GE800.out) | exact HB.out))))
                       have n4_ := Aside0.mk (blk_below (g := gb800) (o := .cells #[.string (⟨#[]⟩ : ByteArray), u801001, .slice none 0 0] 48 (0, 0)) (by (with_reducible repeat (first | refine blk_drewN ?_ _ | refine blk_drew ?_ | refine blk_alloc ?_ _)); exact BK800.out) hb)
                       have n5_ := Aside0.mk (below_step (by repeat (first | (with_reducible first | exact HB.out | apply below_alloc | apply pw_below_drewN | apply below_drew1 | refine below_set ?_ GE800.out) | exact HB.out)) hb)
                       clear HO_5
                       clear HO_29
                       clear HO_801001
                       clear BK800
                       clear HB
                       have HO_5 := n0_
                       have HO_29 := n1_
                       have HO_801001 := n2_
                       have HO822 := n3_
                       have BK800 := n4_
                       have HB := n5_
                       clear n0_ n1_ n2_ n3_ n4_ n5_
                       clear hb ho43
                       refine hK.out _ _ ⟨HS0_, HS1_⟩ (fun hHeld => ?_)
                       clear hK K
                       refine norm_ (a' := ?_) ?_ ?_
                       rotate_left
                       · show Act.put _ (some 57) _ = _
                         simp only [Act.put, List.setIfInBounds_toArray, List.set_cons_zero, List.set_cons_succ, i64_w, i32_w]
                         rfl
                       refine one_ (i := 3) (N := some 53) #[true, true, true, true, true, true, true, true, false, false, false, false, false, false, false] rfl rfl (one_of HT_.out (by kernel_rfl)) (by decide) (fun K hK => ?_)
                       refine goes_ Tryz.func33 (by kernel_rfl) rfl #[.string (rdOf ByteArray.empty t793 3), .int .u8 47] (by rfl) rfl rfl (by (try simp only [List.map_toArray, List.map_cons, List.map_nil]); first | done | rfl | (simp only [List.length_drop, List.length_take]; rfl)) ?_
                       with_reducible refine (spec_Parts.calls k2 (rdOf ByteArray.empty t793 3) 47 t816 _ A35.out).mono ?_
                       rintro e w44 ⟨v817, rfl, ho0, hb⟩
                       have HS0_ := (hb.cell (World.block_lt_of_cell? _ _ (hHeld.1))).trans (hHeld.1)
                       have HS1_ := (hb.cell (World.block_lt_of_cell? _ _ (hHeld.2))).trans (hHeld.2)
                       refine ⟨_, rfl, ?_⟩
                       have n0_ := Aside0.mk (Kd.R_elder' (by (with_reducible repeat (first | apply Kd.R_alloc | apply Kd.R_drewN | apply Kd.R_drew)); exact HO_5.out) (Kd.R_base ho0) hb)
                       have n1_ := Aside0.mk (Kd.V_elder' (by (with_reducible repeat (first | apply Kd.V_alloc | apply Kd.V_drewN | apply Kd.V_drew)); exact HO_29.out) (Kd.R_base ho0) hb)
                       have n2_ := Aside0.mk (Kd.R_below (by (with_reducible repeat (first | apply Kd.R_alloc | apply Kd.R_drewN | apply Kd.R_drew)); exact HO_801001.out) hb)
                       have n3_ := Aside0.mk (Kd.R_elder' (by (with_reducible repeat (first | apply Kd.R_alloc | apply Kd.R_drewN | apply Kd.R_drew)); exact HO822.out) (Kd.R_base ho0) hb)
                       have n4_ := Aside0.mk (Kd.R_lower (Kd.R_new' (Kd.R_new' (Kd.R_newM (M := fun k_ => (w.heap.size ≤ k_)) ho0 (below_size (by repeat (first | (with_reducible first | exact HB.out | apply below_alloc | apply pw_below_drewN | apply below_drew1 | refine below_set ?_ GE800.out) | exact HB.out))) (fun k_ h_ => h_)) (Kd.R_lt (by (with_reducible repeat (first | apply Kd.R_alloc | apply Kd.R_drewN | apply Kd.R_drew)); exact HO_5.out))) (Kd.R_lt (by (with_reducible repeat (first | apply Kd.R_alloc | apply Kd.R_drewN | apply Kd.R_drew)); exact HO822.out))) (below_size (by repeat (first | (with_reducible first | exact HB.out | apply below_alloc | apply pw_below_drewN | apply below_drew1 | refine below_set ?_ GE800.out) | exact HB.out))))
                       have n5_ := Aside0.mk (blk_below (g := gb800) (o := .cells #[.string (⟨#[]⟩ : ByteArray), u801001, .slice none 0 0] 48 (0, 0)) (by (with_reducible repeat (first | refine blk_drewN ?_ _ | refine blk_drew ?_ | refine blk_alloc ?_ _)); exact BK800.out) hb)
                       have n6_ := Aside0.mk (below_step (by repeat (first | (with_reducible first | exact HB.out | apply below_alloc | apply pw_below_drewN | apply below_drew1 | refine below_set ?_ GE800.out) | exact HB.out)) hb)
                       clear HO_5
                       clear HO_29
                       clear HO_801001
                       clear HO822
                       clear BK800
                       clear HB
                       have HO_5 := n0_
                       have HO_29 := n1_
                       have HO_801001 := n2_
                       have HO822 := n3_
                       have HO818 := n4_
                       have BK800 := n5_
                       have HB := n6_
                       clear n0_ n1_ n2_ n3_ n4_ n5_ n6_
                       (try clear hb)
                       (try clear hb2)
                       (try clear hk)
                       (try clear hi)
                       (try clear ho0)
                       refine hK.out _ _ ⟨HS0_, HS1_⟩ (fun hHeld => ?_)
                       clear hK K
                       refine norm_ (a' := ?_) ?_ ?_
                       rotate_left
                       · show Act.put _ (some 53) _ = _
                         simp only [Act.put, List.setIfInBounds_toArray, List.set_cons_zero, List.set_cons_succ, i64_w, i32_w]
                         rfl
                       exact norm_ (by simp only [putAll, Act.put, List.setIfInBounds_toArray, List.set_cons_zero, List.set_cons_succ]) (hCont (v817, v821) _ ⟨hHeld, (by (with_reducible repeat (first | apply Kd.R_alloc | apply Kd.R_drewN | apply Kd.R_drew)); exact Kd.R_mono HO818.out (fun _ hk => ⟨hk.1.1.1, ⟨hk.2, hk.1.2⟩⟩)), (by (with_reducible repeat (first | apply Kd.R_alloc | apply Kd.R_drewN | apply Kd.R_drew)); exact Kd.R_mono HO822.out (fun _ hk => ⟨hk.1.1.1, ⟨hk.2, hk.1.2⟩⟩)), (by (with_reducible repeat (first | apply Kd.V_alloc | apply Kd.V_drewN | apply Kd.V_drew)); exact Kd.V_mono HO_29.out (fun _ hk => ⟨hk.1.1.1, ⟨hk.2, ⟨hk.1.2, ⟨hk.1.1.2.1, hk.1.1.2.2⟩⟩⟩⟩)), (by (with_reducible repeat (first | apply Kd.R_alloc | apply Kd.R_drewN | apply Kd.R_drew)); exact Kd.R_mono HO_5.out (fun _ hk => ⟨hk.1.1, ⟨hk.2, hk.1.2⟩⟩)), (by (with_reducible repeat (first | apply Kd.R_alloc | apply Kd.R_drewN | apply Kd.R_drew)); exact HO_801001.out), (by (with_reducible repeat (first | refine blk_drewN ?_ _ | refine blk_drew ?_ | refine blk_alloc ?_ _)); exact BK800.out), (by repeat (first | (with_reducible first | exact HB.out | apply below_alloc | apply pw_below_drewN | apply below_drew1 | refine below_set ?_ GE800.out) | exact HB.out))⟩)
                   rintro ⟨v817, v821⟩ w45 ⟨hS_, h0_, h1_, h2_, h3_, h4_, h5_, h6_⟩
                   have n0_ : Aside0 (Kd.R Kd.string 9 w45 w.heap.size (fun k_ => (w.heap.size ≤ k_) ∧ some k_ ≠ (v821 : Value).ownBlock ∧ some k_ ≠ (.slice (some ad815) t793.length co20 : Value).ownBlock) v817 t816) := ⟨h0_⟩
                   have n1_ : Aside0 (Kd.R Kd.string 9 w45 w.heap.size (fun k_ => (w.heap.size ≤ k_) ∧ some k_ ≠ (v817 : Value).ownBlock ∧ some k_ ≠ (.slice (some ad815) t793.length co20 : Value).ownBlock) v821 y820) := ⟨h1_⟩
                   have n2_ : Aside0 (Kd.V Kd.string 9 w45 w.heap.size (fun k_ => (w.heap.size ≤ k_) ∧ some k_ ≠ (v817 : Value).ownBlock ∧ some k_ ≠ (v821 : Value).ownBlock ∧ some k_ ≠ (u801001 : Value).ownBlock ∧ k_ ≠ gb800) (.slice (some ad815) y801.length co20) y801) := ⟨h2_⟩
                   have n3_ : Aside0 (Kd.R Kd.string 9 w45 w.heap.size (fun k_ => (w.heap.size ≤ k_) ∧ some k_ ≠ (v817 : Value).ownBlock ∧ some k_ ≠ (v821 : Value).ownBlock) (.slice (some ad815) t793.length co20) t793) := ⟨h3_⟩
                   have n4_ : Aside0 (Kd.R (Kd.int .u64) 30 w45 w.heap.size (fun k_ => (w.heap.size ≤ k_)) u801001 x801001_2) := ⟨h4_⟩
                   have n5_ : Aside0 (w45.heap[gb800]? = some (.cells #[.string (⟨#[]⟩ : ByteArray), u801001, .slice none 0 0] 48 (0, 0))) := ⟨h5_⟩
                   have n6_ : Aside0 (Below w.heap.size w w45) := ⟨h6_⟩
                   clear HO_5
                   clear HO_29
                   clear HO_801001
                   clear BK800
                   clear HB
                   clear h0_ h1_ h2_ h3_ h4_ h5_ h6_
                   have HO818 := n0_
                   have HO822 := n1_
                   have HO_29 := n2_
                   have HO_5 := n3_
                   have HO_801001 := n4_
                   have BK800 := n5_
                   have HB := n6_
                   clear n0_ n1_ n2_ n3_ n4_ n5_ n6_
                   have hHeld : w45.cell? ⟨ad815.block, ad815.off + 3, none⟩ = some (.string (rdOf ByteArray.empty t793 3)) ∧ w45.cell? ⟨ad815.block, ad815.off + 4, none⟩ = some (.string (rdOf ByteArray.empty t793 4)) := hS_
                   obtain ⟨Ao47, co47, eo47⟩ := Kd.R_slice HO822.out
                   (first | subst eo47 | (injection eo47 with f1_ f2_ f3_; have f4_ := f1_.symm; have f5_ := f3_.symm; clear f1_ f2_ f3_; subst f4_; subst f5_))
                   refine norm_ (a' := ?_) ?_ ?_
                   rotate_left
                   · simp only [putAll, Act.put, List.setIfInBounds_toArray, List.set_cons_zero, List.set_cons_succ]
                     rfl
                   refine last_ (i := 8) (N := some 58) #[true, true, true, true, true, true, true, true, true, false, false, false, false, false, false] rfl rfl (one_of HT_.out (by kernel_rfl)) (by decide) (fun K hK => ?_)
                   refine Kd.R_append_rows_step Kd.string (w0 := w) w.heap.size (by rfl) (.tmp 53) (.tmp 57) 42 9 (.string ⟨#[]⟩) 16 rfl Tryz.underlying42 info9 rfl (by decide) (by omega) v817 t816 y820 _ _ _ (fun k_ => (w.heap.size ≤ k_) ∧ some k_ ≠ (.slice (some ad815) t793.length co20 : Value).ownBlock ∧ some k_ ≠ (.slice Ao47 y820.length co47 : Value).ownBlock) (fun _ => False) rfl rfl ?aO ?aR (fun _ _ h => h) (fun _ h => h.elim) ?aF ?aB ?aS ?aL ?_
                   (case aR => repeat (first | exact (Kd.R_reads' HO822.out).2.2 | (with_reducible refine Kd.C_alloc ?_ _) | (with_reducible refine Kd.C_drewN ?_ _) | (with_reducible refine Kd.C_drew ?_)))
                   (case aB => exact (by repeat (first | (with_reducible first | exact HB.out | apply below_alloc | apply pw_below_drewN | apply below_drew1 | refine below_set ?_ GE800.out) | exact HB.out)))
                   (case aF => exact (fun k_ hk => ⟨(Nat.le_trans (below_size (by repeat (first | (with_reducible first | exact HB.out | apply below_alloc | apply pw_below_drewN | apply below_drew1 | refine below_set ?_ GE800.out) | exact HB.out))) hk), Kd.fresh' (Kd.R_lt (by (with_reducible repeat (first | apply Kd.R_alloc | apply Kd.R_drewN | apply Kd.R_drew)); exact HO_5.out)) k_ hk, Kd.fresh' (Kd.R_lt (by (with_reducible repeat (first | apply Kd.R_alloc | apply Kd.R_drewN | apply Kd.R_drew)); exact HO822.out)) k_ hk⟩))
                   (case aO => exact (by (with_reducible repeat (first | apply Kd.R_alloc | apply Kd.R_drewN | apply Kd.R_drew)); exact Kd.R_mono HO818.out (fun _ hk => ⟨hk.1, ⟨hk.2.2, hk.2.1⟩⟩)))
                   (case aS => exact (below_size (by repeat (first | (with_reducible first | exact HB.out | apply below_alloc | apply pw_below_drewN | apply below_drew1 | refine below_set ?_ GE800.out) | exact HB.out))))
                   (case aL => have := LMc37.out; omega)
                   intro v824 w46 ho hb hg hat
                   rw [← Ny823.out] at ho
                   have n0_ := Aside0.mk (Kd.R_after (ok := (fun k_ => (w.heap.size ≤ k_) ∧ some k_ ≠ (.slice Ao47 y820.length co47 : Value).ownBlock)) (by (with_reducible repeat (first | apply Kd.R_alloc | apply Kd.R_drewN | apply Kd.R_drew)); exact Kd.R_mono HO_5.out (fun _ hk => ⟨⟨hk.1, hk.2.2⟩, hk.2.1⟩)) hg hat)
                   have n1_ := Aside0.mk (Kd.V_afterv (ok := (fun k_ => (w.heap.size ≤ k_) ∧ some k_ ≠ (u801001 : Value).ownBlock ∧ some k_ ≠ (.slice Ao47 y820.length co47 : Value).ownBlock ∧ k_ ≠ gb800)) (by (with_reducible repeat (first | apply Kd.V_alloc | apply Kd.V_drewN | apply Kd.V_drew)); exact Kd.V_mono HO_29.out (fun _ hk => ⟨⟨hk.1, ⟨hk.2.2.2.1, ⟨hk.2.2.1, hk.2.2.2.2⟩⟩⟩, hk.2.1⟩)) hg hat)
                   have n2_ := Aside0.mk (Kd.R_over' (by (with_reducible repeat (first | apply Kd.R_alloc | apply Kd.R_drewN | apply Kd.R_drew)); exact HO_801001.out) (Kd.R_typed (by (with_reducible repeat (first | apply Kd.R_alloc | apply Kd.R_drewN | apply Kd.R_drew)); exact HO818.out)) (by decide) hg)
                   have n3_ := Aside0.mk (blk_grown (g := gb800) (o := .cells #[.string (⟨#[]⟩ : ByteArray), u801001, .slice none 0 0] 48 (0, 0)) (by (with_reducible repeat (first | refine blk_drewN ?_ _ | refine blk_drew ?_ | refine blk_alloc ?_ _)); exact BK800.out) hg (Kd.R_ne HO818.out BK800.out (by decide)))
                   have n4_ := Aside0.mk (Kd.R_after (ok := (fun k_ => (w.heap.size ≤ k_) ∧ some k_ ≠ (.slice (some ad815) t793.length co20 : Value).ownBlock)) (by (with_reducible repeat (first | apply Kd.R_alloc | apply Kd.R_drewN | apply Kd.R_drew)); exact Kd.R_mono HO822.out (fun _ hk => ⟨⟨hk.1, hk.2.2⟩, hk.2.1⟩)) hg hat)
                   have n5_ := Aside0.mk (hb)
                   have n6_ := Aside0.mk (ho)
                   clear HO_5
                   clear HO_29
                   clear HO_801001
                   clear BK800
                   clear HO822
                   clear HB
                   clear HO818
                   have HO_5 := n0_
                   have HO_29 := n1_
                   have HO_801001 := n2_
                   have BK800 := n3_
                   have HO822 := n4_
                   have HB := n5_
                   have HO825 := n6_
                   clear n0_ n1_ n2_ n3_ n4_ n5_ n6_
                   clear ho hb hg hat
                   obtain ⟨Ao48, co48, eo48⟩ := Kd.R_slice HO825.out
                   (first | subst eo48 | (injection eo48 with f1_ f2_ f3_; have f4_ := f1_.symm; have f5_ := f3_.symm; clear f1_ f2_ f3_; subst f4_; subst f5_))
                   clear hHeld
                   have hHeld : w46.cell? ⟨ad815.block, ad815.off + 3, none⟩ = some (.string (rdOf ByteArray.empty t793 3)) ∧ w46.cell? ⟨ad815.block, ad815.off + 4, none⟩ = some (.string (rdOf ByteArray.empty t793 4)) := by
                    obtain ⟨adX, eX, hX⟩ := Kd.at_string (Kd.R_reads' HO_5.out).2.2 3 (by omega) (of_eq_true q815)
                    (try simp only [show (3 : Int).toNat = 3 from rfl, Nat.reduceMul, Nat.reduceEqDiff, Go.Addr.add, ↓reduceIte] at hX)
                    obtain rfl : ad815 = adX := (by injection eX)
                    obtain ⟨adY, eY, hY⟩ := Kd.at_string (Kd.R_reads' HO_5.out).2.2 4 (by omega) (of_eq_true q819)
                    (try simp only [show (4 : Int).toNat = 4 from rfl, Nat.reduceMul, Nat.reduceEqDiff, Go.Addr.add, ↓reduceIte] at hY)
                    obtain rfl : ad815 = adY := (by injection eY)
                    exact ⟨hX, hY⟩
                   refine hK.out _ _ ?_
                   clear hK K
                   refine norm_ (a' := ?_) ?_ ?_
                   rotate_left
                   · show Act.put _ (some 58) _ = _
                     simp only [Act.put, List.setIfInBounds_toArray, List.set_cons_zero, List.set_cons_succ, i64_w, i32_w]
                     rfl
                   refine one_ (i := 9) (N := some 59) #[true, true, true, true, true, true, true, true, true, true, false, false, false, false, false] rfl rfl (one_of HT_.out (by kernel_rfl)) (by decide) (fun K hK => ?_)
                   refine goes_ Tryz.func35 (by kernel_rfl) rfl #[.slice Ao48 y823.length co48] (by rfl) rfl rfl (by (try simp only [List.map_toArray, List.map_cons, List.map_nil]); first | done | rfl | (simp only [List.length_drop, List.length_take]; rfl)) ?_
                   with_reducible refine (spec_decimals.calls k2 _ _ y823 t826 t827 _ ?side1 ?side2 A38.out).mono ?_
                   (case side1 => repeat (first | exact (Kd.R_reads' HO825.out).2.2 | (with_reducible refine Kd.C_alloc ?_ _) | (with_reducible refine Kd.C_drewN ?_ _) | (with_reducible refine Kd.C_drew ?_)))
                   (case side2 => exact (Kd.R_reads' HO825.out).2.1)
                   rintro e w49 ⟨v828, rfl, ho0, hb⟩
                   have HS0_ := (hb.cell (World.block_lt_of_cell? _ _ (hHeld.1))).trans (hHeld.1)
                   have HS1_ := (hb.cell (World.block_lt_of_cell? _ _ (hHeld.2))).trans (hHeld.2)
                   refine ⟨_, rfl, ?_⟩
                   have n0_ := Aside0.mk (Kd.R_below (by (with_reducible repeat (first | apply Kd.R_alloc | apply Kd.R_drewN | apply Kd.R_drew)); exact HO_5.out) hb)
                   have n1_ := Aside0.mk (Kd.V_elder' (by (with_reducible repeat (first | apply Kd.V_alloc | apply Kd.V_drewN | apply Kd.V_drew)); exact HO_29.out) (Kd.R_base ho0) hb)
                   have n2_ := Aside0.mk (Kd.R_elder' (by (with_reducible repeat (first | apply Kd.R_alloc | apply Kd.R_drewN | apply Kd.R_drew)); exact HO_801001.out) (Kd.R_base ho0) hb)
                   have n3_ := Aside0.mk (Kd.R_below (by (with_reducible repeat (first | apply Kd.R_alloc | apply Kd.R_drewN | apply Kd.R_drew)); exact HO822.out) hb)
                   have n4_ := Aside0.mk (Kd.R_below (by (with_reducible repeat (first | apply Kd.R_alloc | apply Kd.R_drewN | apply Kd.R_drew)); exact HO825.out) hb)
                   have n5_ := Aside0.mk (Kd.R_lower (Kd.R_new' (Kd.R_newM (M := fun k_ => (w.heap.size ≤ k_)) ho0 (below_size (by repeat (first | (with_reducible first | exact HB.out | apply below_alloc | apply pw_below_drewN | apply below_drew1 | refine below_set ?_ GE800.out) | exact HB.out))) (fun k_ h_ => h_)) (Kd.R_lt (by (with_reducible repeat (first | apply Kd.R_alloc | apply Kd.R_drewN | apply Kd.R_drew)); exact HO_801001.out))) (below_size (by repeat (first | (with_reducible first | exact HB.out | apply below_alloc | apply pw_below_drewN | apply below_drew1 | refine below_set ?_ GE800.out) | exact HB.out))))
                   have n6_ := Aside0.mk (blk_below (g := gb800) (o := .cells #[.string (⟨#[]⟩ : ByteArray), u801001, .slice none 0 0] 48 (0, 0)) (by (with_reducible repeat (first | refine blk_drewN ?_ _ | refine blk_drew ?_ | refine blk_alloc ?_ _)); exact BK800.out) hb)
                   have n7_ := Aside0.mk (below_step (by repeat (first | (with_reducible first | exact HB.out | apply below_alloc | apply pw_below_drewN | apply below_drew1 | refine below_set ?_ GE800.out) | exact HB.out)) hb)
                   clear HO_5
                   clear HO_29
                   clear HO_801001
                   clear HO822
                   clear HO825
                   clear BK800
                   clear HB
                   have HO_5 := n0_
                   have HO_29 := n1_
                   have HO_801001 := n2_
                   have HO822 := n3_
                   have HO825 := n4_
                   have HO829 := n5_
                   have BK800 := n6_
                   have HB := n7_
                   clear n0_ n1_ n2_ n3_ n4_ n5_ n6_ n7_
                   (try clear hb)
                   (try clear hb2)
                   (try clear hk)
                   (try clear hi)
                   (try clear ho0)
                   refine hK.out _ _ ⟨HS0_, HS1_⟩ (fun hHeld => ?_)
                   clear hK K
                   refine norm_ (a' := ?_) ?_ ?_
                   rotate_left
                   · show Act.put _ (some 59) _ = _
                     simp only [Act.put, List.setIfInBounds_toArray, List.set_cons_zero, List.set_cons_succ, i64_w, i32_w]
                     rfl
                   refine pure_ (i := 10) (N := some 49) (v := ?_) (a' := ?_) #[true, true, true, true, true, true, true, true, true, true, true, false, false, false, false] rfl rfl (any_of HT_.out (by kernel_rfl)) (fun _ _ _ h => h) (Or.inl ⟨by rfl, ?_⟩) ?_ ?_
                   rotate_left
                   · intro w'
                     go_simp
                     with_reducible rfl
                   rotate_left
                   · simp only [Act.put, List.setIfInBounds_toArray, List.set_cons_zero, List.set_cons_succ, i64_w, i32_w]
                     rfl
                   refine pure_ (i := 11) (N := some 60) (v := ?_) (a' := ?_) #[true, true, true, true, true, true, true, true, true, true, true, true, false, false, false] rfl rfl (any_of HT_.out (by kernel_rfl)) (fun _ _ _ h => h) (Or.inl ⟨by rfl, ?_⟩) ?_ ?_
                   rotate_left
                   · intro w'
                     go_simp
                     with_reducible rfl
                   rotate_left
                   · simp only [Act.put, List.setIfInBounds_toArray, List.set_cons_zero, List.set_cons_succ, i64_w, i32_w]
                     rfl
                   refine pure_ (i := 12) (N := some 61) (v := ?_) (a' := ?_) #[true, true, true, true, true, true, true, true, true, true, true, true, true, false, false] rfl rfl (any_of HT_.out (by kernel_rfl)) (fun _ _ _ h => h) (Or.inl ⟨by rfl, ?_⟩) ?_ ?_
                   rotate_left
                   · intro w'
                     go_simp
                     with_reducible rfl
                   rotate_left
                   · simp only [Act.put, List.setIfInBounds_toArray, List.set_cons_zero, List.set_cons_succ, i64_w, i32_w]
                     rfl
                   refine pure_ (i := 13) (N := some 11) (v := ?_) (a' := ?_) #[true, true, true, true, true, true, true, true, true, true, true, true, true, true, false] rfl rfl (any_of HT_.out (by kernel_rfl)) (fun _ _ _ h => h) (Or.inl ⟨by rfl, ?_⟩) ?_ ?_
                   rotate_left
                   · intro w'
                     go_simp
                     with_reducible rfl
                   rotate_left
                   · simp only [Act.put, List.setIfInBounds_toArray, List.set_cons_zero, List.set_cons_succ, i64_w, i32_w]
                     rfl
                   refine pure_ (i := 14) (N := some 12) (v := ?_) (a' := ?_) #[true, true, true, true, true, true, true, true, true, true, true, true, true, true, true] rfl rfl (any_of HT_.out (by kernel_rfl)) (fun _ _ _ h => h) (Or.inl ⟨by rfl, ?_⟩) ?_ ?_
                   rotate_left
                   · intro w'
                     go_simp
                     with_reducible rfl
                   rotate_left
                   · simp only [Act.put, List.setIfInBounds_toArray, List.set_cons_zero, List.set_cons_succ, i64_w, i32_w]
                     rfl
                   refine done_ (done_of HT_.out (by kernel_rfl)) ?_
                   have hcz50_0 : w49.cell? ⟨gb800, 0, none⟩ = some (.string (⟨#[]⟩ : ByteArray)) := (blk_cell BK800.out 0).trans rfl
                   have hcz50_1 : w49.cell? ⟨gb800, 1, none⟩ = some (u801001) := (blk_cell BK800.out 1).trans rfl
                   have hcz50_2 : w49.cell? ⟨gb800, 2, none⟩ = some (.slice none 0 0) := (blk_cell BK800.out 2).trans rfl
                   have hfz50_0 := blk_frozen BK800.out 0
                   have hfz50_1 := blk_frozen BK800.out 1
                   have hfz50_2 := blk_frozen BK800.out 2
                   obtain ⟨Ao52, co52, eo52⟩ := Kd.R_slice HO829.out
                   subst eo52
                   try go_wp2_with (first | ((with_reducible refine gate_builtin (b := .append) (xs := #[.tmp 63, .tmp 64]) rfl ?_); (try (refine gate_guard (by rfl) ?_; dsimp only)); at_builtin; refine Kd.R_append_rows (Kd.int .u64) (w0 := w) w.heap.size rfl (.tmp 63) (.tmp 64) 46 30 (.int .u64 0) 8 rfl Tryz.underlying46 info30 rfl (by decide) (by omega) u801001 x801001_2 t826 _ _ _ (fun k_ => (w.heap.size ≤ k_) ∧ some k_ ≠ (.slice Ao52 t826.length co52 : Value).ownBlock) (fun _ => False) rfl rfl ?aO ?aR (fun _ _ h => h) (fun _ h => h.elim) ?aF ?aB ?aS ?aL ?_; (case aR => repeat (first | exact (Kd.R_reads' HO829.out).2.2 | (with_reducible refine Kd.C_alloc ?_ _) | (with_reducible refine Kd.C_drewN ?_ _) | (with_reducible refine Kd.C_drew ?_))); (case aB => exact (by repeat (first | (with_reducible first | exact HB.out | apply below_alloc | apply pw_below_drewN | apply below_drew1 | refine below_set ?_ GE800.out) | exact HB.out))); (case aF => exact (fun k_ hk => ⟨(Nat.le_trans (below_size (by repeat (first | (with_reducible first | exact HB.out | apply below_alloc | apply pw_below_drewN | apply below_drew1 | refine below_set ?_ GE800.out) | exact HB.out))) hk), Kd.fresh' (Kd.R_lt (by (with_reducible repeat (first | apply Kd.R_alloc | apply Kd.R_drewN | apply Kd.R_drew)); exact HO829.out)) k_ hk⟩)); (case aO => exact (by (with_reducible repeat (first | apply Kd.R_alloc | apply Kd.R_drewN | apply Kd.R_drew)); exact HO_801001.out)); (case aS => exact (below_size (by repeat (first | (with_reducible first | exact HB.out | apply below_alloc | apply pw_below_drewN | apply below_drew1 | refine below_set ?_ GE800.out) | exact HB.out)))); (case aL => have := LMc39.out; omega); intro v831 w51 ho hb hg hat; rw [← Ny830.out] at ho; have n0_ := Aside0.mk (Kd.R_over' (by (with_reducible repeat (first | apply Kd.R_alloc | apply Kd.R_drewN | apply Kd.R_drew)); exact HO_5.out) (Kd.R_typed (by (with_reducible repeat (first | apply Kd.R_alloc | apply Kd.R_drewN | apply Kd.R_drew)); exact HO_801001.out)) (by decide) hg); have n1_ := Aside0.mk (Kd.V_afterv (ok := (fun k_ => (w.heap.size ≤ k_) ∧ some k_ ≠ (.slice Ao47 y820.length co47 : Value).ownBlock ∧ some k_ ≠ (.slice Ao48 y823.length co48 : Value).ownBlock ∧ some k_ ≠ (.slice Ao52 t826.length co52 : Value).ownBlock ∧ k_ ≠ gb800)) (by (with_reducible repeat (first | apply Kd.V_alloc | apply Kd.V_drewN | apply Kd.V_drew)); exact Kd.V_mono HO_29.out (fun _ hk => ⟨⟨hk.1.1.1, ⟨hk.1.1.2.2.1, ⟨hk.1.2, ⟨hk.2, hk.1.1.2.2.2⟩⟩⟩⟩, hk.1.1.2.1⟩)) hg hat); have n2_ := Aside0.mk (blk_grown (g := gb800) (o := .cells #[.string (⟨#[]⟩ : ByteArray), u801001, .slice none 0 0] 48 (0, 0)) (by (with_reducible repeat (first | refine blk_drewN ?_ _ | refine blk_drew ?_ | refine blk_alloc ?_ _)); exact BK800.out) hg (Kd.R_ne HO_801001.out BK800.out (by decide))); have n3_ := Aside0.mk (Kd.R_over' (by (with_reducible repeat (first | apply Kd.R_alloc | apply Kd.R_drewN | apply Kd.R_drew)); exact HO822.out) (Kd.R_typed (by (with_reducible repeat (first | apply Kd.R_alloc | apply Kd.R_drewN | apply Kd.R_drew)); exact HO_801001.out)) (by decide) hg); have n4_ := Aside0.mk (Kd.R_over' (by (with_reducible repeat (first | apply Kd.R_alloc | apply Kd.R_drewN | apply Kd.R_drew)); exact HO825.out) (Kd.R_typed (by (with_reducible repeat (first | apply Kd.R_alloc | apply Kd.R_drewN | apply Kd.R_drew)); exact HO_801001.out)) (by decide) hg); have n5_ := Aside0.mk (Kd.R_after (ok := (fun k_ => (w.heap.size ≤ k_))) (by (with_reducible repeat (first | apply Kd.R_alloc | apply Kd.R_drewN | apply Kd.R_drew)); exact Kd.R_mono HO829.out (fun _ hk => ⟨hk.1.1, hk.2⟩)) hg hat); have n6_ := Aside0.mk (hb); have n7_ := Aside0.mk (ho); clear HO_5; clear HO_29; clear BK800; clear HO822; clear HO825; clear HO829; clear HB; clear HO_801001; have HO_5 := n0_; have HO_29 := n1_; have BK800 := n2_; have HO822 := n3_; have HO825 := n4_; have HO829 := n5_; have HB := n6_; have HO832 := n7_; clear n0_ n1_ n2_ n3_ n4_ n5_ n6_ n7_; clear ho hb hg hat; obtain ⟨Ao53, co53, eo53⟩ := Kd.R_slice HO832.out; subst eo53; have hcz54_0 : w51.cell? ⟨gb800, 0, none⟩ = some (.string (⟨#[]⟩ : ByteArray)) := (blk_cell BK800.out 0).trans rfl; have hcz54_1 : w51.cell? ⟨gb800, 1, none⟩ = some (u801001) := (blk_cell BK800.out 1).trans rfl; have hcz54_2 : w51.cell? ⟨gb800, 2, none⟩ = some (.slice none 0 0) := (blk_cell BK800.out 2).trans rfl; have hfz54_0 := blk_frozen BK800.out 0; have hfz54_1 := blk_frozen BK800.out 1; have hfz54_2 := blk_frozen BK800.out 2) | ((with_reducible refine gate_store (t := 46) (p := 66) rfl ?_); refine store_event (t := 46) (p := 66) (v := ?vo_w55) (w1 := (w51.setCell ⟨gb800, 1, none⟩ (.slice Ao53 y830.length co53))) ?hg ?ho ?hn ?hr ?_; (case ho => rfl); (case hg => rfl); (case hn => rfl); (case hr => first | (go_simp; done) | (go_simp; rfl)); intro w55 hw; have n0_ : Aside0 (Kd.R Kd.string 9 w55 w.heap.size (fun k_ => (w.heap.size ≤ k_) ∧ some k_ ≠ (.slice Ao47 y820.length co47 : Value).ownBlock ∧ some k_ ≠ (.slice Ao48 y823.length co48 : Value).ownBlock) (.slice (some ad815) t793.length co20) t793) := ⟨(by rw [hw]; exact (by (with_reducible repeat (first | apply Kd.R_alloc | apply Kd.R_drewN | apply Kd.R_drew)); exact Kd.R_mono (Kd.R_far (p := ⟨gb800, 1, none⟩) (Kd.R_types HO_5.out BK800.out (by decide)) (fun _ hk => hk.2) (.slice Ao53 y830.length co53)) (fun _ hk => ⟨hk.1.1.1, ⟨hk.1.1.2, hk.1.2⟩⟩)))⟩; have n1_ : Aside0 (Kd.V Kd.string 9 w55 w.heap.size (fun k_ => (w.heap.size ≤ k_) ∧ some k_ ≠ (.slice Ao47 y820.length co47 : Value).ownBlock ∧ some k_ ≠ (.slice Ao48 y823.length co48 : Value).ownBlock ∧ some k_ ≠ (.slice Ao52 t826.length co52 : Value).ownBlock ∧ some k_ ≠ (.slice Ao53 y830.length co53 : Value).ownBlock ∧ k_ ≠ gb800) (.slice (some ad815) y801.length co20) y801) := ⟨(by rw [hw]; exact (by (with_reducible repeat (first | apply Kd.V_alloc | apply Kd.V_drewN | apply Kd.V_drew)); exact Kd.V_mono (Kd.V_far (p := ⟨gb800, 1, none⟩) (Kd.V_mono HO_29.out (fun k_ hk => (⟨hk, hk.1.2.2.2.2⟩ : _ ∧ k_ ≠ gb800))) (fun _ hk => hk.2) (.slice Ao53 y830.length co53)) (fun _ hk => ⟨hk.1.1.1, ⟨hk.1.1.2.1, ⟨hk.1.1.2.2.1, ⟨hk.1.1.2.2.2.1, ⟨hk.1.2, hk.1.1.2.2.2.2⟩⟩⟩⟩⟩)))⟩; have n2_ : Aside0 (Kd.R Kd.string 9 w55 w.heap.size (fun k_ => (w.heap.size ≤ k_) ∧ some k_ ≠ (.slice (some ad815) t793.length co20 : Value).ownBlock ∧ some k_ ≠ (.slice Ao48 y823.length co48 : Value).ownBlock) (.slice Ao47 y820.length co47) y820) := ⟨(by rw [hw]; exact (by (with_reducible repeat (first | apply Kd.R_alloc | apply Kd.R_drewN | apply Kd.R_drew)); exact Kd.R_mono (Kd.R_far (p := ⟨gb800, 1, none⟩) (Kd.R_types HO822.out BK800.out (by decide)) (fun _ hk => hk.2) (.slice Ao53 y830.length co53)) (fun _ hk => ⟨hk.1.1.1, ⟨hk.1.1.2, hk.1.2⟩⟩)))⟩; have n3_ : Aside0 (Kd.R Kd.string 9 w55 w.heap.size (fun k_ => (w.heap.size ≤ k_) ∧ some k_ ≠ (.slice (some ad815) t793.length co20 : Value).ownBlock ∧ some k_ ≠ (.slice Ao47 y820.length co47 : Value).ownBlock) (.slice Ao48 y823.length co48) y823) := ⟨(by rw [hw]; exact (by (with_reducible repeat (first | apply Kd.R_alloc | apply Kd.R_drewN | apply Kd.R_drew)); exact Kd.R_mono (Kd.R_far (p := ⟨gb800, 1, none⟩) (Kd.R_types HO825.out BK800.out (by decide)) (fun _ hk => hk.2) (.slice Ao53 y830.length co53)) (fun _ hk => ⟨hk.1.1, ⟨hk.1.2.1, hk.1.2.2⟩⟩)))⟩; have n4_ : Aside0 (Kd.R (Kd.int .u64) 30 w55 w.heap.size (fun k_ => (w.heap.size ≤ k_) ∧ some k_ ≠ (.slice Ao53 y830.length co53 : Value).ownBlock) (.slice Ao52 t826.length co52) t826) := ⟨(by rw [hw]; exact (by (with_reducible repeat (first | apply Kd.R_alloc | apply Kd.R_drewN | apply Kd.R_drew)); exact Kd.R_mono (Kd.R_far (p := ⟨gb800, 1, none⟩) (Kd.R_types HO829.out BK800.out (by decide)) (fun _ hk => hk.2) (.slice Ao53 y830.length co53)) (fun _ hk => ⟨hk.1.1, hk.1.2⟩)))⟩; have n5_ : Aside0 (Kd.R (Kd.int .u64) 30 w55 w.heap.size (fun k_ => (w.heap.size ≤ k_) ∧ some k_ ≠ (.slice Ao52 t826.length co52 : Value).ownBlock) (.slice Ao53 y830.length co53) y830) := ⟨(by rw [hw]; exact (by (with_reducible repeat (first | apply Kd.R_alloc | apply Kd.R_drewN | apply Kd.R_drew)); exact Kd.R_mono (Kd.R_far (p := ⟨gb800, 1, none⟩) (Kd.R_types HO832.out BK800.out (by decide)) (fun _ hk => hk.2) (.slice Ao53 y830.length co53)) (fun _ hk => ⟨hk.1.1, hk.1.2⟩)))⟩; have n6_ : Aside0 (w55.heap[gb800]? = some (.cells #[.string (⟨#[]⟩ : ByteArray), .slice Ao53 y830.length co53, .slice none 0 0] 48 (0, 0))) := ⟨(by rw [hw]; exact (by (with_reducible repeat (first | refine blk_drewN ?_ _ | refine blk_drew ?_ | refine blk_alloc ?_ _)); refine blk_put (cs := #[.string (⟨#[]⟩ : ByteArray), u801001, .slice none 0 0]) ?_ 1 _ rfl; (with_reducible repeat (first | refine blk_drewN ?_ _ | refine blk_drew ?_ | refine blk_alloc ?_ _)); exact BK800.out))⟩; have n7_ : Aside0 (Below w.heap.size w w55) := ⟨(by rw [hw]; exact (by repeat (first | (with_reducible first | exact HB.out | apply below_alloc | apply pw_below_drewN | apply below_drew1 | refine below_set ?_ GE800.out) | exact HB.out)))⟩; clear hw; clear HO_5; clear HO_29; clear HO822; clear HO825; clear HO829; clear HO832; clear BK800; clear HB; have HO_5 := n0_; have HO_29 := n1_; have HO822 := n2_; have HO825 := n3_; have HO829 := n4_; have HO832 := n5_; have BK800 := n6_; have HB := n7_; clear n0_ n1_ n2_ n3_ n4_ n5_ n6_ n7_; have hcz56_0 : w55.cell? ⟨gb800, 0, none⟩ = some (.string (⟨#[]⟩ : ByteArray)) := (blk_cell BK800.out 0).trans rfl; have hcz56_1 : w55.cell? ⟨gb800, 1, none⟩ = some (.slice Ao53 y830.length co53) := (blk_cell BK800.out 1).trans rfl; have hcz56_2 : w55.cell? ⟨gb800, 2, none⟩ = some (.slice none 0 0) := (blk_cell BK800.out 2).trans rfl; have hfz56_0 := blk_frozen BK800.out 0; have hfz56_1 := blk_frozen BK800.out 1; have hfz56_2 := blk_frozen BK800.out 2) | ((with_reducible refine gate_dst (N := 69) rfl ?_); (try (refine gate_guard (by rfl) ?_; dsimp only)); refine Kd.N_lit k48 _ 48 ?hg (N' := 69) ?hd (xs := ([(⟨(⟨#[]⟩ : ByteArray), y830, ([] : List ByteArray)⟩ : S48)] : List (S48))) (inner := [.string (⟨#[]⟩ : ByteArray), .slice Ao53 y830.length co53, .slice none 0 0]) (ok := (fun k_ => (w.heap.size ≤ k_) ∧ some k_ ≠ (.slice (some ad815) t793.length co20 : Value).ownBlock ∧ some k_ ≠ (.slice Ao47 y820.length co47 : Value).ownBlock ∧ some k_ ≠ (.slice Ao48 y823.length co48 : Value).ownBlock ∧ some k_ ≠ (.slice Ao52 t826.length co52 : Value).ownBlock ∧ k_ ≠ gb800)) (okp := (fun k_ => (w.heap.size ≤ k_) ∧ some k_ ≠ (.slice (some ad815) t793.length co20 : Value).ownBlock ∧ some k_ ≠ (.slice Ao47 y820.length co47 : Value).ownBlock ∧ some k_ ≠ (.slice Ao48 y823.length co48 : Value).ownBlock ∧ some k_ ≠ (.slice Ao52 t826.length co52 : Value).ownBlock ∧ k_ ≠ gb800)) ?hr ?hp (fun _ hk => hk) ((show ∀ k_, w55.heap.size ≤ k_ → (fun k_ => (w.heap.size ≤ k_) ∧ some k_ ≠ (.slice (some ad815) t793.length co20 : Value).ownBlock ∧ some k_ ≠ (.slice Ao47 y820.length co47 : Value).ownBlock ∧ some k_ ≠ (.slice Ao48 y823.length co48 : Value).ownBlock ∧ some k_ ≠ (.slice Ao52 t826.length co52 : Value).ownBlock ∧ k_ ≠ gb800) k_ from fun k_ hk => ⟨(Nat.le_trans (below_size (by repeat (first | (with_reducible first | exact HB.out | apply below_alloc | apply pw_below_drewN | apply below_drew1 | refine below_set ?_ GE800.out) | exact HB.out))) hk), Kd.fresh' (Kd.R_lt (by (with_reducible repeat (first | apply Kd.R_alloc | apply Kd.R_drewN | apply Kd.R_drew)); exact HO_5.out)) k_ hk, Kd.fresh' (Kd.R_lt (by (with_reducible repeat (first | apply Kd.R_alloc | apply Kd.R_drewN | apply Kd.R_drew)); exact HO822.out)) k_ hk, Kd.fresh' (Kd.R_lt (by (with_reducible repeat (first | apply Kd.R_alloc | apply Kd.R_drewN | apply Kd.R_drew)); exact HO825.out)) k_ hk, Kd.fresh' (Kd.R_lt (by (with_reducible repeat (first | apply Kd.R_alloc | apply Kd.R_drewN | apply Kd.R_drew)); exact HO829.out)) k_ hk, Kd.freshB (g := gb800) (o := .cells #[.string (⟨#[]⟩ : ByteArray), .slice Ao53 y830.length co53, .slice none 0 0] 48 (0, 0)) (by (with_reducible repeat (first | refine blk_drewN ?_ _ | refine blk_drew ?_ | refine blk_alloc ?_ _)); exact BK800.out) k_ hk⟩) _ (Nat.le_refl _)) (Below.refl _ _) (Nat.le_refl _) (by simp) ?_; (case hd => rfl); (case hg => rfl); (case hr => first | (go_simp; done) | (go_simp; rfl)); (case hp => exact (Reps.c3 (show Kd.FK k48 _ _ (⟨(⟨#[]⟩ : ByteArray), y830, ([] : List ByteArray)⟩ : S48) [.string (⟨#[]⟩ : ByteArray), .slice Ao53 y830.length co53, .slice none 0 0] from (k48_mkF _ _ (⟨(⟨#[]⟩ : ByteArray), y830, ([] : List ByteArray)⟩ : S48) (Kd.R_reads' (Kd.R_mono (ok' := (fun k_ => (w.heap.size ≤ k_) ∧ some k_ ≠ (.slice (some ad815) t793.length co20 : Value).ownBlock ∧ some k_ ≠ (.slice Ao47 y820.length co47 : Value).ownBlock ∧ some k_ ≠ (.slice Ao48 y823.length co48 : Value).ownBlock ∧ some k_ ≠ (.slice Ao52 t826.length co52 : Value).ownBlock ∧ k_ ≠ gb800)) (Kd.R_types (Kd.R_apart' (Kd.R_apart' (Kd.R_apart' (HO832.out) (Kd.R_typed HO_5.out) (by decide)) (Kd.R_typed HO822.out) (by decide)) (Kd.R_typed HO825.out) (by decide)) BK800.out (by decide)) (fun k_ hk => ⟨hk.1.1.1.1.1, ⟨hk.1.1.1.2, ⟨hk.1.1.2, ⟨hk.1.2, ⟨hk.1.1.1.1.2, hk.2⟩⟩⟩⟩⟩))).2.1 (Kd.R_F (Kd.R_mono (ok' := (fun k_ => (w.heap.size ≤ k_) ∧ some k_ ≠ (.slice (some ad815) t793.length co20 : Value).ownBlock ∧ some k_ ≠ (.slice Ao47 y820.length co47 : Value).ownBlock ∧ some k_ ≠ (.slice Ao48 y823.length co48 : Value).ownBlock ∧ some k_ ≠ (.slice Ao52 t826.length co52 : Value).ownBlock ∧ k_ ≠ gb800)) (Kd.R_types (Kd.R_apart' (Kd.R_apart' (Kd.R_apart' (HO832.out) (Kd.R_typed HO_5.out) (by decide)) (Kd.R_typed HO822.out) (by decide)) (Kd.R_typed HO825.out) (by decide)) BK800.out (by decide)) (fun k_ hk => ⟨hk.1.1.1.1.1, ⟨hk.1.1.1.2, ⟨hk.1.1.2, ⟨hk.1.2, ⟨hk.1.1.1.1.2, hk.2⟩⟩⟩⟩⟩))) (Nat.le_refl _) (Kd.F_nil _ _ _))) (Reps.none _ _))); intro v834 w57 ho58 hb hg_ hnew_; clear hg_ hnew_; (first | rw [← Ny833.out] at ho58 | (simp only [Int.reduceToNat] at ho58; rw [← Ny833.out] at ho58)); have n0_ := Aside0.mk (Kd.R_below (by (with_reducible repeat (first | apply Kd.R_alloc | apply Kd.R_drewN | apply Kd.R_drew)); exact HO_5.out) hb); have n1_ := Aside0.mk (Kd.V_elder' (by (with_reducible repeat (first | apply Kd.V_alloc | apply Kd.V_drewN | apply Kd.V_drew)); exact HO_29.out) (by first | exact Kd.N_base ho58 | exact Kd.R_base ho58 | exact Kd.S_base ho58) hb); have n2_ := Aside0.mk (Kd.R_below (by (with_reducible repeat (first | apply Kd.R_alloc | apply Kd.R_drewN | apply Kd.R_drew)); exact HO822.out) hb); have n3_ := Aside0.mk (Kd.R_below (by (with_reducible repeat (first | apply Kd.R_alloc | apply Kd.R_drewN | apply Kd.R_drew)); exact HO825.out) hb); have n4_ := Aside0.mk (Kd.R_below (by (with_reducible repeat (first | apply Kd.R_alloc | apply Kd.R_drewN | apply Kd.R_drew)); exact HO829.out) hb); have n5_ := Aside0.mk (Kd.N_lower ho58 (below_size (by repeat (first | (with_reducible first | exact HB.out | apply below_alloc | apply pw_below_drewN | apply below_drew1 | refine below_set ?_ GE800.out) | exact HB.out)))); have n6_ := Aside0.mk (blk_below (g := gb800) (o := .cells #[.string (⟨#[]⟩ : ByteArray), .slice Ao53 y830.length co53, .slice none 0 0] 48 (0, 0)) (by (with_reducible repeat (first | refine blk_drewN ?_ _ | refine blk_drew ?_ | refine blk_alloc ?_ _)); exact BK800.out) hb); have n7_ := Aside0.mk (below_step (by repeat (first | (with_reducible first | exact HB.out | apply below_alloc | apply pw_below_drewN | apply below_drew1 | refine below_set ?_ GE800.out) | exact HB.out)) hb); clear HO_5; clear HO_29; clear HO822; clear HO825; clear HO829; clear BK800; clear HB; clear HO832; have HO_5 := n0_; have HO_29 := n1_; have HO822 := n2_; have HO825 := n3_; have HO829 := n4_; have HO835 := n5_; have BK800 := n6_; have HB := n7_; clear n0_ n1_ n2_ n3_ n4_ n5_ n6_ n7_; clear hb ho58; obtain ⟨Ao59, co59, eo59⟩ := Kd.N_slice HO835.out; subst eo59) | ((with_reducible refine gate_callee (f := 36) rfl ?_); refine goesL_ (some 71) rfl rfl Tryz.func36 (by kernel_rfl) rfl #[.string a0, .slice Ao59 y833.length co59, .bool t827, .func (.func 37) #[] #[], .bool false] rfl (by (try simp only [List.map_toArray, List.map_cons, List.map_nil]); first | done | rfl | (simp only [List.length_drop, List.length_take]; rfl)) ?_; (with_reducible refine (spec_meant_37.calls k2 a0 (fun k_ => ((w.heap.size ≤ k_) ∧ (some k_ ≠ (.slice (some ad815) t793.length co20 : Value).ownBlock ∧ (some k_ ≠ (.slice Ao47 y820.length co47 : Value).ownBlock ∧ (some k_ ≠ (.slice Ao48 y823.length co48 : Value).ownBlock ∧ (some k_ ≠ (.slice Ao52 t826.length co52 : Value).ownBlock ∧ k_ ≠ gb800)))))) _ _ y833 t827 () false t836 t839 t840 _ ?side1 A40.out).mono ?_); (case side1 => exact Kd.N_V (HO835.out)); rintro e w60 ⟨v837, rfl, ho0, hb⟩; refine ⟨_, rfl, ?_⟩; have n0_ := Aside0.mk (Kd.R_below (by (with_reducible repeat (first | apply Kd.R_alloc | apply Kd.R_drewN | apply Kd.R_drew)); exact HO_5.out) hb); have n1_ := Aside0.mk (Kd.V_below (by (with_reducible repeat (first | apply Kd.V_alloc | apply Kd.V_drewN | apply Kd.V_drew)); exact HO_29.out) hb); have n2_ := Aside0.mk (Kd.R_below (by (with_reducible repeat (first | apply Kd.R_alloc | apply Kd.R_drewN | apply Kd.R_drew)); exact HO822.out) hb); have n3_ := Aside0.mk (Kd.R_below (by (with_reducible repeat (first | apply Kd.R_alloc | apply Kd.R_drewN | apply Kd.R_drew)); exact HO825.out) hb); have n4_ := Aside0.mk (Kd.R_below (by (with_reducible repeat (first | apply Kd.R_alloc | apply Kd.R_drewN | apply Kd.R_drew)); exact HO829.out) hb); have n5_ := Aside0.mk (Kd.N_below (by (with_reducible repeat (first | apply Kd.N_alloc | apply Kd.N_drewN | apply Kd.N_drew)); exact HO835.out) hb); have n6_ := Aside0.mk (Kd.V_lower (Kd.V_mono (ok' := fun k_ => (w.heap.size ≤ k_) ∧ some k_ ≠ (.slice (some ad815) t793.length co20 : Value).ownBlock ∧ some k_ ≠ (.slice Ao47 y820.length co47 : Value).ownBlock ∧ some k_ ≠ (.slice Ao48 y823.length co48 : Value).ownBlock ∧ some k_ ≠ (.slice Ao52 t826.length co52 : Value).ownBlock ∧ k_ ≠ gb800) ho0 (fun k_ hk_ => ⟨Or.elim hk_ (fun hs_ => hs_.1) (fun hn_ => (Nat.le_trans (below_size (by repeat (first | (with_reducible first | exact HB.out | apply below_alloc | apply pw_below_drewN | apply below_drew1 | refine below_set ?_ GE800.out) | exact HB.out))) hn_)), Or.elim hk_ (fun hs_ => hs_.2.1) (fun hn_ => (Kd.fresh' (Kd.R_lt (by (with_reducible repeat (first | apply Kd.R_alloc | apply Kd.R_drewN | apply Kd.R_drew)); exact HO_5.out)) k_ hn_)), Or.elim hk_ (fun hs_ => hs_.2.2.1) (fun hn_ => (Kd.fresh' (Kd.R_lt (by (with_reducible repeat (first | apply Kd.R_alloc | apply Kd.R_drewN | apply Kd.R_drew)); exact HO822.out)) k_ hn_)), Or.elim hk_ (fun hs_ => hs_.2.2.2.1) (fun hn_ => (Kd.fresh' (Kd.R_lt (by (with_reducible repeat (first | apply Kd.R_alloc | apply Kd.R_drewN | apply Kd.R_drew)); exact HO825.out)) k_ hn_)), Or.elim hk_ (fun hs_ => hs_.2.2.2.2.1) (fun hn_ => (Kd.fresh' (Kd.R_lt (by (with_reducible repeat (first | apply Kd.R_alloc | apply Kd.R_drewN | apply Kd.R_drew)); exact HO829.out)) k_ hn_)), Or.elim hk_ (fun hs_ => hs_.2.2.2.2.2) (fun hn_ => (Kd.freshB (g := gb800) (o := .cells #[.string (⟨#[]⟩ : ByteArray), .slice Ao53 y830.length co53, .slice none 0 0] 48 (0, 0)) (by (with_reducible repeat (first | refine blk_drewN ?_ _ | refine blk_drew ?_ | refine blk_alloc ?_ _)); exact BK800.out) k_ hn_))⟩)) (below_size (by repeat (first | (with_reducible first | exact HB.out | apply below_alloc | apply pw_below_drewN | apply below_drew1 | refine below_set ?_ GE800.out) | exact HB.out)))); have n7_ := Aside0.mk (blk_below (g := gb800) (o := .cells #[.string (⟨#[]⟩ : ByteArray), .slice Ao53 y830.length co53, .slice none 0 0] 48 (0, 0)) (by (with_reducible repeat (first | refine blk_drewN ?_ _ | refine blk_drew ?_ | refine blk_alloc ?_ _)); exact BK800.out) hb); have n8_ := Aside0.mk (below_step (by repeat (first | (with_reducible first | exact HB.out | apply below_alloc | apply pw_below_drewN | apply below_drew1 | refine below_set ?_ GE800.out) | exact HB.out)) hb); clear HO_5; clear HO_29; clear HO822; clear HO825; clear HO829; clear HO835; clear BK800; clear HB; have HO_5 := n0_; have HO_29 := n1_; have HO822 := n2_; have HO825 := n3_; have HO829 := n4_; have HO835 := n5_; have HO838 := n6_; have BK800 := n7_; have HB := n8_; clear n0_ n1_ n2_ n3_ n4_ n5_ n6_ n7_ n8_; (try clear hb); (try clear hb2); (try clear hk); (try clear hi); (try clear ho0)))
                   go_ret3
                   exact ⟨_, by first | rfl | (simp [errW_none, errW_some] <;> rfl) | (simp [*, errW_none, errW_some] <;> rfl), by (with_reducible repeat (first | apply Kd.V_alloc | apply Kd.V_drewN | apply Kd.V_drew)); exact Kd.V_mono HO838.out (fun _ hk => hk.1), by repeat (first | (with_reducible first | exact HB.out | apply below_alloc | apply pw_below_drewN | apply below_drew1 | refine below_set ?_ GE800.out) | exact HB.out)⟩
                 · rw [if_neg c39] at H
                   exact absurd H (by simp)
               · rw [if_neg c37] at H
                 exact absurd H (by simp)
             · rw [if_neg c36] at H
               exact absurd H (by simp)
           · rw [if_neg c34] at H
             exact absurd H (by simp)
     · rw [if_neg c15] at H
       exact absurd H (by simp)
def spec_floatNode.f (a0 : ByteArray) (a1 : Nat) : Option (ByteArray × Int × Bool × Int × Int × Nat × ByteArray × (List (S38))) := some (a0, 4, false, 0, 0, a1, (⟨#[]⟩ : ByteArray), ([] : List (S38)))
set_option maxHeartbeats 8000000 in
set_option maxRecDepth 100000 in
theorem spec_floatNode.calls (a0 : ByteArray) (a1 : Nat) (r1 : ByteArray) (r2 : Int) (r3 : Bool) (r4 : Int) (r5 : Int) (r6 : Nat) (r7 : ByteArray) (r8 : List (S38)) (w : World) (h : spec_floatNode.f a0 a1 = some (r1, r2, r3, r4, r5, r6, r7, r8)) :
 Calls Tryz.prog 39 #[.string a0, .float .f64 a1] w fun e w' => ∃ v7_ : Value, e = .returned (.agg #[.string r1, .int .i64 r2, .bool r3, .int .i64 r4, .int .u64 r5, .float .f64 r6, .string r7, v7_]) ∧ Kd.R k38 38 w' w.heap.size (fun _ => True) v7_ r8 ∧ Below w.heap.size w w' := by
 have hu38 := Tryz.underlying38
 have HB := Aside0.mk (Below.refl w.heap.size w)
 have H : (some (a0, 4, false, 0, 0, a1, (⟨#[]⟩ : ByteArray), ([] : List (S38)))) = some (r1, r2, r3, r4, r5, r6, r7, r8) := h
 clear h
 simp only [Option.some.injEq, Prod.mk.injEq] at H
 obtain ⟨rfl, rfl, rfl, rfl, rfl, rfl, rfl, rfl⟩ := H
 go_enter Tryz.func39, Tryz.ntmps39
 go_wp2_with (first | ((with_reducible refine gate_dst (N := 4) rfl ?_); refine box_event ?hg (N := 4) ?hd (cs := #[.string (⟨#[]⟩ : ByteArray), .int .i64 0, .bool false, .int .i64 0, .int .u64 0, .float .f64 0, .string (⟨#[]⟩ : ByteArray), .slice none 0 0]) (t := 38) ?hr ?_; (case hd => rfl); (case hg => rfl); (case hr => first | (go_simp; done) | (go_simp; rfl)); intro gb841 hg w3 hbox hb; have n0_ := Aside0.mk (below_step (by repeat (first | (with_reducible first | exact HB.out | apply below_alloc | apply pw_below_drewN | apply below_drew1) | exact HB.out)) hb); have n1_ := Aside0.mk (hbox); have n2_ := Aside0.mk ((by rw [hg]; exact (below_size (by repeat (first | (with_reducible first | exact HB.out | apply below_alloc | apply pw_below_drewN | apply below_drew1) | exact HB.out))) : w.heap.size ≤ gb841)); have n3_ := Aside0.mk ((by rw [hg]; exact (below_size (by repeat (first | (with_reducible first | exact HB.out | apply below_alloc | apply pw_below_drewN | apply below_drew1) | exact HB.out))) : w.heap.size ≤ gb841)); clear HB; have HB := n0_; have BK841 := n1_; have GW841 := n2_; have GE841 := n3_; clear n0_ n1_ n2_ n3_; clear hb hbox hg; have hcz4_0 : w3.cell? ⟨gb841, 0, none⟩ = some (.string (⟨#[]⟩ : ByteArray)) := (blk_cell BK841.out 0).trans rfl; have hcz4_1 : w3.cell? ⟨gb841, 1, none⟩ = some (.int .i64 0) := (blk_cell BK841.out 1).trans rfl; have hcz4_2 : w3.cell? ⟨gb841, 2, none⟩ = some (.bool false) := (blk_cell BK841.out 2).trans rfl; have hcz4_3 : w3.cell? ⟨gb841, 3, none⟩ = some (.int .i64 0) := (blk_cell BK841.out 3).trans rfl; have hcz4_4 : w3.cell? ⟨gb841, 4, none⟩ = some (.int .u64 0) := (blk_cell BK841.out 4).trans rfl; have hcz4_5 : w3.cell? ⟨gb841, 5, none⟩ = some (.float .f64 0) := (blk_cell BK841.out 5).trans rfl; have hcz4_6 : w3.cell? ⟨gb841, 6, none⟩ = some (.string (⟨#[]⟩ : ByteArray)) := (blk_cell BK841.out 6).trans rfl; have hcz4_7 : w3.cell? ⟨gb841, 7, none⟩ = some (.slice none 0 0) := (blk_cell BK841.out 7).trans rfl; have hfz4_0 := blk_frozen BK841.out 0; have hfz4_1 := blk_frozen BK841.out 1; have hfz4_2 := blk_frozen BK841.out 2; have hfz4_3 := blk_frozen BK841.out 3; have hfz4_4 := blk_frozen BK841.out 4; have hfz4_5 := blk_frozen BK841.out 5; have hfz4_6 := blk_frozen BK841.out 6; have hfz4_7 := blk_frozen BK841.out 7))
 refine bodyPost_ret (results_cell_row rfl _ _ gb841 38 #[.string a0, .int .i64 4, .bool false, .int .i64 0, .int .u64 0, .float .f64 a1, .string (⟨#[]⟩ : ByteArray), .slice none 0 0] (0, 0) _ rfl (by (with_reducible repeat (first | refine blk_drewN ?_ _ | refine blk_drew ?_ | refine blk_alloc ?_ _)); refine blk_put (cs := #[.string a0, .int .i64 4, .bool false, .int .i64 0, .int .u64 0, .float .f64 a1, .string (⟨#[]⟩ : ByteArray), .slice none 0 0]) ?_ 7 _ rfl; (with_reducible repeat (first | refine blk_drewN ?_ _ | refine blk_drew ?_ | refine blk_alloc ?_ _)); refine blk_put (cs := #[.string a0, .int .i64 4, .bool false, .int .i64 0, .int .u64 0, .float .f64 a1, .string (⟨#[]⟩ : ByteArray), .slice none 0 0]) ?_ 6 _ rfl; (with_reducible repeat (first | refine blk_drewN ?_ _ | refine blk_drew ?_ | refine blk_alloc ?_ _)); refine blk_put (cs := #[.string a0, .int .i64 4, .bool false, .int .i64 0, .int .u64 0, .float .f64 0, .string (⟨#[]⟩ : ByteArray), .slice none 0 0]) ?_ 5 _ rfl; (with_reducible repeat (first | refine blk_drewN ?_ _ | refine blk_drew ?_ | refine blk_alloc ?_ _)); refine blk_put (cs := #[.string a0, .int .i64 4, .bool false, .int .i64 0, .int .u64 0, .float .f64 0, .string (⟨#[]⟩ : ByteArray), .slice none 0 0]) ?_ 4 _ rfl; (with_reducible repeat (first | refine blk_drewN ?_ _ | refine blk_drew ?_ | refine blk_alloc ?_ _)); refine blk_put (cs := #[.string a0, .int .i64 4, .bool false, .int .i64 0, .int .u64 0, .float .f64 0, .string (⟨#[]⟩ : ByteArray), .slice none 0 0]) ?_ 3 _ rfl; (with_reducible repeat (first | refine blk_drewN ?_ _ | refine blk_drew ?_ | refine blk_alloc ?_ _)); refine blk_put (cs := #[.string a0, .int .i64 4, .bool false, .int .i64 0, .int .u64 0, .float .f64 0, .string (⟨#[]⟩ : ByteArray), .slice none 0 0]) ?_ 2 _ rfl; (with_reducible repeat (first | refine blk_drewN ?_ _ | refine blk_drew ?_ | refine blk_alloc ?_ _)); refine blk_put (cs := #[.string a0, .int .i64 0, .bool false, .int .i64 0, .int .u64 0, .float .f64 0, .string (⟨#[]⟩ : ByteArray), .slice none 0 0]) ?_ 1 _ rfl; (with_reducible repeat (first | refine blk_drewN ?_ _ | refine blk_drew ?_ | refine blk_alloc ?_ _)); refine blk_put (cs := #[.string (⟨#[]⟩ : ByteArray), .int .i64 0, .bool false, .int .i64 0, .int .u64 0, .float .f64 0, .string (⟨#[]⟩ : ByteArray), .slice none 0 0]) ?_ 0 _ rfl; (with_reducible repeat (first | refine blk_drewN ?_ _ | refine blk_drew ?_ | refine blk_alloc ?_ _)); exact BK841.out) Tryz.underlying38 rfl (by kernel_rfl)) rfl ?_
 exact ⟨_, by first | rfl | (simp [errW_none, errW_some] <;> rfl) | (simp [*, errW_none, errW_some] <;> rfl), by first | exact Kd.R_nil _ _ _ _ _ | exact Kd.N_nil _ _ _ _ _ | exact Kd.V_nil _ _ _ _ _ | exact Kd.Q_nil _ _ _ _ _ | exact Kd.S_nil _ _ _ _ _, by repeat (first | (with_reducible first | exact HB.out | apply below_alloc | apply pw_below_drewN | apply below_drew1 | refine below_set ?_ GE841.out) | exact HB.out)⟩
def spec_hundredth.f (a0 : Int) : Option Nat := R.hundredthF a0
theorem spec_hundredth.calls (a0 : Int) (r : Nat) (w : World) (h : spec_hundredth.f a0 = some r) :
 Calls Tryz.prog 40 #[.int .u64 a0] w fun e w' => e = .returned (.float .f64 r) ∧ Drawn0 w w' := R.hundredth_calls a0 r w h
end Go.Proofs.YtabfehcpcjcomaaGreatDoor.QA0
namespace Go.Proofs.YtabfehcpcjcomaaGreatDoor.QA0
open Go.RowKit Go.Proofs.YtabfehcpcjcomaaGreatDoorW.PrintWords Go.Proofs.YtabfehcpcjcomaaGreatDoorW.PrintLast Go.Proofs.YtabfehcpcjcomaaGreatDoorW.PrintMore
attribute [local go_sem] max2_int min2_int max_two min_two max_three min_three max_four min_four
set_option linter.unusedVariables false
set_option linter.unusedSimpArgs false
def spec_LoadavgTree.f (k : Nat) (l0 : List (S48)) : Option (ByteArray × Int × Bool × Int × Int × Nat × ByteArray × (List (S38)) × Int) := (spec_LoadavgPrint.f k l0).bind fun bt843 => (if bt843.2 = 1 then (if 0 < (l0.length : Int) then (if 0 < (((rd_T48 l0 0).f1).length : Int) then ((spec_hundredth.f (rd ((rd_T48 l0 0).f1) 0)).bind fun t847 => ((spec_floatNode.f (⟨#[76, 111, 97, 100, 49]⟩ : ByteArray) t847).bind fun bt848 => (if 1 < (((rd_T48 l0 0).f1).length : Int) then ((spec_hundredth.f (rd ((rd_T48 l0 0).f1) 1)).bind fun t859 => ((spec_floatNode.f (⟨#[76, 111, 97, 100, 53]⟩ : ByteArray) t859).bind fun bt860 => (if 2 < (((rd_T48 l0 0).f1).length : Int) then ((spec_hundredth.f (rd ((rd_T48 l0 0).f1) 2)).bind fun t871 => ((spec_floatNode.f (⟨#[76, 111, 97, 100, 49, 53]⟩ : ByteArray) t871).bind fun bt872 => ((spec_recordNode.f (⟨#[]⟩ : ByteArray) (([(⟨bt848.1, bt848.2.1, bt848.2.2.1, bt848.2.2.2.1, bt848.2.2.2.2.1, bt848.2.2.2.2.2.1, bt848.2.2.2.2.2.2.1, bt848.2.2.2.2.2.2.2⟩ : S38), (⟨bt860.1, bt860.2.1, bt860.2.2.1, bt860.2.2.2.1, bt860.2.2.2.2.1, bt860.2.2.2.2.2.1, bt860.2.2.2.2.2.2.1, bt860.2.2.2.2.2.2.2⟩ : S38), (⟨bt872.1, bt872.2.1, bt872.2.2.1, bt872.2.2.2.1, bt872.2.2.2.2.1, bt872.2.2.2.2.2.1, bt872.2.2.2.2.2.2.1, bt872.2.2.2.2.2.2.2⟩ : S38)] : List (S38)))).bind fun bt885 => (some (bt885.1, bt885.2.1, bt885.2.2.1, bt885.2.2.2.1, bt885.2.2.2.2.1, bt885.2.2.2.2.2.1, bt885.2.2.2.2.2.2.1, bt885.2.2.2.2.2.2.2, 1))))) else (none)))) else (none)))) else (none)) else (none)) else (some ((⟨#[]⟩ : ByteArray), 0, false, 0, 0, 0, (⟨#[]⟩ : ByteArray), ([] : List (S38)), 2)))
def spec_LoadavgTree.T5 : Bool × List (List Nat × List Nat) := (true, [([], []), ([0], [0]), ([1], [1]), ([2], [2]), ([3, 3], [3]), ([], []), ([5], [5]), ([6], [6]), ([7, 4], [7]), ([8, 8], [8]), ([], []), ([10], [10]), ([11], [11]), ([12, 9], [12]), ([13, 13], [13]), ([4, 9, 14], [4, 9, 14]), ([15, 14], [15]), ([16, 16, 0, 1, 2, 3, 4, 5, 6, 7, 8, 9, 10, 11, 12, 13, 14, 15, 16], [16]), ([17, 0, 1, 2, 3, 4, 5, 6, 7, 8, 9, 10, 11, 12, 13, 14, 15, 16, 17], [])])
def spec_LoadavgTree.B5 : List Nat := [0, 1, 3, 7, 15, 0, 32, 96, 255, 511, 0, 1024, 3072, 8191, 16383, 32767, 65535, 131071, 262143]
theorem spec_LoadavgTree.tab5 : rtab .any (opsOf Tryz.f11 5) = spec_LoadavgTree.T5 := by kernel_rfl
theorem spec_LoadavgTree.bits5 : waitsOk spec_LoadavgTree.T5.2 spec_LoadavgTree.B5 = true := by kernel_rfl
set_option maxHeartbeats 8000000 in
set_option maxRecDepth 100000 in
theorem spec_LoadavgTree.calls (k : Nat) (A0 : Option Addr) (c0 : Nat) (l0 : List (S48)) (r1 : ByteArray) (r2 : Int) (r3 : Bool) (r4 : Int) (r5 : Int) (r6 : Nat) (r7 : ByteArray) (r8 : List (S38)) (r9 : Int) (w : World) (hr0 : Kd.C k48 w A0 l0.length l0) (hc0 : l0.length ≤ c0) (h : spec_LoadavgTree.f k l0 = some (r1, r2, r3, r4, r5, r6, r7, r8, r9)) :
 Calls Tryz.prog 11 #[.slice A0 l0.length c0] w fun e w' => ∃ v7_ : Value, e = .returned (.tuple #[.agg #[.string r1, .int .i64 r2, .bool r3, .int .i64 r4, .int .u64 r5, .float .f64 r6, .string r7, v7_], .int .i64 r9]) ∧ Kd.V k38 38 w' w.heap.size (fun k_ => (w.heap.size ≤ k_)) v7_ r8 ∧ Below w.heap.size w w' := by
 have hu38 := Tryz.underlying38
 have HR0 := Aside0.mk hr0
 have HC0 := Aside0.mk hc0
 clear hr0 hc0
 have HB := Aside0.mk (Below.refl w.heap.size w)
 have H : ((spec_LoadavgPrint.f k l0).bind fun bt843 => (if bt843.2 = 1 then (if 0 < (l0.length : Int) then (if 0 < (((rd_T48 l0 0).f1).length : Int) then ((spec_hundredth.f (rd ((rd_T48 l0 0).f1) 0)).bind fun t847 => ((spec_floatNode.f (⟨#[76, 111, 97, 100, 49]⟩ : ByteArray) t847).bind fun bt848 => (if 1 < (((rd_T48 l0 0).f1).length : Int) then ((spec_hundredth.f (rd ((rd_T48 l0 0).f1) 1)).bind fun t859 => ((spec_floatNode.f (⟨#[76, 111, 97, 100, 53]⟩ : ByteArray) t859).bind fun bt860 => (if 2 < (((rd_T48 l0 0).f1).length : Int) then ((spec_hundredth.f (rd ((rd_T48 l0 0).f1) 2)).bind fun t871 => ((spec_floatNode.f (⟨#[76, 111, 97, 100, 49, 53]⟩ : ByteArray) t871).bind fun bt872 => ((spec_recordNode.f (⟨#[]⟩ : ByteArray) (([(⟨bt848.1, bt848.2.1, bt848.2.2.1, bt848.2.2.2.1, bt848.2.2.2.2.1, bt848.2.2.2.2.2.1, bt848.2.2.2.2.2.2.1, bt848.2.2.2.2.2.2.2⟩ : S38), (⟨bt860.1, bt860.2.1, bt860.2.2.1, bt860.2.2.2.1, bt860.2.2.2.2.1, bt860.2.2.2.2.2.1, bt860.2.2.2.2.2.2.1, bt860.2.2.2.2.2.2.2⟩ : S38), (⟨bt872.1, bt872.2.1, bt872.2.2.1, bt872.2.2.2.1, bt872.2.2.2.2.1, bt872.2.2.2.2.2.1, bt872.2.2.2.2.2.2.1, bt872.2.2.2.2.2.2.2⟩ : S38)] : List (S38)))).bind fun bt885 => (some (bt885.1, bt885.2.1, bt885.2.2.1, bt885.2.2.2.1, bt885.2.2.2.2.1, bt885.2.2.2.2.2.1, bt885.2.2.2.2.2.2.1, bt885.2.2.2.2.2.2.2, 1))))) else (none)))) else (none)))) else (none)) else (none)) else (some ((⟨#[]⟩ : ByteArray), 0, false, 0, 0, 0, (⟨#[]⟩ : ByteArray), ([] : List (S38)), 2)))) = some (r1, r2, r3, r4, r5, r6, r7, r8, r9) := h
 clear h
 replace H := Option.bind_eq_some_iff.mp H
 obtain ⟨⟨t843, t844⟩, A20, H⟩ := H
 replace H : (if t844 = 1 then (if 0 < (l0.length : Int) then (if 0 < (((rd_T48 l0 0).f1).length : Int) then ((spec_hundredth.f (rd ((rd_T48 l0 0).f1) 0)).bind fun t847 => ((spec_floatNode.f (⟨#[76, 111, 97, 100, 49]⟩ : ByteArray) t847).bind fun bt848 => (if 1 < (((rd_T48 l0 0).f1).length : Int) then ((spec_hundredth.f (rd ((rd_T48 l0 0).f1) 1)).bind fun t859 => ((spec_floatNode.f (⟨#[76, 111, 97, 100, 53]⟩ : ByteArray) t859).bind fun bt860 => (if 2 < (((rd_T48 l0 0).f1).length : Int) then ((spec_hundredth.f (rd ((rd_T48 l0 0).f1) 2)).bind fun t871 => ((spec_floatNode.f (⟨#[76, 111, 97, 100, 49, 53]⟩ : ByteArray) t871).bind fun bt872 => ((spec_recordNode.f (⟨#[]⟩ : ByteArray) (([(⟨bt848.1, bt848.2.1, bt848.2.2.1, bt848.2.2.2.1, bt848.2.2.2.2.1, bt848.2.2.2.2.2.1, bt848.2.2.2.2.2.2.1, bt848.2.2.2.2.2.2.2⟩ : S38), (⟨bt860.1, bt860.2.1, bt860.2.2.1, bt860.2.2.2.1, bt860.2.2.2.2.1, bt860.2.2.2.2.2.1, bt860.2.2.2.2.2.2.1, bt860.2.2.2.2.2.2.2⟩ : S38), (⟨bt872.1, bt872.2.1, bt872.2.2.1, bt872.2.2.2.1, bt872.2.2.2.2.1, bt872.2.2.2.2.2.1, bt872.2.2.2.2.2.2.1, bt872.2.2.2.2.2.2.2⟩ : S38)] : List (S38)))).bind fun bt885 => (some (bt885.1, bt885.2.1, bt885.2.2.1, bt885.2.2.2.1, bt885.2.2.2.2.1, bt885.2.2.2.2.2.1, bt885.2.2.2.2.2.2.1, bt885.2.2.2.2.2.2.2, 1))))) else (none)))) else (none)))) else (none)) else (none)) else (some ((⟨#[]⟩ : ByteArray), 0, false, 0, 0, 0, (⟨#[]⟩ : ByteArray), ([] : List (S38)), 2))) = some (r1, r2, r3, r4, r5, r6, r7, r8, r9) := H
 have A2 := Aside0.mk A20
 clear A20
 by_cases c3 : t844 = 1
 · rw [if_pos c3] at H
   have c3b0 : (t844 == 1) = true := beq_iff_eq.mpr c3
   have c3b1 : (t844 != 1) = false := bne_eq_false_iff_eq.mpr c3
   clear c3
   by_cases c4 : 0 < (l0.length : Int)
   · rw [if_pos c4] at H
     have c4b0 : decide (0 < (l0.length : Int)) = true := decide_eq_true c4
     have c4b1 : decide (0 < l0.length) = true := decide_eq_true (by omega)
     clear c4
     by_cases c5 : 0 < (((rd_T48 l0 0).f1).length : Int)
     · rw [if_pos c5] at H
       have c5b0 : decide (0 < (((rd_T48 l0 0).f1).length : Int)) = true := decide_eq_true c5
       have c5b1 : decide (0 < ((rd_T48 l0 0).f1).length) = true := decide_eq_true (by omega)
       clear c5
       replace H := Option.bind_eq_some_iff.mp H
       obtain ⟨t847, A60, H⟩ := H
       replace H : ((spec_floatNode.f (⟨#[76, 111, 97, 100, 49]⟩ : ByteArray) t847).bind fun bt848 => (if 1 < (((rd_T48 l0 0).f1).length : Int) then ((spec_hundredth.f (rd ((rd_T48 l0 0).f1) 1)).bind fun t859 => ((spec_floatNode.f (⟨#[76, 111, 97, 100, 53]⟩ : ByteArray) t859).bind fun bt860 => (if 2 < (((rd_T48 l0 0).f1).length : Int) then ((spec_hundredth.f (rd ((rd_T48 l0 0).f1) 2)).bind fun t871 => ((spec_floatNode.f (⟨#[76, 111, 97, 100, 49, 53]⟩ : ByteArray) t871).bind fun bt872 => ((spec_recordNode.f (⟨#[]⟩ : ByteArray) (([(⟨bt848.1, bt848.2.1, bt848.2.2.1, bt848.2.2.2.1, bt848.2.2.2.2.1, bt848.2.2.2.2.2.1, bt848.2.2.2.2.2.2.1, bt848.2.2.2.2.2.2.2⟩ : S38), (⟨bt860.1, bt860.2.1, bt860.2.2.1, bt860.2.2.2.1, bt860.2.2.2.2.1, bt860.2.2.2.2.2.1, bt860.2.2.2.2.2.2.1, bt860.2.2.2.2.2.2.2⟩ : S38), (⟨bt872.1, bt872.2.1, bt872.2.2.1, bt872.2.2.2.1, bt872.2.2.2.2.1, bt872.2.2.2.2.2.1, bt872.2.2.2.2.2.2.1, bt872.2.2.2.2.2.2.2⟩ : S38)] : List (S38)))).bind fun bt885 => (some (bt885.1, bt885.2.1, bt885.2.2.1, bt885.2.2.2.1, bt885.2.2.2.2.1, bt885.2.2.2.2.2.1, bt885.2.2.2.2.2.2.1, bt885.2.2.2.2.2.2.2, 1))))) else (none)))) else (none))) = some (r1, r2, r3, r4, r5, r6, r7, r8, r9) := H
       have A6 := Aside0.mk A60
       clear A60
       replace H := Option.bind_eq_some_iff.mp H
       obtain ⟨⟨t848, t849, t850, t851, t852, t853, t854, t855⟩, A70, H⟩ := H
       replace H : (if 1 < (((rd_T48 l0 0).f1).length : Int) then ((spec_hundredth.f (rd ((rd_T48 l0 0).f1) 1)).bind fun t859 => ((spec_floatNode.f (⟨#[76, 111, 97, 100, 53]⟩ : ByteArray) t859).bind fun bt860 => (if 2 < (((rd_T48 l0 0).f1).length : Int) then ((spec_hundredth.f (rd ((rd_T48 l0 0).f1) 2)).bind fun t871 => ((spec_floatNode.f (⟨#[76, 111, 97, 100, 49, 53]⟩ : ByteArray) t871).bind fun bt872 => ((spec_recordNode.f (⟨#[]⟩ : ByteArray) (([(⟨t848, t849, t850, t851, t852, t853, t854, t855⟩ : S38), (⟨bt860.1, bt860.2.1, bt860.2.2.1, bt860.2.2.2.1, bt860.2.2.2.2.1, bt860.2.2.2.2.2.1, bt860.2.2.2.2.2.2.1, bt860.2.2.2.2.2.2.2⟩ : S38), (⟨bt872.1, bt872.2.1, bt872.2.2.1, bt872.2.2.2.1, bt872.2.2.2.2.1, bt872.2.2.2.2.2.1, bt872.2.2.2.2.2.2.1, bt872.2.2.2.2.2.2.2⟩ : S38)] : List (S38)))).bind fun bt885 => (some (bt885.1, bt885.2.1, bt885.2.2.1, bt885.2.2.2.1, bt885.2.2.2.2.1, bt885.2.2.2.2.2.1, bt885.2.2.2.2.2.2.1, bt885.2.2.2.2.2.2.2, 1))))) else (none)))) else (none)) = some (r1, r2, r3, r4, r5, r6, r7, r8, r9) := H
       have A7 := Aside0.mk A70
       clear A70
       by_cases c8 : 1 < (((rd_T48 l0 0).f1).length : Int)
       · rw [if_pos c8] at H
         have c8b0 : decide (1 < (((rd_T48 l0 0).f1).length : Int)) = true := decide_eq_true c8
         have c8b1 : decide (1 < ((rd_T48 l0 0).f1).length) = true := decide_eq_true (by omega)
         clear c8
         replace H := Option.bind_eq_some_iff.mp H
         obtain ⟨t859, A90, H⟩ := H
         replace H : ((spec_floatNode.f (⟨#[76, 111, 97, 100, 53]⟩ : ByteArray) t859).bind fun bt860 => (if 2 < (((rd_T48 l0 0).f1).length : Int) then ((spec_hundredth.f (rd ((rd_T48 l0 0).f1) 2)).bind fun t871 => ((spec_floatNode.f (⟨#[76, 111, 97, 100, 49, 53]⟩ : ByteArray) t871).bind fun bt872 => ((spec_recordNode.f (⟨#[]⟩ : ByteArray) (([(⟨t848, t849, t850, t851, t852, t853, t854, t855⟩ : S38), (⟨bt860.1, bt860.2.1, bt860.2.2.1, bt860.2.2.2.1, bt860.2.2.2.2.1, bt860.2.2.2.2.2.1, bt860.2.2.2.2.2.2.1, bt860.2.2.2.2.2.2.2⟩ : S38), (⟨bt872.1, bt872.2.1, bt872.2.2.1, bt872.2.2.2.1, bt872.2.2.2.2.1, bt872.2.2.2.2.2.1, bt872.2.2.2.2.2.2.1, bt872.2.2.2.2.2.2.2⟩ : S38)] : List (S38)))).bind fun bt885 => (some (bt885.1, bt885.2.1, bt885.2.2.1, bt885.2.2.2.1, bt885.2.2.2.2.1, bt885.2.2.2.2.2.1, bt885.2.2.2.2.2.2.1, bt885.2.2.2.2.2.2.2, 1))))) else (none))) = some (r1, r2, r3, r4, r5, r6, r7, r8, r9) := H
         have A9 := Aside0.mk A90
         clear A90
         replace H := Option.bind_eq_some_iff.mp H
         obtain ⟨⟨t860, t861, t862, t863, t864, t865, t866, t867⟩, A100, H⟩ := H
         replace H : (if 2 < (((rd_T48 l0 0).f1).length : Int) then ((spec_hundredth.f (rd ((rd_T48 l0 0).f1) 2)).bind fun t871 => ((spec_floatNode.f (⟨#[76, 111, 97, 100, 49, 53]⟩ : ByteArray) t871).bind fun bt872 => ((spec_recordNode.f (⟨#[]⟩ : ByteArray) (([(⟨t848, t849, t850, t851, t852, t853, t854, t855⟩ : S38), (⟨t860, t861, t862, t863, t864, t865, t866, t867⟩ : S38), (⟨bt872.1, bt872.2.1, bt872.2.2.1, bt872.2.2.2.1, bt872.2.2.2.2.1, bt872.2.2.2.2.2.1, bt872.2.2.2.2.2.2.1, bt872.2.2.2.2.2.2.2⟩ : S38)] : List (S38)))).bind fun bt885 => (some (bt885.1, bt885.2.1, bt885.2.2.1, bt885.2.2.2.1, bt885.2.2.2.2.1, bt885.2.2.2.2.2.1, bt885.2.2.2.2.2.2.1, bt885.2.2.2.2.2.2.2, 1))))) else (none)) = some (r1, r2, r3, r4, r5, r6, r7, r8, r9) := H
         have A10 := Aside0.mk A100
         clear A100
         by_cases c11 : 2 < (((rd_T48 l0 0).f1).length : Int)
         · rw [if_pos c11] at H
           have c11b0 : decide (2 < (((rd_T48 l0 0).f1).length : Int)) = true := decide_eq_true c11
           have c11b1 : decide (2 < ((rd_T48 l0 0).f1).length) = true := decide_eq_true (by omega)
           clear c11
           replace H := Option.bind_eq_some_iff.mp H
           obtain ⟨t871, A120, H⟩ := H
           replace H : ((spec_floatNode.f (⟨#[76, 111, 97, 100, 49, 53]⟩ : ByteArray) t871).bind fun bt872 => ((spec_recordNode.f (⟨#[]⟩ : ByteArray) (([(⟨t848, t849, t850, t851, t852, t853, t854, t855⟩ : S38), (⟨t860, t861, t862, t863, t864, t865, t866, t867⟩ : S38), (⟨bt872.1, bt872.2.1, bt872.2.2.1, bt872.2.2.2.1, bt872.2.2.2.2.1, bt872.2.2.2.2.2.1, bt872.2.2.2.2.2.2.1, bt872.2.2.2.2.2.2.2⟩ : S38)] : List (S38)))).bind fun bt885 => (some (bt885.1, bt885.2.1, bt885.2.2.1, bt885.2.2.2.1, bt885.2.2.2.2.1, bt885.2.2.2.2.2.1, bt885.2.2.2.2.2.2.1, bt885.2.2.2.2.2.2.2, 1)))) = some (r1, r2, r3, r4, r5, r6, r7, r8, r9) := H
           have A12 := Aside0.mk A120
           clear A120
           replace H := Option.bind_eq_some_iff.mp H
           obtain ⟨⟨t872, t873, t874, t875, t876, t877, t878, t879⟩, A130, H⟩ := H
           replace H : ((spec_recordNode.f (⟨#[]⟩ : ByteArray) (([(⟨t848, t849, t850, t851, t852, t853, t854, t855⟩ : S38), (⟨t860, t861, t862, t863, t864, t865, t866, t867⟩ : S38), (⟨t872, t873, t874, t875, t876, t877, t878, t879⟩ : S38)] : List (S38)))).bind fun bt885 => (some (bt885.1, bt885.2.1, bt885.2.2.1, bt885.2.2.2.1, bt885.2.2.2.2.1, bt885.2.2.2.2.2.1, bt885.2.2.2.2.2.2.1, bt885.2.2.2.2.2.2.2, 1))) = some (r1, r2, r3, r4, r5, r6, r7, r8, r9) := H
           have A13 := Aside0.mk A130
           clear A130
           obtain ⟨y882, hy882⟩ : ∃ y_ : List (S38), y_ = (([(⟨t848, t849, t850, t851, t852, t853, t854, t855⟩ : S38), (⟨t860, t861, t862, t863, t864, t865, t866, t867⟩ : S38), (⟨t872, t873, t874, t875, t876, t877, t878, t879⟩ : S38)] : List (S38))) := ⟨_, rfl⟩
           replace H : ((spec_recordNode.f (⟨#[]⟩ : ByteArray) y882).bind fun bt885 => (some (bt885.1, bt885.2.1, bt885.2.2.1, bt885.2.2.2.1, bt885.2.2.2.2.1, bt885.2.2.2.2.2.1, bt885.2.2.2.2.2.2.1, bt885.2.2.2.2.2.2.2, 1))) = some (r1, r2, r3, r4, r5, r6, r7, r8, r9) := by first | (rw [hy882]; with_reducible exact H) | (have H2_ := (Option.bind_some _ _).symm.trans H; rw [hy882]; with_reducible exact H2_) | (have H2_ := (Option.bind_some _ _).symm.trans H; with_reducible exact H2_) | with_reducible exact H | (rw [hy882]; exact H) | exact H
           have Ny882 := Aside0.mk hy882
           clear hy882
           replace H := Option.bind_eq_some_iff.mp H
           obtain ⟨⟨t885, t886, t887, t888, t889, t890, t891, t892⟩, A140, H⟩ := H
           replace H : (some (t885, t886, t887, t888, t889, t890, t891, t892, 1)) = some (r1, r2, r3, r4, r5, r6, r7, r8, r9) := H
           have A14 := Aside0.mk A140
           clear A140
           simp only [Option.some.injEq, Prod.mk.injEq] at H
           obtain ⟨rfl, rfl, rfl, rfl, rfl, rfl, rfl, rfl, rfl⟩ := H
           go_enter Tryz.func11, Tryz.ntmps11
           try go_wp2_with (first | ((with_reducible refine gate_dst (N := 2) rfl ?_); refine box_event ?hg (N := 2) ?hd (cs := #[.string (⟨#[]⟩ : ByteArray), .int .i64 0, .bool false, .int .i64 0, .int .u64 0, .float .f64 0, .string (⟨#[]⟩ : ByteArray), .slice none 0 0]) (t := 38) ?hr ?_; (case hd => rfl); (case hg => rfl); (case hr => first | (go_simp; done) | (go_simp; rfl)); intro gb842 hg w15 hbox hb; have n0_ := Aside0.mk (below_step (by repeat (first | (with_reducible first | exact HB.out | apply below_alloc | apply pw_below_drewN | apply below_drew1) | exact HB.out)) hb); have n1_ := Aside0.mk (hbox); have n2_ := Aside0.mk ((by rw [hg]; exact (below_size (by repeat (first | (with_reducible first | exact HB.out | apply below_alloc | apply pw_below_drewN | apply below_drew1) | exact HB.out))) : w.heap.size ≤ gb842)); have n3_ := Aside0.mk ((by rw [hg]; exact (below_size (by repeat (first | (with_reducible first | exact HB.out | apply below_alloc | apply pw_below_drewN | apply below_drew1) | exact HB.out))) : w.heap.size ≤ gb842)); clear HB; have HB := n0_; have BK842 := n1_; have GW842 := n2_; have GE842 := n3_; clear n0_ n1_ n2_ n3_; clear hb hbox hg) | ((with_reducible refine gate_callee (f := 37) rfl ?_); refine goesL_ (some 9) rfl rfl Tryz.func37 (by kernel_rfl) rfl #[.slice A0 l0.length c0] rfl (by (try simp only [List.map_toArray, List.map_cons, List.map_nil]); first | done | rfl | (simp only [List.length_drop, List.length_take]; rfl)) ?_; (with_reducible refine (spec_LoadavgPrint.calls k _ _ l0 t843 t844 _ ?side1 ?side2 A2.out).mono ?_); (case side1 => repeat (first | exact (Kd.C_below HR0.out HB.out) | (with_reducible refine Kd.C_alloc ?_ _) | (with_reducible refine Kd.C_drewN ?_ _) | (with_reducible refine Kd.C_drew ?_))); (case side2 => exact HC0.out); rintro e w16 ⟨rfl, hb⟩; refine ⟨_, rfl, ?_⟩; have n0_ := Aside0.mk (blk_below (g := gb842) (o := .cells #[.string (⟨#[]⟩ : ByteArray), .int .i64 0, .bool false, .int .i64 0, .int .u64 0, .float .f64 0, .string (⟨#[]⟩ : ByteArray), .slice none 0 0] 38 (0, 0)) (by (with_reducible repeat (first | refine blk_drewN ?_ _ | refine blk_drew ?_ | refine blk_alloc ?_ _)); exact BK842.out) hb); have n1_ := Aside0.mk (below_step (by repeat (first | (with_reducible first | exact HB.out | apply below_alloc | apply pw_below_drewN | apply below_drew1 | refine below_set ?_ GE842.out) | exact HB.out)) hb); clear BK842; clear HB; have BK842 := n0_; have HB := n1_; clear n0_ n1_; (try clear hb); (try clear hb2); (try clear hk); (try clear hi); have p845 : 0 ≤ (0 : Int) := (by omega); have q845 : 0 < (l0.length : Int) := of_decide_eq_true (by first | (with_reducible assumption) | assumption); obtain ⟨ad845, A845_1, c845_1, A845_2, c845_2, e845, hx845_0, hx845_1, hx845_2, hl845_1, hi845_1, hl845_2, hi845_2⟩ := at_T48 HR0.out 0 p845 q845; cases e845; have qi845 : (0 < l0.length) = True := eq_true (by omega); (try rw [show ((0 : Int)).toNat = 0 from rfl] at hx845_0); (try rw [show 0 * 3 = 0 from rfl] at hx845_0); (try rw [Addr.add_zero'] at hx845_0); (try rw [show ((0 : Int)).toNat = 0 from rfl] at hx845_1); (try rw [show 0 * 3 = 0 from rfl] at hx845_1); (try rw [Addr.add_zero'] at hx845_1); (try rw [show ((0 : Int)).toNat = 0 from rfl] at hx845_2); (try rw [show 0 * 3 = 0 from rfl] at hx845_2); (try rw [Addr.add_zero'] at hx845_2); replace hx845_0 := (HB.out.cell (World.block_lt_of_cell? w _ hx845_0)).trans hx845_0; replace hx845_1 := (HB.out.cell (World.block_lt_of_cell? w _ hx845_1)).trans hx845_1; replace hx845_2 := (HB.out.cell (World.block_lt_of_cell? w _ hx845_2)).trans hx845_2; have HR845_1 := Aside0.mk hi845_1; have HC845_1 := Aside0.mk hl845_1; clear hi845_1 hl845_1; have HR845_2 := Aside0.mk hi845_2; have HC845_2 := Aside0.mk hl845_2; clear hi845_2 hl845_2; replace p845 := eq_true p845; replace q845 := eq_true q845))
           have n0_ := Aside0.mk (blk_drew BK842.out)
           have n1_ := Aside0.mk (below_drew1 HB.out)
           clear BK842
           clear HB
           have BK842 := n0_
           have HB := n1_
           clear n0_ n1_
           have p846 : 0 ≤ (0 : Int) := (by omega)
           have q846 : 0 < (((rd_T48 l0 0).f1).length : Int) := of_decide_eq_true (by first | (with_reducible assumption) | assumption)
           obtain ⟨ad846, e846, hx846_0⟩ := Kd.at_int HR845_1.out 0 p846 q846
           have hw846_0 := hx846_0
           (try rw [show ((0 : Int)).toNat = 0 from rfl] at hw846_0)
           (try rw [show 0 * 1 = 0 from rfl] at hw846_0)
           (try rw [Addr.add_zero'] at hw846_0)
           cases e846
           have qi846 : (0 < ((rd_T48 l0 0).f1).length) = True := eq_true (by omega)
           (try rw [show ((0 : Int)).toNat = 0 from rfl] at hx846_0)
           (try rw [Addr.add_zero'] at hx846_0)
           replace hx846_0 := (HB.out.cell (World.block_lt_of_cell? w _ hx846_0)).trans hx846_0
           replace p846 := eq_true p846
           replace q846 := eq_true q846
           have p858 : 0 ≤ (1 : Int) := (by omega)
           have q858 : 1 < (((rd_T48 l0 0).f1).length : Int) := of_decide_eq_true (by first | (with_reducible assumption) | assumption)
           obtain ⟨ad858, e858, hx858_0⟩ := Kd.at_int HR845_1.out 1 p858 q858
           have hw858_0 := hx858_0
           (try rw [show ((1 : Int)).toNat = 1 from rfl] at hw858_0)
           (try rw [show 1 * 1 = 1 from rfl] at hw858_0)
           (try simp only [Nat.reduceMul, Nat.reduceEqDiff, Go.Addr.add, ↓reduceIte] at hw858_0)
           obtain rfl : ad846 = ad858 := (by injection e858)
           (try simp only [show (1 : Int).toNat = 1 from rfl, Nat.reduceMul, Nat.reduceEqDiff, Go.Addr.add, ↓reduceIte] at hx858_0)
           have qi858 : (1 < ((rd_T48 l0 0).f1).length) = True := eq_true (by omega)
           (try rw [show ((1 : Int)).toNat = 1 from rfl] at hx858_0)
           replace hx858_0 := (HB.out.cell (World.block_lt_of_cell? w _ hx858_0)).trans hx858_0
           replace p858 := eq_true p858
           replace q858 := eq_true q858
           have p870 : 0 ≤ (2 : Int) := (by omega)
           have q870 : 2 < (((rd_T48 l0 0).f1).length : Int) := of_decide_eq_true (by first | (with_reducible assumption) | assumption)
           obtain ⟨ad870, e870, hx870_0⟩ := Kd.at_int HR845_1.out 2 p870 q870
           have hw870_0 := hx870_0
           (try rw [show ((2 : Int)).toNat = 2 from rfl] at hw870_0)
           (try rw [show 2 * 1 = 2 from rfl] at hw870_0)
           (try simp only [Nat.reduceMul, Nat.reduceEqDiff, Go.Addr.add, ↓reduceIte] at hw870_0)
           obtain rfl : ad846 = ad870 := (by injection e870)
           (try simp only [show (2 : Int).toNat = 2 from rfl, Nat.reduceMul, Nat.reduceEqDiff, Go.Addr.add, ↓reduceIte] at hx870_0)
           have qi870 : (2 < ((rd_T48 l0 0).f1).length) = True := eq_true (by omega)
           (try rw [show ((2 : Int)).toNat = 2 from rfl] at hx870_0)
           replace hx870_0 := (HB.out.cell (World.block_lt_of_cell? w _ hx870_0)).trans hx870_0
           replace p870 := eq_true p870
           replace q870 := eq_true q870
           refine start_ (n := 19) (S := fun w' => w'.cell? ad846 = some (.int .u64 (rd ((rd_T48 l0 0).f1) 0)) ∧ w'.cell? ⟨ad846.block, ad846.off + 1, none⟩ = some (.int .u64 (rd ((rd_T48 l0 0).f1) 1)) ∧ w'.cell? ⟨ad846.block, ad846.off + 2, none⟩ = some (.int .u64 (rd ((rd_T48 l0 0).f1) 2))) (ds := []) #[false, false, false, false, false, false, false, false, false, false, false, false, false, false, false, false, false, false, false] (by kernel_rfl) rfl rfl ⟨((HB.out.cell (World.block_lt_of_cell? w _ hw846_0)).trans hw846_0), ((HB.out.cell (World.block_lt_of_cell? w _ hw858_0)).trans hw858_0), ((HB.out.cell (World.block_lt_of_cell? w _ hw870_0)).trans hw870_0)⟩ (fun hHeld => ?_); refine with_tabW spec_LoadavgTree.tab5 spec_LoadavgTree.bits5 (fun HT_ HW_ => ?_)
           generalize w16.drew = w17 at BK842 HB hx846_0 hx858_0 hx870_0 hHeld ⊢
           refine pure_ (i := 0) (N := some 19) (v := ?_) (a' := ?_) #[true, false, false, false, false, false, false, false, false, false, false, false, false, false, false, false, false, false, false] rfl rfl (any_of HT_.out (by kernel_rfl)) (fun _ _ _ h => h) (Or.inl ⟨by rfl, ?_⟩) ?_ ?_
           rotate_left
           · intro w'
             go_simp
             with_reducible rfl
           rotate_left
           · simp only [Act.put, List.setIfInBounds_toArray, List.set_cons_zero, List.set_cons_succ, i64_w, i32_w]
             rfl
           refine pure_ (i := 1) (N := some 20) (v := ?_) (a' := ?_) #[true, true, false, false, false, false, false, false, false, false, false, false, false, false, false, false, false, false, false] rfl rfl (any_of HT_.out (by kernel_rfl)) (fun _ _ _ h => h) (Or.inl ⟨by rfl, ?_⟩) ?_ ?_
           rotate_left
           · intro w'
             go_simp
             with_reducible rfl
           rotate_left
           · simp only [Act.put, List.setIfInBounds_toArray, List.set_cons_zero, List.set_cons_succ, i64_w, i32_w]
             rfl
           refine pure_ (i := 5) (N := some 24) (v := ?_) (a' := ?_) #[true, true, false, false, false, true, false, false, false, false, false, false, false, false, false, false, false, false, false] rfl rfl (any_of HT_.out (by kernel_rfl)) (fun _ _ _ h => h) (Or.inl ⟨by rfl, ?_⟩) ?_ ?_
           rotate_left
           · intro w'
             go_simp
             with_reducible rfl
           rotate_left
           · simp only [Act.put, List.setIfInBounds_toArray, List.set_cons_zero, List.set_cons_succ, i64_w, i32_w]
             rfl
           refine pure_ (i := 6) (N := some 25) (v := ?_) (a' := ?_) #[true, true, false, false, false, true, true, false, false, false, false, false, false, false, false, false, false, false, false] rfl rfl (any_of HT_.out (by kernel_rfl)) (fun _ _ _ h => h) (Or.inl ⟨by rfl, ?_⟩) ?_ ?_
           rotate_left
           · intro w'
             go_simp
             with_reducible rfl
           rotate_left
           · simp only [Act.put, List.setIfInBounds_toArray, List.set_cons_zero, List.set_cons_succ, i64_w, i32_w]
             rfl
           refine pure_ (i := 10) (N := some 29) (v := ?_) (a' := ?_) #[true, true, false, false, false, true, true, false, false, false, true, false, false, false, false, false, false, false, false] rfl rfl (any_of HT_.out (by kernel_rfl)) (fun _ _ _ h => h) (Or.inl ⟨by rfl, ?_⟩) ?_ ?_
           rotate_left
           · intro w'
             go_simp
             with_reducible rfl
           rotate_left
           · simp only [Act.put, List.setIfInBounds_toArray, List.set_cons_zero, List.set_cons_succ, i64_w, i32_w]
             rfl
           refine pure_ (i := 11) (N := some 30) (v := ?_) (a' := ?_) #[true, true, false, false, false, true, true, false, false, false, true, true, false, false, false, false, false, false, false] rfl rfl (any_of HT_.out (by kernel_rfl)) (fun _ _ _ h => h) (Or.inl ⟨by rfl, ?_⟩) ?_ ?_
           rotate_left
           · intro w'
             go_simp
             with_reducible rfl
           rotate_left
           · simp only [Act.put, List.setIfInBounds_toArray, List.set_cons_zero, List.set_cons_succ, i64_w, i32_w]
             rfl
           refine take_ (i := 2) (N := some 21) (v := ?_) (a' := ?_) #[true, true, true, false, false, true, true, false, false, false, true, true, false, false, false, false, false, false, false] rfl rfl (take_ofW HT_.out HW_.out (by kernel_rfl)) (fun _ _ _ h => h) (Or.inl ⟨by rfl, ?_⟩) hHeld ?_ ?_
           rotate_left
           · rintro w' ⟨s0, s1, s2⟩
             go_simp
             with_reducible rfl
           rotate_left
           · simp only [Act.put, List.setIfInBounds_toArray, List.set_cons_zero, List.set_cons_succ, i64_w, i32_w]
             rfl
           refine take_ (i := 7) (N := some 26) (v := ?_) (a' := ?_) #[true, true, true, false, false, true, true, true, false, false, true, true, false, false, false, false, false, false, false] rfl rfl (take_ofW HT_.out HW_.out (by kernel_rfl)) (fun _ _ _ h => h) (Or.inl ⟨by rfl, ?_⟩) hHeld ?_ ?_
           rotate_left
           · rintro w' ⟨s0, s1, s2⟩
             go_simp
             with_reducible rfl
           rotate_left
           · simp only [Act.put, List.setIfInBounds_toArray, List.set_cons_zero, List.set_cons_succ, i64_w, i32_w]
             rfl
           refine take_ (i := 12) (N := some 31) (v := ?_) (a' := ?_) #[true, true, true, false, false, true, true, true, false, false, true, true, true, false, false, false, false, false, false] rfl rfl (take_ofW HT_.out HW_.out (by kernel_rfl)) (fun _ _ _ h => h) (Or.inl ⟨by rfl, ?_⟩) hHeld ?_ ?_
           rotate_left
           · rintro w' ⟨s0, s1, s2⟩
             go_simp
             with_reducible rfl
           rotate_left
           · simp only [Act.put, List.setIfInBounds_toArray, List.set_cons_zero, List.set_cons_succ, i64_w, i32_w]
             rfl
           refine one_ (i := 3) (N := some 22) #[true, true, true, true, false, true, true, true, false, false, true, true, true, false, false, false, false, false, false] rfl rfl (one_of HT_.out (by kernel_rfl)) (by decide) (fun K hK => ?_)
           refine goes_ Tryz.func40 (by kernel_rfl) rfl #[.int .u64 (rd ((rd_T48 l0 0).f1) 0)] (by rfl) rfl rfl (by (try simp only [List.map_toArray, List.map_cons, List.map_nil]); first | done | rfl | (simp only [List.length_drop, List.length_take]; rfl)) ?_
           with_reducible refine (spec_hundredth.calls (rd ((rd_T48 l0 0).f1) 0) t847 _ A6.out).mono ?_
           rintro e w' ⟨rfl, ⟨nd, rfl⟩⟩
           refine ⟨_, rfl, ?_⟩
           refine hK.out _ _ ⟨((HB.out.cell (World.block_lt_of_cell? w _ hw846_0)).trans hw846_0), ((HB.out.cell (World.block_lt_of_cell? w _ hw858_0)).trans hw858_0), ((HB.out.cell (World.block_lt_of_cell? w _ hw870_0)).trans hw870_0)⟩ (fun hHeld => ?_)
           clear hK K
           refine norm_ (a' := ?_) ?_ ?_
           rotate_left
           · show Act.put _ (some 22) _ = _
             simp only [Act.put, List.setIfInBounds_toArray, List.set_cons_zero, List.set_cons_succ, i64_w, i32_w]
             rfl
           refine one_ (i := 4) (N := some 23) #[true, true, true, true, true, true, true, true, false, false, true, true, true, false, false, false, false, false, false] rfl rfl (one_of HT_.out (by kernel_rfl)) (by decide) (fun K hK => ?_)
           refine goes_ Tryz.func39 (by kernel_rfl) rfl #[.string (⟨#[76, 111, 97, 100, 49]⟩ : ByteArray), .float .f64 t847] (by rfl) rfl rfl (by (try simp only [List.map_toArray, List.map_cons, List.map_nil]); first | done | rfl | (simp only [List.length_drop, List.length_take]; rfl)) ?_
           with_reducible refine (spec_floatNode.calls (⟨#[76, 111, 97, 100, 49]⟩ : ByteArray) t847 t848 t849 t850 t851 t852 t853 t854 t855 _ A7.out).mono ?_
           rintro e w18 ⟨v856, rfl, ho0, hb⟩
           refine ⟨_, rfl, ?_⟩
           have n0_ := Aside0.mk (Kd.N_lower (Kd.N_mono (ok' := fun k_ => (w.heap.size ≤ k_) ∧ k_ ≠ gb842) (Kd.R_N (Kd.R_bound ho0)) (fun k_ hk_ => ⟨(Nat.le_trans (below_size (by repeat (first | (with_reducible first | exact HB.out | apply below_alloc | apply pw_below_drewN | apply below_drew1 | refine below_set ?_ GE842.out) | exact HB.out))) hk_.2.1), (Kd.freshB (g := gb842) (o := .cells #[.string (⟨#[]⟩ : ByteArray), .int .i64 0, .bool false, .int .i64 0, .int .u64 0, .float .f64 0, .string (⟨#[]⟩ : ByteArray), .slice none 0 0] 38 (0, 0)) (by (with_reducible repeat (first | refine blk_drewN ?_ _ | refine blk_drew ?_ | refine blk_alloc ?_ _)); exact BK842.out) k_ hk_.2.1)⟩)) (below_size (by repeat (first | (with_reducible first | exact HB.out | apply below_alloc | apply pw_below_drewN | apply below_drew1 | refine below_set ?_ GE842.out) | exact HB.out))))
           have n1_ := Aside0.mk (blk_below (g := gb842) (o := .cells #[.string (⟨#[]⟩ : ByteArray), .int .i64 0, .bool false, .int .i64 0, .int .u64 0, .float .f64 0, .string (⟨#[]⟩ : ByteArray), .slice none 0 0] 38 (0, 0)) (by (with_reducible repeat (first | refine blk_drewN ?_ _ | refine blk_drew ?_ | refine blk_alloc ?_ _)); exact BK842.out) hb)
           have n2_ := Aside0.mk (below_step (by repeat (first | (with_reducible first | exact HB.out | apply below_alloc | apply pw_below_drewN | apply below_drew1 | refine below_set ?_ GE842.out) | exact HB.out)) hb)
           clear BK842
           clear HB
           have HO857 := n0_
           have BK842 := n1_
           have HB := n2_
           clear n0_ n1_ n2_
           (try clear hb)
           (try clear hb2)
           (try clear hk)
           (try clear hi)
           (try clear ho0)
           refine hK.out _ _ ⟨((HB.out.cell (World.block_lt_of_cell? w _ hw846_0)).trans hw846_0), ((HB.out.cell (World.block_lt_of_cell? w _ hw858_0)).trans hw858_0), ((HB.out.cell (World.block_lt_of_cell? w _ hw870_0)).trans hw870_0)⟩ (fun hHeld => ?_)
           clear hK K
           refine norm_ (a' := ?_) ?_ ?_
           rotate_left
           · show Act.put _ (some 23) _ = _
             simp only [Act.put, List.setIfInBounds_toArray, List.set_cons_zero, List.set_cons_succ, i64_w, i32_w]
             rfl
           refine one_ (i := 8) (N := some 27) #[true, true, true, true, true, true, true, true, true, false, true, true, true, false, false, false, false, false, false] rfl rfl (one_of HT_.out (by kernel_rfl)) (by decide) (fun K hK => ?_)
           refine goes_ Tryz.func40 (by kernel_rfl) rfl #[.int .u64 (rd ((rd_T48 l0 0).f1) 1)] (by rfl) rfl rfl (by (try simp only [List.map_toArray, List.map_cons, List.map_nil]); first | done | rfl | (simp only [List.length_drop, List.length_take]; rfl)) ?_
           with_reducible refine (spec_hundredth.calls (rd ((rd_T48 l0 0).f1) 1) t859 _ A9.out).mono ?_
           rintro e w' ⟨rfl, ⟨nd, rfl⟩⟩
           refine ⟨_, rfl, ?_⟩
           refine hK.out _ _ ⟨((HB.out.cell (World.block_lt_of_cell? w _ hw846_0)).trans hw846_0), ((HB.out.cell (World.block_lt_of_cell? w _ hw858_0)).trans hw858_0), ((HB.out.cell (World.block_lt_of_cell? w _ hw870_0)).trans hw870_0)⟩ (fun hHeld => ?_)
           clear hK K
           refine norm_ (a' := ?_) ?_ ?_
           rotate_left
           · show Act.put _ (some 27) _ = _
             simp only [Act.put, List.setIfInBounds_toArray, List.set_cons_zero, List.set_cons_succ, i64_w, i32_w]
             rfl
           refine one_ (i := 9) (N := some 28) #[true, true, true, true, true, true, true, true, true, true, true, true, true, false, false, false, false, false, false] rfl rfl (one_of HT_.out (by kernel_rfl)) (by decide) (fun K hK => ?_)
           refine goes_ Tryz.func39 (by kernel_rfl) rfl #[.string (⟨#[76, 111, 97, 100, 53]⟩ : ByteArray), .float .f64 t859] (by rfl) rfl rfl (by (try simp only [List.map_toArray, List.map_cons, List.map_nil]); first | done | rfl | (simp only [List.length_drop, List.length_take]; rfl)) ?_
           with_reducible refine (spec_floatNode.calls (⟨#[76, 111, 97, 100, 53]⟩ : ByteArray) t859 t860 t861 t862 t863 t864 t865 t866 t867 _ A10.out).mono ?_
           rintro e w19 ⟨v868, rfl, ho0, hb⟩
           refine ⟨_, rfl, ?_⟩
           have n0_ := Aside0.mk (Kd.N_elder' (by (with_reducible repeat (first | apply Kd.N_alloc | apply Kd.N_drewN | apply Kd.N_drew)); exact HO857.out) (by first | exact Kd.N_base ho0 | exact Kd.R_base ho0 | exact Kd.S_base ho0) hb)
           have n1_ := Aside0.mk (Kd.N_lower (Kd.N_mono (ok' := fun k_ => (w.heap.size ≤ k_) ∧ some k_ ≠ (v856 : Value).ownBlock ∧ k_ ≠ gb842) (Kd.R_N (Kd.R_bound ho0)) (fun k_ hk_ => ⟨(Nat.le_trans (below_size (by repeat (first | (with_reducible first | exact HB.out | apply below_alloc | apply pw_below_drewN | apply below_drew1 | refine below_set ?_ GE842.out) | exact HB.out))) hk_.2.1), (Kd.fresh' (Kd.N_lt (by (with_reducible repeat (first | apply Kd.N_alloc | apply Kd.N_drewN | apply Kd.N_drew)); exact HO857.out)) k_ hk_.2.1), (Kd.freshB (g := gb842) (o := .cells #[.string (⟨#[]⟩ : ByteArray), .int .i64 0, .bool false, .int .i64 0, .int .u64 0, .float .f64 0, .string (⟨#[]⟩ : ByteArray), .slice none 0 0] 38 (0, 0)) (by (with_reducible repeat (first | refine blk_drewN ?_ _ | refine blk_drew ?_ | refine blk_alloc ?_ _)); exact BK842.out) k_ hk_.2.1)⟩)) (below_size (by repeat (first | (with_reducible first | exact HB.out | apply below_alloc | apply pw_below_drewN | apply below_drew1 | refine below_set ?_ GE842.out) | exact HB.out))))
           have n2_ := Aside0.mk (blk_below (g := gb842) (o := .cells #[.string (⟨#[]⟩ : ByteArray), .int .i64 0, .bool false, .int .i64 0, .int .u64 0, .float .f64 0, .string (⟨#[]⟩ : ByteArray), .slice none 0 0] 38 (0, 0)) (by (with_reducible repeat (first | refine blk_drewN ?_ _ | refine blk_drew ?_ | refine blk_alloc ?_ _)); exact BK842.out) hb)
           have n3_ := Aside0.mk (below_step (by repeat (first | (with_reducible first | exact HB.out | apply below_alloc | apply pw_below_drewN | apply below_drew1 | refine below_set ?_ GE842.out) | exact HB.out)) hb)
           clear HO857
           clear BK842
           clear HB
           have HO857 := n0_
           have HO869 := n1_
           have BK842 := n2_
           have HB := n3_
           clear n0_ n1_ n2_ n3_
           (try clear hb)
           (try clear hb2)
           (try clear hk)
           (try clear hi)
           (try clear ho0)
           refine hK.out _ _ ⟨((HB.out.cell (World.block_lt_of_cell? w _ hw846_0)).trans hw846_0), ((HB.out.cell (World.block_lt_of_cell? w _ hw858_0)).trans hw858_0), ((HB.out.cell (World.block_lt_of_cell? w _ hw870_0)).trans hw870_0)⟩ (fun hHeld => ?_)
           clear hK K
           refine norm_ (a' := ?_) ?_ ?_
           rotate_left
           · show Act.put _ (some 28) _ = _
             simp only [Act.put, List.setIfInBounds_toArray, List.set_cons_zero, List.set_cons_succ, i64_w, i32_w]
             rfl
           refine one_ (i := 13) (N := some 32) #[true, true, true, true, true, true, true, true, true, true, true, true, true, true, false, false, false, false, false] rfl rfl (one_of HT_.out (by kernel_rfl)) (by decide) (fun K hK => ?_)
           refine goes_ Tryz.func40 (by kernel_rfl) rfl #[.int .u64 (rd ((rd_T48 l0 0).f1) 2)] (by rfl) rfl rfl (by (try simp only [List.map_toArray, List.map_cons, List.map_nil]); first | done | rfl | (simp only [List.length_drop, List.length_take]; rfl)) ?_
           with_reducible refine (spec_hundredth.calls (rd ((rd_T48 l0 0).f1) 2) t871 _ A12.out).mono ?_
           rintro e w' ⟨rfl, ⟨nd, rfl⟩⟩
           refine ⟨_, rfl, ?_⟩
           refine hK.out _ _ ⟨((HB.out.cell (World.block_lt_of_cell? w _ hw846_0)).trans hw846_0), ((HB.out.cell (World.block_lt_of_cell? w _ hw858_0)).trans hw858_0), ((HB.out.cell (World.block_lt_of_cell? w _ hw870_0)).trans hw870_0)⟩ (fun hHeld => ?_)
           clear hK K
           refine norm_ (a' := ?_) ?_ ?_
           rotate_left
           · show Act.put _ (some 32) _ = _
             simp only [Act.put, List.setIfInBounds_toArray, List.set_cons_zero, List.set_cons_succ, i64_w, i32_w]
             rfl
           refine one_ (i := 14) (N := some 33) #[true, true, true, true, true, true, true, true, true, true, true, true, true, true, true, false, false, false, false] rfl rfl (one_of HT_.out (by kernel_rfl)) (by decide) (fun K hK => ?_)
           refine goes_ Tryz.func39 (by kernel_rfl) rfl #[.string (⟨#[76, 111, 97, 100, 49, 53]⟩ : ByteArray), .float .f64 t871] (by rfl) rfl rfl (by (try simp only [List.map_toArray, List.map_cons, List.map_nil]); first | done | rfl | (simp only [List.length_drop, List.length_take]; rfl)) ?_
           with_reducible refine (spec_floatNode.calls (⟨#[76, 111, 97, 100, 49, 53]⟩ : ByteArray) t871 t872 t873 t874 t875 t876 t877 t878 t879 _ A13.out).mono ?_
           rintro e w20 ⟨v880, rfl, ho0, hb⟩
           refine ⟨_, rfl, ?_⟩
           have n0_ := Aside0.mk (Kd.N_elder' (by (with_reducible repeat (first | apply Kd.N_alloc | apply Kd.N_drewN | apply Kd.N_drew)); exact HO857.out) (by first | exact Kd.N_base ho0 | exact Kd.R_base ho0 | exact Kd.S_base ho0) hb)
           have n1_ := Aside0.mk (Kd.N_elder' (by (with_reducible repeat (first | apply Kd.N_alloc | apply Kd.N_drewN | apply Kd.N_drew)); exact HO869.out) (by first | exact Kd.N_base ho0 | exact Kd.R_base ho0 | exact Kd.S_base ho0) hb)
           have n2_ := Aside0.mk (Kd.N_lower (Kd.N_mono (ok' := fun k_ => (w.heap.size ≤ k_) ∧ some k_ ≠ (v856 : Value).ownBlock ∧ some k_ ≠ (v868 : Value).ownBlock ∧ k_ ≠ gb842) (Kd.R_N (Kd.R_bound ho0)) (fun k_ hk_ => ⟨(Nat.le_trans (below_size (by repeat (first | (with_reducible first | exact HB.out | apply below_alloc | apply pw_below_drewN | apply below_drew1 | refine below_set ?_ GE842.out) | exact HB.out))) hk_.2.1), (Kd.fresh' (Kd.N_lt (by (with_reducible repeat (first | apply Kd.N_alloc | apply Kd.N_drewN | apply Kd.N_drew)); exact HO857.out)) k_ hk_.2.1), (Kd.fresh' (Kd.N_lt (by (with_reducible repeat (first | apply Kd.N_alloc | apply Kd.N_drewN | apply Kd.N_drew)); exact HO869.out)) k_ hk_.2.1), (Kd.freshB (g := gb842) (o := .cells #[.string (⟨#[]⟩ : ByteArray), .int .i64 0, .bool false, .int .i64 0, .int .u64 0, .float .f64 0, .string (⟨#[]⟩ : ByteArray), .slice none 0 0] 38 (0, 0)) (by (with_reducible repeat (first | refine blk_drewN ?_ _ | refine blk_drew ?_ | refine blk_alloc ?_ _)); exact BK842.out) k_ hk_.2.1)⟩)) (below_size (by repeat (first | (with_reducible first | exact HB.out | apply below_alloc | apply pw_below_drewN | apply below_drew1 | refine below_set ?_ GE842.out) | exact HB.out))))
           have n3_ := Aside0.mk (blk_below (g := gb842) (o := .cells #[.string (⟨#[]⟩ : ByteArray), .int .i64 0, .bool false, .int .i64 0, .int .u64 0, .float .f64 0, .string (⟨#[]⟩ : ByteArray), .slice none 0 0] 38 (0, 0)) (by (with_reducible repeat (first | refine blk_drewN ?_ _ | refine blk_drew ?_ | refine blk_alloc ?_ _)); exact BK842.out) hb)
           have n4_ := Aside0.mk (below_step (by repeat (first | (with_reducible first | exact HB.out | apply below_alloc | apply pw_below_drewN | apply below_drew1 | refine below_set ?_ GE842.out) | exact HB.out)) hb)
           clear HO857
           clear HO869
           clear BK842
           clear HB
           have HO857 := n0_
           have HO869 := n1_
           have HO881 := n2_
           have BK842 := n3_
           have HB := n4_
           clear n0_ n1_ n2_ n3_ n4_
           (try clear hb)
           (try clear hb2)
           (try clear hk)
           (try clear hi)
           (try clear ho0)
           obtain ⟨Ao21, co21, eo21⟩ := Kd.N_slice HO857.out
           (first | subst eo21 | (injection eo21 with f1_ f2_ f3_; have f4_ := f1_.symm; have f5_ := f3_.symm; clear f1_ f2_ f3_; subst f4_; subst f5_))
           obtain ⟨Ao22, co22, eo22⟩ := Kd.N_slice HO869.out
           (first | subst eo22 | (injection eo22 with f1_ f2_ f3_; have f4_ := f1_.symm; have f5_ := f3_.symm; clear f1_ f2_ f3_; subst f4_; subst f5_))
           obtain ⟨Ao23, co23, eo23⟩ := Kd.N_slice HO881.out
           (first | subst eo23 | (injection eo23 with f1_ f2_ f3_; have f4_ := f1_.symm; have f5_ := f3_.symm; clear f1_ f2_ f3_; subst f4_; subst f5_))
           refine hK.out _ _ ⟨((HB.out.cell (World.block_lt_of_cell? w _ hw846_0)).trans hw846_0), ((HB.out.cell (World.block_lt_of_cell? w _ hw858_0)).trans hw858_0), ((HB.out.cell (World.block_lt_of_cell? w _ hw870_0)).trans hw870_0)⟩ (fun hHeld => ?_)
           clear hK K
           refine norm_ (a' := ?_) ?_ ?_
           rotate_left
           · show Act.put _ (some 33) _ = _
             simp only [Act.put, List.setIfInBounds_toArray, List.set_cons_zero, List.set_cons_succ, i64_w, i32_w]
             rfl
           refine one_ (i := 15) (N := some 34) #[true, true, true, true, true, true, true, true, true, true, true, true, true, true, true, true, false, false, false] rfl rfl (one_of HT_.out (by kernel_rfl)) (by decide) (fun K hK => ?_)
           refine Kd.N_lit_step k38 _ 38 ?hg (N' := 34) ?hd (xs := ([(⟨t848, t849, t850, t851, t852, t853, t854, t855⟩ : S38), (⟨t860, t861, t862, t863, t864, t865, t866, t867⟩ : S38), (⟨t872, t873, t874, t875, t876, t877, t878, t879⟩ : S38)] : List (S38))) (inner := [.string t848, .int .i64 t849, .bool t850, .int .i64 t851, .int .u64 t852, .float .f64 t853, .string t854, .slice Ao21 t855.length co21, .string t860, .int .i64 t861, .bool t862, .int .i64 t863, .int .u64 t864, .float .f64 t865, .string t866, .slice Ao22 t867.length co22, .string t872, .int .i64 t873, .bool t874, .int .i64 t875, .int .u64 t876, .float .f64 t877, .string t878, .slice Ao23 t879.length co23]) (ok := (fun k_ => (w.heap.size ≤ k_) ∧ k_ ≠ gb842)) (okp := (fun k_ => (w.heap.size ≤ k_) ∧ k_ ≠ gb842)) ?hr ?hp (fun _ hk => hk) ((show ∀ k_, w20.heap.size ≤ k_ → (fun k_ => (w.heap.size ≤ k_) ∧ k_ ≠ gb842) k_ from fun k_ hk => ⟨(Nat.le_trans (below_size (by repeat (first | (with_reducible first | exact HB.out | apply below_alloc | apply pw_below_drewN | apply below_drew1 | refine below_set ?_ GE842.out) | exact HB.out))) hk), Kd.freshB (g := gb842) (o := .cells #[.string (⟨#[]⟩ : ByteArray), .int .i64 0, .bool false, .int .i64 0, .int .u64 0, .float .f64 0, .string (⟨#[]⟩ : ByteArray), .slice none 0 0] 38 (0, 0)) (by (with_reducible repeat (first | refine blk_drewN ?_ _ | refine blk_drew ?_ | refine blk_alloc ?_ _)); exact BK842.out) k_ hk⟩) _ (Nat.le_refl _)) (Below.refl _ _) (Nat.le_refl _) (by simp) ?_; (case hd => rfl); (case hg => rfl); (case hr => first | (go_simp; done) | (go_simp; rfl)); (case hp => exact (Reps.c8 (show Kd.FK k38 _ _ (⟨t848, t849, t850, t851, t852, t853, t854, t855⟩ : S38) [.string t848, .int .i64 t849, .bool t850, .int .i64 t851, .int .u64 t852, .float .f64 t853, .string t854, .slice Ao21 t855.length co21] from (k38_mkF _ _ (⟨t848, t849, t850, t851, t852, t853, t854, t855⟩ : S38) (Kd.N_reads' (Kd.N_mono (ok' := (fun k_ => (w.heap.size ≤ k_) ∧ k_ ≠ gb842)) (HO857.out) (fun k_ hk => ⟨hk.1.1.1, hk.1.1.2⟩))).2.1 (Kd.N_F (Kd.N_mono (ok' := (fun k_ => (w.heap.size ≤ k_) ∧ k_ ≠ gb842)) (HO857.out) (fun k_ hk => ⟨hk.1.1.1, hk.1.1.2⟩))))) (Reps.c8 (show Kd.FK k38 _ _ (⟨t860, t861, t862, t863, t864, t865, t866, t867⟩ : S38) [.string t860, .int .i64 t861, .bool t862, .int .i64 t863, .int .u64 t864, .float .f64 t865, .string t866, .slice Ao22 t867.length co22] from (k38_mkF _ _ (⟨t860, t861, t862, t863, t864, t865, t866, t867⟩ : S38) (Kd.N_reads' (Kd.N_mono (ok' := (fun k_ => (w.heap.size ≤ k_) ∧ k_ ≠ gb842)) (HO869.out) (fun k_ hk => ⟨hk.1.1, hk.1.2.2⟩))).2.1 (Kd.N_F (Kd.N_mono (ok' := (fun k_ => (w.heap.size ≤ k_) ∧ k_ ≠ gb842)) (HO869.out) (fun k_ hk => ⟨hk.1.1, hk.1.2.2⟩))))) (Reps.c8 (show Kd.FK k38 _ _ (⟨t872, t873, t874, t875, t876, t877, t878, t879⟩ : S38) [.string t872, .int .i64 t873, .bool t874, .int .i64 t875, .int .u64 t876, .float .f64 t877, .string t878, .slice Ao23 t879.length co23] from (k38_mkF _ _ (⟨t872, t873, t874, t875, t876, t877, t878, t879⟩ : S38) (Kd.N_reads' (Kd.N_mono (ok' := (fun k_ => (w.heap.size ≤ k_) ∧ k_ ≠ gb842)) (HO881.out) (fun k_ hk => ⟨hk.1, hk.2.2.2⟩))).2.1 (Kd.N_F (Kd.N_mono (ok' := (fun k_ => (w.heap.size ≤ k_) ∧ k_ ≠ gb842)) (HO881.out) (fun k_ hk => ⟨hk.1, hk.2.2.2⟩))))) (Reps.none _ _)))))
           intro v883 w24 ho25 hb hg_ hnew_
           clear hg_ hnew_
           (first | rw [← Ny882.out] at ho25 | (simp only [Int.reduceToNat] at ho25; rw [← Ny882.out] at ho25))
           have n0_ := Aside0.mk (Kd.N_lower ho25 (below_size (by repeat (first | (with_reducible first | exact HB.out | apply below_alloc | apply pw_below_drewN | apply below_drew1 | refine below_set ?_ GE842.out) | exact HB.out))))
           have n1_ := Aside0.mk (blk_below (g := gb842) (o := .cells #[.string (⟨#[]⟩ : ByteArray), .int .i64 0, .bool false, .int .i64 0, .int .u64 0, .float .f64 0, .string (⟨#[]⟩ : ByteArray), .slice none 0 0] 38 (0, 0)) (by (with_reducible repeat (first | refine blk_drewN ?_ _ | refine blk_drew ?_ | refine blk_alloc ?_ _)); exact BK842.out) hb)
           have n2_ := Aside0.mk (below_step (by repeat (first | (with_reducible first | exact HB.out | apply below_alloc | apply pw_below_drewN | apply below_drew1 | refine below_set ?_ GE842.out) | exact HB.out)) hb)
           clear BK842
           clear HB
           clear HO857
           clear HO869
           clear HO881
           have HO884 := n0_
           have BK842 := n1_
           have HB := n2_
           clear n0_ n1_ n2_
           clear hb ho25
           obtain ⟨Ao26, co26, eo26⟩ := Kd.N_slice HO884.out
           (first | subst eo26 | (injection eo26 with f1_ f2_ f3_; have f4_ := f1_.symm; have f5_ := f3_.symm; clear f1_ f2_ f3_; subst f4_; subst f5_))
           refine hK.out _ _ ⟨((HB.out.cell (World.block_lt_of_cell? w _ hw846_0)).trans hw846_0), ((HB.out.cell (World.block_lt_of_cell? w _ hw858_0)).trans hw858_0), ((HB.out.cell (World.block_lt_of_cell? w _ hw870_0)).trans hw870_0)⟩ (fun hHeld => ?_)
           clear hK K
           refine norm_ (a' := ?_) ?_ ?_
           rotate_left
           · show Act.put _ (some 34) _ = _
             simp only [Act.put, List.setIfInBounds_toArray, List.set_cons_zero, List.set_cons_succ, i64_w, i32_w]
             rfl
           refine one_ (i := 16) (N := some 35) #[true, true, true, true, true, true, true, true, true, true, true, true, true, true, true, true, true, false, false] rfl rfl (one_of HT_.out (by kernel_rfl)) (by decide) (fun K hK => ?_)
           refine goes_ Tryz.func38 (by kernel_rfl) rfl #[.string (⟨#[]⟩ : ByteArray), .slice Ao26 y882.length co26] (by rfl) rfl rfl (by (try simp only [List.map_toArray, List.map_cons, List.map_nil]); first | done | rfl | (simp only [List.length_drop, List.length_take]; rfl)) ?_
           with_reducible refine (spec_recordNode.calls (⟨#[]⟩ : ByteArray) (fun k_ => ((w.heap.size ≤ k_) ∧ k_ ≠ gb842)) _ _ y882 t885 t886 t887 t888 t889 t890 t891 t892 _ ?side1 A14.out).mono ?_
           (case side1 => exact Kd.N_V (HO884.out))
           rintro e w27 ⟨v893, rfl, ho0, hb⟩
           refine ⟨_, rfl, ?_⟩
           have n0_ := Aside0.mk (Kd.N_below (by (with_reducible repeat (first | apply Kd.N_alloc | apply Kd.N_drewN | apply Kd.N_drew)); exact HO884.out) hb)
           have n1_ := Aside0.mk (Kd.V_lower (Kd.V_mono (ok' := fun k_ => (w.heap.size ≤ k_) ∧ k_ ≠ gb842) ho0 (fun k_ hk_ => ⟨Or.elim hk_ (fun hs_ => hs_.1) (fun hn_ => (Nat.le_trans (below_size (by repeat (first | (with_reducible first | exact HB.out | apply below_alloc | apply pw_below_drewN | apply below_drew1 | refine below_set ?_ GE842.out) | exact HB.out))) hn_)), Or.elim hk_ (fun hs_ => hs_.2) (fun hn_ => (Kd.freshB (g := gb842) (o := .cells #[.string (⟨#[]⟩ : ByteArray), .int .i64 0, .bool false, .int .i64 0, .int .u64 0, .float .f64 0, .string (⟨#[]⟩ : ByteArray), .slice none 0 0] 38 (0, 0)) (by (with_reducible repeat (first | refine blk_drewN ?_ _ | refine blk_drew ?_ | refine blk_alloc ?_ _)); exact BK842.out) k_ hn_))⟩)) (below_size (by repeat (first | (with_reducible first | exact HB.out | apply below_alloc | apply pw_below_drewN | apply below_drew1 | refine below_set ?_ GE842.out) | exact HB.out))))
           have n2_ := Aside0.mk (blk_below (g := gb842) (o := .cells #[.string (⟨#[]⟩ : ByteArray), .int .i64 0, .bool false, .int .i64 0, .int .u64 0, .float .f64 0, .string (⟨#[]⟩ : ByteArray), .slice none 0 0] 38 (0, 0)) (by (with_reducible repeat (first | refine blk_drewN ?_ _ | refine blk_drew ?_ | refine blk_alloc ?_ _)); exact BK842.out) hb)
           have n3_ := Aside0.mk (below_step (by repeat (first | (with_reducible first | exact HB.out | apply below_alloc | apply pw_below_drewN | apply below_drew1 | refine below_set ?_ GE842.out) | exact HB.out)) hb)
           clear HO884
           clear BK842
           clear HB
           have HO884 := n0_
           have HO894 := n1_
           have BK842 := n2_
           have HB := n3_
           clear n0_ n1_ n2_ n3_
           (try clear hb)
           (try clear hb2)
           (try clear hk)
           (try clear hi)
           (try clear ho0)
           obtain ⟨Ao35, co35, eo35⟩ := Kd.V_slice HO894.out
           (first | subst eo35 | (injection eo35 with f1_ f2_ f3_; have f4_ := f1_.symm; have f5_ := f3_.symm; clear f1_ f2_ f3_; subst f4_; subst f5_))
           refine hK.out _ _ ⟨((HB.out.cell (World.block_lt_of_cell? w _ hw846_0)).trans hw846_0), ((HB.out.cell (World.block_lt_of_cell? w _ hw858_0)).trans hw858_0), ((HB.out.cell (World.block_lt_of_cell? w _ hw870_0)).trans hw870_0)⟩ (fun hHeld => ?_)
           clear hK K
           refine norm_ (a' := ?_) ?_ ?_
           rotate_left
           · show Act.put _ (some 35) _ = _
             simp only [Act.put, List.setIfInBounds_toArray, List.set_cons_zero, List.set_cons_succ, i64_w, i32_w]
             rfl
           refine one_ (i := 17) (N := none) #[true, true, true, true, true, true, true, true, true, true, true, true, true, true, true, true, true, true, false] rfl rfl (one_of HT_.out (by kernel_rfl)) (by decide) (fun K hK => ?_)
           have hs28 : w27.cell? ⟨gb842, 0, none⟩ = some (.string (⟨#[]⟩ : ByteArray)) := (blk_cell BK842.out 0).trans rfl
           have hfs28 := blk_frozen BK842.out 0
           have hs29 : w27.cell? ⟨gb842, 1, none⟩ = some (.int .i64 0) := (blk_cell BK842.out 1).trans rfl
           have hfs29 := blk_frozen BK842.out 1
           have hs30 : w27.cell? ⟨gb842, 2, none⟩ = some (.bool false) := (blk_cell BK842.out 2).trans rfl
           have hfs30 := blk_frozen BK842.out 2
           have hs31 : w27.cell? ⟨gb842, 3, none⟩ = some (.int .i64 0) := (blk_cell BK842.out 3).trans rfl
           have hfs31 := blk_frozen BK842.out 3
           have hs32 : w27.cell? ⟨gb842, 4, none⟩ = some (.int .u64 0) := (blk_cell BK842.out 4).trans rfl
           have hfs32 := blk_frozen BK842.out 4
           have hs33 : w27.cell? ⟨gb842, 5, none⟩ = some (.float .f64 0) := (blk_cell BK842.out 5).trans rfl
           have hfs33 := blk_frozen BK842.out 5
           have hs34 : w27.cell? ⟨gb842, 6, none⟩ = some (.string (⟨#[]⟩ : ByteArray)) := (blk_cell BK842.out 6).trans rfl
           have hfs34 := blk_frozen BK842.out 6
           have hs36 : w27.cell? ⟨gb842, 7, none⟩ = some (.slice none 0 0) := (blk_cell BK842.out 7).trans rfl
           have hfs36 := blk_frozen BK842.out 7
           refine skip_ (w1 := ?_) (by rfl) rfl ?_ ?_
           rotate_left
           · go_simp
             rfl
           refine hK.out _ _ ⟨((cell_far (p := ⟨gb842, _, none⟩) (by first | exact Nat.ne_of_lt (Nat.lt_of_lt_of_le (by have := World.block_lt_of_cell? _ _ hw846_0; first | rwa [add_block] at this | exact this) GW842.out) | (rw [add_block]; exact Nat.ne_of_lt (Nat.lt_of_lt_of_le (by have := World.block_lt_of_cell? _ _ hw846_0; first | rwa [add_block] at this | exact this) GW842.out)) | (show (Addr.add _ _).block ≠ _; rw [add_block]; exact Nat.ne_of_lt (Nat.lt_of_lt_of_le (by have := World.block_lt_of_cell? _ _ hw846_0; first | rwa [add_block] at this | exact this) GW842.out)) | (dsimp only; exact Nat.ne_of_lt (Nat.lt_of_lt_of_le (by have := World.block_lt_of_cell? _ _ hw846_0; first | rwa [add_block] at this | exact this) GW842.out))) _).trans (((cell_far (p := ⟨gb842, _, none⟩) (by first | exact Nat.ne_of_lt (Nat.lt_of_lt_of_le (by have := World.block_lt_of_cell? _ _ hw846_0; first | rwa [add_block] at this | exact this) GW842.out) | (rw [add_block]; exact Nat.ne_of_lt (Nat.lt_of_lt_of_le (by have := World.block_lt_of_cell? _ _ hw846_0; first | rwa [add_block] at this | exact this) GW842.out)) | (show (Addr.add _ _).block ≠ _; rw [add_block]; exact Nat.ne_of_lt (Nat.lt_of_lt_of_le (by have := World.block_lt_of_cell? _ _ hw846_0; first | rwa [add_block] at this | exact this) GW842.out)) | (dsimp only; exact Nat.ne_of_lt (Nat.lt_of_lt_of_le (by have := World.block_lt_of_cell? _ _ hw846_0; first | rwa [add_block] at this | exact this) GW842.out))) _).trans (((cell_far (p := ⟨gb842, _, none⟩) (by first | exact Nat.ne_of_lt (Nat.lt_of_lt_of_le (by have := World.block_lt_of_cell? _ _ hw846_0; first | rwa [add_block] at this | exact this) GW842.out) | (rw [add_block]; exact Nat.ne_of_lt (Nat.lt_of_lt_of_le (by have := World.block_lt_of_cell? _ _ hw846_0; first | rwa [add_block] at this | exact this) GW842.out)) | (show (Addr.add _ _).block ≠ _; rw [add_block]; exact Nat.ne_of_lt (Nat.lt_of_lt_of_le (by have := World.block_lt_of_cell? _ _ hw846_0; first | rwa [add_block] at this | exact this) GW842.out)) | (dsimp only; exact Nat.ne_of_lt (Nat.lt_of_lt_of_le (by have := World.block_lt_of_cell? _ _ hw846_0; first | rwa [add_block] at this | exact this) GW842.out))) _).trans (((cell_far (p := ⟨gb842, _, none⟩) (by first | exact Nat.ne_of_lt (Nat.lt_of_lt_of_le (by have := World.block_lt_of_cell? _ _ hw846_0; first | rwa [add_block] at this | exact this) GW842.out) | (rw [add_block]; exact Nat.ne_of_lt (Nat.lt_of_lt_of_le (by have := World.block_lt_of_cell? _ _ hw846_0; first | rwa [add_block] at this | exact this) GW842.out)) | (show (Addr.add _ _).block ≠ _; rw [add_block]; exact Nat.ne_of_lt (Nat.lt_of_lt_of_le (by have := World.block_lt_of_cell? _ _ hw846_0; first | rwa [add_block] at this | exact this) GW842.out)) | (dsimp only; exact Nat.ne_of_lt (Nat.lt_of_lt_of_le (by have := World.block_lt_of_cell? _ _ hw846_0; first | rwa [add_block] at this | exact this) GW842.out))) _).trans (((cell_far (p := ⟨gb842, _, none⟩) (by first | exact Nat.ne_of_lt (Nat.lt_of_lt_of_le (by have := World.block_lt_of_cell? _ _ hw846_0; first | rwa [add_block] at this | exact this) GW842.out) | (rw [add_block]; exact Nat.ne_of_lt (Nat.lt_of_lt_of_le (by have := World.block_lt_of_cell? _ _ hw846_0; first | rwa [add_block] at this | exact this) GW842.out)) | (show (Addr.add _ _).block ≠ _; rw [add_block]; exact Nat.ne_of_lt (Nat.lt_of_lt_of_le (by have := World.block_lt_of_cell? _ _ hw846_0; first | rwa [add_block] at this | exact this) GW842.out)) | (dsimp only; exact Nat.ne_of_lt (Nat.lt_of_lt_of_le (by have := World.block_lt_of_cell? _ _ hw846_0; first | rwa [add_block] at this | exact this) GW842.out))) _).trans (((cell_far (p := ⟨gb842, _, none⟩) (by first | exact Nat.ne_of_lt (Nat.lt_of_lt_of_le (by have := World.block_lt_of_cell? _ _ hw846_0; first | rwa [add_block] at this | exact this) GW842.out) | (rw [add_block]; exact Nat.ne_of_lt (Nat.lt_of_lt_of_le (by have := World.block_lt_of_cell? _ _ hw846_0; first | rwa [add_block] at this | exact this) GW842.out)) | (show (Addr.add _ _).block ≠ _; rw [add_block]; exact Nat.ne_of_lt (Nat.lt_of_lt_of_le (by have := World.block_lt_of_cell? _ _ hw846_0; first | rwa [add_block] at this | exact this) GW842.out)) | (dsimp only; exact Nat.ne_of_lt (Nat.lt_of_lt_of_le (by have := World.block_lt_of_cell? _ _ hw846_0; first | rwa [add_block] at this | exact this) GW842.out))) _).trans (((cell_far (p := ⟨gb842, _, none⟩) (by first | exact Nat.ne_of_lt (Nat.lt_of_lt_of_le (by have := World.block_lt_of_cell? _ _ hw846_0; first | rwa [add_block] at this | exact this) GW842.out) | (rw [add_block]; exact Nat.ne_of_lt (Nat.lt_of_lt_of_le (by have := World.block_lt_of_cell? _ _ hw846_0; first | rwa [add_block] at this | exact this) GW842.out)) | (show (Addr.add _ _).block ≠ _; rw [add_block]; exact Nat.ne_of_lt (Nat.lt_of_lt_of_le (by have := World.block_lt_of_cell? _ _ hw846_0; first | rwa [add_block] at this | exact this) GW842.out)) | (dsimp only; exact Nat.ne_of_lt (Nat.lt_of_lt_of_le (by have := World.block_lt_of_cell? _ _ hw846_0; first | rwa [add_block] at this | exact this) GW842.out))) _).trans (((cell_far (p := ⟨gb842, _, none⟩) (by first | exact Nat.ne_of_lt (Nat.lt_of_lt_of_le (by have := World.block_lt_of_cell? _ _ hw846_0; first | rwa [add_block] at this | exact this) GW842.out) | (rw [add_block]; exact Nat.ne_of_lt (Nat.lt_of_lt_of_le (by have := World.block_lt_of_cell? _ _ hw846_0; first | rwa [add_block] at this | exact this) GW842.out)) | (show (Addr.add _ _).block ≠ _; rw [add_block]; exact Nat.ne_of_lt (Nat.lt_of_lt_of_le (by have := World.block_lt_of_cell? _ _ hw846_0; first | rwa [add_block] at this | exact this) GW842.out)) | (dsimp only; exact Nat.ne_of_lt (Nat.lt_of_lt_of_le (by have := World.block_lt_of_cell? _ _ hw846_0; first | rwa [add_block] at this | exact this) GW842.out))) _).trans (hHeld.1)))))))))))))))), ((cell_far (p := ⟨gb842, _, none⟩) (by first | exact Nat.ne_of_lt (Nat.lt_of_lt_of_le (by have := World.block_lt_of_cell? _ _ hw858_0; first | rwa [add_block] at this | exact this) GW842.out) | (rw [add_block]; exact Nat.ne_of_lt (Nat.lt_of_lt_of_le (by have := World.block_lt_of_cell? _ _ hw858_0; first | rwa [add_block] at this | exact this) GW842.out)) | (show (Addr.add _ _).block ≠ _; rw [add_block]; exact Nat.ne_of_lt (Nat.lt_of_lt_of_le (by have := World.block_lt_of_cell? _ _ hw858_0; first | rwa [add_block] at this | exact this) GW842.out)) | (dsimp only; exact Nat.ne_of_lt (Nat.lt_of_lt_of_le (by have := World.block_lt_of_cell? _ _ hw858_0; first | rwa [add_block] at this | exact this) GW842.out))) _).trans (((cell_far (p := ⟨gb842, _, none⟩) (by first | exact Nat.ne_of_lt (Nat.lt_of_lt_of_le (by have := World.block_lt_of_cell? _ _ hw858_0; first | rwa [add_block] at this | exact this) GW842.out) | (rw [add_block]; exact Nat.ne_of_lt (Nat.lt_of_lt_of_le (by have := World.block_lt_of_cell? _ _ hw858_0; first | rwa [add_block] at this | exact this) GW842.out)) | (show (Addr.add _ _).block ≠ _; rw [add_block]; exact Nat.ne_of_lt (Nat.lt_of_lt_of_le (by have := World.block_lt_of_cell? _ _ hw858_0; first | rwa [add_block] at this | exact this) GW842.out)) | (dsimp only; exact Nat.ne_of_lt (Nat.lt_of_lt_of_le (by have := World.block_lt_of_cell? _ _ hw858_0; first | rwa [add_block] at this | exact this) GW842.out))) _).trans (((cell_far (p := ⟨gb842, _, none⟩) (by first | exact Nat.ne_of_lt (Nat.lt_of_lt_of_le (by have := World.block_lt_of_cell? _ _ hw858_0; first | rwa [add_block] at this | exact this) GW842.out) | (rw [add_block]; exact Nat.ne_of_lt (Nat.lt_of_lt_of_le (by have := World.block_lt_of_cell? _ _ hw858_0; first | rwa [add_block] at this | exact this) GW842.out)) | (show (Addr.add _ _).block ≠ _; rw [add_block]; exact Nat.ne_of_lt (Nat.lt_of_lt_of_le (by have := World.block_lt_of_cell? _ _ hw858_0; first | rwa [add_block] at this | exact this) GW842.out)) | (dsimp only; exact Nat.ne_of_lt (Nat.lt_of_lt_of_le (by have := World.block_lt_of_cell? _ _ hw858_0; first | rwa [add_block] at this | exact this) GW842.out))) _).trans (((cell_far (p := ⟨gb842, _, none⟩) (by first | exact Nat.ne_of_lt (Nat.lt_of_lt_of_le (by have := World.block_lt_of_cell? _ _ hw858_0; first | rwa [add_block] at this | exact this) GW842.out) | (rw [add_block]; exact Nat.ne_of_lt (Nat.lt_of_lt_of_le (by have := World.block_lt_of_cell? _ _ hw858_0; first | rwa [add_block] at this | exact this) GW842.out)) | (show (Addr.add _ _).block ≠ _; rw [add_block]; exact Nat.ne_of_lt (Nat.lt_of_lt_of_le (by have := World.block_lt_of_cell? _ _ hw858_0; first | rwa [add_block] at this | exact this) GW842.out)) | (dsimp only; exact Nat.ne_of_lt (Nat.lt_of_lt_of_le (by have := World.block_lt_of_cell? _ _ hw858_0; first | rwa [add_block] at this | exact this) GW842.out))) _).trans (((cell_far (p := ⟨gb842, _, none⟩) (by first | exact Nat.ne_of_lt (Nat.lt_of_lt_of_le (by have := World.block_lt_of_cell? _ _ hw858_0; first | rwa [add_block] at this | exact this) GW842.out) | (rw [add_block]; exact Nat.ne_of_lt (Nat.lt_of_lt_of_le (by have := World.block_lt_of_cell? _ _ hw858_0; first | rwa [add_block] at this | exact this) GW842.out)) | (show (Addr.add _ _).block ≠ _; rw [add_block]; exact Nat.ne_of_lt (Nat.lt_of_lt_of_le (by have := World.block_lt_of_cell? _ _ hw858_0; first | rwa [add_block] at this | exact this) GW842.out)) | (dsimp only; exact Nat.ne_of_lt (Nat.lt_of_lt_of_le (by have := World.block_lt_of_cell? _ _ hw858_0; first | rwa [add_block] at this | exact this) GW842.out))) _).trans (((cell_far (p := ⟨gb842, _, none⟩) (by first | exact Nat.ne_of_lt (Nat.lt_of_lt_of_le (by have := World.block_lt_of_cell? _ _ hw858_0; first | rwa [add_block] at this | exact this) GW842.out) | (rw [add_block]; exact Nat.ne_of_lt (Nat.lt_of_lt_of_le (by have := World.block_lt_of_cell? _ _ hw858_0; first | rwa [add_block] at this | exact this) GW842.out)) | (show (Addr.add _ _).block ≠ _; rw [add_block]; exact Nat.ne_of_lt (Nat.lt_of_lt_of_le (by have := World.block_lt_of_cell? _ _ hw858_0; first | rwa [add_block] at this | exact this) GW842.out)) | (dsimp only; exact Nat.ne_of_lt (Nat.lt_of_lt_of_le (by have := World.block_lt_of_cell? _ _ hw858_0; first | rwa [add_block] at this | exact this) GW842.out))) _).trans (((cell_far (p := ⟨gb842, _, none⟩) (by first | exact Nat.ne_of_lt (Nat.lt_of_lt_of_le (by have := World.block_lt_of_cell? _ _ hw858_0; first | rwa [add_block] at this | exact this) GW842.out) | (rw [add_block]; exact Nat.ne_of_lt (Nat.lt_of_lt_of_le (by have := World.block_lt_of_cell? _ _ hw858_0; first | rwa [add_block] at this | exact this) GW842.out)) | (show (Addr.add _ _).block ≠ _; rw [add_block]; exact Nat.ne_of_lt (Nat.lt_of_lt_of_le (by have := World.block_lt_of_cell? _ _ hw858_0; first | rwa [add_block] at this | exact this) GW842.out)) | (dsimp only; exact Nat.ne_of_lt (Nat.lt_of_lt_of_le (by have := World.block_lt_of_cell? _ _ hw858_0; first | rwa [add_block] at this | exact this) GW842.out))) _).trans (((cell_far (p := ⟨gb842, _, none⟩) (by first | exact Nat.ne_of_lt (Nat.lt_of_lt_of_le (by have := World.block_lt_of_cell? _ _ hw858_0; first | rwa [add_block] at this | exact this) GW842.out) | (rw [add_block]; exact Nat.ne_of_lt (Nat.lt_of_lt_of_le (by have := World.block_lt_of_cell? _ _ hw858_0; first | rwa [add_block] at this | exact this) GW842.out)) | (show (Addr.add _ _).block ≠ _; rw [add_block]; exact Nat.ne_of_lt (Nat.lt_of_lt_of_le (by have := World.block_lt_of_cell? _ _ hw858_0; first | rwa [add_block] at this | exact this) GW842.out)) | (dsimp only; exact Nat.ne_of_lt (Nat.lt_of_lt_of_le (by have := World.block_lt_of_cell? _ _ hw858_0; first | rwa [add_block] at this | exact this) GW842.out))) _).trans (hHeld.2.1)))))))))))))))), ((cell_far (p := ⟨gb842, _, none⟩) (by first | exact Nat.ne_of_lt (Nat.lt_of_lt_of_le (by have := World.block_lt_of_cell? _ _ hw870_0; first | rwa [add_block] at this | exact this) GW842.out) | (rw [add_block]; exact Nat.ne_of_lt (Nat.lt_of_lt_of_le (by have := World.block_lt_of_cell? _ _ hw870_0; first | rwa [add_block] at this | exact this) GW842.out)) | (show (Addr.add _ _).block ≠ _; rw [add_block]; exact Nat.ne_of_lt (Nat.lt_of_lt_of_le (by have := World.block_lt_of_cell? _ _ hw870_0; first | rwa [add_block] at this | exact this) GW842.out)) | (dsimp only; exact Nat.ne_of_lt (Nat.lt_of_lt_of_le (by have := World.block_lt_of_cell? _ _ hw870_0; first | rwa [add_block] at this | exact this) GW842.out))) _).trans (((cell_far (p := ⟨gb842, _, none⟩) (by first | exact Nat.ne_of_lt (Nat.lt_of_lt_of_le (by have := World.block_lt_of_cell? _ _ hw870_0; first | rwa [add_block] at this | exact this) GW842.out) | (rw [add_block]; exact Nat.ne_of_lt (Nat.lt_of_lt_of_le (by have := World.block_lt_of_cell? _ _ hw870_0; first | rwa [add_block] at this | exact this) GW842.out)) | (show (Addr.add _ _).block ≠ _; rw [add_block]; exact Nat.ne_of_lt (Nat.lt_of_lt_of_le (by have := World.block_lt_of_cell? _ _ hw870_0; first | rwa [add_block] at this | exact this) GW842.out)) | (dsimp only; exact Nat.ne_of_lt (Nat.lt_of_lt_of_le (by have := World.block_lt_of_cell? _ _ hw870_0; first | rwa [add_block] at this | exact this) GW842.out))) _).trans (((cell_far (p := ⟨gb842, _, none⟩) (by first | exact Nat.ne_of_lt (Nat.lt_of_lt_of_le (by have := World.block_lt_of_cell? _ _ hw870_0; first | rwa [add_block] at this | exact this) GW842.out) | (rw [add_block]; exact Nat.ne_of_lt (Nat.lt_of_lt_of_le (by have := World.block_lt_of_cell? _ _ hw870_0; first | rwa [add_block] at this | exact this) GW842.out)) | (show (Addr.add _ _).block ≠ _; rw [add_block]; exact Nat.ne_of_lt (Nat.lt_of_lt_of_le (by have := World.block_lt_of_cell? _ _ hw870_0; first | rwa [add_block] at this | exact this) GW842.out)) | (dsimp only; exact Nat.ne_of_lt (Nat.lt_of_lt_of_le (by have := World.block_lt_of_cell? _ _ hw870_0; first | rwa [add_block] at this | exact this) GW842.out))) _).trans (((cell_far (p := ⟨gb842, _, none⟩) (by first | exact Nat.ne_of_lt (Nat.lt_of_lt_of_le (by have := World.block_lt_of_cell? _ _ hw870_0; first | rwa [add_block] at this | exact this) GW842.out) | (rw [add_block]; exact Nat.ne_of_lt (Nat.lt_of_lt_of_le (by have := World.block_lt_of_cell? _ _ hw870_0; first | rwa [add_block] at this | exact this) GW842.out)) | (show (Addr.add _ _).block ≠ _; rw [add_block]; exact Nat.ne_of_lt (Nat.lt_of_lt_of_le (by have := World.block_lt_of_cell? _ _ hw870_0; first | rwa [add_block] at this | exact this) GW842.out)) | (dsimp only; exact Nat.ne_of_lt (Nat.lt_of_lt_of_le (by have := World.block_lt_of_cell? _ _ hw870_0; first | rwa [add_block] at this | exact this) GW842.out))) _).trans (((cell_far (p := ⟨gb842, _, none⟩) (by first | exact Nat.ne_of_lt (Nat.lt_of_lt_of_le (by have := World.block_lt_of_cell? _ _ hw870_0; first | rwa [add_block] at this | exact this) GW842.out) | (rw [add_block]; exact Nat.ne_of_lt (Nat.lt_of_lt_of_le (by have := World.block_lt_of_cell? _ _ hw870_0; first | rwa [add_block] at this | exact this) GW842.out)) | (show (Addr.add _ _).block ≠ _; rw [add_block]; exact Nat.ne_of_lt (Nat.lt_of_lt_of_le (by have := World.block_lt_of_cell? _ _ hw870_0; first | rwa [add_block] at this | exact this) GW842.out)) | (dsimp only; exact Nat.ne_of_lt (Nat.lt_of_lt_of_le (by have := World.block_lt_of_cell? _ _ hw870_0; first | rwa [add_block] at this | exact this) GW842.out))) _).trans (((cell_far (p := ⟨gb842, _, none⟩) (by first | exact Nat.ne_of_lt (Nat.lt_of_lt_of_le (by have := World.block_lt_of_cell? _ _ hw870_0; first | rwa [add_block] at this | exact this) GW842.out) | (rw [add_block]; exact Nat.ne_of_lt (Nat.lt_of_lt_of_le (by have := World.block_lt_of_cell? _ _ hw870_0; first | rwa [add_block] at this | exact this) GW842.out)) | (show (Addr.add _ _).block ≠ _; rw [add_block]; exact Nat.ne_of_lt (Nat.lt_of_lt_of_le (by have := World.block_lt_of_cell? _ _ hw870_0; first | rwa [add_block] at this | exact this) GW842.out)) | (dsimp only; exact Nat.ne_of_lt (Nat.lt_of_lt_of_le (by have := World.block_lt_of_cell? _ _ hw870_0; first | rwa [add_block] at this | exact this) GW842.out))) _).trans (((cell_far (p := ⟨gb842, _, none⟩) (by first | exact Nat.ne_of_lt (Nat.lt_of_lt_of_le (by have := World.block_lt_of_cell? _ _ hw870_0; first | rwa [add_block] at this | exact this) GW842.out) | (rw [add_block]; exact Nat.ne_of_lt (Nat.lt_of_lt_of_le (by have := World.block_lt_of_cell? _ _ hw870_0; first | rwa [add_block] at this | exact this) GW842.out)) | (show (Addr.add _ _).block ≠ _; rw [add_block]; exact Nat.ne_of_lt (Nat.lt_of_lt_of_le (by have := World.block_lt_of_cell? _ _ hw870_0; first | rwa [add_block] at this | exact this) GW842.out)) | (dsimp only; exact Nat.ne_of_lt (Nat.lt_of_lt_of_le (by have := World.block_lt_of_cell? _ _ hw870_0; first | rwa [add_block] at this | exact this) GW842.out))) _).trans (((cell_far (p := ⟨gb842, _, none⟩) (by first | exact Nat.ne_of_lt (Nat.lt_of_lt_of_le (by have := World.block_lt_of_cell? _ _ hw870_0; first | rwa [add_block] at this | exact this) GW842.out) | (rw [add_block]; exact Nat.ne_of_lt (Nat.lt_of_lt_of_le (by have := World.block_lt_of_cell? _ _ hw870_0; first | rwa [add_block] at this | exact this) GW842.out)) | (show (Addr.add _ _).block ≠ _; rw [add_block]; exact Nat.ne_of_lt (Nat.lt_of_lt_of_le (by have := World.block_lt_of_cell? _ _ hw870_0; first | rwa [add_block] at this | exact this) GW842.out)) | (dsimp only; exact Nat.ne_of_lt (Nat.lt_of_lt_of_le (by have := World.block_lt_of_cell? _ _ hw870_0; first | rwa [add_block] at this | exact this) GW842.out))) _).trans (hHeld.2.2))))))))))))))))⟩ (fun hHeld => ?_)
           clear hK K
           refine pure_ (i := 18) (N := some 3) (v := ?_) (a' := ?_) #[true, true, true, true, true, true, true, true, true, true, true, true, true, true, true, true, true, true, true] rfl rfl (any_of HT_.out (by kernel_rfl)) (fun _ _ _ h => h) (Or.inl ⟨by rfl, ?_⟩) ?_ ?_
           rotate_left
           · intro w'
             go_simp
             with_reducible rfl
           rotate_left
           · simp only [Act.put, List.setIfInBounds_toArray, List.set_cons_zero, List.set_cons_succ, i64_w, i32_w]
             rfl
           refine done_ (done_of HT_.out (by kernel_rfl)) ?_
           try go_wp2
           refine bodyPost_ret (results_ct rfl _ _ gb842 38 #[.string t885, .int .i64 t886, .bool t887, .int .i64 t888, .int .u64 t889, .float .f64 t890, .string t891, .slice Ao35 t892.length co35] (0, 0) _ rfl (by (with_reducible repeat (first | refine blk_drewN ?_ _ | refine blk_drew ?_ | refine blk_alloc ?_ _)); refine blk_put (cs := #[.string t885, .int .i64 t886, .bool t887, .int .i64 t888, .int .u64 t889, .float .f64 t890, .string t891, .slice none 0 0]) ?_ 7 _ rfl; (with_reducible repeat (first | refine blk_drewN ?_ _ | refine blk_drew ?_ | refine blk_alloc ?_ _)); refine blk_put (cs := #[.string t885, .int .i64 t886, .bool t887, .int .i64 t888, .int .u64 t889, .float .f64 t890, .string (⟨#[]⟩ : ByteArray), .slice none 0 0]) ?_ 6 _ rfl; (with_reducible repeat (first | refine blk_drewN ?_ _ | refine blk_drew ?_ | refine blk_alloc ?_ _)); refine blk_put (cs := #[.string t885, .int .i64 t886, .bool t887, .int .i64 t888, .int .u64 t889, .float .f64 0, .string (⟨#[]⟩ : ByteArray), .slice none 0 0]) ?_ 5 _ rfl; (with_reducible repeat (first | refine blk_drewN ?_ _ | refine blk_drew ?_ | refine blk_alloc ?_ _)); refine blk_put (cs := #[.string t885, .int .i64 t886, .bool t887, .int .i64 t888, .int .u64 0, .float .f64 0, .string (⟨#[]⟩ : ByteArray), .slice none 0 0]) ?_ 4 _ rfl; (with_reducible repeat (first | refine blk_drewN ?_ _ | refine blk_drew ?_ | refine blk_alloc ?_ _)); refine blk_put (cs := #[.string t885, .int .i64 t886, .bool t887, .int .i64 0, .int .u64 0, .float .f64 0, .string (⟨#[]⟩ : ByteArray), .slice none 0 0]) ?_ 3 _ rfl; (with_reducible repeat (first | refine blk_drewN ?_ _ | refine blk_drew ?_ | refine blk_alloc ?_ _)); refine blk_put (cs := #[.string t885, .int .i64 t886, .bool false, .int .i64 0, .int .u64 0, .float .f64 0, .string (⟨#[]⟩ : ByteArray), .slice none 0 0]) ?_ 2 _ rfl; (with_reducible repeat (first | refine blk_drewN ?_ _ | refine blk_drew ?_ | refine blk_alloc ?_ _)); refine blk_put (cs := #[.string t885, .int .i64 0, .bool false, .int .i64 0, .int .u64 0, .float .f64 0, .string (⟨#[]⟩ : ByteArray), .slice none 0 0]) ?_ 1 _ rfl; (with_reducible repeat (first | refine blk_drewN ?_ _ | refine blk_drew ?_ | refine blk_alloc ?_ _)); refine blk_put (cs := #[.string (⟨#[]⟩ : ByteArray), .int .i64 0, .bool false, .int .i64 0, .int .u64 0, .float .f64 0, .string (⟨#[]⟩ : ByteArray), .slice none 0 0]) ?_ 0 _ rfl; (with_reducible repeat (first | refine blk_drewN ?_ _ | refine blk_drew ?_ | refine blk_alloc ?_ _)); exact BK842.out) Tryz.underlying38 rfl (by kernel_rfl)) rfl ?_
           exact ⟨_, by first | rfl | (simp [errW_none, errW_some] <;> rfl) | (simp [*, errW_none, errW_some] <;> rfl), by (with_reducible repeat (first | apply Kd.V_alloc | apply Kd.V_drewN | apply Kd.V_drew)); exact Kd.V_mono (Kd.V_far (p := ⟨gb842, 7, none⟩) (Kd.V_far (p := ⟨gb842, 6, none⟩) (Kd.V_far (p := ⟨gb842, 5, none⟩) (Kd.V_far (p := ⟨gb842, 4, none⟩) (Kd.V_far (p := ⟨gb842, 3, none⟩) (Kd.V_far (p := ⟨gb842, 2, none⟩) (Kd.V_far (p := ⟨gb842, 1, none⟩) (Kd.V_far (p := ⟨gb842, 0, none⟩) (Kd.V_mono HO894.out (fun k_ hk => (⟨hk, hk.2⟩ : _ ∧ k_ ≠ gb842))) (fun _ hk => hk.2) (.string t885)) (fun _ hk => hk.2) (.int .i64 t886)) (fun _ hk => hk.2) (.bool t887)) (fun _ hk => hk.2) (.int .i64 t888)) (fun _ hk => hk.2) (.int .u64 t889)) (fun _ hk => hk.2) (.float .f64 t890)) (fun _ hk => hk.2) (.string t891)) (fun _ hk => hk.2) (.slice Ao35 t892.length co35)) (fun _ hk => hk.1.1), by repeat (first | (with_reducible first | exact HB.out | apply below_alloc | apply pw_below_drewN | apply below_drew1 | refine below_set ?_ GE842.out) | exact HB.out)⟩
         · rw [if_neg c11] at H
           exact absurd H (by simp)
       · rw [if_neg c8] at H
         exact absurd H (by simp)
     · rw [if_neg c5] at H
       exact absurd H (by simp)
   · rw [if_neg c4] at H
     exact absurd H (by simp)
 · rw [if_neg c3] at H
   have c3b0 : (t844 == 1) = false := beq_eq_false_iff_ne.mpr c3
   have c3b1 : (t844 != 1) = true := bne_iff_ne.mpr c3
   simp only [Option.some.injEq, Prod.mk.injEq] at H
   obtain ⟨rfl, rfl, rfl, rfl, rfl, rfl, rfl, rfl, rfl⟩ := H
   go_enter Tryz.func11, Tryz.ntmps11
   go_wp2_with (first | ((with_reducible refine gate_dst (N := 2) rfl ?_); refine box_event ?hg (N := 2) ?hd (cs := #[.string (⟨#[]⟩ : ByteArray), .int .i64 0, .bool false, .int .i64 0, .int .u64 0, .float .f64 0, .string (⟨#[]⟩ : ByteArray), .slice none 0 0]) (t := 38) ?hr ?_; (case hd => rfl); (case hg => rfl); (case hr => first | (go_simp; done) | (go_simp; rfl)); intro gb842 hg w37 hbox hb; have n0_ := Aside0.mk (below_step (by repeat (first | (with_reducible first | exact HB.out | apply below_alloc | apply pw_below_drewN | apply below_drew1) | exact HB.out)) hb); have n1_ := Aside0.mk (hbox); have n2_ := Aside0.mk ((by rw [hg]; exact (below_size (by repeat (first | (with_reducible first | exact HB.out | apply below_alloc | apply pw_below_drewN | apply below_drew1) | exact HB.out))) : w.heap.size ≤ gb842)); have n3_ := Aside0.mk ((by rw [hg]; exact (below_size (by repeat (first | (with_reducible first | exact HB.out | apply below_alloc | apply pw_below_drewN | apply below_drew1) | exact HB.out))) : w.heap.size ≤ gb842)); clear HB; have HB := n0_; have BK842 := n1_; have GW842 := n2_; have GE842 := n3_; clear n0_ n1_ n2_ n3_; clear hb hbox hg) | ((with_reducible refine gate_callee (f := 37) rfl ?_); refine goesL_ (some 9) rfl rfl Tryz.func37 (by kernel_rfl) rfl #[.slice A0 l0.length c0] rfl (by (try simp only [List.map_toArray, List.map_cons, List.map_nil]); first | done | rfl | (simp only [List.length_drop, List.length_take]; rfl)) ?_; (with_reducible refine (spec_LoadavgPrint.calls k _ _ l0 t843 t844 _ ?side1 ?side2 A2.out).mono ?_); (case side1 => repeat (first | exact (Kd.C_below HR0.out HB.out) | (with_reducible refine Kd.C_alloc ?_ _) | (with_reducible refine Kd.C_drewN ?_ _) | (with_reducible refine Kd.C_drew ?_))); (case side2 => exact HC0.out); rintro e w38 ⟨rfl, hb⟩; refine ⟨_, rfl, ?_⟩; have n0_ := Aside0.mk (blk_below (g := gb842) (o := .cells #[.string (⟨#[]⟩ : ByteArray), .int .i64 0, .bool false, .int .i64 0, .int .u64 0, .float .f64 0, .string (⟨#[]⟩ : ByteArray), .slice none 0 0] 38 (0, 0)) (by (with_reducible repeat (first | refine blk_drewN ?_ _ | refine blk_drew ?_ | refine blk_alloc ?_ _)); exact BK842.out) hb); have n1_ := Aside0.mk (below_step (by repeat (first | (with_reducible first | exact HB.out | apply below_alloc | apply pw_below_drewN | apply below_drew1 | refine below_set ?_ GE842.out) | exact HB.out)) hb); clear BK842; clear HB; have BK842 := n0_; have HB := n1_; clear n0_ n1_; (try clear hb); (try clear hb2); (try clear hk); (try clear hi); have hcz39_0 : w38.cell? ⟨gb842, 0, none⟩ = some (.string (⟨#[]⟩ : ByteArray)) := (blk_cell BK842.out 0).trans rfl; have hcz39_1 : w38.cell? ⟨gb842, 1, none⟩ = some (.int .i64 0) := (blk_cell BK842.out 1).trans rfl; have hcz39_2 : w38.cell? ⟨gb842, 2, none⟩ = some (.bool false) := (blk_cell BK842.out 2).trans rfl; have hcz39_3 : w38.cell? ⟨gb842, 3, none⟩ = some (.int .i64 0) := (blk_cell BK842.out 3).trans rfl; have hcz39_4 : w38.cell? ⟨gb842, 4, none⟩ = some (.int .u64 0) := (blk_cell BK842.out 4).trans rfl; have hcz39_5 : w38.cell? ⟨gb842, 5, none⟩ = some (.float .f64 0) := (blk_cell BK842.out 5).trans rfl; have hcz39_6 : w38.cell? ⟨gb842, 6, none⟩ = some (.string (⟨#[]⟩ : ByteArray)) := (blk_cell BK842.out 6).trans rfl; have hcz39_7 : w38.cell? ⟨gb842, 7, none⟩ = some (.slice none 0 0) := (blk_cell BK842.out 7).trans rfl; have hfz39_0 := blk_frozen BK842.out 0; have hfz39_1 := blk_frozen BK842.out 1; have hfz39_2 := blk_frozen BK842.out 2; have hfz39_3 := blk_frozen BK842.out 3; have hfz39_4 := blk_frozen BK842.out 4; have hfz39_5 := blk_frozen BK842.out 5; have hfz39_6 := blk_frozen BK842.out 6; have hfz39_7 := blk_frozen BK842.out 7))
   refine bodyPost_ret (results_ct rfl _ _ gb842 38 #[.string (⟨#[]⟩ : ByteArray), .int .i64 0, .bool false, .int .i64 0, .int .u64 0, .float .f64 0, .string (⟨#[]⟩ : ByteArray), .slice none 0 0] (0, 0) _ rfl (by (with_reducible repeat (first | refine blk_drewN ?_ _ | refine blk_drew ?_ | refine blk_alloc ?_ _)); refine blk_put (cs := #[.string (⟨#[]⟩ : ByteArray), .int .i64 0, .bool false, .int .i64 0, .int .u64 0, .float .f64 0, .string (⟨#[]⟩ : ByteArray), .slice none 0 0]) ?_ 7 _ rfl; (with_reducible repeat (first | refine blk_drewN ?_ _ | refine blk_drew ?_ | refine blk_alloc ?_ _)); refine blk_put (cs := #[.string (⟨#[]⟩ : ByteArray), .int .i64 0, .bool false, .int .i64 0, .int .u64 0, .float .f64 0, .string (⟨#[]⟩ : ByteArray), .slice none 0 0]) ?_ 6 _ rfl; (with_reducible repeat (first | refine blk_drewN ?_ _ | refine blk_drew ?_ | refine blk_alloc ?_ _)); refine blk_put (cs := #[.string (⟨#[]⟩ : ByteArray), .int .i64 0, .bool false, .int .i64 0, .int .u64 0, .float .f64 0, .string (⟨#[]⟩ : ByteArray), .slice none 0 0]) ?_ 5 _ rfl; (with_reducible repeat (first | refine blk_drewN ?_ _ | refine blk_drew ?_ | refine blk_alloc ?_ _)); refine blk_put (cs := #[.string (⟨#[]⟩ : ByteArray), .int .i64 0, .bool false, .int .i64 0, .int .u64 0, .float .f64 0, .string (⟨#[]⟩ : ByteArray), .slice none 0 0]) ?_ 4 _ rfl; (with_reducible repeat (first | refine blk_drewN ?_ _ | refine blk_drew ?_ | refine blk_alloc ?_ _)); refine blk_put (cs := #[.string (⟨#[]⟩ : ByteArray), .int .i64 0, .bool false, .int .i64 0, .int .u64 0, .float .f64 0, .string (⟨#[]⟩ : ByteArray), .slice none 0 0]) ?_ 3 _ rfl; (with_reducible repeat (first | refine blk_drewN ?_ _ | refine blk_drew ?_ | refine blk_alloc ?_ _)); refine blk_put (cs := #[.string (⟨#[]⟩ : ByteArray), .int .i64 0, .bool false, .int .i64 0, .int .u64 0, .float .f64 0, .string (⟨#[]⟩ : ByteArray), .slice none 0 0]) ?_ 2 _ rfl; (with_reducible repeat (first | refine blk_drewN ?_ _ | refine blk_drew ?_ | refine blk_alloc ?_ _)); refine blk_put (cs := #[.string (⟨#[]⟩ : ByteArray), .int .i64 0, .bool false, .int .i64 0, .int .u64 0, .float .f64 0, .string (⟨#[]⟩ : ByteArray), .slice none 0 0]) ?_ 1 _ rfl; (with_reducible repeat (first | refine blk_drewN ?_ _ | refine blk_drew ?_ | refine blk_alloc ?_ _)); refine blk_put (cs := #[.string (⟨#[]⟩ : ByteArray), .int .i64 0, .bool false, .int .i64 0, .int .u64 0, .float .f64 0, .string (⟨#[]⟩ : ByteArray), .slice none 0 0]) ?_ 0 _ rfl; (with_reducible repeat (first | refine blk_drewN ?_ _ | refine blk_drew ?_ | refine blk_alloc ?_ _)); exact BK842.out) Tryz.underlying38 rfl (by kernel_rfl)) rfl ?_
   exact ⟨_, by first | rfl | (simp [errW_none, errW_some] <;> rfl) | (simp [*, errW_none, errW_some] <;> rfl), (by first | exact Kd.V_nil _ _ _ _ _ | exact Kd.N_V (by first | exact Kd.R_nil _ _ _ _ _ | exact Kd.N_nil _ _ _ _ _ | exact Kd.V_nil _ _ _ _ _ | exact Kd.Q_nil _ _ _ _ _ | exact Kd.S_nil _ _ _ _ _)), by repeat (first | (with_reducible first | exact HB.out | apply below_alloc | apply pw_below_drewN | apply below_drew1 | refine below_set ?_ GE842.out) | exact HB.out)⟩
def impl_Loadavg.f (a0 : ByteArray) : Option (ByteArray × Int × Bool × Int × Int × Nat × ByteArray × (List (S34)) × Int) := (R.loadsOf a0).bind fun q => (impl_procfsLoadAvg.f ⟨#[]⟩ q.1 q.2.1 q.2.2).map fun x => (x.1, x.2.1, x.2.2.1, x.2.2.2.1, x.2.2.2.2.1, x.2.2.2.2.2.1, x.2.2.2.2.2.2.1, x.2.2.2.2.2.2.2, 0)
theorem impl_Loadavg.calls (a0 : ByteArray) (r1 : ByteArray) (r2 : Int) (r3 : Bool) (r4 : Int) (r5 : Int) (r6 : Nat) (r7 : ByteArray) (r8 : List (S34)) (r9 : Int) (w : World) (h : impl_Loadavg.f a0 = some (r1, r2, r3, r4, r5, r6, r7, r8, r9)) (ht : R.LTabs w := by first | assumption | exact Aside0.out ‹Aside0 (R.LTabs _)› | exact R.LTabs.below (Aside0.out ‹Aside0 (R.LTabs _)›) (by repeat (first | (with_reducible first | exact Aside0.out ‹Aside0 (Below _ _ _)› | exact Below.refl _ _ | apply below_alloc | apply pw_below_drewN | apply below_drew1)))) :
 Calls Tryz.prog 12 #[.string a0] w fun e w' => ∃ v7_ : Value, e = .returned (.tuple #[.agg #[.string r1, .int .i64 r2, .bool r3, .int .i64 r4, .int .u64 r5, .float .f64 r6, .string r7, v7_], .int .i64 r9]) ∧ Kd.R k34 34 w' w.heap.size (fun _ => True) v7_ r8 ∧ Below w.heap.size w w' := by
 unfold impl_Loadavg.f at h
 obtain ⟨q, hq, h⟩ := Option.bind_eq_some_iff.mp h
 obtain ⟨⟨x1, x2, x3, x4, x5, x6, x7, x8⟩, hx, h⟩ := Option.map_eq_some_iff.1 h
 simp only [Prod.mk.injEq] at h
 obtain ⟨rfl, rfl, rfl, rfl, rfl, rfl, rfl, rfl, rfl⟩ := h
 refine (R.loadavg_ok a0 q.1 q.2.1 q.2.2 (R.loads_of a0 q hq) w ht ⟨x1, x2, x3, x4, x5, x6, x7, x8⟩ hx).mono ?_
 rintro e w' ⟨_, rfl, ⟨v7, rfl, hR⟩, hb⟩
 exact ⟨v7, rfl, hR, hb⟩
end Go.Proofs.YtabfehcpcjcomaaGreatDoor.QA0
