/- The texts QA0x10, QA0x11, QA0x12, QA0x13, QA0x14, QA0x18, QA0x24, without what the claims do not use, laid together by a program of this session (wip/tools/bundle.py). Conditions: those of each theorem. -/
import Derived.Test.YtabfehcpcjcomaaGreatDoorRc2
namespace Go.Proofs.YtabfehcpcjcomaaGreatDoor.QA0
open Go.RowKit Go.Proofs.YtabfehcpcjcomaaGreatDoorW.PrintWords Go.Proofs.YtabfehcpcjcomaaGreatDoorW.PrintLast Go.Proofs.YtabfehcpcjcomaaGreatDoorW.PrintMore
attribute [local go_sem] max2_int min2_int max_two min_two max_three min_three max_four min_four
set_option linter.unusedVariables false
set_option linter.unusedSimpArgs false
mutual
def spec_Fields.l0 : Nat → ByteArray → List ByteArray → Int → Int → Int → Option (List ByteArray)
 | 0, _, _, _, _, _ => none
 | k + 1, x0, x3, x4, x8, x9 => if x9 < x8 then (if 0 ≤ x9 then (if x9 < (x0.size : Int) then (if (bt x0 x9) = 32 then (spec_Fields.j1 k x0 x3 x4 x9 true x8 x9) else (spec_Fields.j1 k x0 x3 x4 x9 ((bt x0 x9) == 9) x8 x9)) else (none)) else (none)) else (if x4 ≥ 0 then (if 0 ≤ x4 then (if x4 ≤ (x0.size : Int) then (if x3.length < 8796093022208 then (some (x3 ++ [x0.extract (x4 : Int).toNat x0.size])) else (none)) else (none)) else (none)) else (some x3))
def spec_Fields.j1 : Nat → ByteArray → List ByteArray → Int → Int → Bool → Int → Int → Option (List ByteArray)
 | 0, _, _, _, _, _, _, _ => none
 | k + 1, x0, x3, x4, x5, x6, x8, x9 => if x6 = true then (spec_Fields.j2 k x0 x3 x4 x5 x6 x8 x9 (decide (x4 ≥ 0))) else (spec_Fields.j2 k x0 x3 x4 x5 x6 x8 x9 false)
def spec_Fields.j2 : Nat → ByteArray → List ByteArray → Int → Int → Bool → Int → Int → Bool → Option (List ByteArray)
 | 0, _, _, _, _, _, _, _, _ => none
 | k + 1, x0, x3, x4, x5, x6, x8, x9, x22 => if x22 = true then (if 0 ≤ x4 then (if x4 ≤ x5 then (if x5 ≤ (x0.size : Int) then (if x3.length < 8796093022208 then (spec_Fields.l0 k x0 (x3 ++ [x0.extract (x4 : Int).toNat (x5 : Int).toNat]) (-1) x8 (wrap64 (x9 + 1))) else (none)) else (none)) else (none)) else (none)) else (if x6 = true then (spec_Fields.l0 k x0 x3 x4 x8 (wrap64 (x9 + 1))) else (if x4 < 0 then (spec_Fields.l0 k x0 x3 x5 x8 (wrap64 (x9 + 1))) else (spec_Fields.l0 k x0 x3 x4 x8 (wrap64 (x9 + 1)))))
end
def spec_Fields.f (k : Nat) (a0 : ByteArray) : Option (List ByteArray) := spec_Fields.l0 k a0 ([] : List ByteArray) (-1) (a0.size : Int) 0
set_option maxHeartbeats 8000000 in
set_option maxRecDepth 100000 in
theorem spec_Fields.calls (k : Nat) (a0 : ByteArray) (r : List ByteArray) (w : World) (h : spec_Fields.f k a0 = some r) :
 Calls Tryz.prog 31 #[.string a0] w fun e w' => ∃ v0_ : Value, e = .returned (v0_) ∧ Kd.R Kd.string 9 w' w.heap.size (fun _ => True) v0_ r ∧ Below w.heap.size w w' := by
 have HB := Aside0.mk (Below.refl w.heap.size w); have H : (spec_Fields.l0 k a0 ([] : List ByteArray) (-1) (a0.size : Int) 0) = some r := h; clear h; have H' := Aside0.mk H; clear H
 go_enter Tryz.func31, Tryz.ntmps31
 go_wp2
 go_loopg [3, 4, 9] k (fun kq v3 v4 v9 w' => ∃ (x3_1 : List ByteArray) (x4_1 : Int) (x9_1 : Int), v4 = .int .i64 x4_1 ∧ v9 = .int .i64 x9_1 ∧ Aside0 (spec_Fields.l0 kq a0 x3_1 x4_1 (a0.size : Int) x9_1 = some r) ∧ Aside0 (kq ≤ k) ∧ Aside0 (Kd.R Kd.string 9 w' w.heap.size (fun _ => True) v3 x3_1) ∧ Aside0 (Below w.heap.size w w'))
 case atStart => exact ⟨(([] : List ByteArray)), ((-1)), (0), (by first | rfl | (simp; done) | (simp [*]; done)), (by first | rfl | (simp; done) | (simp [*]; done)), H', ⟨Nat.le_refl _⟩, ⟨by first | exact Kd.R_nil _ _ _ _ _ | exact Kd.N_nil _ _ _ _ _ | exact Kd.V_nil _ _ _ _ _ | exact Kd.Q_nil _ _ _ _ _ | exact Kd.S_nil _ _ _ _ _⟩, ⟨by repeat (first | (with_reducible first | exact HB.out | apply below_alloc | apply pw_below_drewN | apply below_drew1) | exact HB.out)⟩⟩
 case round =>
  clear H'; obtain ⟨x3_1, x4_1, x9_1, rfl, rfl, HA, HK1, HO_3, HB⟩ := hrel; cases gk with
  | zero => exact absurd HA.out (by simp [spec_Fields.l0])
  | succ k1 =>
   have H := HA.out; clear HA; simp only [spec_Fields.l0] at H
   by_cases c2 : x9_1 < (a0.size : Int)
   · rw [if_pos c2] at H; have c2b0 : decide (x9_1 < (a0.size : Int)) = true := decide_eq_true c2; clear c2; have HC3 := Aside0.mk H; clear H
     go_upto_region 6 with (fail)
     go_cut [6] (fun v6 wc => ∃ (kq : Nat) (x6_2 : Bool), v6 = .bool x6_2 ∧ Aside0 (spec_Fields.j1 kq a0 x3_1 x4_1 x9_1 x6_2 (a0.size : Int) x9_1 = some r) ∧ Aside0 (kq ≤ k1) ∧ Aside0 (Kd.R Kd.string 9 wc w.heap.size (fun _ => True) u3 x3_1) ∧ Aside0 (Below w.heap.size w wc))
     case first =>
      have H := HC3.out; clear HC3
      by_cases c4 : 0 ≤ x9_1
      · rw [if_pos c4] at H; have c4b0 : decide (0 ≤ x9_1) = true := decide_eq_true c4; clear c4; (first | rw [c4b0] | (simp only [i64_w, i32_w]; rw [c4b0]) | skip)
        by_cases c5 : x9_1 < (a0.size : Int)
        · rw [if_pos c5] at H; have c5b0 : decide (x9_1 < (a0.size : Int)) = true := decide_eq_true c5; clear c5
          by_cases c7 : (bt a0 x9_1) = 32
          · rw [if_pos c7] at H; have c7b0 : ((bt a0 x9_1) == 32) = true := beq_iff_eq.mpr c7; have c7b1 : ((bt a0 x9_1) != 32) = false := bne_eq_false_iff_eq.mpr c7; clear c7; have H' := Aside0.mk H; clear H; have p6 : 0 ≤ (x9_1 : Int) := of_decide_eq_true (by first | (with_reducible assumption) | assumption); have q6 : x9_1 < (a0.size : Int) := of_decide_eq_true (by first | (with_reducible assumption) | assumption); have hx6 := bt_at a0 x9_1; replace p6 := eq_true p6; replace q6 := eq_true q6; go_wp2
            go_meet
            case rel => exact ⟨_, (true), (by first | rfl | (simp; done) | (simp [*]; done)), H', ⟨by have := HK1.out; first | omega | exact Nat.le_refl _⟩, ⟨by (with_reducible repeat (first | apply Kd.R_alloc | apply Kd.R_drewN | apply Kd.R_drew)); exact HO_3.out⟩, ⟨by repeat (first | (with_reducible first | exact HB.out | apply below_alloc | apply pw_below_drewN | apply below_drew1) | exact HB.out)⟩⟩
          · rw [if_neg c7] at H; have c7b0 : ((bt a0 x9_1) == 32) = false := beq_eq_false_iff_ne.mpr c7; have c7b1 : ((bt a0 x9_1) != 32) = true := bne_iff_ne.mpr c7; have H' := Aside0.mk H; clear H; have p6 : 0 ≤ (x9_1 : Int) := of_decide_eq_true (by first | (with_reducible assumption) | assumption); have q6 : x9_1 < (a0.size : Int) := of_decide_eq_true (by first | (with_reducible assumption) | assumption); have hx6 := bt_at a0 x9_1; replace p6 := eq_true p6; replace q6 := eq_true q6; have p8 : 0 ≤ (x9_1 : Int) := of_decide_eq_true (by first | (with_reducible assumption) | assumption); have q8 : x9_1 < (a0.size : Int) := of_decide_eq_true (by first | (with_reducible assumption) | assumption); have hx8 := bt_at a0 x9_1; replace p8 := eq_true p8; replace q8 := eq_true q8; go_wp2
            go_meet
            case rel => exact ⟨_, (((bt a0 x9_1) == 9)), (by first | rfl | (simp; done) | (simp [*]; done)), H', ⟨by have := HK1.out; first | omega | exact Nat.le_refl _⟩, ⟨by (with_reducible repeat (first | apply Kd.R_alloc | apply Kd.R_drewN | apply Kd.R_drew)); exact HO_3.out⟩, ⟨by repeat (first | (with_reducible first | exact HB.out | apply below_alloc | apply pw_below_drewN | apply below_drew1) | exact HB.out)⟩⟩
        · rw [if_neg c5] at H; exact absurd H (by simp)
      · rw [if_neg c4] at H; exact absurd H (by simp)
     case rest =>
      clear HC3; try clear c2
      try clear c2b0
      try clear p2
      try clear c3
      try clear c4
      try clear c4b0
      try clear c5
      try clear c5b0
      try clear p6
      try clear q6
      try clear hx6
      try clear c7
      try clear c7b0
      try clear c7b1
      try clear p8
      try clear q8
      try clear hx8
      try clear p6
      try clear p8
      try clear q6
      try clear q8
      obtain ⟨kq, x6_2, rfl, HA, HJ2, HO_3, HB⟩ := hcut; cases kq with
      | zero => exact absurd HA.out (by simp [spec_Fields.j1])
      | succ kj2 =>
       have H := HA.out; clear HA; simp only [spec_Fields.j1] at H; have HC9 := Aside0.mk H; clear H
       go_upto_region 7 with (fail)
       go_cut [22] (fun v22 wc => ∃ (kq : Nat) (x22_8 : Bool), v22 = .bool x22_8 ∧ Aside0 (spec_Fields.j2 kq a0 x3_1 x4_1 x9_1 x6_2 (a0.size : Int) x9_1 x22_8 = some r) ∧ Aside0 (kq ≤ kj2) ∧ Aside0 (Kd.R Kd.string 9 wc w.heap.size (fun _ => True) u3 x3_1) ∧ Aside0 (Below w.heap.size w wc))
       case first =>
        have H := HC9.out; clear HC9
        by_cases c10 : x6_2 = true
        · subst c10
          have H1 : (spec_Fields.j2 kj2 a0 x3_1 x4_1 x9_1 true (a0.size : Int) x9_1 (decide (x4_1 ≥ 0))) = some r := by rw [if_pos rfl] at H; exact H
          clear H; have H := H1; clear H1; have H' := Aside0.mk H; clear H; go_wp2
          go_meet
          case rel => exact ⟨_, (decide (x4_1 ≥ 0)), (by first | rfl | (simp; done) | (simp [*]; done)), H', ⟨by have := HK1.out; have := HJ2.out; first | omega | exact Nat.le_refl _⟩, ⟨by (with_reducible repeat (first | apply Kd.R_alloc | apply Kd.R_drewN | apply Kd.R_drew)); exact HO_3.out⟩, ⟨by repeat (first | (with_reducible first | exact HB.out | apply below_alloc | apply pw_below_drewN | apply below_drew1) | exact HB.out)⟩⟩
        · replace c10 := Bool.eq_false_iff.mpr c10; subst c10
          have H1 : (spec_Fields.j2 kj2 a0 x3_1 x4_1 x9_1 false (a0.size : Int) x9_1 false) = some r := by rw [if_neg (show ¬ (false = true) by decide)] at H; exact H
          clear H; have H := H1; clear H1; have H' := Aside0.mk H; clear H; go_wp2
          go_meet
          case rel => exact ⟨_, (false), (by first | rfl | (simp; done) | (simp [*]; done)), H', ⟨by have := HK1.out; have := HJ2.out; first | omega | exact Nat.le_refl _⟩, ⟨by (with_reducible repeat (first | apply Kd.R_alloc | apply Kd.R_drewN | apply Kd.R_drew)); exact HO_3.out⟩, ⟨by repeat (first | (with_reducible first | exact HB.out | apply below_alloc | apply pw_below_drewN | apply below_drew1) | exact HB.out)⟩⟩
       case rest =>
        clear HC9; try clear c1
        try clear c2
        try clear c2b0
        try clear p2
        try clear c3
        try clear c4
        try clear c4b0
        try clear c5
        try clear c5b0
        try clear p6
        try clear q6
        try clear hx6
        try clear c7
        try clear c7b0
        try clear c7b1
        try clear p8
        try clear q8
        try clear hx8
        try clear c10
        try clear p2
        try clear p6
        try clear p8
        try clear q6
        try clear q8
        obtain ⟨kq, x22_8, rfl, HA, HJ8, HO_3, HB⟩ := hcut; cases kq with
        | zero => exact absurd HA.out (by simp [spec_Fields.j2])
        | succ kj8 =>
         have H := HA.out; clear HA; simp only [spec_Fields.j2] at H
         by_cases c11 : x22_8 = true
         · subst c11; rw [if_pos rfl] at H; have H1 := H; clear H; have H := H1; clear H1
           by_cases c12 : 0 ≤ x4_1
           · rw [if_pos c12] at H; have c12b0 := eq_true c12; have c12b1 : decide (0 ≤ x4_1) = true := decide_eq_true c12; clear c12
             by_cases c13 : x4_1 ≤ x9_1
             · rw [if_pos c13] at H; have c13b0 := eq_true c13; have c13b1 : decide (x4_1 ≤ x9_1) = true := decide_eq_true c13; clear c13
               by_cases c14 : x9_1 ≤ (a0.size : Int)
               · rw [if_pos c14] at H; have c14b0 := eq_true c14; have c14b1 : decide (x9_1 ≤ (a0.size : Int)) = true := decide_eq_true c14; clear c14
                 by_cases c15 : x3_1.length < 8796093022208
                 · rw [if_pos c15] at H; have LMc15 := Aside0.mk c15; clear c15; obtain ⟨y554, hy554⟩ : ∃ y_ : List ByteArray, y_ = (x3_1 ++ [a0.extract (x4_1 : Int).toNat (x9_1 : Int).toNat]) := ⟨_, rfl⟩
                   replace H : (spec_Fields.l0 kj8 a0 y554 (-1) (a0.size : Int) (wrap64 (x9_1 + 1))) = some r := by first | (rw [hy554]; with_reducible exact H) | (have H2_ := (Option.bind_some _ _).symm.trans H; rw [hy554]; with_reducible exact H2_) | (have H2_ := (Option.bind_some _ _).symm.trans H; with_reducible exact H2_) | with_reducible exact H | (rw [hy554]; exact H) | exact H
                   have Ny554 := Aside0.mk hy554; clear hy554; have H' := Aside0.mk H; clear H
                   go_wp2_with (first | ((with_reducible refine gate_builtin (b := .append) (xs := #[.tmp 28, .tmp 33]) rfl ?_); at_builtin; refine Kd.R_append Kd.string (w0 := w) w.heap.size rfl (.tmp 28) (.tmp 33) 42 9 (.string ⟨#[]⟩) 16 rfl Tryz.underlying42 info9 rfl (by decide) (by omega) u3 x3_1 (a0.extract (x4_1 : Int).toNat (x9_1 : Int).toNat) [.string (a0.extract (x4_1 : Int).toNat (x9_1 : Int).toNat)] (fun _ => True) (fun _ => False) rfl rfl ?aP (fun _ hk => hk.elim) ?aF ?aO ?aB ?aS ?aL ?_; (case aP => exact rfl); (case aB => exact (by repeat (first | (with_reducible first | exact HB.out | apply below_alloc | apply pw_below_drewN | apply below_drew1) | exact HB.out))); (case aF => exact (fun _ _ => trivial)); (case aO => exact (by (with_reducible repeat (first | apply Kd.R_alloc | apply Kd.R_drewN | apply Kd.R_drew)); exact HO_3.out)); (case aS => exact (below_size (by repeat (first | (with_reducible first | exact HB.out | apply below_alloc | apply pw_below_drewN | apply below_drew1) | exact HB.out)))); (case aL => have := LMc15.out; omega); intro v555 w16 ho hb hg hat; rw [← Ny554.out] at ho; have n0_ := Aside0.mk (hb); have n1_ := Aside0.mk (ho); clear HB; clear HO_3; have HB := n0_; have HO556 := n1_; clear n0_ n1_; clear ho hb hg hat))
                   go_roundg kj8
                   case measure => have := HK1.out; have := HJ2.out; have := HJ8.out; omega
                   case rel => exact ⟨(y554), ((-1)), (wrap64 (x9_1 + 1)), (by first | rfl | (simp; done) | (simp [*]; done)), (by first | rfl | (simp; done) | (simp [*]; done)), H', ⟨by have := HK1.out; have := HJ2.out; have := HJ8.out; omega⟩, ⟨by (with_reducible repeat (first | apply Kd.R_alloc | apply Kd.R_drewN | apply Kd.R_drew)); exact HO556.out⟩, ⟨by repeat (first | (with_reducible first | exact HB.out | apply below_alloc | apply pw_below_drewN | apply below_drew1) | exact HB.out)⟩⟩
                 · rw [if_neg c15] at H; exact absurd H (by simp)
               · rw [if_neg c14] at H; exact absurd H (by simp)
             · rw [if_neg c13] at H; exact absurd H (by simp)
           · rw [if_neg c12] at H; exact absurd H (by simp)
         · replace c11 := Bool.eq_false_iff.mpr c11; subst c11
           have H1 : (if x6_2 = true then (spec_Fields.l0 kj8 a0 x3_1 x4_1 (a0.size : Int) (wrap64 (x9_1 + 1))) else (if x4_1 < 0 then (spec_Fields.l0 kj8 a0 x3_1 x9_1 (a0.size : Int) (wrap64 (x9_1 + 1))) else (spec_Fields.l0 kj8 a0 x3_1 x4_1 (a0.size : Int) (wrap64 (x9_1 + 1))))) = some r := by rw [if_neg (show ¬ (false = true) by decide)] at H; exact H
           clear H; have H := H1; clear H1
           by_cases c17 : x6_2 = true
           · subst c17
             have H1 : (spec_Fields.l0 kj8 a0 x3_1 x4_1 (a0.size : Int) (wrap64 (x9_1 + 1))) = some r := by rw [if_pos rfl] at H; exact H
             clear H; have H := H1; clear H1; have H' := Aside0.mk H; clear H; go_wp2
             go_roundg kj8
             case measure => have := HK1.out; have := HJ2.out; have := HJ8.out; omega
             case rel => exact ⟨(x3_1), (x4_1), (wrap64 (x9_1 + 1)), (by first | rfl | (simp; done) | (simp [*]; done)), (by first | rfl | (simp; done) | (simp [*]; done)), H', ⟨by have := HK1.out; have := HJ2.out; have := HJ8.out; omega⟩, ⟨by (with_reducible repeat (first | apply Kd.R_alloc | apply Kd.R_drewN | apply Kd.R_drew)); exact HO_3.out⟩, ⟨by repeat (first | (with_reducible first | exact HB.out | apply below_alloc | apply pw_below_drewN | apply below_drew1) | exact HB.out)⟩⟩
           · replace c17 := Bool.eq_false_iff.mpr c17; subst c17
             have H1 : (if x4_1 < 0 then (spec_Fields.l0 kj8 a0 x3_1 x9_1 (a0.size : Int) (wrap64 (x9_1 + 1))) else (spec_Fields.l0 kj8 a0 x3_1 x4_1 (a0.size : Int) (wrap64 (x9_1 + 1)))) = some r := by rw [if_neg (show ¬ (false = true) by decide)] at H; exact H
             clear H; have H := H1; clear H1
             by_cases c18 : x4_1 < 0
             · rw [if_pos c18] at H; have c18b0 : decide (x4_1 < 0) = true := decide_eq_true c18; clear c18; have H' := Aside0.mk H; clear H; go_wp2
               go_roundg kj8
               case measure => have := HK1.out; have := HJ2.out; have := HJ8.out; omega
               case rel => exact ⟨(x3_1), (x9_1), (wrap64 (x9_1 + 1)), (by first | rfl | (simp; done) | (simp [*]; done)), (by first | rfl | (simp; done) | (simp [*]; done)), H', ⟨by have := HK1.out; have := HJ2.out; have := HJ8.out; omega⟩, ⟨by (with_reducible repeat (first | apply Kd.R_alloc | apply Kd.R_drewN | apply Kd.R_drew)); exact HO_3.out⟩, ⟨by repeat (first | (with_reducible first | exact HB.out | apply below_alloc | apply pw_below_drewN | apply below_drew1) | exact HB.out)⟩⟩
             · rw [if_neg c18] at H; have c18b0 : decide (x4_1 < 0) = false := decide_eq_false c18; clear c18; have H' := Aside0.mk H; clear H; go_wp2
               go_roundg kj8
               case measure => have := HK1.out; have := HJ2.out; have := HJ8.out; omega
               case rel => exact ⟨(x3_1), (x4_1), (wrap64 (x9_1 + 1)), (by first | rfl | (simp; done) | (simp [*]; done)), (by first | rfl | (simp; done) | (simp [*]; done)), H', ⟨by have := HK1.out; have := HJ2.out; have := HJ8.out; omega⟩, ⟨by (with_reducible repeat (first | apply Kd.R_alloc | apply Kd.R_drewN | apply Kd.R_drew)); exact HO_3.out⟩, ⟨by repeat (first | (with_reducible first | exact HB.out | apply below_alloc | apply pw_below_drewN | apply below_drew1) | exact HB.out)⟩⟩
   · rw [if_neg c2] at H; have c2b0 : decide (x9_1 < (a0.size : Int)) = false := decide_eq_false c2; clear c2
     by_cases c19 : x4_1 ≥ 0
     · rw [if_pos c19] at H; have c19b0 : decide (0 ≤ x4_1) = true := decide_eq_true c19; clear c19
       by_cases c20 : 0 ≤ x4_1
       · rw [if_pos c20] at H; have c20b0 := eq_true c20; have c20b1 : decide (0 ≤ x4_1) = true := decide_eq_true c20; clear c20
         by_cases c21 : x4_1 ≤ (a0.size : Int)
         · rw [if_pos c21] at H; have c21b0 := eq_true c21; have c21b1 : decide (x4_1 ≤ (a0.size : Int)) = true := decide_eq_true c21; clear c21
           by_cases c22 : x3_1.length < 8796093022208
           · rw [if_pos c22] at H; have LMc22 := Aside0.mk c22; clear c22; obtain ⟨y551, hy551⟩ : ∃ y_ : List ByteArray, y_ = (x3_1 ++ [a0.extract (x4_1 : Int).toNat a0.size]) := ⟨_, rfl⟩
             replace H : (some y551) = some r := by first | (rw [hy551]; with_reducible exact H) | (have H2_ := (Option.bind_some _ _).symm.trans H; rw [hy551]; with_reducible exact H2_) | (have H2_ := (Option.bind_some _ _).symm.trans H; with_reducible exact H2_) | with_reducible exact H | (rw [hy551]; exact H) | exact H
             have Ny551 := Aside0.mk hy551; clear hy551; obtain rfl := Option.some.inj H
             go_wp2_with (first | ((with_reducible refine gate_builtin (b := .append) (xs := #[.tmp 46, .tmp 50]) rfl ?_); at_builtin; refine Kd.R_append Kd.string (w0 := w) w.heap.size rfl (.tmp 46) (.tmp 50) 42 9 (.string ⟨#[]⟩) 16 rfl Tryz.underlying42 info9 rfl (by decide) (by omega) u3 x3_1 (a0.extract (x4_1 : Int).toNat a0.size) [.string (a0.extract (x4_1 : Int).toNat a0.size)] (fun _ => True) (fun _ => False) rfl rfl ?aP (fun _ hk => hk.elim) ?aF ?aO ?aB ?aS ?aL ?_; (case aP => exact rfl); (case aB => exact (by repeat (first | (with_reducible first | exact HB.out | apply below_alloc | apply pw_below_drewN | apply below_drew1) | exact HB.out))); (case aF => exact (fun _ _ => trivial)); (case aO => exact (by (with_reducible repeat (first | apply Kd.R_alloc | apply Kd.R_drewN | apply Kd.R_drew)); exact HO_3.out)); (case aS => exact (below_size (by repeat (first | (with_reducible first | exact HB.out | apply below_alloc | apply pw_below_drewN | apply below_drew1) | exact HB.out)))); (case aL => have := LMc22.out; omega); intro v552 w23 ho hb hg hat; rw [← Ny551.out] at ho; have n0_ := Aside0.mk (hb); have n1_ := Aside0.mk (ho); clear HB; clear HO_3; have HB := n0_; have HO553 := n1_; clear n0_ n1_; clear ho hb hg hat))
             go_ret
             exact ⟨_, by first | rfl | (simp [errW_none, errW_some] <;> rfl) | (simp [*, errW_none, errW_some] <;> rfl), by (with_reducible repeat (first | apply Kd.R_alloc | apply Kd.R_drewN | apply Kd.R_drew)); exact HO553.out, by repeat (first | (with_reducible first | exact HB.out | apply below_alloc | apply pw_below_drewN | apply below_drew1) | exact HB.out)⟩
           · rw [if_neg c22] at H; exact absurd H (by simp)
         · rw [if_neg c21] at H; exact absurd H (by simp)
       · rw [if_neg c20] at H; exact absurd H (by simp)
     · rw [if_neg c19] at H; have c19b0 : decide (0 ≤ x4_1) = false := decide_eq_false c19; clear c19; obtain rfl := Option.some.inj H; go_wp2
       go_ret
       exact ⟨_, by first | rfl | (simp [errW_none, errW_some] <;> rfl) | (simp [*, errW_none, errW_some] <;> rfl), by (with_reducible repeat (first | apply Kd.R_alloc | apply Kd.R_drewN | apply Kd.R_drew)); exact HO_3.out, by repeat (first | (with_reducible first | exact HB.out | apply below_alloc | apply pw_below_drewN | apply below_drew1) | exact HB.out)⟩
def spec_Lines.l0 : Nat → ByteArray → List ByteArray → Int → Int → Int → Option (List ByteArray)
 | 0, _, _, _, _, _ => none
 | k + 1, x0, x3, x4, x7, x8 => if x8 < x7 then (if 0 ≤ x8 then (if x8 < (x0.size : Int) then (if (bt x0 x8) = 10 then (if 0 ≤ x4 then (if x4 ≤ x8 then (if x8 ≤ (x0.size : Int) then (if x3.length < 8796093022208 then (spec_Lines.l0 k x0 (x3 ++ [x0.extract (x4 : Int).toNat (x8 : Int).toNat]) (wrap64 (x8 + 1)) x7 (wrap64 (x8 + 1))) else (none)) else (none)) else (none)) else (none)) else (spec_Lines.l0 k x0 x3 x4 x7 (wrap64 (x8 + 1)))) else (none)) else (none)) else (if x4 < (x0.size : Int) then (if 0 ≤ x4 then (if x4 ≤ (x0.size : Int) then (if x3.length < 8796093022208 then (some (x3 ++ [x0.extract (x4 : Int).toNat x0.size])) else (none)) else (none)) else (none)) else (some x3))
def spec_Lines.f (k : Nat) (a0 : ByteArray) : Option (List ByteArray) := spec_Lines.l0 k a0 ([] : List ByteArray) 0 (a0.size : Int) 0
set_option maxHeartbeats 8000000 in
set_option maxRecDepth 100000 in
theorem spec_Lines.calls (k : Nat) (a0 : ByteArray) (r : List ByteArray) (w : World) (h : spec_Lines.f k a0 = some r) :
 Calls Tryz.prog 47 #[.string a0] w fun e w' => ∃ v0_ : Value, e = .returned (v0_) ∧ Kd.R Kd.string 9 w' w.heap.size (fun _ => True) v0_ r ∧ Below w.heap.size w w' := by
 have HB := Aside0.mk (Below.refl w.heap.size w); have H : (spec_Lines.l0 k a0 ([] : List ByteArray) 0 (a0.size : Int) 0) = some r := h; clear h; have H' := Aside0.mk H; clear H
 go_enter Tryz.func47, Tryz.ntmps47
 go_wp2
 go_loopg [3, 4, 8] k (fun kq v3 v4 v8 w' => ∃ (x3_1 : List ByteArray) (x4_1 : Int) (x8_1 : Int), v4 = .int .i64 x4_1 ∧ v8 = .int .i64 x8_1 ∧ Aside0 (spec_Lines.l0 kq a0 x3_1 x4_1 (a0.size : Int) x8_1 = some r) ∧ Aside0 (kq ≤ k) ∧ Aside0 (Kd.R Kd.string 9 w' w.heap.size (fun _ => True) v3 x3_1) ∧ Aside0 (Below w.heap.size w w'))
 case atStart => exact ⟨(([] : List ByteArray)), (0), (0), (by first | rfl | (simp; done) | (simp [*]; done)), (by first | rfl | (simp; done) | (simp [*]; done)), H', ⟨Nat.le_refl _⟩, ⟨by first | exact Kd.R_nil _ _ _ _ _ | exact Kd.N_nil _ _ _ _ _ | exact Kd.V_nil _ _ _ _ _ | exact Kd.Q_nil _ _ _ _ _ | exact Kd.S_nil _ _ _ _ _⟩, ⟨by repeat (first | (with_reducible first | exact HB.out | apply below_alloc | apply pw_below_drewN | apply below_drew1) | exact HB.out)⟩⟩
 case round =>
  clear H'; obtain ⟨x3_1, x4_1, x8_1, rfl, rfl, HA, HK1, HO_3, HB⟩ := hrel; cases gk with
  | zero => exact absurd HA.out (by simp [spec_Lines.l0])
  | succ k1 =>
   have H := HA.out; clear HA; simp only [spec_Lines.l0] at H
   by_cases c2 : x8_1 < (a0.size : Int)
   · rw [if_pos c2] at H; have c2b0 : decide (x8_1 < (a0.size : Int)) = true := decide_eq_true c2; clear c2
     by_cases c3 : 0 ≤ x8_1
     · rw [if_pos c3] at H; have c3b0 : decide (0 ≤ x8_1) = true := decide_eq_true c3; clear c3
       by_cases c4 : x8_1 < (a0.size : Int)
       · rw [if_pos c4] at H; have c4b0 : decide (x8_1 < (a0.size : Int)) = true := decide_eq_true c4; clear c4
         by_cases c6 : (bt a0 x8_1) = 10
         · rw [if_pos c6] at H; have c6b0 : ((bt a0 x8_1) == 10) = true := beq_iff_eq.mpr c6; have c6b1 : ((bt a0 x8_1) != 10) = false := bne_eq_false_iff_eq.mpr c6; clear c6
           by_cases c7 : 0 ≤ x4_1
           · rw [if_pos c7] at H; have c7b0 := eq_true c7; have c7b1 : decide (0 ≤ x4_1) = true := decide_eq_true c7; clear c7
             by_cases c8 : x4_1 ≤ x8_1
             · rw [if_pos c8] at H; have c8b0 := eq_true c8; have c8b1 : decide (x4_1 ≤ x8_1) = true := decide_eq_true c8; clear c8
               by_cases c9 : x8_1 ≤ (a0.size : Int)
               · rw [if_pos c9] at H; have c9b0 := eq_true c9; have c9b1 : decide (x8_1 ≤ (a0.size : Int)) = true := decide_eq_true c9; clear c9
                 by_cases c10 : x3_1.length < 8796093022208
                 · rw [if_pos c10] at H; have LMc10 := Aside0.mk c10; clear c10; obtain ⟨y557, hy557⟩ : ∃ y_ : List ByteArray, y_ = (x3_1 ++ [a0.extract (x4_1 : Int).toNat (x8_1 : Int).toNat]) := ⟨_, rfl⟩
                   replace H : (spec_Lines.l0 k1 a0 y557 (wrap64 (x8_1 + 1)) (a0.size : Int) (wrap64 (x8_1 + 1))) = some r := by first | (rw [hy557]; with_reducible exact H) | (have H2_ := (Option.bind_some _ _).symm.trans H; rw [hy557]; with_reducible exact H2_) | (have H2_ := (Option.bind_some _ _).symm.trans H; with_reducible exact H2_) | with_reducible exact H | (rw [hy557]; exact H) | exact H
                   have Ny557 := Aside0.mk hy557; clear hy557; have H' := Aside0.mk H; clear H; have p5 : 0 ≤ (x8_1 : Int) := of_decide_eq_true (by first | (with_reducible assumption) | assumption); have q5 : x8_1 < (a0.size : Int) := of_decide_eq_true (by first | (with_reducible assumption) | assumption); have hx5 := bt_at a0 x8_1; replace p5 := eq_true p5; replace q5 := eq_true q5
                   go_wp2_with (first | ((with_reducible refine gate_builtin (b := .append) (xs := #[.tmp 15, .tmp 20]) rfl ?_); at_builtin; refine Kd.R_append Kd.string (w0 := w) w.heap.size rfl (.tmp 15) (.tmp 20) 42 9 (.string ⟨#[]⟩) 16 rfl Tryz.underlying42 info9 rfl (by decide) (by omega) u3 x3_1 (a0.extract (x4_1 : Int).toNat (x8_1 : Int).toNat) [.string (a0.extract (x4_1 : Int).toNat (x8_1 : Int).toNat)] (fun _ => True) (fun _ => False) rfl rfl ?aP (fun _ hk => hk.elim) ?aF ?aO ?aB ?aS ?aL ?_; (case aP => exact rfl); (case aB => exact (by repeat (first | (with_reducible first | exact HB.out | apply below_alloc | apply pw_below_drewN | apply below_drew1) | exact HB.out))); (case aF => exact (fun _ _ => trivial)); (case aO => exact (by (with_reducible repeat (first | apply Kd.R_alloc | apply Kd.R_drewN | apply Kd.R_drew)); exact HO_3.out)); (case aS => exact (below_size (by repeat (first | (with_reducible first | exact HB.out | apply below_alloc | apply pw_below_drewN | apply below_drew1) | exact HB.out)))); (case aL => have := LMc10.out; omega); intro v558 w11 ho hb hg hat; rw [← Ny557.out] at ho; have n0_ := Aside0.mk (hb); have n1_ := Aside0.mk (ho); clear HB; clear HO_3; have HB := n0_; have HO559 := n1_; clear n0_ n1_; clear ho hb hg hat))
                   go_roundg k1
                   case measure => have := HK1.out; omega
                   case rel => exact ⟨(y557), (wrap64 (x8_1 + 1)), (wrap64 (x8_1 + 1)), (by first | rfl | (simp; done) | (simp [*]; done)), (by first | rfl | (simp; done) | (simp [*]; done)), H', ⟨by have := HK1.out; omega⟩, ⟨by (with_reducible repeat (first | apply Kd.R_alloc | apply Kd.R_drewN | apply Kd.R_drew)); exact HO559.out⟩, ⟨by repeat (first | (with_reducible first | exact HB.out | apply below_alloc | apply pw_below_drewN | apply below_drew1) | exact HB.out)⟩⟩
                 · rw [if_neg c10] at H; exact absurd H (by simp)
               · rw [if_neg c9] at H; exact absurd H (by simp)
             · rw [if_neg c8] at H; exact absurd H (by simp)
           · rw [if_neg c7] at H; exact absurd H (by simp)
         · rw [if_neg c6] at H; have c6b0 : ((bt a0 x8_1) == 10) = false := beq_eq_false_iff_ne.mpr c6; have c6b1 : ((bt a0 x8_1) != 10) = true := bne_iff_ne.mpr c6; have H' := Aside0.mk H; clear H; have p5 : 0 ≤ (x8_1 : Int) := of_decide_eq_true (by first | (with_reducible assumption) | assumption); have q5 : x8_1 < (a0.size : Int) := of_decide_eq_true (by first | (with_reducible assumption) | assumption); have hx5 := bt_at a0 x8_1; replace p5 := eq_true p5; replace q5 := eq_true q5; go_wp2
           go_roundg k1
           case measure => have := HK1.out; omega
           case rel => exact ⟨(x3_1), (x4_1), (wrap64 (x8_1 + 1)), (by first | rfl | (simp; done) | (simp [*]; done)), (by first | rfl | (simp; done) | (simp [*]; done)), H', ⟨by have := HK1.out; omega⟩, ⟨by (with_reducible repeat (first | apply Kd.R_alloc | apply Kd.R_drewN | apply Kd.R_drew)); exact HO_3.out⟩, ⟨by repeat (first | (with_reducible first | exact HB.out | apply below_alloc | apply pw_below_drewN | apply below_drew1) | exact HB.out)⟩⟩
       · rw [if_neg c4] at H; exact absurd H (by simp)
     · rw [if_neg c3] at H; exact absurd H (by simp)
   · rw [if_neg c2] at H; have c2b0 : decide (x8_1 < (a0.size : Int)) = false := decide_eq_false c2; clear c2
     by_cases c12 : x4_1 < (a0.size : Int)
     · rw [if_pos c12] at H; have c12b0 : decide (x4_1 < (a0.size : Int)) = true := decide_eq_true c12; clear c12
       by_cases c13 : 0 ≤ x4_1
       · rw [if_pos c13] at H; have c13b0 := eq_true c13; have c13b1 : decide (0 ≤ x4_1) = true := decide_eq_true c13; clear c13
         by_cases c14 : x4_1 ≤ (a0.size : Int)
         · rw [if_pos c14] at H; have c14b0 := eq_true c14; have c14b1 : decide (x4_1 ≤ (a0.size : Int)) = true := decide_eq_true c14; clear c14
           by_cases c15 : x3_1.length < 8796093022208
           · rw [if_pos c15] at H; have LMc15 := Aside0.mk c15; clear c15; obtain ⟨y560, hy560⟩ : ∃ y_ : List ByteArray, y_ = (x3_1 ++ [a0.extract (x4_1 : Int).toNat a0.size]) := ⟨_, rfl⟩
             replace H : (some y560) = some r := by first | (rw [hy560]; with_reducible exact H) | (have H2_ := (Option.bind_some _ _).symm.trans H; rw [hy560]; with_reducible exact H2_) | (have H2_ := (Option.bind_some _ _).symm.trans H; with_reducible exact H2_) | with_reducible exact H | (rw [hy560]; exact H) | exact H
             have Ny560 := Aside0.mk hy560; clear hy560; obtain rfl := Option.some.inj H
             go_wp2_with (first | ((with_reducible refine gate_builtin (b := .append) (xs := #[.tmp 29, .tmp 33]) rfl ?_); at_builtin; refine Kd.R_append Kd.string (w0 := w) w.heap.size rfl (.tmp 29) (.tmp 33) 42 9 (.string ⟨#[]⟩) 16 rfl Tryz.underlying42 info9 rfl (by decide) (by omega) u3 x3_1 (a0.extract (x4_1 : Int).toNat a0.size) [.string (a0.extract (x4_1 : Int).toNat a0.size)] (fun _ => True) (fun _ => False) rfl rfl ?aP (fun _ hk => hk.elim) ?aF ?aO ?aB ?aS ?aL ?_; (case aP => exact rfl); (case aB => exact (by repeat (first | (with_reducible first | exact HB.out | apply below_alloc | apply pw_below_drewN | apply below_drew1) | exact HB.out))); (case aF => exact (fun _ _ => trivial)); (case aO => exact (by (with_reducible repeat (first | apply Kd.R_alloc | apply Kd.R_drewN | apply Kd.R_drew)); exact HO_3.out)); (case aS => exact (below_size (by repeat (first | (with_reducible first | exact HB.out | apply below_alloc | apply pw_below_drewN | apply below_drew1) | exact HB.out)))); (case aL => have := LMc15.out; omega); intro v561 w16 ho hb hg hat; rw [← Ny560.out] at ho; have n0_ := Aside0.mk (hb); have n1_ := Aside0.mk (ho); clear HB; clear HO_3; have HB := n0_; have HO562 := n1_; clear n0_ n1_; clear ho hb hg hat))
             go_ret
             exact ⟨_, by first | rfl | (simp [errW_none, errW_some] <;> rfl) | (simp [*, errW_none, errW_some] <;> rfl), by (with_reducible repeat (first | apply Kd.R_alloc | apply Kd.R_drewN | apply Kd.R_drew)); exact HO562.out, by repeat (first | (with_reducible first | exact HB.out | apply below_alloc | apply pw_below_drewN | apply below_drew1) | exact HB.out)⟩
           · rw [if_neg c15] at H; exact absurd H (by simp)
         · rw [if_neg c14] at H; exact absurd H (by simp)
       · rw [if_neg c13] at H; exact absurd H (by simp)
     · rw [if_neg c12] at H; have c12b0 : decide (x4_1 < (a0.size : Int)) = false := decide_eq_false c12; clear c12; obtain rfl := Option.some.inj H; go_wp2
       go_ret
       exact ⟨_, by first | rfl | (simp [errW_none, errW_some] <;> rfl) | (simp [*, errW_none, errW_some] <;> rfl), by (with_reducible repeat (first | apply Kd.R_alloc | apply Kd.R_drewN | apply Kd.R_drew)); exact HO_3.out, by repeat (first | (with_reducible first | exact HB.out | apply below_alloc | apply pw_below_drewN | apply below_drew1) | exact HB.out)⟩
end Go.Proofs.YtabfehcpcjcomaaGreatDoor.QA0
namespace Go.Proofs.YtabfehcpcjcomaaGreatDoor.QA0
open Go.RowKit Go.Proofs.YtabfehcpcjcomaaGreatDoorW.PrintWords Go.Proofs.YtabfehcpcjcomaaGreatDoorW.PrintLast Go.Proofs.YtabfehcpcjcomaaGreatDoorW.PrintMore
attribute [local go_sem] max2_int min2_int max_two min_two max_three min_three max_four min_four
set_option linter.unusedVariables false
set_option linter.unusedSimpArgs false
def spec_Digits.f : Nat → Int → Int → Option (ByteArray)
 | 0, _, _ => none
 | k + 1, a0, a1 => if a1 = 0 then (none) else (if 0 ≤ (Int.tmod a0 a1) then (if (Int.tmod a0 a1) < 16 then (if a0 < a1 then (some (strOfNums (([bt (⟨#[48, 49, 50, 51, 52, 53, 54, 55, 56, 57, 97, 98, 99, 100, 101, 102]⟩ : ByteArray) (Int.tmod a0 a1)] : List Int)))) else ((spec_Digits.f k (IntKind.u64.wrap (Int.tdiv a0 a1)) a1).bind fun t570 => ((some (([bt (⟨#[48, 49, 50, 51, 52, 53, 54, 55, 56, 57, 97, 98, 99, 100, 101, 102]⟩ : ByteArray) (Int.tmod a0 a1)] : List Int) : List Int)).bind fun y571 => (if t570.size + (strOfNums y571).size ≤ 9223372036854775807 then (some (t570 ++ (strOfNums y571))) else (none))))) else (none)) else (none))
def spec_Digits.T4 : Bool × List (List Nat × List Nat) := (true, [([], []), ([], []), ([0, 1], [0, 1]), ([], []), ([2, 3], [2, 3]), ([], []), ([5], [5]), ([6], [6]), ([4, 7], [4, 7]), ([8, 4, 0, 1, 2, 3, 4, 5, 6, 7, 8], [8])])
def spec_Digits.B4 : List Nat := [0, 0, 3, 0, 15, 0, 32, 96, 255, 511]
theorem spec_Digits.tab4 : rtab .any (opsOf Tryz.f126 4) = spec_Digits.T4 := by kernel_rfl
theorem spec_Digits.bits4 : waitsOk spec_Digits.T4.2 spec_Digits.B4 = true := by kernel_rfl
set_option maxHeartbeats 8000000 in
set_option maxRecDepth 100000 in
theorem spec_Digits.calls (k : Nat) : ∀ (a0 : Int) (a1 : Int) (r : ByteArray) (w : World) (h : spec_Digits.f k a0 a1 = some r),
 Calls Tryz.prog 126 #[.int .u64 a0, .int .u64 a1] w fun e w' => e = .returned (.string r) ∧ Below w.heap.size w w' := by
 induction k using Nat.strongRecOn with
 | _ k ih =>
 intro a0 a1 r w h; cases k with
 | zero => exact absurd h (by simp [spec_Digits.f])
 | succ k =>
 simp only [spec_Digits.f] at h; have HB := Aside0.mk (Below.refl w.heap.size w); have H : (if a1 = 0 then (none) else (if 0 ≤ (Int.tmod a0 a1) then (if (Int.tmod a0 a1) < 16 then (if a0 < a1 then (some (strOfNums (([bt (⟨#[48, 49, 50, 51, 52, 53, 54, 55, 56, 57, 97, 98, 99, 100, 101, 102]⟩ : ByteArray) (Int.tmod a0 a1)] : List Int)))) else ((spec_Digits.f k (IntKind.u64.wrap (Int.tdiv a0 a1)) a1).bind fun t570 => ((some (([bt (⟨#[48, 49, 50, 51, 52, 53, 54, 55, 56, 57, 97, 98, 99, 100, 101, 102]⟩ : ByteArray) (Int.tmod a0 a1)] : List Int) : List Int)).bind fun y571 => (if t570.size + (strOfNums y571).size ≤ 9223372036854775807 then (some (t570 ++ (strOfNums y571))) else (none))))) else (none)) else (none))) = some r := h; clear h
 by_cases c3 : a1 = 0
 · rw [if_pos c3] at H; exact absurd H (by simp)
 · rw [if_neg c3] at H; have c3b0 : (a1 == 0) = false := beq_eq_false_iff_ne.mpr c3; have c3b1 : (a1 != 0) = true := bne_iff_ne.mpr c3; obtain ⟨ji4, hji4⟩ : ∃ j_ : Int, (Int.tmod a0 a1) = j_ := ⟨_, rfl⟩
   replace H : (if 0 ≤ (ji4) then (if (ji4) < 16 then (if a0 < a1 then (some (strOfNums (([bt (⟨#[48, 49, 50, 51, 52, 53, 54, 55, 56, 57, 97, 98, 99, 100, 101, 102]⟩ : ByteArray) (ji4)] : List Int)))) else ((spec_Digits.f k (IntKind.u64.wrap (Int.tdiv a0 a1)) a1).bind fun t570 => ((some (([bt (⟨#[48, 49, 50, 51, 52, 53, 54, 55, 56, 57, 97, 98, 99, 100, 101, 102]⟩ : ByteArray) (ji4)] : List Int) : List Int)).bind fun y571 => (if t570.size + (strOfNums y571).size ≤ 9223372036854775807 then (some (t570 ++ (strOfNums y571))) else (none))))) else (none)) else (none)) = some r := by first | (rw [hji4] at H; exact H) | (simp only [hji4] at H ⊢; exact H)
   by_cases c5 : 0 ≤ (ji4)
   · rw [if_pos c5] at H; have c5b0 : decide (0 ≤ (ji4)) = true := decide_eq_true c5; clear c5
     by_cases c6 : (ji4) < 16
     · rw [if_pos c6] at H; have c6b0 : decide ((ji4) < 16) = true := decide_eq_true c6; clear c6
       by_cases c8 : a0 < a1
       · rw [if_pos c8] at H; have c8b0 : decide (a0 < a1) = true := decide_eq_true c8; clear c8; obtain ⟨y567, hy567⟩ : ∃ y_ : List Int, y_ = (([bt (⟨#[48, 49, 50, 51, 52, 53, 54, 55, 56, 57, 97, 98, 99, 100, 101, 102]⟩ : ByteArray) (ji4)] : List Int)) := ⟨_, rfl⟩
         replace H : (some (strOfNums y567)) = some r := by first | (rw [hy567]; with_reducible exact H) | (have H2_ := (Option.bind_some _ _).symm.trans H; rw [hy567]; with_reducible exact H2_) | (have H2_ := (Option.bind_some _ _).symm.trans H; with_reducible exact H2_) | with_reducible exact H | (rw [hy567]; exact H) | exact H
         have Ny567 := Aside0.mk hy567; clear hy567; obtain rfl := Option.some.inj H; have p7 : 0 ≤ ((ji4) : Int) := of_decide_eq_true (by first | (with_reducible assumption) | assumption); have q7 : (ji4) < (16 : Int) := of_decide_eq_true (by first | (with_reducible assumption) | assumption); have hx7 := bt_at (⟨#[48, 49, 50, 51, 52, 53, 54, 55, 56, 57, 97, 98, 99, 100, 101, 102]⟩ : ByteArray) (ji4); replace p7 := eq_true p7; replace q7 := eq_true q7
         go_enter Tryz.func126, Tryz.ntmps126
         go_wp2_with (first | ((with_reducible refine gate_dst (N := 14) rfl ?_); refine Kd.R_lit (Kd.int .u8) _ 5 ?hg (N := 14) ?hd (xs := ([bt (⟨#[48, 49, 50, 51, 52, 53, 54, 55, 56, 57, 97, 98, 99, 100, 101, 102]⟩ : ByteArray) (ji4)] : List Int)) (inner := [.int .u8 (bt (⟨#[48, 49, 50, 51, 52, 53, 54, 55, 56, 57, 97, 98, 99, 100, 101, 102]⟩ : ByteArray) (ji4))]) (ok := fun _ => True) (okp := fun _ => True) ?hr ?hp (fun _ hk => hk) trivial (Below.refl _ _) (Nat.le_refl _) (by simp) ?_; (case hd => rfl); (case hg => rfl); (case hr => first | (go_simp; done) | (go_simp; rfl)); (case hp => exact (Reps.one (show Kd.M (Kd.int .u8) _ _ _ (bt (⟨#[48, 49, 50, 51, 52, 53, 54, 55, 56, 57, 97, 98, 99, 100, 101, 102]⟩ : ByteArray) (ji4)) [.int .u8 (bt (⟨#[48, 49, 50, 51, 52, 53, 54, 55, 56, 57, 97, 98, 99, 100, 101, 102]⟩ : ByteArray) (ji4))] from rfl) (Reps.none _ _))); intro v568 w9 ho10 hb hg_ hnew_; clear hg_ hnew_; (first | rw [← Ny567.out] at ho10 | (simp only [Int.reduceToNat] at ho10; rw [← Ny567.out] at ho10)); have n0_ := Aside0.mk (Kd.R_lower ho10 (below_size (by repeat (first | (with_reducible first | exact HB.out | apply below_alloc | apply pw_below_drewN | apply below_drew1) | exact HB.out)))); have n1_ := Aside0.mk (below_step (by repeat (first | (with_reducible first | exact HB.out | apply below_alloc | apply pw_below_drewN | apply below_drew1) | exact HB.out)) hb); clear HB; have HO569 := n0_; have HB := n1_; clear n0_ n1_; clear hb ho10; have hcv11 := own_string (P := Tryz.prog) Tryz.underlying136 Tryz.underlying5 Tryz.underlying9 (Kd.own_of_R HO569.out)))
         go_ret
         exact ⟨by first | rfl | (simp [errW_none, errW_some] <;> rfl) | (simp only [← hji4]; first | rfl | (simp [errW_none, errW_some] <;> rfl)) | (simp [*, errW_none, errW_some] <;> rfl), by repeat (first | (with_reducible first | exact HB.out | apply below_alloc | apply pw_below_drewN | apply below_drew1) | exact HB.out)⟩
       · rw [if_neg c8] at H; have c8b0 : decide (a0 < a1) = false := decide_eq_false c8; clear c8; replace H := Option.bind_eq_some_iff.mp H; obtain ⟨t570, A120, H⟩ := H; (try dsimp only at H); have A12 := Aside0.mk A120; clear A120; obtain ⟨y571, hy571⟩ : ∃ y_ : List Int, y_ = (([bt (⟨#[48, 49, 50, 51, 52, 53, 54, 55, 56, 57, 97, 98, 99, 100, 101, 102]⟩ : ByteArray) (ji4)] : List Int)) := ⟨_, rfl⟩
         replace H : (if t570.size + (strOfNums y571).size ≤ 9223372036854775807 then (some (t570 ++ (strOfNums y571))) else (none)) = some r := by first | (rw [hy571]; with_reducible exact H) | (have H2_ := (Option.bind_some _ _).symm.trans H; rw [hy571]; with_reducible exact H2_) | (have H2_ := (Option.bind_some _ _).symm.trans H; with_reducible exact H2_) | with_reducible exact H | (rw [hy571]; exact H) | exact H
         have Ny571 := Aside0.mk hy571; clear hy571
         by_cases c13 : t570.size + (strOfNums y571).size ≤ 9223372036854775807
         · rw [if_pos c13] at H; have c13b0 := eq_true c13; have c13b1 : decide (t570.size + (strOfNums y571).size ≤ 9223372036854775807) = true := decide_eq_true c13; try have c13b2 : (9223372036854775807 < t570.size + (strOfNums y571).size) = False := eq_false (Nat.not_lt.2 c13)
           obtain rfl := Option.some.inj H; have p7 : 0 ≤ ((ji4) : Int) := of_decide_eq_true (by first | (with_reducible assumption) | assumption); have q7 : (ji4) < (16 : Int) := of_decide_eq_true (by first | (with_reducible assumption) | assumption); have hx7 := bt_at (⟨#[48, 49, 50, 51, 52, 53, 54, 55, 56, 57, 97, 98, 99, 100, 101, 102]⟩ : ByteArray) (ji4); replace p7 := eq_true p7; replace q7 := eq_true q7
           go_enter Tryz.func126, Tryz.ntmps126
           try go_wp2
           have n0_ := Aside0.mk (below_drew1 HB.out); clear HB; have HB := n0_; clear n0_; refine start_ (n := 10) (S := fun w' => True) (ds := []) (R.tf 0 10) (by kernel_rfl) rfl rfl trivial (fun hHeld => ?_); refine with_tabW spec_Digits.tab4 spec_Digits.bits4 (fun HT_ HW_ => ?_); generalize w.drew = w14 at HB hHeld ⊢; refine pure_ (i := 0) (N := some 16) (v := ?_) (a' := ?_) (R.tf 1 9) rfl rfl (any_of HT_.out (by kernel_rfl)) (fun _ _ _ h => h) (Or.inl ⟨by rfl, ?_⟩) ?_ ?_; rotate_left
           · intro w'; go_simp; with_reducible rfl
           rotate_left
           · simp only [Act.put, R.sa, R.sb, R.sc, i64_w, i32_w]; rfl
           refine pure_ (i := 1) (N := some 17) (v := ?_) (a' := ?_) (R.tf 2 8) rfl rfl (any_of HT_.out (by kernel_rfl)) (fun _ _ _ h => h) (Or.inl ⟨by rfl, ?_⟩) ?_ ?_; rotate_left
           · intro w'; go_simp; with_reducible rfl
           rotate_left
           · simp only [Act.put, R.sa, R.sb, R.sc, i64_w, i32_w]; rfl
           refine pure_ (i := 2) (N := some 18) (v := ?_) (a' := ?_) (R.tf 3 7) rfl rfl (any_of HT_.out (by kernel_rfl)) (fun _ _ _ h => h) (Or.inl ⟨by rfl, ?_⟩) ?_ ?_; rotate_left
           · intro w'; go_simp; with_reducible rfl
           rotate_left
           · simp only [Act.put, R.sa, R.sb, R.sc, i64_w, i32_w]; rfl
           refine pure_ (i := 3) (N := some 19) (v := ?_) (a' := ?_) (R.tf 4 6) rfl rfl (any_of HT_.out (by kernel_rfl)) (fun _ _ _ h => h) (Or.inl ⟨by rfl, ?_⟩) ?_ ?_; rotate_left
           · intro w'; go_simp; with_reducible rfl
           rotate_left
           · simp only [Act.put, R.sa, R.sb, R.sc, i64_w, i32_w]; rfl
           refine pure_ (i := 5) (N := some 21) (v := ?_) (a' := ?_) #[true, true, true, true, false, true, false, false, false, false] rfl rfl (any_of HT_.out (by kernel_rfl)) (fun _ _ _ h => h) (Or.inl ⟨by rfl, ?_⟩) ?_ ?_; rotate_left
           · intro w'; go_simp; with_reducible rfl
           rotate_left
           · simp only [Act.put, R.sa, R.sb, R.sc, i64_w, i32_w]; rfl
           refine join_ (σ := Value) 2 (R.tf 8 2) (fun s_ => [(20, .string t570), (22, s_), (23, .string (strOfNums y571))]) (fun s_ w' => (Kd.R (Kd.int .u8) 5 w' w.heap.size (fun _ => True) s_ y571) ∧ (Below w.heap.size w w')) ?_ ?_; rotate_left
           · intro hCont; refine two_ (i := 4) (j := 6) (Ni := some 20) (Nj := some 22) (R.tf 6 4) #[true, true, true, true, false, true, true, false, false, false] rfl rfl rfl rfl (two_of HT_.out (by kernel_rfl)) (by decide) (by decide) (fun K hK => ?_) (fun K hK => ?_)
             · skip
               refine goes_ Tryz.func126 (by kernel_rfl) rfl #[.int .u64 (IntKind.u64.wrap (Int.tdiv a0 a1)), .int .u64 a1] (by rfl) rfl rfl (by (try simp only [List.map_toArray, List.map_cons, List.map_nil]); first | done | rfl | (simp only [List.length_drop, List.length_take]; rfl)) ?_; with_reducible refine (ih k (by omega) (IntKind.u64.wrap (Int.tdiv a0 a1)) a1 t570 _ A12.out).mono ?_
               rintro e w15 ⟨rfl, hb⟩; refine ⟨_, rfl, ?_⟩; have n0_ := Aside0.mk (below_step (by repeat (first | (with_reducible first | exact HB.out | apply below_alloc | apply pw_below_drewN | apply below_drew1) | exact HB.out)) hb); clear HB; have HB := n0_; clear n0_; (try clear hb); (try clear hb2); (try clear hk); (try clear hi); refine hK.out _ _ trivial (fun hHeld => ?_); clear hK K; refine norm_ (a' := ?_) ?_ ?_; rotate_left
               · show Act.put _ (some 20) _ = _
                 simp only [Act.put, R.sa, R.sb, R.sc, i64_w, i32_w]; rfl
               refine one_ (i := 6) (N := some 22) (R.tf 7 3) rfl rfl (one_of HT_.out (by kernel_rfl)) (by decide) (fun K hK => ?_); refine Kd.R_lit_step (Kd.int .u8) _ 5 ?hg (N := 22) ?hd (xs := ([bt (⟨#[48, 49, 50, 51, 52, 53, 54, 55, 56, 57, 97, 98, 99, 100, 101, 102]⟩ : ByteArray) (ji4)] : List Int)) (inner := [.int .u8 (bt (⟨#[48, 49, 50, 51, 52, 53, 54, 55, 56, 57, 97, 98, 99, 100, 101, 102]⟩ : ByteArray) (ji4))]) (ok := fun _ => True) (okp := fun _ => True) ?hr ?hp (fun _ hk => hk) trivial (Below.refl _ _) (Nat.le_refl _) (by simp) ?_; (case hd => rfl); (case hg => rfl); (case hr => first | (go_simp; done) | (go_simp; rfl)); (case hp => exact (Reps.one (show Kd.M (Kd.int .u8) _ _ _ (bt (⟨#[48, 49, 50, 51, 52, 53, 54, 55, 56, 57, 97, 98, 99, 100, 101, 102]⟩ : ByteArray) (ji4)) [.int .u8 (bt (⟨#[48, 49, 50, 51, 52, 53, 54, 55, 56, 57, 97, 98, 99, 100, 101, 102]⟩ : ByteArray) (ji4))] from rfl) (Reps.none _ _))); intro v572 w16 ho17 hb hg_ hnew_; clear hg_ hnew_; (first | rw [← Ny571.out] at ho17 | (simp only [Int.reduceToNat] at ho17; rw [← Ny571.out] at ho17)); have n0_ := Aside0.mk (Kd.R_lower ho17 (below_size (by repeat (first | (with_reducible first | exact HB.out | apply below_alloc | apply pw_below_drewN | apply below_drew1) | exact HB.out)))); have n1_ := Aside0.mk (below_step (by repeat (first | (with_reducible first | exact HB.out | apply below_alloc | apply pw_below_drewN | apply below_drew1) | exact HB.out)) hb); clear HB; have HO573 := n0_; have HB := n1_; clear n0_ n1_; clear hb ho17; refine hK.out _ _ trivial (fun hHeld => ?_); clear hK K; refine norm_ (a' := ?_) ?_ ?_; rotate_left
               · show Act.put _ (some 22) _ = _
                 simp only [Act.put, R.sa, R.sb, R.sc, i64_w, i32_w]; rfl
               refine one_ (i := 7) (N := some 23) (R.tf 8 2) rfl rfl (one_of HT_.out (by kernel_rfl)) (by decide) (fun K hK => ?_); have hcv18 := own_string (P := Tryz.prog) Tryz.underlying136 Tryz.underlying5 Tryz.underlying9 (Kd.own_of_R HO573.out); refine value_ (w1 := ?_) (v := ?_) (by rfl) rfl ?_ ?_; rotate_left 2
               · go_simp
                 constructor
                 · rfl
                 · rfl
               clear hcv18; refine hK.out _ _ trivial (fun hHeld => ?_); clear hK K; refine norm_ (a' := ?_) ?_ ?_; rotate_left
               · show Act.put _ (some 23) _ = _
                 simp only [Act.put, R.sa, R.sb, R.sc, i64_w, i32_w]; rfl
               exact norm_ (by simp only [putAll, Act.put, List.setIfInBounds_toArray, List.set_cons_zero, List.set_cons_succ]) (hCont (v572) _ ⟨(by (with_reducible repeat (first | apply Kd.R_alloc | apply Kd.R_drewN | apply Kd.R_drew)); exact HO573.out), (by repeat (first | (with_reducible first | exact HB.out | apply below_alloc | apply pw_below_drewN | apply below_drew1) | exact HB.out))⟩)
             · skip
               refine Kd.R_lit_step (Kd.int .u8) _ 5 ?hg (N := 22) ?hd (xs := ([bt (⟨#[48, 49, 50, 51, 52, 53, 54, 55, 56, 57, 97, 98, 99, 100, 101, 102]⟩ : ByteArray) (ji4)] : List Int)) (inner := [.int .u8 (bt (⟨#[48, 49, 50, 51, 52, 53, 54, 55, 56, 57, 97, 98, 99, 100, 101, 102]⟩ : ByteArray) (ji4))]) (ok := fun _ => True) (okp := fun _ => True) ?hr ?hp (fun _ hk => hk) trivial (Below.refl _ _) (Nat.le_refl _) (by simp) ?_; (case hd => rfl); (case hg => rfl); (case hr => first | (go_simp; done) | (go_simp; rfl)); (case hp => exact (Reps.one (show Kd.M (Kd.int .u8) _ _ _ (bt (⟨#[48, 49, 50, 51, 52, 53, 54, 55, 56, 57, 97, 98, 99, 100, 101, 102]⟩ : ByteArray) (ji4)) [.int .u8 (bt (⟨#[48, 49, 50, 51, 52, 53, 54, 55, 56, 57, 97, 98, 99, 100, 101, 102]⟩ : ByteArray) (ji4))] from rfl) (Reps.none _ _))); intro v572 w15 ho16 hb hg_ hnew_; clear hg_ hnew_; (first | rw [← Ny571.out] at ho16 | (simp only [Int.reduceToNat] at ho16; rw [← Ny571.out] at ho16)); have n0_ := Aside0.mk (Kd.R_lower ho16 (below_size (by repeat (first | (with_reducible first | exact HB.out | apply below_alloc | apply pw_below_drewN | apply below_drew1) | exact HB.out)))); have n1_ := Aside0.mk (below_step (by repeat (first | (with_reducible first | exact HB.out | apply below_alloc | apply pw_below_drewN | apply below_drew1) | exact HB.out)) hb); clear HB; have HO573 := n0_; have HB := n1_; clear n0_ n1_; clear hb ho16; refine hK.out _ _ trivial (fun hHeld => ?_); clear hK K; refine norm_ (a' := ?_) ?_ ?_; rotate_left
               · show Act.put _ (some 22) _ = _
                 simp only [Act.put, R.sa, R.sb, R.sc, i64_w, i32_w]; rfl
               refine two_ (i := 4) (j := 7) (Ni := some 20) (Nj := some 23) (R.tf 7 3) #[true, true, true, true, false, true, true, true, false, false] rfl rfl rfl rfl (two_of HT_.out (by kernel_rfl)) (by decide) (by decide) (fun K hK => ?_) (fun K hK => ?_)
               · skip
                 refine goes_ Tryz.func126 (by kernel_rfl) rfl #[.int .u64 (IntKind.u64.wrap (Int.tdiv a0 a1)), .int .u64 a1] (by rfl) rfl rfl (by (try simp only [List.map_toArray, List.map_cons, List.map_nil]); first | done | rfl | (simp only [List.length_drop, List.length_take]; rfl)) ?_; with_reducible refine (ih k (by omega) (IntKind.u64.wrap (Int.tdiv a0 a1)) a1 t570 _ A12.out).mono ?_
                 rintro e w17 ⟨rfl, hb⟩; refine ⟨_, rfl, ?_⟩; have n0_ := Aside0.mk (Kd.R_below (by (with_reducible repeat (first | apply Kd.R_alloc | apply Kd.R_drewN | apply Kd.R_drew)); exact HO573.out) hb); have n1_ := Aside0.mk (below_step (by repeat (first | (with_reducible first | exact HB.out | apply below_alloc | apply pw_below_drewN | apply below_drew1) | exact HB.out)) hb); clear HO573; clear HB; have HO573 := n0_; have HB := n1_; clear n0_ n1_; (try clear hb); (try clear hb2); (try clear hk); (try clear hi); refine hK.out _ _ trivial (fun hHeld => ?_); clear hK K; refine norm_ (a' := ?_) ?_ ?_; rotate_left
                 · show Act.put _ (some 20) _ = _
                   simp only [Act.put, R.sa, R.sb, R.sc, i64_w, i32_w]; rfl
                 refine one_ (i := 7) (N := some 23) (R.tf 8 2) rfl rfl (one_of HT_.out (by kernel_rfl)) (by decide) (fun K hK => ?_); have hcv18 := own_string (P := Tryz.prog) Tryz.underlying136 Tryz.underlying5 Tryz.underlying9 (Kd.own_of_R HO573.out); refine value_ (w1 := ?_) (v := ?_) (by rfl) rfl ?_ ?_; rotate_left 2
                 · go_simp
                   constructor
                   · rfl
                   · rfl
                 clear hcv18; refine hK.out _ _ trivial (fun hHeld => ?_); clear hK K; refine norm_ (a' := ?_) ?_ ?_; rotate_left
                 · show Act.put _ (some 23) _ = _
                   simp only [Act.put, R.sa, R.sb, R.sc, i64_w, i32_w]; rfl
                 exact norm_ (by simp only [putAll, Act.put, List.setIfInBounds_toArray, List.set_cons_zero, List.set_cons_succ]) (hCont (v572) _ ⟨(by (with_reducible repeat (first | apply Kd.R_alloc | apply Kd.R_drewN | apply Kd.R_drew)); exact HO573.out), (by repeat (first | (with_reducible first | exact HB.out | apply below_alloc | apply pw_below_drewN | apply below_drew1) | exact HB.out))⟩)
               · skip
                 have hcv17 := own_string (P := Tryz.prog) Tryz.underlying136 Tryz.underlying5 Tryz.underlying9 (Kd.own_of_R HO573.out); refine value_ (w1 := ?_) (v := ?_) (by rfl) rfl ?_ ?_; rotate_left 2
                 · go_simp
                   constructor
                   · rfl
                   · rfl
                 clear hcv17; refine hK.out _ _ trivial (fun hHeld => ?_); clear hK K; refine norm_ (a' := ?_) ?_ ?_; rotate_left
                 · show Act.put _ (some 23) _ = _
                   simp only [Act.put, R.sa, R.sb, R.sc, i64_w, i32_w]; rfl
                 refine one_ (i := 4) (N := some 20) (R.tf 8 2) rfl rfl (one_of HT_.out (by kernel_rfl)) (by decide) (fun K hK => ?_); refine goes_ Tryz.func126 (by kernel_rfl) rfl #[.int .u64 (IntKind.u64.wrap (Int.tdiv a0 a1)), .int .u64 a1] (by rfl) rfl rfl (by (try simp only [List.map_toArray, List.map_cons, List.map_nil]); first | done | rfl | (simp only [List.length_drop, List.length_take]; rfl)) ?_; with_reducible refine (ih k (by omega) (IntKind.u64.wrap (Int.tdiv a0 a1)) a1 t570 _ A12.out).mono ?_
                 rintro e w18 ⟨rfl, hb⟩; refine ⟨_, rfl, ?_⟩; have n0_ := Aside0.mk (Kd.R_below (by (with_reducible repeat (first | apply Kd.R_alloc | apply Kd.R_drewN | apply Kd.R_drew)); exact HO573.out) hb); have n1_ := Aside0.mk (below_step (by repeat (first | (with_reducible first | exact HB.out | apply below_alloc | apply pw_below_drewN | apply below_drew1) | exact HB.out)) hb); clear HO573; clear HB; have HO573 := n0_; have HB := n1_; clear n0_ n1_; (try clear hb); (try clear hb2); (try clear hk); (try clear hi); refine hK.out _ _ trivial (fun hHeld => ?_); clear hK K; refine norm_ (a' := ?_) ?_ ?_; rotate_left
                 · show Act.put _ (some 20) _ = _
                   simp only [Act.put, R.sa, R.sb, R.sc, i64_w, i32_w]; rfl
                 exact norm_ (by simp only [putAll, Act.put, List.setIfInBounds_toArray, List.set_cons_zero, List.set_cons_succ]) (hCont (v572) _ ⟨(by (with_reducible repeat (first | apply Kd.R_alloc | apply Kd.R_drewN | apply Kd.R_drew)); exact HO573.out), (by repeat (first | (with_reducible first | exact HB.out | apply below_alloc | apply pw_below_drewN | apply below_drew1) | exact HB.out))⟩)
           rintro v572 w19 ⟨h0_, h1_⟩; have n0_ : Aside0 (Kd.R (Kd.int .u8) 5 w19 w.heap.size (fun _ => True) v572 y571) := ⟨h0_⟩; have n1_ : Aside0 (Below w.heap.size w w19) := ⟨h1_⟩; clear HB; clear h0_ h1_; have HO573 := n0_; have HB := n1_; clear n0_ n1_; have hHeld := trivial; refine norm_ (a' := ?_) ?_ ?_; rotate_left
           · simp only [putAll, Act.put, List.setIfInBounds_toArray, List.set_cons_zero, List.set_cons_succ]; rfl
           refine pure_ (i := 8) (N := some 24) (v := ?_) (a' := ?_) (R.tf 9 1) rfl rfl (any_of HT_.out (by kernel_rfl)) (fun _ _ _ h => h) (Or.inl ⟨by rfl, ?_⟩) ?_ ?_; rotate_left
           · intro w'; go_simp; with_reducible rfl
           rotate_left
           · simp only [Act.put, R.sa, R.sb, R.sc, i64_w, i32_w]; rfl
           refine pure_ (i := 9) (N := some 4) (v := ?_) (a' := ?_) (R.tf 10 0) rfl rfl (any_of HT_.out (by kernel_rfl)) (fun _ _ _ h => h) (Or.inl ⟨by rfl, ?_⟩) ?_ ?_; rotate_left
           · intro w'; go_simp; with_reducible rfl
           rotate_left
           · simp only [Act.put, R.sa, R.sb, R.sc, i64_w, i32_w]; rfl
           refine done_ (done_of HT_.out (by kernel_rfl)) ?_; try go_wp2
           go_ret
           exact ⟨by first | rfl | (simp [errW_none, errW_some] <;> rfl) | (simp only [← hji4]; first | rfl | (simp [errW_none, errW_some] <;> rfl)) | (simp [*, errW_none, errW_some] <;> rfl), by repeat (first | (with_reducible first | exact HB.out | apply below_alloc | apply pw_below_drewN | apply below_drew1) | exact HB.out)⟩
         · rw [if_neg c13] at H; exact absurd H (by simp)
     · rw [if_neg c6] at H; exact absurd H (by simp)
   · rw [if_neg c5] at H; exact absurd H (by simp)
def spec_Text.f (k : Nat) (a0 : Int) : Option (ByteArray) := (spec_Digits.f k a0 10).bind fun t574 => (some t574)
set_option maxHeartbeats 8000000 in
set_option maxRecDepth 100000 in
theorem spec_Text.calls (k : Nat) (a0 : Int) (r : ByteArray) (w : World) (h : spec_Text.f k a0 = some r) :
 Calls Tryz.prog 86 #[.int .u64 a0] w fun e w' => e = .returned (.string r) ∧ Below w.heap.size w w' := by
 have HB := Aside0.mk (Below.refl w.heap.size w); have H : ((spec_Digits.f k a0 10).bind fun t574 => (some t574)) = some r := h; clear h; replace H := Option.bind_eq_some_iff.mp H; obtain ⟨t574, A20, H⟩ := H; replace H : (some t574) = some r := H; have A2 := Aside0.mk A20; clear A20; obtain rfl := Option.some.inj H
 go_enter Tryz.func86, Tryz.ntmps86
 go_wp2_with (first | ((with_reducible refine gate_callee (f := 126) rfl ?_); refine goesL_ (some 4) rfl rfl Tryz.func126 (by kernel_rfl) rfl #[.int .u64 a0, .int .u64 10] rfl (by (try simp only [List.map_toArray, List.map_cons, List.map_nil]); first | done | rfl | (simp only [List.length_drop, List.length_take]; rfl)) ?_; (with_reducible refine (spec_Digits.calls k a0 10 t574 _ A2.out).mono ?_); rintro e w3 ⟨rfl, hb⟩; refine ⟨_, rfl, ?_⟩; have n0_ := Aside0.mk (below_step (by repeat (first | (with_reducible first | exact HB.out | apply below_alloc | apply pw_below_drewN | apply below_drew1) | exact HB.out)) hb); clear HB; have HB := n0_; clear n0_; (try clear hb); (try clear hb2); (try clear hk); (try clear hi)))
 go_ret
 exact ⟨by first | rfl | (simp [errW_none, errW_some] <;> rfl) | (simp [*, errW_none, errW_some] <;> rfl), by repeat (first | (with_reducible first | exact HB.out | apply below_alloc | apply pw_below_drewN | apply below_drew1) | exact HB.out)⟩
mutual
def spec_digit.j0 : Nat → Int → Bool → Option (Int)
 | 0, _, _ => none
 | k + 1, x0, x3 => if x3 = true then (some ((x0 - 48) % 256)) else (if x0 ≥ 97 then (spec_digit.j1 k x0 (decide (x0 ≤ 102))) else (spec_digit.j1 k x0 false))
def spec_digit.j1 : Nat → Int → Bool → Option (Int)
 | 0, _, _ => none
 | k + 1, x0, x13 => if x13 = true then (some (((x0 - 97) % 256) + 10)) else (if x0 ≥ 65 then (if x0 ≤ 70 then (some (((x0 - 65) % 256) + 10)) else (some 99)) else (some 99))
end
def spec_digit.f (k : Nat) (a0 : Int) : Option (Int) := if a0 ≥ 48 then (spec_digit.j0 k a0 (decide (a0 ≤ 57))) else (spec_digit.j0 k a0 false)
set_option maxHeartbeats 8000000 in
set_option maxRecDepth 100000 in
theorem spec_digit.calls (k : Nat) (a0 : Int) (r : Int) (w : World) (h : spec_digit.f k a0 = some r) :
 Calls Tryz.prog 119 #[.int .u8 a0] w fun e w' => e = .returned (.int .u64 r) ∧ Drawn0 w w' := by
 have H : (if a0 ≥ 48 then (spec_digit.j0 k a0 (decide (a0 ≤ 57))) else (spec_digit.j0 k a0 false)) = some r := h; clear h; have HC2 := Aside0.mk H; clear H
 go_enter Tryz.func119, Tryz.ntmps119
 go_upto_region 1 with (fail)
 go_cut [3] (fun v3 wc => ∃ (kq : Nat) (x3_1 : Bool), v3 = .bool x3_1 ∧ Aside0 (spec_digit.j0 kq a0 x3_1 = some r) ∧ Aside0 (kq ≤ k) ∧ Drawn0 w wc)
 case first =>
  have H := HC2.out; clear HC2
  by_cases c3 : a0 ≥ 48
  · rw [if_pos c3] at H; have c3b0 : decide (48 ≤ a0) = true := decide_eq_true c3; clear c3; (first | rw [c3b0] | (simp only [i64_w, i32_w]; rw [c3b0]) | skip); have H' := Aside0.mk H; clear H; go_wp2
    go_meet
    case rel => exact ⟨_, (decide (a0 ≤ 57)), (by first | rfl | (simp; done) | (simp [*]; done)), H', ⟨by first | omega | exact Nat.le_refl _⟩, by repeat (first | exact Drawn0.refl _ | apply Drawn0.step)⟩
  · rw [if_neg c3] at H; have c3b0 : decide (48 ≤ a0) = false := decide_eq_false c3; clear c3; (first | rw [c3b0] | (simp only [i64_w, i32_w]; rw [c3b0]) | skip); have H' := Aside0.mk H; clear H; go_wp2
    go_meet
    case rel => exact ⟨_, (false), (by first | rfl | (simp; done) | (simp [*]; done)), H', ⟨by first | omega | exact Nat.le_refl _⟩, by repeat (first | exact Drawn0.refl _ | apply Drawn0.step)⟩
 case rest =>
  clear HC2; try clear c1
  try clear p2
  try clear c3
  try clear c3b0
  obtain ⟨kq, x3_1, rfl, HA, HJ1, ⟨mc1, rfl⟩⟩ := hcut; cases kq with
  | zero => exact absurd HA.out (by simp [spec_digit.j0])
  | succ kj1 =>
   have H := HA.out; clear HA; simp only [spec_digit.j0] at H
   by_cases c4 : x3_1 = true
   · subst c4
     have H1 : (some ((a0 - 48) % 256)) = some r := by rw [if_pos rfl] at H; exact H
     clear H; have H := H1; clear H1; obtain rfl := Option.some.inj H; go_wp2
     go_ret
     exact ⟨by first | rfl | (simp; done) | (simp [*]; done) | (simp; cases a0.toList <;> rfl), by repeat (first | exact Drawn0.refl _ | apply Drawn0.step)⟩
   · replace c4 := Bool.eq_false_iff.mpr c4; subst c4
     have H1 : (if a0 ≥ 97 then (spec_digit.j1 kj1 a0 (decide (a0 ≤ 102))) else (spec_digit.j1 kj1 a0 false)) = some r := by rw [if_neg (show ¬ (false = true) by decide)] at H; exact H
     clear H; have H := H1; clear H1; have HC5 := Aside0.mk H; clear H
     go_upto_region 3 with (fail)
     go_cut [13] (fun v13 wc => ∃ (kq : Nat) (x13_4 : Bool), v13 = .bool x13_4 ∧ Aside0 (spec_digit.j1 kq a0 x13_4 = some r) ∧ Aside0 (kq ≤ kj1) ∧ Drawn0 w wc)
     case first =>
      have H := HC5.out; clear HC5
      by_cases c6 : a0 ≥ 97
      · rw [if_pos c6] at H; have c6b0 : decide (97 ≤ a0) = true := decide_eq_true c6; clear c6; (first | rw [c6b0] | (simp only [i64_w, i32_w]; rw [c6b0]) | skip); have H' := Aside0.mk H; clear H; go_wp2
        go_meet
        case rel => exact ⟨_, (decide (a0 ≤ 102)), (by first | rfl | (simp; done) | (simp [*]; done)), H', ⟨by have := HJ1.out; first | omega | exact Nat.le_refl _⟩, by repeat (first | exact Drawn0.refl _ | apply Drawn0.step)⟩
      · rw [if_neg c6] at H; have c6b0 : decide (97 ≤ a0) = false := decide_eq_false c6; clear c6; (first | rw [c6b0] | (simp only [i64_w, i32_w]; rw [c6b0]) | skip); have H' := Aside0.mk H; clear H; go_wp2
        go_meet
        case rel => exact ⟨_, (false), (by first | rfl | (simp; done) | (simp [*]; done)), H', ⟨by have := HJ1.out; first | omega | exact Nat.le_refl _⟩, by repeat (first | exact Drawn0.refl _ | apply Drawn0.step)⟩
     case rest =>
      clear HC5; try clear c1
      try clear p2
      try clear c3
      try clear c3b0
      try clear c4
      try clear c6
      try clear c6b0
      try clear p2
      obtain ⟨kq, x13_4, rfl, HA, HJ4, ⟨mc4, rfl⟩⟩ := hcut; cases kq with
      | zero => exact absurd HA.out (by simp [spec_digit.j1])
      | succ kj4 =>
       have H := HA.out; clear HA; simp only [spec_digit.j1] at H
       by_cases c7 : x13_4 = true
       · subst c7
         have H1 : (some (((a0 - 97) % 256) + 10)) = some r := by rw [if_pos rfl] at H; exact H
         clear H; have H := H1; clear H1; obtain rfl := Option.some.inj H; go_wp2
         go_ret
         exact ⟨by first | rfl | (simp; done) | (simp [*]; done) | (simp; cases a0.toList <;> rfl), by repeat (first | exact Drawn0.refl _ | apply Drawn0.step)⟩
       · replace c7 := Bool.eq_false_iff.mpr c7; subst c7
         have H1 : (if a0 ≥ 65 then (if a0 ≤ 70 then (some (((a0 - 65) % 256) + 10)) else (some 99)) else (some 99)) = some r := by rw [if_neg (show ¬ (false = true) by decide)] at H; exact H
         clear H; have H := H1; clear H1
         by_cases c8 : a0 ≥ 65
         · rw [if_pos c8] at H; have c8b0 : decide (65 ≤ a0) = true := decide_eq_true c8; clear c8
           by_cases c9 : a0 ≤ 70
           · rw [if_pos c9] at H; have c9b0 : decide (a0 ≤ 70) = true := decide_eq_true c9; clear c9; obtain rfl := Option.some.inj H; go_wp2
             go_ret
             exact ⟨by first | rfl | (simp; done) | (simp [*]; done) | (simp; cases a0.toList <;> rfl), by repeat (first | exact Drawn0.refl _ | apply Drawn0.step)⟩
           · rw [if_neg c9] at H; have c9b0 : decide (a0 ≤ 70) = false := decide_eq_false c9; clear c9; obtain rfl := Option.some.inj H; go_wp2
             go_ret
             exact ⟨by first | rfl | (simp; done) | (simp [*]; done) | (simp; cases a0.toList <;> rfl), by repeat (first | exact Drawn0.refl _ | apply Drawn0.step)⟩
         · rw [if_neg c8] at H; have c8b0 : decide (65 ≤ a0) = false := decide_eq_false c8; clear c8; obtain rfl := Option.some.inj H; go_wp2
           go_ret
           exact ⟨by first | rfl | (simp; done) | (simp [*]; done) | (simp; cases a0.toList <;> rfl), by repeat (first | exact Drawn0.refl _ | apply Drawn0.step)⟩
def spec_Number.l0 : Nat → ByteArray → Int → Int → Int → Int → Option (Int × Bool)
 | 0, _, _, _, _, _ => none
 | k + 1, x0, x1, x6, x10, x11 => if x11 < x10 then (if 0 ≤ x11 then (if x11 < (x0.size : Int) then ((spec_digit.f k (bt x0 x11)).bind fun t575 => (if t575 ≥ x1 then (some (0, false)) else (if x1 = 0 then (none) else (if x6 > (IntKind.u64.wrap (Int.tdiv (IntKind.u64.wrap (18446744073709551615 - t575)) x1)) then (some (0, false)) else (spec_Number.l0 k x0 x1 (IntKind.u64.wrap ((IntKind.u64.wrap (x6 * x1)) + t575)) x10 (wrap64 (x11 + 1))))))) else (none)) else (none)) else (some (x6, (x0.toList != ([] : List UInt8))))
def spec_Number.f (k : Nat) (a0 : ByteArray) (a1 : Int) : Option (Int × Bool) := spec_Number.l0 k a0 a1 0 (a0.size : Int) 0
set_option maxHeartbeats 8000000 in
set_option maxRecDepth 100000 in
theorem spec_Number.calls (k : Nat) (a0 : ByteArray) (a1 : Int) (r1 : Int) (r2 : Bool) (w : World) (h : spec_Number.f k a0 a1 = some (r1, r2)) :
 Calls Tryz.prog 68 #[.string a0, .int .u64 a1] w fun e w' => e = .returned (.tuple #[.int .u64 r1, .bool r2]) ∧ Drawn0 w w' := by
 have H : (spec_Number.l0 k a0 a1 0 (a0.size : Int) 0) = some (r1, r2) := h; clear h; have H' := Aside0.mk H; clear H
 go_enter Tryz.func68, Tryz.ntmps68
 go_wp2
 go_loopg [6, 11] k (fun kq v6 v11 w' => ∃ (x6_1 : Int) (x11_1 : Int), v6 = .int .u64 x6_1 ∧ v11 = .int .i64 x11_1 ∧ Aside0 (spec_Number.l0 kq a0 a1 x6_1 (a0.size : Int) x11_1 = some (r1, r2)) ∧ Aside0 (kq ≤ k) ∧ Drawn0 w w')
 case atStart => exact ⟨(0), (0), (by first | rfl | (simp; done) | (simp [*]; done)), (by first | rfl | (simp; done) | (simp [*]; done)), H', ⟨Nat.le_refl _⟩, by repeat (first | exact Drawn0.refl _ | apply Drawn0.step)⟩
 case round =>
  clear H'; try clear p2
  obtain ⟨x6_1, x11_1, rfl, rfl, HA, HK1, ⟨m1, rfl⟩⟩ := hrel; cases gk with
  | zero => exact absurd HA.out (by simp [spec_Number.l0])
  | succ k1 =>
   have H := HA.out; clear HA; simp only [spec_Number.l0] at H
   by_cases c3 : x11_1 < (a0.size : Int)
   · rw [if_pos c3] at H; have c3b0 : decide (x11_1 < (a0.size : Int)) = true := decide_eq_true c3; clear c3
     by_cases c4 : 0 ≤ x11_1
     · rw [if_pos c4] at H; have c4b0 : decide (0 ≤ x11_1) = true := decide_eq_true c4; clear c4
       by_cases c5 : x11_1 < (a0.size : Int)
       · rw [if_pos c5] at H; have c5b0 : decide (x11_1 < (a0.size : Int)) = true := decide_eq_true c5; clear c5; replace H := Option.bind_eq_some_iff.mp H; obtain ⟨t575, A70, H⟩ := H; (try dsimp only at H); have A7 := Aside0.mk A70; clear A70
         by_cases c8 : t575 ≥ a1
         · rw [if_pos c8] at H; have c8b0 : decide (a1 ≤ t575) = true := decide_eq_true c8; clear c8; simp only [Option.some.injEq, Prod.mk.injEq] at H; obtain ⟨rfl, rfl⟩ := H; have p6 : 0 ≤ (x11_1 : Int) := of_decide_eq_true (by first | (with_reducible assumption) | assumption); have q6 : x11_1 < (a0.size : Int) := of_decide_eq_true (by first | (with_reducible assumption) | assumption); have hx6 := bt_at a0 x11_1; replace p6 := eq_true p6; replace q6 := eq_true q6
           go_wp2_with (first | ((with_reducible refine gate_callee (f := 119) rfl ?_); refine goesL_ (some 17) rfl rfl Tryz.func119 (by kernel_rfl) rfl #[.int .u8 (bt a0 x11_1)] rfl (by (try simp only [List.map_toArray, List.map_cons, List.map_nil]); first | done | rfl | (simp only [List.length_drop, List.length_take]; rfl)) ?_; (with_reducible refine (spec_digit.calls k1 (bt a0 x11_1) t575 _ A7.out).mono ?_); rintro e w' ⟨rfl, ⟨nd, rfl⟩⟩; refine ⟨_, rfl, ?_⟩))
           go_ret2; exact ⟨by first | rfl | (simp; done) | (simp [*]; done) | (simp; cases a0.toList <;> rfl), by repeat (first | exact Drawn0.refl _ | apply Drawn0.step)⟩
         · rw [if_neg c8] at H; have c8b0 : decide (a1 ≤ t575) = false := decide_eq_false c8; clear c8
           by_cases c9 : a1 = 0
           · rw [if_pos c9] at H; exact absurd H (by simp)
           · rw [if_neg c9] at H; have c9b0 : (a1 == 0) = false := beq_eq_false_iff_ne.mpr c9; have c9b1 : (a1 != 0) = true := bne_iff_ne.mpr c9
             by_cases c10 : x6_1 > (IntKind.u64.wrap (Int.tdiv (IntKind.u64.wrap (18446744073709551615 - t575)) a1))
             · rw [if_pos c10] at H; have c10b0 : decide ((IntKind.u64.wrap (Int.tdiv (IntKind.u64.wrap (18446744073709551615 - t575)) a1)) < x6_1) = true := decide_eq_true c10; clear c10; simp only [Option.some.injEq, Prod.mk.injEq] at H; obtain ⟨rfl, rfl⟩ := H; have p6 : 0 ≤ (x11_1 : Int) := of_decide_eq_true (by first | (with_reducible assumption) | assumption); have q6 : x11_1 < (a0.size : Int) := of_decide_eq_true (by first | (with_reducible assumption) | assumption); have hx6 := bt_at a0 x11_1; replace p6 := eq_true p6; replace q6 := eq_true q6
               go_wp2_with (first | ((with_reducible refine gate_callee (f := 119) rfl ?_); refine goesL_ (some 17) rfl rfl Tryz.func119 (by kernel_rfl) rfl #[.int .u8 (bt a0 x11_1)] rfl (by (try simp only [List.map_toArray, List.map_cons, List.map_nil]); first | done | rfl | (simp only [List.length_drop, List.length_take]; rfl)) ?_; (with_reducible refine (spec_digit.calls k1 (bt a0 x11_1) t575 _ A7.out).mono ?_); rintro e w' ⟨rfl, ⟨nd, rfl⟩⟩; refine ⟨_, rfl, ?_⟩))
               go_ret2; exact ⟨by first | rfl | (simp; done) | (simp [*]; done) | (simp; cases a0.toList <;> rfl), by repeat (first | exact Drawn0.refl _ | apply Drawn0.step)⟩
             · rw [if_neg c10] at H; have c10b0 : decide ((IntKind.u64.wrap (Int.tdiv (IntKind.u64.wrap (18446744073709551615 - t575)) a1)) < x6_1) = false := decide_eq_false c10; clear c10; have H' := Aside0.mk H; clear H; have p6 : 0 ≤ (x11_1 : Int) := of_decide_eq_true (by first | (with_reducible assumption) | assumption); have q6 : x11_1 < (a0.size : Int) := of_decide_eq_true (by first | (with_reducible assumption) | assumption); have hx6 := bt_at a0 x11_1; replace p6 := eq_true p6; replace q6 := eq_true q6
               go_wp2_with (first | ((with_reducible refine gate_callee (f := 119) rfl ?_); refine goesL_ (some 17) rfl rfl Tryz.func119 (by kernel_rfl) rfl #[.int .u8 (bt a0 x11_1)] rfl (by (try simp only [List.map_toArray, List.map_cons, List.map_nil]); first | done | rfl | (simp only [List.length_drop, List.length_take]; rfl)) ?_; (with_reducible refine (spec_digit.calls k1 (bt a0 x11_1) t575 _ A7.out).mono ?_); rintro e w' ⟨rfl, ⟨nd, rfl⟩⟩; refine ⟨_, rfl, ?_⟩))
               go_roundg k1
               case measure => have := HK1.out; omega
               case rel => exact ⟨(IntKind.u64.wrap ((IntKind.u64.wrap (x6_1 * a1)) + t575)), (wrap64 (x11_1 + 1)), (by first | rfl | (simp; done) | (simp [*]; done)), (by first | rfl | (simp; done) | (simp [*]; done)), H', ⟨by have := HK1.out; omega⟩, by repeat (first | exact Drawn0.refl _ | apply Drawn0.step)⟩
       · rw [if_neg c5] at H; exact absurd H (by simp)
     · rw [if_neg c4] at H; exact absurd H (by simp)
   · rw [if_neg c3] at H; have c3b0 : decide (x11_1 < (a0.size : Int)) = false := decide_eq_false c3; clear c3; simp only [Option.some.injEq, Prod.mk.injEq] at H; obtain ⟨rfl, rfl⟩ := H; go_wp2; go_ret2; exact ⟨by first | rfl | (simp; done) | (simp [*]; done) | (simp; cases a0.toList <;> rfl), by repeat (first | exact Drawn0.refl _ | apply Drawn0.step)⟩
end Go.Proofs.YtabfehcpcjcomaaGreatDoor.QA0
namespace Go.Proofs.YtabfehcpcjcomaaGreatDoor.QA0
open Go.RowKit Go.Proofs.YtabfehcpcjcomaaGreatDoorW.PrintWords Go.Proofs.YtabfehcpcjcomaaGreatDoorW.PrintLast Go.Proofs.YtabfehcpcjcomaaGreatDoorW.PrintMore
attribute [local go_sem] max2_int min2_int max_two min_two max_three min_three max_four min_four
set_option linter.unusedVariables false
set_option linter.unusedSimpArgs false
def spec_Plain.l0 : Nat → ByteArray → Int → Int → Option (Bool)
 | 0, _, _, _ => none
 | k + 1, x0, x6, x7 => if x7 < x6 then (if 0 ≤ x7 then (if x7 < (x0.size : Int) then (if (bt x0 x7) > 126 then (some false) else (if (bt x0 x7) < 32 then (if (bt x0 x7) = 10 then (spec_Plain.l0 k x0 x6 (wrap64 (x7 + 1))) else (if (bt x0 x7) = 9 then (spec_Plain.l0 k x0 x6 (wrap64 (x7 + 1))) else (some false))) else (spec_Plain.l0 k x0 x6 (wrap64 (x7 + 1))))) else (none)) else (none)) else (some true)
def spec_Plain.f (k : Nat) (a0 : ByteArray) : Option (Bool) := spec_Plain.l0 k a0 (a0.size : Int) 0
set_option maxHeartbeats 8000000 in
set_option maxRecDepth 100000 in
theorem spec_Plain.calls (k : Nat) (a0 : ByteArray) (r : Bool) (w : World) (h : spec_Plain.f k a0 = some r) :
 Calls Tryz.prog 66 #[.string a0] w fun e w' => e = .returned (.bool r) ∧ Drawn0 w w' := by
 have H : (spec_Plain.l0 k a0 (a0.size : Int) 0) = some r := h; clear h; have H' := Aside0.mk H; clear H
 go_enter Tryz.func66, Tryz.ntmps66
 go_wp2
 go_loopg [7] k (fun kq v7 w' => ∃ (x7_1 : Int), v7 = .int .i64 x7_1 ∧ Aside0 (spec_Plain.l0 kq a0 (a0.size : Int) x7_1 = some r) ∧ Aside0 (kq ≤ k) ∧ Drawn0 w w')
 case atStart => exact ⟨(0), (by first | rfl | (simp; done) | (simp [*]; done)), H', ⟨Nat.le_refl _⟩, by repeat (first | exact Drawn0.refl _ | apply Drawn0.step)⟩
 case round =>
  clear H'; obtain ⟨x7_1, rfl, HA, HK1, ⟨m1, rfl⟩⟩ := hrel; cases gk with
  | zero => exact absurd HA.out (by simp [spec_Plain.l0])
  | succ k1 =>
   have H := HA.out; clear HA; simp only [spec_Plain.l0] at H
   by_cases c2 : x7_1 < (a0.size : Int)
   · rw [if_pos c2] at H; have c2b0 : decide (x7_1 < (a0.size : Int)) = true := decide_eq_true c2; clear c2
     by_cases c3 : 0 ≤ x7_1
     · rw [if_pos c3] at H; have c3b0 : decide (0 ≤ x7_1) = true := decide_eq_true c3; clear c3
       by_cases c4 : x7_1 < (a0.size : Int)
       · rw [if_pos c4] at H; have c4b0 : decide (x7_1 < (a0.size : Int)) = true := decide_eq_true c4; clear c4
         by_cases c6 : (bt a0 x7_1) > 126
         · rw [if_pos c6] at H; have c6b0 : decide (126 < (bt a0 x7_1)) = true := decide_eq_true c6; clear c6; obtain rfl := Option.some.inj H; have p5 : 0 ≤ (x7_1 : Int) := of_decide_eq_true (by first | (with_reducible assumption) | assumption); have q5 : x7_1 < (a0.size : Int) := of_decide_eq_true (by first | (with_reducible assumption) | assumption); have hx5 := bt_at a0 x7_1; replace p5 := eq_true p5; replace q5 := eq_true q5; go_wp2
           go_ret
           exact ⟨by first | rfl | (simp; done) | (simp [*]; done) | (simp; cases a0.toList <;> rfl), by repeat (first | exact Drawn0.refl _ | apply Drawn0.step)⟩
         · rw [if_neg c6] at H; have c6b0 : decide (126 < (bt a0 x7_1)) = false := decide_eq_false c6; clear c6
           by_cases c7 : (bt a0 x7_1) < 32
           · rw [if_pos c7] at H; have c7b0 : decide ((bt a0 x7_1) < 32) = true := decide_eq_true c7; clear c7
             by_cases c8 : (bt a0 x7_1) = 10
             · rw [if_pos c8] at H; have c8b0 : ((bt a0 x7_1) == 10) = true := beq_iff_eq.mpr c8; have c8b1 : ((bt a0 x7_1) != 10) = false := bne_eq_false_iff_eq.mpr c8; clear c8; have H' := Aside0.mk H; clear H; have p5 : 0 ≤ (x7_1 : Int) := of_decide_eq_true (by first | (with_reducible assumption) | assumption); have q5 : x7_1 < (a0.size : Int) := of_decide_eq_true (by first | (with_reducible assumption) | assumption); have hx5 := bt_at a0 x7_1; replace p5 := eq_true p5; replace q5 := eq_true q5; go_wp2
               go_roundg k1
               case measure => have := HK1.out; omega
               case rel => exact ⟨(wrap64 (x7_1 + 1)), (by first | rfl | (simp; done) | (simp [*]; done)), H', ⟨by have := HK1.out; omega⟩, by repeat (first | exact Drawn0.refl _ | apply Drawn0.step)⟩
             · rw [if_neg c8] at H; have c8b0 : ((bt a0 x7_1) == 10) = false := beq_eq_false_iff_ne.mpr c8; have c8b1 : ((bt a0 x7_1) != 10) = true := bne_iff_ne.mpr c8
               by_cases c9 : (bt a0 x7_1) = 9
               · rw [if_pos c9] at H; have c9b0 : ((bt a0 x7_1) == 9) = true := beq_iff_eq.mpr c9; have c9b1 : ((bt a0 x7_1) != 9) = false := bne_eq_false_iff_eq.mpr c9; clear c9; have H' := Aside0.mk H; clear H; have p5 : 0 ≤ (x7_1 : Int) := of_decide_eq_true (by first | (with_reducible assumption) | assumption); have q5 : x7_1 < (a0.size : Int) := of_decide_eq_true (by first | (with_reducible assumption) | assumption); have hx5 := bt_at a0 x7_1; replace p5 := eq_true p5; replace q5 := eq_true q5; go_wp2
                 go_roundg k1
                 case measure => have := HK1.out; omega
                 case rel => exact ⟨(wrap64 (x7_1 + 1)), (by first | rfl | (simp; done) | (simp [*]; done)), H', ⟨by have := HK1.out; omega⟩, by repeat (first | exact Drawn0.refl _ | apply Drawn0.step)⟩
               · rw [if_neg c9] at H; have c9b0 : ((bt a0 x7_1) == 9) = false := beq_eq_false_iff_ne.mpr c9; have c9b1 : ((bt a0 x7_1) != 9) = true := bne_iff_ne.mpr c9; obtain rfl := Option.some.inj H; have p5 : 0 ≤ (x7_1 : Int) := of_decide_eq_true (by first | (with_reducible assumption) | assumption); have q5 : x7_1 < (a0.size : Int) := of_decide_eq_true (by first | (with_reducible assumption) | assumption); have hx5 := bt_at a0 x7_1; replace p5 := eq_true p5; replace q5 := eq_true q5; go_wp2
                 go_ret
                 exact ⟨by first | rfl | (simp; done) | (simp [*]; done) | (simp; cases a0.toList <;> rfl), by repeat (first | exact Drawn0.refl _ | apply Drawn0.step)⟩
           · rw [if_neg c7] at H; have c7b0 : decide ((bt a0 x7_1) < 32) = false := decide_eq_false c7; clear c7; have H' := Aside0.mk H; clear H; have p5 : 0 ≤ (x7_1 : Int) := of_decide_eq_true (by first | (with_reducible assumption) | assumption); have q5 : x7_1 < (a0.size : Int) := of_decide_eq_true (by first | (with_reducible assumption) | assumption); have hx5 := bt_at a0 x7_1; replace p5 := eq_true p5; replace q5 := eq_true q5; go_wp2
             go_roundg k1
             case measure => have := HK1.out; omega
             case rel => exact ⟨(wrap64 (x7_1 + 1)), (by first | rfl | (simp; done) | (simp [*]; done)), H', ⟨by have := HK1.out; omega⟩, by repeat (first | exact Drawn0.refl _ | apply Drawn0.step)⟩
       · rw [if_neg c4] at H; exact absurd H (by simp)
     · rw [if_neg c3] at H; exact absurd H (by simp)
   · rw [if_neg c2] at H; have c2b0 : decide (x7_1 < (a0.size : Int)) = false := decide_eq_false c2; clear c2; obtain rfl := Option.some.inj H; go_wp2
     go_ret
     exact ⟨by first | rfl | (simp; done) | (simp [*]; done) | (simp; cases a0.toList <;> rfl), by repeat (first | exact Drawn0.refl _ | apply Drawn0.step)⟩
end Go.Proofs.YtabfehcpcjcomaaGreatDoor.QA0
namespace Go.Proofs.YtabfehcpcjcomaaGreatDoor.QA0
open Go.RowKit Go.Proofs.YtabfehcpcjcomaaGreatDoorW.PrintWords Go.Proofs.YtabfehcpcjcomaaGreatDoorW.PrintLast Go.Proofs.YtabfehcpcjcomaaGreatDoorW.PrintMore
attribute [local go_sem] max2_int min2_int max_two min_two max_three min_three max_four min_four
set_option linter.unusedVariables false
set_option linter.unusedSimpArgs false
def spec_recordNode.f (a0 : ByteArray) (l1 : List (S38)) : Option (ByteArray × Int × Bool × Int × Int × Nat × ByteArray × (List (S38))) := some (a0, 8, false, 0, 0, 0, (⟨#[]⟩ : ByteArray), l1)
set_option maxHeartbeats 8000000 in
set_option maxRecDepth 100000 in
theorem spec_recordNode.calls (a0 : ByteArray) (P1_ : Nat → Prop) (A1 : Option Addr) (c1 : Nat) (l1 : List (S38)) (r1 : ByteArray) (r2 : Int) (r3 : Bool) (r4 : Int) (r5 : Int) (r6 : Nat) (r7 : ByteArray) (r8 : List (S38)) (w : World) (hs1 : Kd.V k38 38 w w.heap.size (fun k_ => P1_ k_) (.slice A1 l1.length c1) l1) (h : spec_recordNode.f a0 l1 = some (r1, r2, r3, r4, r5, r6, r7, r8)) :
 Calls Tryz.prog 38 #[.string a0, .slice A1 l1.length c1] w fun e w' => ∃ v7_ : Value, e = .returned (.agg #[.string r1, .int .i64 r2, .bool r3, .int .i64 r4, .int .u64 r5, .float .f64 r6, .string r7, v7_]) ∧ Kd.V k38 38 w' w.heap.size (fun k_ => (P1_ k_ ∨ w.heap.size ≤ k_)) v7_ r8 ∧ Below w.heap.size w w' := by
 have hu38 := Tryz.underlying38; have HO1 := Aside0.mk (show Kd.V k38 38 w w.heap.size (fun k_ => (P1_ k_ ∨ w.heap.size ≤ k_)) (.slice A1 l1.length c1) l1 from Kd.V_mono hs1 (fun k_ hk => .inl hk)); have HB := Aside0.mk (Below.refl w.heap.size w); have H : (some (a0, 8, false, 0, 0, 0, (⟨#[]⟩ : ByteArray), l1)) = some (r1, r2, r3, r4, r5, r6, r7, r8) := h; clear h; simp only [Option.some.injEq, Prod.mk.injEq] at H; obtain ⟨rfl, rfl, rfl, rfl, rfl, rfl, rfl, rfl⟩ := H
 go_enter Tryz.func38, Tryz.ntmps38
 go_wp2_with (first | ((with_reducible refine gate_dst (N := 4) rfl ?_); refine box_event ?hg (N := 4) ?hd (cs := #[.string (⟨#[]⟩ : ByteArray), .int .i64 0, .bool false, .int .i64 0, .int .u64 0, .float .f64 0, .string (⟨#[]⟩ : ByteArray), .slice none 0 0]) (t := 38) ?hr ?_; (case hd => rfl); (case hg => rfl); (case hr => first | (go_simp; done) | (go_simp; rfl)); intro gb639 hg w3 hbox hb; have n0_ := Aside0.mk (Kd.V_below (Kd.V_elderB (by (with_reducible repeat (first | apply Kd.V_alloc | apply Kd.V_drewN | apply Kd.V_drew)); exact HO1.out) gb639 (Nat.le_of_eq hg.symm)) hb); have n1_ := Aside0.mk (below_step (by repeat (first | (with_reducible first | exact HB.out | apply below_alloc | apply pw_below_drewN | apply below_drew1) | exact HB.out)) hb); have n2_ := Aside0.mk (hbox); have n3_ := Aside0.mk ((by rw [hg]; exact (below_size (by repeat (first | (with_reducible first | exact HB.out | apply below_alloc | apply pw_below_drewN | apply below_drew1) | exact HB.out))) : w.heap.size ≤ gb639)); have n4_ := Aside0.mk ((by rw [hg]; exact (below_size (by repeat (first | (with_reducible first | exact HB.out | apply below_alloc | apply pw_below_drewN | apply below_drew1) | exact HB.out))) : w.heap.size ≤ gb639)); clear HO1; clear HB; have HO1 := n0_; have HB := n1_; have BK639 := n2_; have GW639 := n3_; have GE639 := n4_; clear n0_ n1_ n2_ n3_ n4_; clear hb hbox hg; have hcz4_0 : w3.cell? ⟨gb639, 0, none⟩ = some (.string (⟨#[]⟩ : ByteArray)) := (blk_cell BK639.out 0).trans rfl; have hcz4_1 : w3.cell? ⟨gb639, 1, none⟩ = some (.int .i64 0) := (blk_cell BK639.out 1).trans rfl; have hcz4_2 : w3.cell? ⟨gb639, 2, none⟩ = some (.bool false) := (blk_cell BK639.out 2).trans rfl; have hcz4_3 : w3.cell? ⟨gb639, 3, none⟩ = some (.int .i64 0) := (blk_cell BK639.out 3).trans rfl; have hcz4_4 : w3.cell? ⟨gb639, 4, none⟩ = some (.int .u64 0) := (blk_cell BK639.out 4).trans rfl; have hcz4_5 : w3.cell? ⟨gb639, 5, none⟩ = some (.float .f64 0) := (blk_cell BK639.out 5).trans rfl; have hcz4_6 : w3.cell? ⟨gb639, 6, none⟩ = some (.string (⟨#[]⟩ : ByteArray)) := (blk_cell BK639.out 6).trans rfl; have hcz4_7 : w3.cell? ⟨gb639, 7, none⟩ = some (.slice none 0 0) := (blk_cell BK639.out 7).trans rfl; have hfz4_0 := blk_frozen BK639.out 0; have hfz4_1 := blk_frozen BK639.out 1; have hfz4_2 := blk_frozen BK639.out 2; have hfz4_3 := blk_frozen BK639.out 3; have hfz4_4 := blk_frozen BK639.out 4; have hfz4_5 := blk_frozen BK639.out 5; have hfz4_6 := blk_frozen BK639.out 6; have hfz4_7 := blk_frozen BK639.out 7))
 refine bodyPost_ret (results_cell_row rfl _ _ gb639 38 #[.string a0, .int .i64 8, .bool false, .int .i64 0, .int .u64 0, .float .f64 0, .string (⟨#[]⟩ : ByteArray), .slice A1 l1.length c1] (0, 0) _ rfl (by (with_reducible repeat (first | refine blk_drewN ?_ _ | refine blk_drew ?_ | refine blk_alloc ?_ _)); refine blk_put (cs := #[.string a0, .int .i64 8, .bool false, .int .i64 0, .int .u64 0, .float .f64 0, .string (⟨#[]⟩ : ByteArray), .slice none 0 0]) ?_ 7 _ rfl; (with_reducible repeat (first | refine blk_drewN ?_ _ | refine blk_drew ?_ | refine blk_alloc ?_ _)); refine blk_put (cs := #[.string a0, .int .i64 8, .bool false, .int .i64 0, .int .u64 0, .float .f64 0, .string (⟨#[]⟩ : ByteArray), .slice none 0 0]) ?_ 6 _ rfl; (with_reducible repeat (first | refine blk_drewN ?_ _ | refine blk_drew ?_ | refine blk_alloc ?_ _)); refine blk_put (cs := #[.string a0, .int .i64 8, .bool false, .int .i64 0, .int .u64 0, .float .f64 0, .string (⟨#[]⟩ : ByteArray), .slice none 0 0]) ?_ 5 _ rfl; (with_reducible repeat (first | refine blk_drewN ?_ _ | refine blk_drew ?_ | refine blk_alloc ?_ _)); refine blk_put (cs := #[.string a0, .int .i64 8, .bool false, .int .i64 0, .int .u64 0, .float .f64 0, .string (⟨#[]⟩ : ByteArray), .slice none 0 0]) ?_ 4 _ rfl; (with_reducible repeat (first | refine blk_drewN ?_ _ | refine blk_drew ?_ | refine blk_alloc ?_ _)); refine blk_put (cs := #[.string a0, .int .i64 8, .bool false, .int .i64 0, .int .u64 0, .float .f64 0, .string (⟨#[]⟩ : ByteArray), .slice none 0 0]) ?_ 3 _ rfl; (with_reducible repeat (first | refine blk_drewN ?_ _ | refine blk_drew ?_ | refine blk_alloc ?_ _)); refine blk_put (cs := #[.string a0, .int .i64 8, .bool false, .int .i64 0, .int .u64 0, .float .f64 0, .string (⟨#[]⟩ : ByteArray), .slice none 0 0]) ?_ 2 _ rfl; (with_reducible repeat (first | refine blk_drewN ?_ _ | refine blk_drew ?_ | refine blk_alloc ?_ _)); refine blk_put (cs := #[.string a0, .int .i64 0, .bool false, .int .i64 0, .int .u64 0, .float .f64 0, .string (⟨#[]⟩ : ByteArray), .slice none 0 0]) ?_ 1 _ rfl; (with_reducible repeat (first | refine blk_drewN ?_ _ | refine blk_drew ?_ | refine blk_alloc ?_ _)); refine blk_put (cs := #[.string (⟨#[]⟩ : ByteArray), .int .i64 0, .bool false, .int .i64 0, .int .u64 0, .float .f64 0, .string (⟨#[]⟩ : ByteArray), .slice none 0 0]) ?_ 0 _ rfl; (with_reducible repeat (first | refine blk_drewN ?_ _ | refine blk_drew ?_ | refine blk_alloc ?_ _)); exact BK639.out) Tryz.underlying38 rfl (by kernel_rfl)) rfl ?_; exact ⟨_, by first | rfl | (simp [errW_none, errW_some] <;> rfl) | (simp [*, errW_none, errW_some] <;> rfl), by (with_reducible repeat (first | apply Kd.V_alloc | apply Kd.V_drewN | apply Kd.V_drew)); exact Kd.V_mono (Kd.V_far (p := ⟨gb639, 7, none⟩) (Kd.V_far (p := ⟨gb639, 6, none⟩) (Kd.V_far (p := ⟨gb639, 5, none⟩) (Kd.V_far (p := ⟨gb639, 4, none⟩) (Kd.V_far (p := ⟨gb639, 3, none⟩) (Kd.V_far (p := ⟨gb639, 2, none⟩) (Kd.V_far (p := ⟨gb639, 1, none⟩) (Kd.V_far (p := ⟨gb639, 0, none⟩) (Kd.V_mono HO1.out (fun k_ hk => (⟨hk, hk.2⟩ : _ ∧ k_ ≠ gb639))) (fun _ hk => hk.2) (.string a0)) (fun _ hk => hk.2) (.int .i64 8)) (fun _ hk => hk.2) (.bool false)) (fun _ hk => hk.2) (.int .i64 0)) (fun _ hk => hk.2) (.int .u64 0)) (fun _ hk => hk.2) (.float .f64 0)) (fun _ hk => hk.2) (.string (⟨#[]⟩ : ByteArray))) (fun _ hk => hk.2) (.slice A1 l1.length c1)) (fun _ hk => hk.1.1), by repeat (first | (with_reducible first | exact HB.out | apply below_alloc | apply pw_below_drewN | apply below_drew1 | refine below_set ?_ GE639.out) | exact HB.out)⟩
def spec_uintNode.f (a0 : ByteArray) (a1 : Int) : Option (ByteArray × Int × Bool × Int × Int × Nat × ByteArray × (List (S38))) := some (a0, 3, false, 0, a1, 0, (⟨#[]⟩ : ByteArray), ([] : List (S38)))
set_option maxHeartbeats 8000000 in
set_option maxRecDepth 100000 in
theorem spec_uintNode.calls (a0 : ByteArray) (a1 : Int) (r1 : ByteArray) (r2 : Int) (r3 : Bool) (r4 : Int) (r5 : Int) (r6 : Nat) (r7 : ByteArray) (r8 : List (S38)) (w : World) (h : spec_uintNode.f a0 a1 = some (r1, r2, r3, r4, r5, r6, r7, r8)) :
 Calls Tryz.prog 60 #[.string a0, .int .u64 a1] w fun e w' => ∃ v7_ : Value, e = .returned (.agg #[.string r1, .int .i64 r2, .bool r3, .int .i64 r4, .int .u64 r5, .float .f64 r6, .string r7, v7_]) ∧ Kd.R k38 38 w' w.heap.size (fun _ => True) v7_ r8 ∧ Below w.heap.size w w' := by
 have hu38 := Tryz.underlying38; have HB := Aside0.mk (Below.refl w.heap.size w); have H : (some (a0, 3, false, 0, a1, 0, (⟨#[]⟩ : ByteArray), ([] : List (S38)))) = some (r1, r2, r3, r4, r5, r6, r7, r8) := h; clear h; simp only [Option.some.injEq, Prod.mk.injEq] at H; obtain ⟨rfl, rfl, rfl, rfl, rfl, rfl, rfl, rfl⟩ := H
 go_enter Tryz.func60, Tryz.ntmps60
 go_wp2_with (first | ((with_reducible refine gate_dst (N := 4) rfl ?_); refine box_event ?hg (N := 4) ?hd (cs := #[.string (⟨#[]⟩ : ByteArray), .int .i64 0, .bool false, .int .i64 0, .int .u64 0, .float .f64 0, .string (⟨#[]⟩ : ByteArray), .slice none 0 0]) (t := 38) ?hr ?_; (case hd => rfl); (case hg => rfl); (case hr => first | (go_simp; done) | (go_simp; rfl)); intro gb641 hg w3 hbox hb; have n0_ := Aside0.mk (below_step (by repeat (first | (with_reducible first | exact HB.out | apply below_alloc | apply pw_below_drewN | apply below_drew1) | exact HB.out)) hb); have n1_ := Aside0.mk (hbox); have n2_ := Aside0.mk ((by rw [hg]; exact (below_size (by repeat (first | (with_reducible first | exact HB.out | apply below_alloc | apply pw_below_drewN | apply below_drew1) | exact HB.out))) : w.heap.size ≤ gb641)); have n3_ := Aside0.mk ((by rw [hg]; exact (below_size (by repeat (first | (with_reducible first | exact HB.out | apply below_alloc | apply pw_below_drewN | apply below_drew1) | exact HB.out))) : w.heap.size ≤ gb641)); clear HB; have HB := n0_; have BK641 := n1_; have GW641 := n2_; have GE641 := n3_; clear n0_ n1_ n2_ n3_; clear hb hbox hg; have hcz4_0 : w3.cell? ⟨gb641, 0, none⟩ = some (.string (⟨#[]⟩ : ByteArray)) := (blk_cell BK641.out 0).trans rfl; have hcz4_1 : w3.cell? ⟨gb641, 1, none⟩ = some (.int .i64 0) := (blk_cell BK641.out 1).trans rfl; have hcz4_2 : w3.cell? ⟨gb641, 2, none⟩ = some (.bool false) := (blk_cell BK641.out 2).trans rfl; have hcz4_3 : w3.cell? ⟨gb641, 3, none⟩ = some (.int .i64 0) := (blk_cell BK641.out 3).trans rfl; have hcz4_4 : w3.cell? ⟨gb641, 4, none⟩ = some (.int .u64 0) := (blk_cell BK641.out 4).trans rfl; have hcz4_5 : w3.cell? ⟨gb641, 5, none⟩ = some (.float .f64 0) := (blk_cell BK641.out 5).trans rfl; have hcz4_6 : w3.cell? ⟨gb641, 6, none⟩ = some (.string (⟨#[]⟩ : ByteArray)) := (blk_cell BK641.out 6).trans rfl; have hcz4_7 : w3.cell? ⟨gb641, 7, none⟩ = some (.slice none 0 0) := (blk_cell BK641.out 7).trans rfl; have hfz4_0 := blk_frozen BK641.out 0; have hfz4_1 := blk_frozen BK641.out 1; have hfz4_2 := blk_frozen BK641.out 2; have hfz4_3 := blk_frozen BK641.out 3; have hfz4_4 := blk_frozen BK641.out 4; have hfz4_5 := blk_frozen BK641.out 5; have hfz4_6 := blk_frozen BK641.out 6; have hfz4_7 := blk_frozen BK641.out 7))
 refine bodyPost_ret (results_cell_row rfl _ _ gb641 38 #[.string a0, .int .i64 3, .bool false, .int .i64 0, .int .u64 a1, .float .f64 0, .string (⟨#[]⟩ : ByteArray), .slice none 0 0] (0, 0) _ rfl (by (with_reducible repeat (first | refine blk_drewN ?_ _ | refine blk_drew ?_ | refine blk_alloc ?_ _)); refine blk_put (cs := #[.string a0, .int .i64 3, .bool false, .int .i64 0, .int .u64 a1, .float .f64 0, .string (⟨#[]⟩ : ByteArray), .slice none 0 0]) ?_ 7 _ rfl; (with_reducible repeat (first | refine blk_drewN ?_ _ | refine blk_drew ?_ | refine blk_alloc ?_ _)); refine blk_put (cs := #[.string a0, .int .i64 3, .bool false, .int .i64 0, .int .u64 a1, .float .f64 0, .string (⟨#[]⟩ : ByteArray), .slice none 0 0]) ?_ 6 _ rfl; (with_reducible repeat (first | refine blk_drewN ?_ _ | refine blk_drew ?_ | refine blk_alloc ?_ _)); refine blk_put (cs := #[.string a0, .int .i64 3, .bool false, .int .i64 0, .int .u64 a1, .float .f64 0, .string (⟨#[]⟩ : ByteArray), .slice none 0 0]) ?_ 5 _ rfl; (with_reducible repeat (first | refine blk_drewN ?_ _ | refine blk_drew ?_ | refine blk_alloc ?_ _)); refine blk_put (cs := #[.string a0, .int .i64 3, .bool false, .int .i64 0, .int .u64 0, .float .f64 0, .string (⟨#[]⟩ : ByteArray), .slice none 0 0]) ?_ 4 _ rfl; (with_reducible repeat (first | refine blk_drewN ?_ _ | refine blk_drew ?_ | refine blk_alloc ?_ _)); refine blk_put (cs := #[.string a0, .int .i64 3, .bool false, .int .i64 0, .int .u64 0, .float .f64 0, .string (⟨#[]⟩ : ByteArray), .slice none 0 0]) ?_ 3 _ rfl; (with_reducible repeat (first | refine blk_drewN ?_ _ | refine blk_drew ?_ | refine blk_alloc ?_ _)); refine blk_put (cs := #[.string a0, .int .i64 3, .bool false, .int .i64 0, .int .u64 0, .float .f64 0, .string (⟨#[]⟩ : ByteArray), .slice none 0 0]) ?_ 2 _ rfl; (with_reducible repeat (first | refine blk_drewN ?_ _ | refine blk_drew ?_ | refine blk_alloc ?_ _)); refine blk_put (cs := #[.string a0, .int .i64 0, .bool false, .int .i64 0, .int .u64 0, .float .f64 0, .string (⟨#[]⟩ : ByteArray), .slice none 0 0]) ?_ 1 _ rfl; (with_reducible repeat (first | refine blk_drewN ?_ _ | refine blk_drew ?_ | refine blk_alloc ?_ _)); refine blk_put (cs := #[.string (⟨#[]⟩ : ByteArray), .int .i64 0, .bool false, .int .i64 0, .int .u64 0, .float .f64 0, .string (⟨#[]⟩ : ByteArray), .slice none 0 0]) ?_ 0 _ rfl; (with_reducible repeat (first | refine blk_drewN ?_ _ | refine blk_drew ?_ | refine blk_alloc ?_ _)); exact BK641.out) Tryz.underlying38 rfl (by kernel_rfl)) rfl ?_; exact ⟨_, by first | rfl | (simp [errW_none, errW_some] <;> rfl) | (simp [*, errW_none, errW_some] <;> rfl), by first | exact Kd.R_nil _ _ _ _ _ | exact Kd.N_nil _ _ _ _ _ | exact Kd.V_nil _ _ _ _ _ | exact Kd.Q_nil _ _ _ _ _ | exact Kd.S_nil _ _ _ _ _, by repeat (first | (with_reducible first | exact HB.out | apply below_alloc | apply pw_below_drewN | apply below_drew1 | refine below_set ?_ GE641.out) | exact HB.out)⟩
def laws_lives.f : Option Bool := some true
theorem laws_lives.calls (r : Bool) (w : World) (h : laws_lives.f = some r) (ht : R.LTabs w := by first | assumption | exact Aside0.out ‹Aside0 (R.LTabs _)› | exact R.LTabs.below (Aside0.out ‹Aside0 (R.LTabs _)›) (by repeat (first | (with_reducible first | exact Aside0.out ‹Aside0 (Below _ _ _)› | exact Below.refl _ _ | apply below_alloc | apply pw_below_drewN | apply below_drew1) | refine below_set ?_ ?_ | exact Aside0.out ‹Aside0 (_ ≤ _)›))) :
 Calls Tryz.prog 28 #[] w fun e w' => e = .returned (.bool r) ∧ Below w.heap.size w w' := by
 obtain rfl := Option.some.inj h; exact R.lives_ok w ht
end Go.Proofs.YtabfehcpcjcomaaGreatDoor.QA0
namespace Go.Proofs.YtabfehcpcjcomaaGreatDoor.QA0
open Go.RowKit Go.Proofs.YtabfehcpcjcomaaGreatDoorW.PrintWords Go.Proofs.YtabfehcpcjcomaaGreatDoorW.PrintLast Go.Proofs.YtabfehcpcjcomaaGreatDoorW.PrintMore
attribute [local go_sem] max2_int min2_int max_two min_two max_three min_three max_four min_four
set_option linter.unusedVariables false
set_option linter.unusedSimpArgs false
def spec_told.f (a0 : Bool) : Option (Int) := if a0 = true then (some 1) else (some 2)
set_option maxHeartbeats 8000000 in
set_option maxRecDepth 100000 in
theorem spec_told.calls (a0 : Bool) (r : Int) (w : World) (h : spec_told.f a0 = some r) :
 Calls Tryz.prog 69 #[.bool a0] w fun e w' => e = .returned (.int .i64 r) ∧ Drawn0 w w' := by
 have H : (if a0 = true then (some 1) else (some 2)) = some r := h; clear h
 by_cases c2 : a0 = true
 · subst c2
   have H1 : (some 1) = some r := by rw [if_pos rfl] at H; exact H
   clear H; have H := H1; clear H1; obtain rfl := Option.some.inj H
   go_enter Tryz.func69, Tryz.ntmps69
   go_wp2
   go_ret
   exact ⟨by first | rfl | (simp; done) | (simp [*]; done) | (simp; cases a0.toList <;> rfl), by repeat (first | exact Drawn0.refl _ | apply Drawn0.step)⟩
 · replace c2 := Bool.eq_false_iff.mpr c2; subst c2
   have H1 : (some 2) = some r := by rw [if_neg (show ¬ (false = true) by decide)] at H; exact H
   clear H; have H := H1; clear H1; obtain rfl := Option.some.inj H
   go_enter Tryz.func69, Tryz.ntmps69
   go_wp2
   go_ret
   exact ⟨by first | rfl | (simp; done) | (simp [*]; done) | (simp; cases a0.toList <;> rfl), by repeat (first | exact Drawn0.refl _ | apply Drawn0.step)⟩
def spec_counted.l0 : Nat → Int → Int → Int → List Int → Int → Int → ByteArray → List Int → List ByteArray → Option (Bool)
 | 0, _, _, _, _, _, _, _, _, _ => none
 | k + 1, x1, x2, x3, x12, x13, x14, x941000, x941001, x941002 => if x14 < x13 then (if 0 ≤ x14 then (if x14 < (x12.length : Int) then (if 0 ≤ (wrap64 (x2 - 1)) then (if (rd x12 x14) > (IntKind.u64.wrap ((IntKind.u64.wrap ((shl .u64 1 (wrap64 (x2 - 1))) * 2)) - 1)) then (some false) else (spec_counted.l0 k x1 x2 x3 x12 x13 (wrap64 (x14 + 1)) x941000 x941001 x941002)) else (none)) else (none)) else (none)) else (if (x941001.length : Int) = x1 then (some ((x941002.length : Int) == x3)) else (some false))
def spec_counted.f (k : Nat) (a0_0 : ByteArray) (l0_1 : List Int) (l0_2 : List ByteArray) (a1 : Int) (a2 : Int) (a3 : Int) : Option (Bool) := spec_counted.l0 k a1 a2 a3 l0_1 (l0_1.length : Int) 0 a0_0 l0_1 l0_2
set_option maxHeartbeats 8000000 in
set_option maxRecDepth 100000 in
theorem spec_counted.calls (k : Nat) (a0_0 : ByteArray) (A0_1 : Option Addr) (c0_1 : Nat) (l0_1 : List Int) (A0_2 : Option Addr) (c0_2 : Nat) (l0_2 : List ByteArray) (a1 : Int) (a2 : Int) (a3 : Int) (r : Bool) (w : World) (hr0_1 : Kd.C (Kd.int .u64) w A0_1 l0_1.length l0_1) (hc0_1 : l0_1.length ≤ c0_1) (hr0_2 : Kd.C Kd.string w A0_2 l0_2.length l0_2) (hc0_2 : l0_2.length ≤ c0_2) (h : spec_counted.f k a0_0 l0_1 l0_2 a1 a2 a3 = some r) :
 Calls Tryz.prog 120 #[.agg #[.string a0_0, .slice A0_1 l0_1.length c0_1, .slice A0_2 l0_2.length c0_2], .int .i64 a1, .int .i64 a2, .int .i64 a3] w fun e w' => e = .returned (.bool r) ∧ Below w.heap.size w w' := by
 have hu48 := Tryz.underlying48; have HR0_1 := Aside0.mk hr0_1; have HC0_1 := Aside0.mk hc0_1; clear hr0_1 hc0_1; have HR0_2 := Aside0.mk hr0_2; have HC0_2 := Aside0.mk hc0_2; clear hr0_2 hc0_2; have HB := Aside0.mk (Below.refl w.heap.size w); have H : (spec_counted.l0 k a1 a2 a3 l0_1 (l0_1.length : Int) 0 a0_0 l0_1 l0_2) = some r := h; clear h; have H' := Aside0.mk H; clear H
 go_enter Tryz.func120, Tryz.ntmps120
 go_wp2_with (first | ((with_reducible refine gate_dst (N := 4) rfl ?_); (try (refine gate_guard (by rfl) ?_; dsimp only)); refine box_event ?hg (N := 4) ?hd (cs := #[.string a0_0, .slice A0_1 l0_1.length c0_1, .slice A0_2 l0_2.length c0_2]) (t := 48) ?hr ?_; (case hd => rfl); (case hg => rfl); (case hr => first | (go_simp; done) | (go_simp; rfl)); intro gb940 hg w5 hbox hb; have n0_ := Aside0.mk (below_step (by repeat (first | (with_reducible first | exact HB.out | apply below_alloc | apply pw_below_drewN | apply below_drew1) | exact HB.out)) hb); have n1_ := Aside0.mk (hbox); have n2_ := Aside0.mk ((by rw [hg]; exact (below_size (by repeat (first | (with_reducible first | exact HB.out | apply below_alloc | apply pw_below_drewN | apply below_drew1) | exact HB.out))) : w.heap.size ≤ gb940)); have n3_ := Aside0.mk ((by rw [hg]; exact (below_size (by repeat (first | (with_reducible first | exact HB.out | apply below_alloc | apply pw_below_drewN | apply below_drew1) | exact HB.out))) : w.heap.size ≤ gb940)); clear HB; have HB := n0_; have BK940 := n1_; have GW940 := n2_; have GE940 := n3_; clear n0_ n1_ n2_ n3_; clear hb hbox hg; have hcz6_0 : w5.cell? ⟨gb940, 0, none⟩ = some (.string a0_0) := (blk_cell BK940.out 0).trans rfl; have hcz6_1 : w5.cell? ⟨gb940, 1, none⟩ = some (.slice A0_1 l0_1.length c0_1) := (blk_cell BK940.out 1).trans rfl; have hcz6_2 : w5.cell? ⟨gb940, 2, none⟩ = some (.slice A0_2 l0_2.length c0_2) := (blk_cell BK940.out 2).trans rfl; have hfz6_0 := blk_frozen BK940.out 0; have hfz6_1 := blk_frozen BK940.out 1; have hfz6_2 := blk_frozen BK940.out 2))
 go_loopg [14] k (fun kq v14 w' => ∃ (x14_1 : Int), v14 = .int .i64 x14_1 ∧ Aside0 (spec_counted.l0 kq a1 a2 a3 l0_1 (l0_1.length : Int) x14_1 a0_0 l0_1 l0_2 = some r) ∧ Aside0 (kq ≤ k) ∧ Aside0 (w'.heap[gb940]? = some (.cells #[.string a0_0, (.slice A0_1 l0_1.length c0_1), (.slice A0_2 l0_2.length c0_2)] 48 (0, 0))) ∧ Aside0 (Below w.heap.size w w'))
 case atStart => exact ⟨(0), (by first | rfl | (simp; done) | (simp [*]; done)), H', ⟨Nat.le_refl _⟩, ⟨by (with_reducible repeat (first | refine blk_drewN ?_ _ | refine blk_drew ?_ | refine blk_alloc ?_ _)); exact BK940.out⟩, ⟨by repeat (first | (with_reducible first | exact HB.out | apply below_alloc | apply pw_below_drewN | apply below_drew1 | refine below_set ?_ GE940.out) | exact HB.out)⟩⟩
 case round =>
  clear H'; try clear c1
  try clear p2
  try clear hcz6_0
  try clear hcz6_1
  try clear hcz6_2
  try clear hfz6_0
  try clear hfz6_1
  try clear hfz6_2
  obtain ⟨x14_1, rfl, HA, HK1, BK940, HB⟩ := hrel; cases gk with
  | zero => exact absurd HA.out (by simp [spec_counted.l0])
  | succ k1 =>
   have H := HA.out; clear HA; simp only [spec_counted.l0] at H
   by_cases c7 : x14_1 < (l0_1.length : Int)
   · rw [if_pos c7] at H; have c7b0 : decide (x14_1 < (l0_1.length : Int)) = true := decide_eq_true c7; clear c7
     by_cases c8 : 0 ≤ x14_1
     · rw [if_pos c8] at H; have c8b0 : decide (0 ≤ x14_1) = true := decide_eq_true c8; clear c8
       by_cases c9 : x14_1 < (l0_1.length : Int)
       · rw [if_pos c9] at H; have c9b0 : decide (x14_1 < (l0_1.length : Int)) = true := decide_eq_true c9; clear c9; obtain ⟨ji10, hji10⟩ : ∃ j_ : Int, (wrap64 (a2 - 1)) = j_ := ⟨_, rfl⟩
         replace H : (if 0 ≤ (ji10) then (if (rd l0_1 x14_1) > (IntKind.u64.wrap ((IntKind.u64.wrap ((shl .u64 1 (ji10)) * 2)) - 1)) then (some false) else (spec_counted.l0 k1 a1 a2 a3 l0_1 (l0_1.length : Int) (wrap64 (x14_1 + 1)) a0_0 l0_1 l0_2)) else (none)) = some r := by first | (rw [hji10] at H; exact H) | (simp only [hji10] at H ⊢; exact H)
         have hji10w : (IntKind.i64.wrap (a2 - 1)) = ji10 := (i64_w _).trans hji10
         by_cases c11 : 0 ≤ (ji10)
         · rw [if_pos c11] at H; have c11b0 := eq_true c11; have c11b1 : decide (0 ≤ (ji10)) = true := decide_eq_true c11; clear c11; obtain ⟨ji12, hji12⟩ : ∃ j_ : Int, (shl .u64 1 (ji10)) = j_ := ⟨_, rfl⟩
           replace H : (if (rd l0_1 x14_1) > (IntKind.u64.wrap ((IntKind.u64.wrap ((ji12) * 2)) - 1)) then (some false) else (spec_counted.l0 k1 a1 a2 a3 l0_1 (l0_1.length : Int) (wrap64 (x14_1 + 1)) a0_0 l0_1 l0_2)) = some r := by first | (rw [hji12] at H; exact H) | (simp only [hji12] at H ⊢; exact H)
           have hji12_ : (IntKind.u64.wrap (1 * 2 ^ min (ji10).toNat 64)) = ji12 := hji12; have hji12z : (ji10) ≤ 64 → (IntKind.u64.wrap (1 * 2 ^ (ji10).toNat)) = ji12 := shl_small hji12
           have hji12u : (IntKind.u64.wrap (2 ^ min (ji10).toNat 64)) = ji12 := by have h_ := hji12_; rw [Int.one_mul] at h_; exact h_
           have hji12v : (ji10) ≤ 64 → (IntKind.u64.wrap (2 ^ (ji10).toNat)) = ji12 := fun hle_ => by have h_ := hji12z hle_; rw [Int.one_mul] at h_; exact h_
           by_cases c13 : (rd l0_1 x14_1) > (IntKind.u64.wrap ((IntKind.u64.wrap ((ji12) * 2)) - 1))
           · rw [if_pos c13] at H; have c13b0 : decide ((IntKind.u64.wrap ((IntKind.u64.wrap ((ji12) * 2)) - 1)) < (rd l0_1 x14_1)) = true := decide_eq_true c13; clear c13; obtain rfl := Option.some.inj H; have p941 : 0 ≤ (x14_1 : Int) := of_decide_eq_true (by first | (with_reducible assumption) | assumption); have q941 : x14_1 < (l0_1.length : Int) := of_decide_eq_true (by first | (with_reducible assumption) | assumption); obtain ⟨ad941, e941, hx941_0⟩ := Kd.at_int HR0_1.out x14_1 p941 q941; cases e941; replace hx941_0 := (HB.out.cell (World.block_lt_of_cell? w _ hx941_0)).trans hx941_0; replace p941 := eq_true p941; replace q941 := eq_true q941; go_wp2
             go_ret
             exact ⟨by first | rfl | (simp [errW_none, errW_some] <;> rfl) | (simp only [← hji10, ← hji12]; first | rfl | (simp [errW_none, errW_some] <;> rfl)) | (simp [*, errW_none, errW_some] <;> rfl), by repeat (first | (with_reducible first | exact HB.out | apply below_alloc | apply pw_below_drewN | apply below_drew1 | refine below_set ?_ GE940.out) | exact HB.out)⟩
           · rw [if_neg c13] at H; have c13b0 : decide ((IntKind.u64.wrap ((IntKind.u64.wrap ((ji12) * 2)) - 1)) < (rd l0_1 x14_1)) = false := decide_eq_false c13; clear c13; have H' := Aside0.mk H; clear H; have p941 : 0 ≤ (x14_1 : Int) := of_decide_eq_true (by first | (with_reducible assumption) | assumption); have q941 : x14_1 < (l0_1.length : Int) := of_decide_eq_true (by first | (with_reducible assumption) | assumption); obtain ⟨ad941, e941, hx941_0⟩ := Kd.at_int HR0_1.out x14_1 p941 q941; cases e941; replace hx941_0 := (HB.out.cell (World.block_lt_of_cell? w _ hx941_0)).trans hx941_0; replace p941 := eq_true p941; replace q941 := eq_true q941; go_wp2
             go_roundg k1
             case measure => have := HK1.out; omega
             case rel => exact ⟨(wrap64 (x14_1 + 1)), (by first | rfl | (simp; done) | (simp [*]; done)), H', ⟨by have := HK1.out; omega⟩, ⟨by (with_reducible repeat (first | refine blk_drewN ?_ _ | refine blk_drew ?_ | refine blk_alloc ?_ _)); exact BK940.out⟩, ⟨by repeat (first | (with_reducible first | exact HB.out | apply below_alloc | apply pw_below_drewN | apply below_drew1 | refine below_set ?_ GE940.out) | exact HB.out)⟩⟩
         · rw [if_neg c11] at H; exact absurd H (by simp)
       · rw [if_neg c9] at H; exact absurd H (by simp)
     · rw [if_neg c8] at H; exact absurd H (by simp)
   · rw [if_neg c7] at H; have c7b0 : decide (x14_1 < (l0_1.length : Int)) = false := decide_eq_false c7; clear c7
     by_cases c14 : (l0_1.length : Int) = a1
     · rw [if_pos c14] at H; have c14b0 : ((l0_1.length : Int) == a1) = true := beq_iff_eq.mpr c14; have c14b1 : ((l0_1.length : Int) != a1) = false := bne_eq_false_iff_eq.mpr c14; clear c14; obtain rfl := Option.some.inj H; have hcz15_0 : wr.cell? ⟨gb940, 0, none⟩ = some (.string a0_0) := (blk_cell BK940.out 0).trans rfl; have hcz15_1 : wr.cell? ⟨gb940, 1, none⟩ = some (.slice A0_1 l0_1.length c0_1) := (blk_cell BK940.out 1).trans rfl; have hcz15_2 : wr.cell? ⟨gb940, 2, none⟩ = some (.slice A0_2 l0_2.length c0_2) := (blk_cell BK940.out 2).trans rfl; have hfz15_0 := blk_frozen BK940.out 0; have hfz15_1 := blk_frozen BK940.out 1; have hfz15_2 := blk_frozen BK940.out 2; go_wp2
       go_ret
       exact ⟨by first | rfl | (simp [errW_none, errW_some] <;> rfl) | (simp [*, errW_none, errW_some] <;> rfl), by repeat (first | (with_reducible first | exact HB.out | apply below_alloc | apply pw_below_drewN | apply below_drew1 | refine below_set ?_ GE940.out) | exact HB.out)⟩
     · rw [if_neg c14] at H; have c14b0 : ((l0_1.length : Int) == a1) = false := beq_eq_false_iff_ne.mpr c14; have c14b1 : ((l0_1.length : Int) != a1) = true := bne_iff_ne.mpr c14; obtain rfl := Option.some.inj H; have hcz16_0 : wr.cell? ⟨gb940, 0, none⟩ = some (.string a0_0) := (blk_cell BK940.out 0).trans rfl; have hcz16_1 : wr.cell? ⟨gb940, 1, none⟩ = some (.slice A0_1 l0_1.length c0_1) := (blk_cell BK940.out 1).trans rfl; have hcz16_2 : wr.cell? ⟨gb940, 2, none⟩ = some (.slice A0_2 l0_2.length c0_2) := (blk_cell BK940.out 2).trans rfl; have hfz16_0 := blk_frozen BK940.out 0; have hfz16_1 := blk_frozen BK940.out 1; have hfz16_2 := blk_frozen BK940.out 2; go_wp2
       go_ret
       exact ⟨by first | rfl | (simp [errW_none, errW_some] <;> rfl) | (simp [*, errW_none, errW_some] <;> rfl), by repeat (first | (with_reducible first | exact HB.out | apply below_alloc | apply pw_below_drewN | apply below_drew1 | refine below_set ?_ GE940.out) | exact HB.out)⟩
end Go.Proofs.YtabfehcpcjcomaaGreatDoor.QA0
