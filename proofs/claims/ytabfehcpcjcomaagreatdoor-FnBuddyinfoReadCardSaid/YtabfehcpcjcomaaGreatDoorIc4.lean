/- The texts QA0x10, QA0x11, QA0x12, QA0x13, QA0x14, QA0x18, QA0x21, QA0x26, QA0x31, QA0x37, without what the claims do not use, laid together by a program of this session (wip/tools/bundle.py). Conditions: those of each theorem. -/
import Derived.Test.YtabfehcpcjcomaaGreatDoorIc2
namespace Go.Proofs.YtabfehcpcjcomaaGreatDoor.QA0
open Go.RowKit Go.Proofs.YtabfehcpcjcomaaGreatDoorW.PrintWords Go.Proofs.YtabfehcpcjcomaaGreatDoorW.PrintLast Go.Proofs.YtabfehcpcjcomaaGreatDoorW.PrintMore
attribute [local go_sem] max2_int min2_int max_two min_two max_three min_three max_four min_four
set_option linter.unusedVariables false
set_option linter.unusedSimpArgs false
mutual
def spec_Fields.l0 : Nat → ByteArray → List ByteArray → Int → Int → Int → Option (List ByteArray)
 | 0, _, _, _, _, _ => none
 | k + 1, x0, x3, x4, x8, x9 => if x9 < x8 then (if 0 ≤ x9 then (if x9 < (x0.size : Int) then (if (bt x0 x9) = 32 then (spec_Fields.j1 k x0 x3 x4 x9 true x8 x9) else (spec_Fields.j1 k x0 x3 x4 x9 ((bt x0 x9) == 9) x8 x9)) else (none)) else (none)) else (if x4 ≥ 0 then (if 0 ≤ x4 then (if x4 ≤ (x0.size : Int) then (if x3.length < 8796093022208 then (some (x3 ++ [x0.extract (x4 : Int).toNat x0.size])) else (none)) else (none)) else (none)) else (some x3))
def spec_Fields.j1 : Nat → ByteArray → List ByteArray → Int → Int → Bool → Int → Int → Option (List ByteArray)
 | 0, _, _, _, _, _, _, _ => none
 | k + 1, x0, x3, x4, x5, x6, x8, x9 => if x6 = true then (spec_Fields.j2 k x0 x3 x4 x5 x6 x8 x9 (decide (x4 ≥ 0))) else (spec_Fields.j2 k x0 x3 x4 x5 x6 x8 x9 false)
def spec_Fields.j2 : Nat → ByteArray → List ByteArray → Int → Int → Bool → Int → Int → Bool → Option (List ByteArray)
 | 0, _, _, _, _, _, _, _, _ => none
 | k + 1, x0, x3, x4, x5, x6, x8, x9, x22 => if x22 = true then (if 0 ≤ x4 then (if x4 ≤ x5 then (if x5 ≤ (x0.size : Int) then (if x3.length < 8796093022208 then (spec_Fields.l0 k x0 (x3 ++ [x0.extract (x4 : Int).toNat (x5 : Int).toNat]) (-1) x8 (wrap64 (x9 + 1))) else (none)) else (none)) else (none)) else (none)) else (if x6 = true then (spec_Fields.l0 k x0 x3 x4 x8 (wrap64 (x9 + 1))) else (if x4 < 0 then (spec_Fields.l0 k x0 x3 x5 x8 (wrap64 (x9 + 1))) else (spec_Fields.l0 k x0 x3 x4 x8 (wrap64 (x9 + 1)))))
end
def spec_Fields.f (k : Nat) (a0 : ByteArray) : Option (List ByteArray) := spec_Fields.l0 k a0 ([] : List ByteArray) (-1) (a0.size : Int) 0
set_option maxHeartbeats 8000000 in
set_option maxRecDepth 100000 in
theorem spec_Fields.calls (k : Nat) (a0 : ByteArray) (r : List ByteArray) (w : World) (h : spec_Fields.f k a0 = some r) :
 Calls Tryz.prog 31 #[.string a0] w fun e w' => ∃ v0_ : Value, e = .returned (v0_) ∧ Kd.R Kd.string 9 w' w.heap.size (fun _ => True) v0_ r ∧ Below w.heap.size w w' := by
 have HB := Aside0.mk (Below.refl w.heap.size w); have H : (spec_Fields.l0 k a0 ([] : List ByteArray) (-1) (a0.size : Int) 0) = some r := h; clear h; have H' := Aside0.mk H; clear H
 go_enter Tryz.func31, Tryz.ntmps31
 go_wp2
 go_loopg [3, 4, 9] k (fun kq v3 v4 v9 w' => ∃ (x3_1 : List ByteArray) (x4_1 : Int) (x9_1 : Int), v4 = .int .i64 x4_1 ∧ v9 = .int .i64 x9_1 ∧ Aside0 (spec_Fields.l0 kq a0 x3_1 x4_1 (a0.size : Int) x9_1 = some r) ∧ Aside0 (kq ≤ k) ∧ Aside0 (Kd.R Kd.string 9 w' w.heap.size (fun _ => True) v3 x3_1) ∧ Aside0 (Below w.heap.size w w'))
 case atStart => exact ⟨(([] : List ByteArray)), ((-1)), (0), R.rs, R.rs, H', ⟨Nat.le_refl _⟩, ⟨by first | exact Kd.R_nil _ _ _ _ _ | exact Kd.N_nil _ _ _ _ _ | exact Kd.V_nil _ _ _ _ _ | exact Kd.Q_nil _ _ _ _ _ | exact Kd.S_nil _ _ _ _ _⟩, ⟨by repeat (first | (with_reducible first | exact HB.out | apply below_alloc | apply pw_below_drewN | apply below_drew1) | exact HB.out)⟩⟩
 case round =>
  clear H'; obtain ⟨x3_1, x4_1, x9_1, rfl, rfl, HA, HK1, HO_3, HB⟩ := hrel; cases gk with
  | zero => exact absurd HA.out (by simp [spec_Fields.l0])
  | succ k1 =>
   have H := HA.out; clear HA; simp only [spec_Fields.l0] at H
   by_cases c2 : x9_1 < (a0.size : Int)
   · rw [if_pos c2] at H; have c2b0 : decide (x9_1 < (a0.size : Int)) = true := decide_eq_true c2; clear c2; have HC3 := Aside0.mk H; clear H
     go_upto_region 6 with (fail)
     go_cut [6] (fun v6 wc => ∃ (kq : Nat) (x6_2 : Bool), v6 = .bool x6_2 ∧ Aside0 (spec_Fields.j1 kq a0 x3_1 x4_1 x9_1 x6_2 (a0.size : Int) x9_1 = some r) ∧ Aside0 (kq ≤ k1) ∧ Aside0 (Kd.R Kd.string 9 wc w.heap.size (fun _ => True) u3 x3_1) ∧ Aside0 (Below w.heap.size w wc))
     case first =>
      have H := HC3.out; clear HC3
      by_cases c4 : 0 ≤ x9_1
      · rw [if_pos c4] at H; have c4b0 : decide (0 ≤ x9_1) = true := decide_eq_true c4; clear c4; (first | rw [c4b0] | (simp only [i64_w, i32_w]; rw [c4b0]) | skip)
        by_cases c5 : x9_1 < (a0.size : Int)
        · rw [if_pos c5] at H; have c5b0 : decide (x9_1 < (a0.size : Int)) = true := decide_eq_true c5; clear c5
          by_cases c7 : (bt a0 x9_1) = 32
          · rw [if_pos c7] at H; have c7b0 : ((bt a0 x9_1) == 32) = true := beq_iff_eq.mpr c7; have c7b1 : ((bt a0 x9_1) != 32) = false := bne_eq_false_iff_eq.mpr c7; clear c7; have H' := Aside0.mk H; clear H; have p6 : 0 ≤ (x9_1 : Int) := R.od; have q6 : x9_1 < (a0.size : Int) := R.od; have hx6 := bt_at a0 x9_1; replace p6 := eq_true p6; replace q6 := eq_true q6; go_wp2
            go_meet
            case rel => exact ⟨_, (true), R.rs, H', ⟨by have := HK1.out; first | omega | exact Nat.le_refl _⟩, ⟨by (with_reducible repeat (first | apply Kd.R_alloc | apply Kd.R_drewN | apply Kd.R_drew)); exact HO_3.out⟩, ⟨by repeat (first | (with_reducible first | exact HB.out | apply below_alloc | apply pw_below_drewN | apply below_drew1) | exact HB.out)⟩⟩
          · rw [if_neg c7] at H; have c7b0 : ((bt a0 x9_1) == 32) = false := beq_eq_false_iff_ne.mpr c7; have c7b1 : ((bt a0 x9_1) != 32) = true := bne_iff_ne.mpr c7; have H' := Aside0.mk H; clear H; have p6 : 0 ≤ (x9_1 : Int) := R.od; have q6 : x9_1 < (a0.size : Int) := R.od; have hx6 := bt_at a0 x9_1; replace p6 := eq_true p6; replace q6 := eq_true q6; have p8 : 0 ≤ (x9_1 : Int) := R.od; have q8 : x9_1 < (a0.size : Int) := R.od; have hx8 := bt_at a0 x9_1; replace p8 := eq_true p8; replace q8 := eq_true q8; go_wp2
            go_meet
            case rel => exact ⟨_, (((bt a0 x9_1) == 9)), R.rs, H', ⟨by have := HK1.out; first | omega | exact Nat.le_refl _⟩, ⟨by (with_reducible repeat (first | apply Kd.R_alloc | apply Kd.R_drewN | apply Kd.R_drew)); exact HO_3.out⟩, ⟨by repeat (first | (with_reducible first | exact HB.out | apply below_alloc | apply pw_below_drewN | apply below_drew1) | exact HB.out)⟩⟩
        · rw [if_neg c5] at H; exact absurd H (by simp)
      · rw [if_neg c4] at H; exact absurd H (by simp)
     case rest =>
      clear HC3; try clear c2
      try clear c2b0
      try clear p2
      try clear c3
      try clear c4
      try clear c4b0
      try clear c5
      try clear c5b0
      try clear p6
      try clear q6
      try clear hx6
      try clear c7
      try clear c7b0
      try clear c7b1
      try clear p8
      try clear q8
      try clear hx8
      try clear p6
      try clear p8
      try clear q6
      try clear q8
      obtain ⟨kq, x6_2, rfl, HA, HJ2, HO_3, HB⟩ := hcut; cases kq with
      | zero => exact absurd HA.out (by simp [spec_Fields.j1])
      | succ kj2 =>
       have H := HA.out; clear HA; simp only [spec_Fields.j1] at H; have HC9 := Aside0.mk H; clear H
       go_upto_region 7 with (fail)
       go_cut [22] (fun v22 wc => ∃ (kq : Nat) (x22_8 : Bool), v22 = .bool x22_8 ∧ Aside0 (spec_Fields.j2 kq a0 x3_1 x4_1 x9_1 x6_2 (a0.size : Int) x9_1 x22_8 = some r) ∧ Aside0 (kq ≤ kj2) ∧ Aside0 (Kd.R Kd.string 9 wc w.heap.size (fun _ => True) u3 x3_1) ∧ Aside0 (Below w.heap.size w wc))
       case first =>
        have H := HC9.out; clear HC9
        by_cases c10 : x6_2 = true
        · subst c10
          have H1 : (spec_Fields.j2 kj2 a0 x3_1 x4_1 x9_1 true (a0.size : Int) x9_1 (decide (x4_1 ≥ 0))) = some r := by rw [if_pos rfl] at H; exact H
          clear H; have H := H1; clear H1; have H' := Aside0.mk H; clear H; go_wp2
          go_meet
          case rel => exact ⟨_, (decide (x4_1 ≥ 0)), R.rs, H', ⟨by have := HK1.out; have := HJ2.out; first | omega | exact Nat.le_refl _⟩, ⟨by (with_reducible repeat (first | apply Kd.R_alloc | apply Kd.R_drewN | apply Kd.R_drew)); exact HO_3.out⟩, ⟨by repeat (first | (with_reducible first | exact HB.out | apply below_alloc | apply pw_below_drewN | apply below_drew1) | exact HB.out)⟩⟩
        · replace c10 := Bool.eq_false_iff.mpr c10; subst c10
          have H1 : (spec_Fields.j2 kj2 a0 x3_1 x4_1 x9_1 false (a0.size : Int) x9_1 false) = some r := by rw [if_neg (show ¬ (false = true) by decide)] at H; exact H
          clear H; have H := H1; clear H1; have H' := Aside0.mk H; clear H; go_wp2
          go_meet
          case rel => exact ⟨_, (false), R.rs, H', ⟨by have := HK1.out; have := HJ2.out; first | omega | exact Nat.le_refl _⟩, ⟨by (with_reducible repeat (first | apply Kd.R_alloc | apply Kd.R_drewN | apply Kd.R_drew)); exact HO_3.out⟩, ⟨by repeat (first | (with_reducible first | exact HB.out | apply below_alloc | apply pw_below_drewN | apply below_drew1) | exact HB.out)⟩⟩
       case rest =>
        clear HC9; try clear c1
        try clear c2
        try clear c2b0
        try clear p2
        try clear c3
        try clear c4
        try clear c4b0
        try clear c5
        try clear c5b0
        try clear p6
        try clear q6
        try clear hx6
        try clear c7
        try clear c7b0
        try clear c7b1
        try clear p8
        try clear q8
        try clear hx8
        try clear c10
        try clear p2
        try clear p6
        try clear p8
        try clear q6
        try clear q8
        obtain ⟨kq, x22_8, rfl, HA, HJ8, HO_3, HB⟩ := hcut; cases kq with
        | zero => exact absurd HA.out (by simp [spec_Fields.j2])
        | succ kj8 =>
         have H := HA.out; clear HA; simp only [spec_Fields.j2] at H
         by_cases c11 : x22_8 = true
         · subst c11; rw [if_pos rfl] at H; have H1 := H; clear H; have H := H1; clear H1
           by_cases c12 : 0 ≤ x4_1
           · rw [if_pos c12] at H; have c12b0 := eq_true c12; have c12b1 : decide (0 ≤ x4_1) = true := decide_eq_true c12; clear c12
             by_cases c13 : x4_1 ≤ x9_1
             · rw [if_pos c13] at H; have c13b0 := eq_true c13; have c13b1 : decide (x4_1 ≤ x9_1) = true := decide_eq_true c13; clear c13
               by_cases c14 : x9_1 ≤ (a0.size : Int)
               · rw [if_pos c14] at H; have c14b0 := eq_true c14; have c14b1 : decide (x9_1 ≤ (a0.size : Int)) = true := decide_eq_true c14; clear c14
                 by_cases c15 : x3_1.length < 8796093022208
                 · rw [if_pos c15] at H; have LMc15 := Aside0.mk c15; clear c15; obtain ⟨y554, hy554⟩ : ∃ y_ : List ByteArray, y_ = (x3_1 ++ [a0.extract (x4_1 : Int).toNat (x9_1 : Int).toNat]) := ⟨_, rfl⟩
                   replace H : (spec_Fields.l0 kj8 a0 y554 (-1) (a0.size : Int) (wrap64 (x9_1 + 1))) = some r := by first | (rw [hy554]; with_reducible exact H) | (have H2_ := (Option.bind_some _ _).symm.trans H; rw [hy554]; with_reducible exact H2_) | (have H2_ := (Option.bind_some _ _).symm.trans H; with_reducible exact H2_) | with_reducible exact H | (rw [hy554]; exact H) | exact H
                   have Ny554 := Aside0.mk hy554; clear hy554; have H' := Aside0.mk H; clear H
                   go_wp2_with (first | ((with_reducible refine gate_builtin (b := .append) (xs := #[.tmp 28, .tmp 33]) rfl ?_); at_builtin; refine Kd.R_append Kd.string (w0 := w) w.heap.size rfl (.tmp 28) (.tmp 33) 42 9 (.string ⟨#[]⟩) 16 rfl Tryz.underlying42 info9 rfl (by decide) (by omega) u3 x3_1 (a0.extract (x4_1 : Int).toNat (x9_1 : Int).toNat) [.string (a0.extract (x4_1 : Int).toNat (x9_1 : Int).toNat)] (fun _ => True) (fun _ => False) rfl rfl ?aP (fun _ hk => hk.elim) ?aF ?aO ?aB ?aS ?aL ?_; (case aP => exact rfl); (case aB => exact (R.hb HB.out)); (case aF => exact (fun _ _ => trivial)); (case aO => exact (R.lr HO_3.out)); (case aS => exact (below_size (R.hb HB.out))); (case aL => have := LMc15.out; omega); intro v555 w16 ho hb hg hat; rw [← Ny554.out] at ho; have n0_ := Aside0.mk (hb); have n1_ := Aside0.mk (ho); clear HB; clear HO_3; have HB := n0_; have HO556 := n1_; clear n0_ n1_; clear ho hb hg hat))
                   go_roundg kj8
                   case measure => have := HK1.out; have := HJ2.out; have := HJ8.out; omega
                   case rel => exact ⟨(y554), ((-1)), (wrap64 (x9_1 + 1)), R.rs, R.rs, H', ⟨by have := HK1.out; have := HJ2.out; have := HJ8.out; omega⟩, ⟨by (with_reducible repeat (first | apply Kd.R_alloc | apply Kd.R_drewN | apply Kd.R_drew)); exact HO556.out⟩, ⟨by repeat (first | (with_reducible first | exact HB.out | apply below_alloc | apply pw_below_drewN | apply below_drew1) | exact HB.out)⟩⟩
                 · rw [if_neg c15] at H; exact absurd H (by simp)
               · rw [if_neg c14] at H; exact absurd H (by simp)
             · rw [if_neg c13] at H; exact absurd H (by simp)
           · rw [if_neg c12] at H; exact absurd H (by simp)
         · replace c11 := Bool.eq_false_iff.mpr c11; subst c11
           have H1 : (if x6_2 = true then (spec_Fields.l0 kj8 a0 x3_1 x4_1 (a0.size : Int) (wrap64 (x9_1 + 1))) else (if x4_1 < 0 then (spec_Fields.l0 kj8 a0 x3_1 x9_1 (a0.size : Int) (wrap64 (x9_1 + 1))) else (spec_Fields.l0 kj8 a0 x3_1 x4_1 (a0.size : Int) (wrap64 (x9_1 + 1))))) = some r := by rw [if_neg (show ¬ (false = true) by decide)] at H; exact H
           clear H; have H := H1; clear H1
           by_cases c17 : x6_2 = true
           · subst c17
             have H1 : (spec_Fields.l0 kj8 a0 x3_1 x4_1 (a0.size : Int) (wrap64 (x9_1 + 1))) = some r := by rw [if_pos rfl] at H; exact H
             clear H; have H := H1; clear H1; have H' := Aside0.mk H; clear H; go_wp2
             go_roundg kj8
             case measure => have := HK1.out; have := HJ2.out; have := HJ8.out; omega
             case rel => exact ⟨(x3_1), (x4_1), (wrap64 (x9_1 + 1)), R.rs, R.rs, H', ⟨by have := HK1.out; have := HJ2.out; have := HJ8.out; omega⟩, ⟨by (with_reducible repeat (first | apply Kd.R_alloc | apply Kd.R_drewN | apply Kd.R_drew)); exact HO_3.out⟩, ⟨by repeat (first | (with_reducible first | exact HB.out | apply below_alloc | apply pw_below_drewN | apply below_drew1) | exact HB.out)⟩⟩
           · replace c17 := Bool.eq_false_iff.mpr c17; subst c17
             have H1 : (if x4_1 < 0 then (spec_Fields.l0 kj8 a0 x3_1 x9_1 (a0.size : Int) (wrap64 (x9_1 + 1))) else (spec_Fields.l0 kj8 a0 x3_1 x4_1 (a0.size : Int) (wrap64 (x9_1 + 1)))) = some r := by rw [if_neg (show ¬ (false = true) by decide)] at H; exact H
             clear H; have H := H1; clear H1
             by_cases c18 : x4_1 < 0
             · rw [if_pos c18] at H; have c18b0 : decide (x4_1 < 0) = true := decide_eq_true c18; clear c18; have H' := Aside0.mk H; clear H; go_wp2
               go_roundg kj8
               case measure => have := HK1.out; have := HJ2.out; have := HJ8.out; omega
               case rel => exact ⟨(x3_1), (x9_1), (wrap64 (x9_1 + 1)), R.rs, R.rs, H', ⟨by have := HK1.out; have := HJ2.out; have := HJ8.out; omega⟩, ⟨by (with_reducible repeat (first | apply Kd.R_alloc | apply Kd.R_drewN | apply Kd.R_drew)); exact HO_3.out⟩, ⟨by repeat (first | (with_reducible first | exact HB.out | apply below_alloc | apply pw_below_drewN | apply below_drew1) | exact HB.out)⟩⟩
             · rw [if_neg c18] at H; have c18b0 : decide (x4_1 < 0) = false := decide_eq_false c18; clear c18; have H' := Aside0.mk H; clear H; go_wp2
               go_roundg kj8
               case measure => have := HK1.out; have := HJ2.out; have := HJ8.out; omega
               case rel => exact ⟨(x3_1), (x4_1), (wrap64 (x9_1 + 1)), R.rs, R.rs, H', ⟨by have := HK1.out; have := HJ2.out; have := HJ8.out; omega⟩, ⟨by (with_reducible repeat (first | apply Kd.R_alloc | apply Kd.R_drewN | apply Kd.R_drew)); exact HO_3.out⟩, ⟨by repeat (first | (with_reducible first | exact HB.out | apply below_alloc | apply pw_below_drewN | apply below_drew1) | exact HB.out)⟩⟩
   · rw [if_neg c2] at H; have c2b0 : decide (x9_1 < (a0.size : Int)) = false := decide_eq_false c2; clear c2
     by_cases c19 : x4_1 ≥ 0
     · rw [if_pos c19] at H; have c19b0 : decide (0 ≤ x4_1) = true := decide_eq_true c19; clear c19
       by_cases c20 : 0 ≤ x4_1
       · rw [if_pos c20] at H; have c20b0 := eq_true c20; have c20b1 : decide (0 ≤ x4_1) = true := decide_eq_true c20; clear c20
         by_cases c21 : x4_1 ≤ (a0.size : Int)
         · rw [if_pos c21] at H; have c21b0 := eq_true c21; have c21b1 : decide (x4_1 ≤ (a0.size : Int)) = true := decide_eq_true c21; clear c21
           by_cases c22 : x3_1.length < 8796093022208
           · rw [if_pos c22] at H; have LMc22 := Aside0.mk c22; clear c22; obtain ⟨y551, hy551⟩ : ∃ y_ : List ByteArray, y_ = (x3_1 ++ [a0.extract (x4_1 : Int).toNat a0.size]) := ⟨_, rfl⟩
             replace H : (some y551) = some r := by first | (rw [hy551]; with_reducible exact H) | (have H2_ := (Option.bind_some _ _).symm.trans H; rw [hy551]; with_reducible exact H2_) | (have H2_ := (Option.bind_some _ _).symm.trans H; with_reducible exact H2_) | with_reducible exact H | (rw [hy551]; exact H) | exact H
             have Ny551 := Aside0.mk hy551; clear hy551; obtain rfl := Option.some.inj H
             go_wp2_with (first | ((with_reducible refine gate_builtin (b := .append) (xs := #[.tmp 46, .tmp 50]) rfl ?_); at_builtin; refine Kd.R_append Kd.string (w0 := w) w.heap.size rfl (.tmp 46) (.tmp 50) 42 9 (.string ⟨#[]⟩) 16 rfl Tryz.underlying42 info9 rfl (by decide) (by omega) u3 x3_1 (a0.extract (x4_1 : Int).toNat a0.size) [.string (a0.extract (x4_1 : Int).toNat a0.size)] (fun _ => True) (fun _ => False) rfl rfl ?aP (fun _ hk => hk.elim) ?aF ?aO ?aB ?aS ?aL ?_; (case aP => exact rfl); (case aB => exact (R.hb HB.out)); (case aF => exact (fun _ _ => trivial)); (case aO => exact (R.lr HO_3.out)); (case aS => exact (below_size (R.hb HB.out))); (case aL => have := LMc22.out; omega); intro v552 w23 ho hb hg hat; rw [← Ny551.out] at ho; have n0_ := Aside0.mk (hb); have n1_ := Aside0.mk (ho); clear HB; clear HO_3; have HB := n0_; have HO553 := n1_; clear n0_ n1_; clear ho hb hg hat))
             go_ret
             exact ⟨_, by first | rfl | (simp [errW_none, errW_some] <;> rfl) | (simp [*, errW_none, errW_some] <;> rfl), by (with_reducible repeat (first | apply Kd.R_alloc | apply Kd.R_drewN | apply Kd.R_drew)); exact HO553.out, by repeat (first | (with_reducible first | exact HB.out | apply below_alloc | apply pw_below_drewN | apply below_drew1) | exact HB.out)⟩
           · rw [if_neg c22] at H; exact absurd H (by simp)
         · rw [if_neg c21] at H; exact absurd H (by simp)
       · rw [if_neg c20] at H; exact absurd H (by simp)
     · rw [if_neg c19] at H; have c19b0 : decide (0 ≤ x4_1) = false := decide_eq_false c19; clear c19; obtain rfl := Option.some.inj H; go_wp2
       go_ret
       exact ⟨_, by first | rfl | (simp [errW_none, errW_some] <;> rfl) | (simp [*, errW_none, errW_some] <;> rfl), by (with_reducible repeat (first | apply Kd.R_alloc | apply Kd.R_drewN | apply Kd.R_drew)); exact HO_3.out, by repeat (first | (with_reducible first | exact HB.out | apply below_alloc | apply pw_below_drewN | apply below_drew1) | exact HB.out)⟩
def spec_Lines.l0 : Nat → ByteArray → List ByteArray → Int → Int → Int → Option (List ByteArray)
 | 0, _, _, _, _, _ => none
 | k + 1, x0, x3, x4, x7, x8 => if x8 < x7 then (if 0 ≤ x8 then (if x8 < (x0.size : Int) then (if (bt x0 x8) = 10 then (if 0 ≤ x4 then (if x4 ≤ x8 then (if x8 ≤ (x0.size : Int) then (if x3.length < 8796093022208 then (spec_Lines.l0 k x0 (x3 ++ [x0.extract (x4 : Int).toNat (x8 : Int).toNat]) (wrap64 (x8 + 1)) x7 (wrap64 (x8 + 1))) else (none)) else (none)) else (none)) else (none)) else (spec_Lines.l0 k x0 x3 x4 x7 (wrap64 (x8 + 1)))) else (none)) else (none)) else (if x4 < (x0.size : Int) then (if 0 ≤ x4 then (if x4 ≤ (x0.size : Int) then (if x3.length < 8796093022208 then (some (x3 ++ [x0.extract (x4 : Int).toNat x0.size])) else (none)) else (none)) else (none)) else (some x3))
def spec_Lines.f (k : Nat) (a0 : ByteArray) : Option (List ByteArray) := spec_Lines.l0 k a0 ([] : List ByteArray) 0 (a0.size : Int) 0
set_option maxHeartbeats 8000000 in
set_option maxRecDepth 100000 in
theorem spec_Lines.calls (k : Nat) (a0 : ByteArray) (r : List ByteArray) (w : World) (h : spec_Lines.f k a0 = some r) :
 Calls Tryz.prog 47 #[.string a0] w fun e w' => ∃ v0_ : Value, e = .returned (v0_) ∧ Kd.R Kd.string 9 w' w.heap.size (fun _ => True) v0_ r ∧ Below w.heap.size w w' := by
 have HB := Aside0.mk (Below.refl w.heap.size w); have H : (spec_Lines.l0 k a0 ([] : List ByteArray) 0 (a0.size : Int) 0) = some r := h; clear h; have H' := Aside0.mk H; clear H
 go_enter Tryz.func47, Tryz.ntmps47
 go_wp2
 go_loopg [3, 4, 8] k (fun kq v3 v4 v8 w' => ∃ (x3_1 : List ByteArray) (x4_1 : Int) (x8_1 : Int), v4 = .int .i64 x4_1 ∧ v8 = .int .i64 x8_1 ∧ Aside0 (spec_Lines.l0 kq a0 x3_1 x4_1 (a0.size : Int) x8_1 = some r) ∧ Aside0 (kq ≤ k) ∧ Aside0 (Kd.R Kd.string 9 w' w.heap.size (fun _ => True) v3 x3_1) ∧ Aside0 (Below w.heap.size w w'))
 case atStart => exact ⟨(([] : List ByteArray)), (0), (0), R.rs, R.rs, H', ⟨Nat.le_refl _⟩, ⟨by first | exact Kd.R_nil _ _ _ _ _ | exact Kd.N_nil _ _ _ _ _ | exact Kd.V_nil _ _ _ _ _ | exact Kd.Q_nil _ _ _ _ _ | exact Kd.S_nil _ _ _ _ _⟩, ⟨by repeat (first | (with_reducible first | exact HB.out | apply below_alloc | apply pw_below_drewN | apply below_drew1) | exact HB.out)⟩⟩
 case round =>
  clear H'; obtain ⟨x3_1, x4_1, x8_1, rfl, rfl, HA, HK1, HO_3, HB⟩ := hrel; cases gk with
  | zero => exact absurd HA.out (by simp [spec_Lines.l0])
  | succ k1 =>
   have H := HA.out; clear HA; simp only [spec_Lines.l0] at H
   by_cases c2 : x8_1 < (a0.size : Int)
   · rw [if_pos c2] at H; have c2b0 : decide (x8_1 < (a0.size : Int)) = true := decide_eq_true c2; clear c2
     by_cases c3 : 0 ≤ x8_1
     · rw [if_pos c3] at H; have c3b0 : decide (0 ≤ x8_1) = true := decide_eq_true c3; clear c3
       by_cases c4 : x8_1 < (a0.size : Int)
       · rw [if_pos c4] at H; have c4b0 : decide (x8_1 < (a0.size : Int)) = true := decide_eq_true c4; clear c4
         by_cases c6 : (bt a0 x8_1) = 10
         · rw [if_pos c6] at H; have c6b0 : ((bt a0 x8_1) == 10) = true := beq_iff_eq.mpr c6; have c6b1 : ((bt a0 x8_1) != 10) = false := bne_eq_false_iff_eq.mpr c6; clear c6
           by_cases c7 : 0 ≤ x4_1
           · rw [if_pos c7] at H; have c7b0 := eq_true c7; have c7b1 : decide (0 ≤ x4_1) = true := decide_eq_true c7; clear c7
             by_cases c8 : x4_1 ≤ x8_1
             · rw [if_pos c8] at H; have c8b0 := eq_true c8; have c8b1 : decide (x4_1 ≤ x8_1) = true := decide_eq_true c8; clear c8
               by_cases c9 : x8_1 ≤ (a0.size : Int)
               · rw [if_pos c9] at H; have c9b0 := eq_true c9; have c9b1 : decide (x8_1 ≤ (a0.size : Int)) = true := decide_eq_true c9; clear c9
                 by_cases c10 : x3_1.length < 8796093022208
                 · rw [if_pos c10] at H; have LMc10 := Aside0.mk c10; clear c10; obtain ⟨y557, hy557⟩ : ∃ y_ : List ByteArray, y_ = (x3_1 ++ [a0.extract (x4_1 : Int).toNat (x8_1 : Int).toNat]) := ⟨_, rfl⟩
                   replace H : (spec_Lines.l0 k1 a0 y557 (wrap64 (x8_1 + 1)) (a0.size : Int) (wrap64 (x8_1 + 1))) = some r := by first | (rw [hy557]; with_reducible exact H) | (have H2_ := (Option.bind_some _ _).symm.trans H; rw [hy557]; with_reducible exact H2_) | (have H2_ := (Option.bind_some _ _).symm.trans H; with_reducible exact H2_) | with_reducible exact H | (rw [hy557]; exact H) | exact H
                   have Ny557 := Aside0.mk hy557; clear hy557; have H' := Aside0.mk H; clear H; have p5 : 0 ≤ (x8_1 : Int) := R.od; have q5 : x8_1 < (a0.size : Int) := R.od; have hx5 := bt_at a0 x8_1; replace p5 := eq_true p5; replace q5 := eq_true q5
                   go_wp2_with (first | ((with_reducible refine gate_builtin (b := .append) (xs := #[.tmp 15, .tmp 20]) rfl ?_); at_builtin; refine Kd.R_append Kd.string (w0 := w) w.heap.size rfl (.tmp 15) (.tmp 20) 42 9 (.string ⟨#[]⟩) 16 rfl Tryz.underlying42 info9 rfl (by decide) (by omega) u3 x3_1 (a0.extract (x4_1 : Int).toNat (x8_1 : Int).toNat) [.string (a0.extract (x4_1 : Int).toNat (x8_1 : Int).toNat)] (fun _ => True) (fun _ => False) rfl rfl ?aP (fun _ hk => hk.elim) ?aF ?aO ?aB ?aS ?aL ?_; (case aP => exact rfl); (case aB => exact (R.hb HB.out)); (case aF => exact (fun _ _ => trivial)); (case aO => exact (R.lr HO_3.out)); (case aS => exact (below_size (R.hb HB.out))); (case aL => have := LMc10.out; omega); intro v558 w11 ho hb hg hat; rw [← Ny557.out] at ho; have n0_ := Aside0.mk (hb); have n1_ := Aside0.mk (ho); clear HB; clear HO_3; have HB := n0_; have HO559 := n1_; clear n0_ n1_; clear ho hb hg hat))
                   go_roundg k1
                   case measure => have := HK1.out; omega
                   case rel => exact ⟨(y557), (wrap64 (x8_1 + 1)), (wrap64 (x8_1 + 1)), R.rs, R.rs, H', ⟨by have := HK1.out; omega⟩, ⟨by (with_reducible repeat (first | apply Kd.R_alloc | apply Kd.R_drewN | apply Kd.R_drew)); exact HO559.out⟩, ⟨by repeat (first | (with_reducible first | exact HB.out | apply below_alloc | apply pw_below_drewN | apply below_drew1) | exact HB.out)⟩⟩
                 · rw [if_neg c10] at H; exact absurd H (by simp)
               · rw [if_neg c9] at H; exact absurd H (by simp)
             · rw [if_neg c8] at H; exact absurd H (by simp)
           · rw [if_neg c7] at H; exact absurd H (by simp)
         · rw [if_neg c6] at H; have c6b0 : ((bt a0 x8_1) == 10) = false := beq_eq_false_iff_ne.mpr c6; have c6b1 : ((bt a0 x8_1) != 10) = true := bne_iff_ne.mpr c6; have H' := Aside0.mk H; clear H; have p5 : 0 ≤ (x8_1 : Int) := R.od; have q5 : x8_1 < (a0.size : Int) := R.od; have hx5 := bt_at a0 x8_1; replace p5 := eq_true p5; replace q5 := eq_true q5; go_wp2
           go_roundg k1
           case measure => have := HK1.out; omega
           case rel => exact ⟨(x3_1), (x4_1), (wrap64 (x8_1 + 1)), R.rs, R.rs, H', ⟨by have := HK1.out; omega⟩, ⟨by (with_reducible repeat (first | apply Kd.R_alloc | apply Kd.R_drewN | apply Kd.R_drew)); exact HO_3.out⟩, ⟨by repeat (first | (with_reducible first | exact HB.out | apply below_alloc | apply pw_below_drewN | apply below_drew1) | exact HB.out)⟩⟩
       · rw [if_neg c4] at H; exact absurd H (by simp)
     · rw [if_neg c3] at H; exact absurd H (by simp)
   · rw [if_neg c2] at H; have c2b0 : decide (x8_1 < (a0.size : Int)) = false := decide_eq_false c2; clear c2
     by_cases c12 : x4_1 < (a0.size : Int)
     · rw [if_pos c12] at H; have c12b0 : decide (x4_1 < (a0.size : Int)) = true := decide_eq_true c12; clear c12
       by_cases c13 : 0 ≤ x4_1
       · rw [if_pos c13] at H; have c13b0 := eq_true c13; have c13b1 : decide (0 ≤ x4_1) = true := decide_eq_true c13; clear c13
         by_cases c14 : x4_1 ≤ (a0.size : Int)
         · rw [if_pos c14] at H; have c14b0 := eq_true c14; have c14b1 : decide (x4_1 ≤ (a0.size : Int)) = true := decide_eq_true c14; clear c14
           by_cases c15 : x3_1.length < 8796093022208
           · rw [if_pos c15] at H; have LMc15 := Aside0.mk c15; clear c15; obtain ⟨y560, hy560⟩ : ∃ y_ : List ByteArray, y_ = (x3_1 ++ [a0.extract (x4_1 : Int).toNat a0.size]) := ⟨_, rfl⟩
             replace H : (some y560) = some r := by first | (rw [hy560]; with_reducible exact H) | (have H2_ := (Option.bind_some _ _).symm.trans H; rw [hy560]; with_reducible exact H2_) | (have H2_ := (Option.bind_some _ _).symm.trans H; with_reducible exact H2_) | with_reducible exact H | (rw [hy560]; exact H) | exact H
             have Ny560 := Aside0.mk hy560; clear hy560; obtain rfl := Option.some.inj H
             go_wp2_with (first | ((with_reducible refine gate_builtin (b := .append) (xs := #[.tmp 29, .tmp 33]) rfl ?_); at_builtin; refine Kd.R_append Kd.string (w0 := w) w.heap.size rfl (.tmp 29) (.tmp 33) 42 9 (.string ⟨#[]⟩) 16 rfl Tryz.underlying42 info9 rfl (by decide) (by omega) u3 x3_1 (a0.extract (x4_1 : Int).toNat a0.size) [.string (a0.extract (x4_1 : Int).toNat a0.size)] (fun _ => True) (fun _ => False) rfl rfl ?aP (fun _ hk => hk.elim) ?aF ?aO ?aB ?aS ?aL ?_; (case aP => exact rfl); (case aB => exact (R.hb HB.out)); (case aF => exact (fun _ _ => trivial)); (case aO => exact (R.lr HO_3.out)); (case aS => exact (below_size (R.hb HB.out))); (case aL => have := LMc15.out; omega); intro v561 w16 ho hb hg hat; rw [← Ny560.out] at ho; have n0_ := Aside0.mk (hb); have n1_ := Aside0.mk (ho); clear HB; clear HO_3; have HB := n0_; have HO562 := n1_; clear n0_ n1_; clear ho hb hg hat))
             go_ret
             exact ⟨_, by first | rfl | (simp [errW_none, errW_some] <;> rfl) | (simp [*, errW_none, errW_some] <;> rfl), by (with_reducible repeat (first | apply Kd.R_alloc | apply Kd.R_drewN | apply Kd.R_drew)); exact HO562.out, by repeat (first | (with_reducible first | exact HB.out | apply below_alloc | apply pw_below_drewN | apply below_drew1) | exact HB.out)⟩
           · rw [if_neg c15] at H; exact absurd H (by simp)
         · rw [if_neg c14] at H; exact absurd H (by simp)
       · rw [if_neg c13] at H; exact absurd H (by simp)
     · rw [if_neg c12] at H; have c12b0 : decide (x4_1 < (a0.size : Int)) = false := decide_eq_false c12; clear c12; obtain rfl := Option.some.inj H; go_wp2
       go_ret
       exact ⟨_, by first | rfl | (simp [errW_none, errW_some] <;> rfl) | (simp [*, errW_none, errW_some] <;> rfl), by (with_reducible repeat (first | apply Kd.R_alloc | apply Kd.R_drewN | apply Kd.R_drew)); exact HO_3.out, by repeat (first | (with_reducible first | exact HB.out | apply below_alloc | apply pw_below_drewN | apply below_drew1) | exact HB.out)⟩
end Go.Proofs.YtabfehcpcjcomaaGreatDoor.QA0
namespace Go.Proofs.YtabfehcpcjcomaaGreatDoor.QA0
open Go.RowKit Go.Proofs.YtabfehcpcjcomaaGreatDoorW.PrintWords Go.Proofs.YtabfehcpcjcomaaGreatDoorW.PrintLast Go.Proofs.YtabfehcpcjcomaaGreatDoorW.PrintMore
attribute [local go_sem] max2_int min2_int max_two min_two max_three min_three max_four min_four
set_option linter.unusedVariables false
set_option linter.unusedSimpArgs false
def spec_Digits.f : Nat → Int → Int → Option (ByteArray)
 | 0, _, _ => none
 | k + 1, a0, a1 => if a1 = 0 then (none) else (if 0 ≤ (Int.tmod a0 a1) then (if (Int.tmod a0 a1) < 16 then (if a0 < a1 then (some (strOfNums (([bt (⟨#[48, 49, 50, 51, 52, 53, 54, 55, 56, 57, 97, 98, 99, 100, 101, 102]⟩ : ByteArray) (Int.tmod a0 a1)] : List Int)))) else ((spec_Digits.f k (IntKind.u64.wrap (Int.tdiv a0 a1)) a1).bind fun t570 => ((some (([bt (⟨#[48, 49, 50, 51, 52, 53, 54, 55, 56, 57, 97, 98, 99, 100, 101, 102]⟩ : ByteArray) (Int.tmod a0 a1)] : List Int) : List Int)).bind fun y571 => (if t570.size + (strOfNums y571).size ≤ 9223372036854775807 then (some (t570 ++ (strOfNums y571))) else (none))))) else (none)) else (none))
def spec_Digits.T4 : Bool × List (List Nat × List Nat) := (true, [([], []), ([], []), ([0, 1], [0, 1]), ([], []), ([2, 3], [2, 3]), ([], []), ([5], [5]), ([6], [6]), ([4, 7], [4, 7]), ([8, 4, 0, 1, 2, 3, 4, 5, 6, 7, 8], [8])])
def spec_Digits.B4 : List Nat := [0, 0, 3, 0, 15, 0, 32, 96, 255, 511]
theorem spec_Digits.tab4 : rtab .any (opsOf Tryz.f126 4) = spec_Digits.T4 := by kernel_rfl
theorem spec_Digits.bits4 : waitsOk spec_Digits.T4.2 spec_Digits.B4 = true := by kernel_rfl
set_option maxHeartbeats 8000000 in
set_option maxRecDepth 100000 in
theorem spec_Digits.calls (k : Nat) : ∀ (a0 : Int) (a1 : Int) (r : ByteArray) (w : World) (h : spec_Digits.f k a0 a1 = some r),
 Calls Tryz.prog 126 #[.int .u64 a0, .int .u64 a1] w fun e w' => e = .returned (.string r) ∧ Below w.heap.size w w' := by
 induction k using Nat.strongRecOn with
 | _ k ih =>
 intro a0 a1 r w h; cases k with
 | zero => exact absurd h (by simp [spec_Digits.f])
 | succ k =>
 simp only [spec_Digits.f] at h; have HB := Aside0.mk (Below.refl w.heap.size w); have H : (if a1 = 0 then (none) else (if 0 ≤ (Int.tmod a0 a1) then (if (Int.tmod a0 a1) < 16 then (if a0 < a1 then (some (strOfNums (([bt (⟨#[48, 49, 50, 51, 52, 53, 54, 55, 56, 57, 97, 98, 99, 100, 101, 102]⟩ : ByteArray) (Int.tmod a0 a1)] : List Int)))) else ((spec_Digits.f k (IntKind.u64.wrap (Int.tdiv a0 a1)) a1).bind fun t570 => ((some (([bt (⟨#[48, 49, 50, 51, 52, 53, 54, 55, 56, 57, 97, 98, 99, 100, 101, 102]⟩ : ByteArray) (Int.tmod a0 a1)] : List Int) : List Int)).bind fun y571 => (if t570.size + (strOfNums y571).size ≤ 9223372036854775807 then (some (t570 ++ (strOfNums y571))) else (none))))) else (none)) else (none))) = some r := h; clear h
 by_cases c3 : a1 = 0
 · rw [if_pos c3] at H; exact absurd H (by simp)
 · rw [if_neg c3] at H; have c3b0 : (a1 == 0) = false := beq_eq_false_iff_ne.mpr c3; have c3b1 : (a1 != 0) = true := bne_iff_ne.mpr c3; obtain ⟨ji4, hji4⟩ : ∃ j_ : Int, (Int.tmod a0 a1) = j_ := ⟨_, rfl⟩
   replace H : (if 0 ≤ (ji4) then (if (ji4) < 16 then (if a0 < a1 then (some (strOfNums (([bt (⟨#[48, 49, 50, 51, 52, 53, 54, 55, 56, 57, 97, 98, 99, 100, 101, 102]⟩ : ByteArray) (ji4)] : List Int)))) else ((spec_Digits.f k (IntKind.u64.wrap (Int.tdiv a0 a1)) a1).bind fun t570 => ((some (([bt (⟨#[48, 49, 50, 51, 52, 53, 54, 55, 56, 57, 97, 98, 99, 100, 101, 102]⟩ : ByteArray) (ji4)] : List Int) : List Int)).bind fun y571 => (if t570.size + (strOfNums y571).size ≤ 9223372036854775807 then (some (t570 ++ (strOfNums y571))) else (none))))) else (none)) else (none)) = some r := by first | (rw [hji4] at H; exact H) | (simp only [hji4] at H ⊢; exact H)
   by_cases c5 : 0 ≤ (ji4)
   · rw [if_pos c5] at H; have c5b0 : decide (0 ≤ (ji4)) = true := decide_eq_true c5; clear c5
     by_cases c6 : (ji4) < 16
     · rw [if_pos c6] at H; have c6b0 : decide ((ji4) < 16) = true := decide_eq_true c6; clear c6
       by_cases c8 : a0 < a1
       · rw [if_pos c8] at H; have c8b0 : decide (a0 < a1) = true := decide_eq_true c8; clear c8; obtain ⟨y567, hy567⟩ : ∃ y_ : List Int, y_ = (([bt (⟨#[48, 49, 50, 51, 52, 53, 54, 55, 56, 57, 97, 98, 99, 100, 101, 102]⟩ : ByteArray) (ji4)] : List Int)) := ⟨_, rfl⟩
         replace H : (some (strOfNums y567)) = some r := by first | (rw [hy567]; with_reducible exact H) | (have H2_ := (Option.bind_some _ _).symm.trans H; rw [hy567]; with_reducible exact H2_) | (have H2_ := (Option.bind_some _ _).symm.trans H; with_reducible exact H2_) | with_reducible exact H | (rw [hy567]; exact H) | exact H
         have Ny567 := Aside0.mk hy567; clear hy567; obtain rfl := Option.some.inj H; have p7 : 0 ≤ ((ji4) : Int) := R.od; have q7 : (ji4) < (16 : Int) := R.od; have hx7 := bt_at (⟨#[48, 49, 50, 51, 52, 53, 54, 55, 56, 57, 97, 98, 99, 100, 101, 102]⟩ : ByteArray) (ji4); replace p7 := eq_true p7; replace q7 := eq_true q7
         go_enter Tryz.func126, Tryz.ntmps126
         go_wp2_with (first | ((with_reducible refine gate_dst (N := 14) rfl ?_); refine Kd.R_lit (Kd.int .u8) _ 5 ?hg (N := 14) ?hd (xs := ([bt (⟨#[48, 49, 50, 51, 52, 53, 54, 55, 56, 57, 97, 98, 99, 100, 101, 102]⟩ : ByteArray) (ji4)] : List Int)) (inner := [.int .u8 (bt (⟨#[48, 49, 50, 51, 52, 53, 54, 55, 56, 57, 97, 98, 99, 100, 101, 102]⟩ : ByteArray) (ji4))]) (ok := fun _ => True) (okp := fun _ => True) ?hr ?hp (fun _ hk => hk) trivial (Below.refl _ _) (Nat.le_refl _) (by simp) ?_; (case hd => rfl); (case hg => rfl); (case hr => first | (go_simp; done) | (go_simp; rfl)); (case hp => exact (Reps.one (show Kd.M (Kd.int .u8) _ _ _ (bt (⟨#[48, 49, 50, 51, 52, 53, 54, 55, 56, 57, 97, 98, 99, 100, 101, 102]⟩ : ByteArray) (ji4)) [.int .u8 (bt (⟨#[48, 49, 50, 51, 52, 53, 54, 55, 56, 57, 97, 98, 99, 100, 101, 102]⟩ : ByteArray) (ji4))] from rfl) (Reps.none _ _))); intro v568 w9 ho10 hb hg_ hnew_; clear hg_ hnew_; (first | rw [← Ny567.out] at ho10 | (simp only [Int.reduceToNat] at ho10; rw [← Ny567.out] at ho10)); have n0_ := Aside0.mk (Kd.R_lower ho10 (below_size (R.hb HB.out))); have n1_ := Aside0.mk (below_step (R.hb HB.out) hb); clear HB; have HO569 := n0_; have HB := n1_; clear n0_ n1_; clear hb ho10; have hcv11 := own_string (P := Tryz.prog) Tryz.underlying136 Tryz.underlying5 Tryz.underlying9 (Kd.own_of_R HO569.out)))
         go_ret
         exact ⟨by first | rfl | (simp [errW_none, errW_some] <;> rfl) | (simp only [← hji4]; first | rfl | (simp [errW_none, errW_some] <;> rfl)) | (simp [*, errW_none, errW_some] <;> rfl), by repeat (first | (with_reducible first | exact HB.out | apply below_alloc | apply pw_below_drewN | apply below_drew1) | exact HB.out)⟩
       · rw [if_neg c8] at H; have c8b0 : decide (a0 < a1) = false := decide_eq_false c8; clear c8; replace H := Option.bind_eq_some_iff.mp H; obtain ⟨t570, A120, H⟩ := H; (try dsimp only at H); have A12 := Aside0.mk A120; clear A120; obtain ⟨y571, hy571⟩ : ∃ y_ : List Int, y_ = (([bt (⟨#[48, 49, 50, 51, 52, 53, 54, 55, 56, 57, 97, 98, 99, 100, 101, 102]⟩ : ByteArray) (ji4)] : List Int)) := ⟨_, rfl⟩
         replace H : (if t570.size + (strOfNums y571).size ≤ 9223372036854775807 then (some (t570 ++ (strOfNums y571))) else (none)) = some r := by first | (rw [hy571]; with_reducible exact H) | (have H2_ := (Option.bind_some _ _).symm.trans H; rw [hy571]; with_reducible exact H2_) | (have H2_ := (Option.bind_some _ _).symm.trans H; with_reducible exact H2_) | with_reducible exact H | (rw [hy571]; exact H) | exact H
         have Ny571 := Aside0.mk hy571; clear hy571
         by_cases c13 : t570.size + (strOfNums y571).size ≤ 9223372036854775807
         · rw [if_pos c13] at H; have c13b0 := eq_true c13; have c13b1 : decide (t570.size + (strOfNums y571).size ≤ 9223372036854775807) = true := decide_eq_true c13; try have c13b2 : (9223372036854775807 < t570.size + (strOfNums y571).size) = False := eq_false (Nat.not_lt.2 c13)
           obtain rfl := Option.some.inj H; have p7 : 0 ≤ ((ji4) : Int) := R.od; have q7 : (ji4) < (16 : Int) := R.od; have hx7 := bt_at (⟨#[48, 49, 50, 51, 52, 53, 54, 55, 56, 57, 97, 98, 99, 100, 101, 102]⟩ : ByteArray) (ji4); replace p7 := eq_true p7; replace q7 := eq_true q7
           go_enter Tryz.func126, Tryz.ntmps126
           try go_wp2
           have n0_ := Aside0.mk (below_drew1 HB.out); clear HB; have HB := n0_; clear n0_; refine start_ (n := 10) (S := fun w' => True) (ds := []) (R.tf 0 10) (by kernel_rfl) rfl rfl trivial (fun hHeld => ?_); refine with_tabW spec_Digits.tab4 spec_Digits.bits4 (fun HT_ HW_ => ?_); generalize w.drew = w14 at HB hHeld ⊢; refine R.pv (i := 0) (N := some 16) (v := ?_) (a' := ?_) (R.tf 1 9) rfl rfl (R.ao HT_.out) ?_ ?_ ?_; rotate_left
           · intro w'; go_simp; with_reducible rfl
           rotate_left
           · simp only [Act.put, R.sa, R.sb, R.sc, i64_w, i32_w]; rfl
           refine R.pv (i := 1) (N := some 17) (v := ?_) (a' := ?_) (R.tf 2 8) rfl rfl (R.ao HT_.out) ?_ ?_ ?_; rotate_left
           · intro w'; go_simp; with_reducible rfl
           rotate_left
           · simp only [Act.put, R.sa, R.sb, R.sc, i64_w, i32_w]; rfl
           refine R.pv (i := 2) (N := some 18) (v := ?_) (a' := ?_) (R.tf 3 7) rfl rfl (R.ao HT_.out) ?_ ?_ ?_; rotate_left
           · intro w'; go_simp; with_reducible rfl
           rotate_left
           · simp only [Act.put, R.sa, R.sb, R.sc, i64_w, i32_w]; rfl
           refine R.pv (i := 3) (N := some 19) (v := ?_) (a' := ?_) (R.tf 4 6) rfl rfl (R.ao HT_.out) ?_ ?_ ?_; rotate_left
           · intro w'; go_simp; with_reducible rfl
           rotate_left
           · simp only [Act.put, R.sa, R.sb, R.sc, i64_w, i32_w]; rfl
           refine R.pv (i := 5) (N := some 21) (v := ?_) (a' := ?_) #[true, true, true, true, false, true, false, false, false, false] rfl rfl (R.ao HT_.out) ?_ ?_ ?_; rotate_left
           · intro w'; go_simp; with_reducible rfl
           rotate_left
           · simp only [Act.put, R.sa, R.sb, R.sc, i64_w, i32_w]; rfl
           refine join_ (σ := Value) 2 (R.tf 8 2) (fun s_ => [(20, .string t570), (22, s_), (23, .string (strOfNums y571))]) (fun s_ w' => (Kd.R (Kd.int .u8) 5 w' w.heap.size (fun _ => True) s_ y571) ∧ (Below w.heap.size w w')) ?_ ?_; rotate_left
           · intro hCont; refine two_ (i := 4) (j := 6) (Ni := some 20) (Nj := some 22) (R.tf 6 4) #[true, true, true, true, false, true, true, false, false, false] rfl rfl rfl rfl (two_of HT_.out (by kernel_rfl)) (by decide) (by decide) (fun K hK => ?_) (fun K hK => ?_)
             · skip
               refine goes_ Tryz.func126 (by kernel_rfl) rfl #[.int .u64 (IntKind.u64.wrap (Int.tdiv a0 a1)), .int .u64 a1] (by rfl) rfl rfl R.tp ?_; with_reducible refine (ih k (by omega) (IntKind.u64.wrap (Int.tdiv a0 a1)) a1 t570 _ A12.out).mono ?_
               rintro e w15 ⟨rfl, hb⟩; refine ⟨_, rfl, ?_⟩; have n0_ := Aside0.mk (below_step (R.hb HB.out) hb); clear HB; have HB := n0_; clear n0_; (try clear hb); (try clear hb2); (try clear hk); (try clear hi); refine hK.out _ _ trivial (fun hHeld => ?_); clear hK K; refine norm_ (a' := ?_) ?_ ?_; rotate_left
               · show Act.put _ (some 20) _ = _
                 simp only [Act.put, R.sa, R.sb, R.sc, i64_w, i32_w]; rfl
               refine one_ (i := 6) (N := some 22) (R.tf 7 3) rfl rfl (R.oo HT_.out) (by decide) (fun K hK => ?_); refine Kd.R_lit_step (Kd.int .u8) _ 5 ?hg (N := 22) ?hd (xs := ([bt (⟨#[48, 49, 50, 51, 52, 53, 54, 55, 56, 57, 97, 98, 99, 100, 101, 102]⟩ : ByteArray) (ji4)] : List Int)) (inner := [.int .u8 (bt (⟨#[48, 49, 50, 51, 52, 53, 54, 55, 56, 57, 97, 98, 99, 100, 101, 102]⟩ : ByteArray) (ji4))]) (ok := fun _ => True) (okp := fun _ => True) ?hr ?hp (fun _ hk => hk) trivial (Below.refl _ _) (Nat.le_refl _) (by simp) ?_; (case hd => rfl); (case hg => rfl); (case hr => first | (go_simp; done) | (go_simp; rfl)); (case hp => exact (Reps.one (show Kd.M (Kd.int .u8) _ _ _ (bt (⟨#[48, 49, 50, 51, 52, 53, 54, 55, 56, 57, 97, 98, 99, 100, 101, 102]⟩ : ByteArray) (ji4)) [.int .u8 (bt (⟨#[48, 49, 50, 51, 52, 53, 54, 55, 56, 57, 97, 98, 99, 100, 101, 102]⟩ : ByteArray) (ji4))] from rfl) (Reps.none _ _))); intro v572 w16 ho17 hb hg_ hnew_; clear hg_ hnew_; (first | rw [← Ny571.out] at ho17 | (simp only [Int.reduceToNat] at ho17; rw [← Ny571.out] at ho17)); have n0_ := Aside0.mk (Kd.R_lower ho17 (below_size (R.hb HB.out))); have n1_ := Aside0.mk (below_step (R.hb HB.out) hb); clear HB; have HO573 := n0_; have HB := n1_; clear n0_ n1_; clear hb ho17; refine hK.out _ _ trivial (fun hHeld => ?_); clear hK K; refine norm_ (a' := ?_) ?_ ?_; rotate_left
               · show Act.put _ (some 22) _ = _
                 simp only [Act.put, R.sa, R.sb, R.sc, i64_w, i32_w]; rfl
               refine one_ (i := 7) (N := some 23) (R.tf 8 2) rfl rfl (R.oo HT_.out) (by decide) (fun K hK => ?_); have hcv18 := own_string (P := Tryz.prog) Tryz.underlying136 Tryz.underlying5 Tryz.underlying9 (Kd.own_of_R HO573.out); refine value_ (w1 := ?_) (v := ?_) (by rfl) rfl ?_ ?_; rotate_left 2
               · go_simp
                 constructor
                 · rfl
                 · rfl
               clear hcv18; refine hK.out _ _ trivial (fun hHeld => ?_); clear hK K; refine norm_ (a' := ?_) ?_ ?_; rotate_left
               · show Act.put _ (some 23) _ = _
                 simp only [Act.put, R.sa, R.sb, R.sc, i64_w, i32_w]; rfl
               exact norm_ (by simp only [putAll, Act.put, List.setIfInBounds_toArray, List.set_cons_zero, List.set_cons_succ]) (hCont (v572) _ ⟨(R.lr HO573.out), (R.hb HB.out)⟩)
             · skip
               refine Kd.R_lit_step (Kd.int .u8) _ 5 ?hg (N := 22) ?hd (xs := ([bt (⟨#[48, 49, 50, 51, 52, 53, 54, 55, 56, 57, 97, 98, 99, 100, 101, 102]⟩ : ByteArray) (ji4)] : List Int)) (inner := [.int .u8 (bt (⟨#[48, 49, 50, 51, 52, 53, 54, 55, 56, 57, 97, 98, 99, 100, 101, 102]⟩ : ByteArray) (ji4))]) (ok := fun _ => True) (okp := fun _ => True) ?hr ?hp (fun _ hk => hk) trivial (Below.refl _ _) (Nat.le_refl _) (by simp) ?_; (case hd => rfl); (case hg => rfl); (case hr => first | (go_simp; done) | (go_simp; rfl)); (case hp => exact (Reps.one (show Kd.M (Kd.int .u8) _ _ _ (bt (⟨#[48, 49, 50, 51, 52, 53, 54, 55, 56, 57, 97, 98, 99, 100, 101, 102]⟩ : ByteArray) (ji4)) [.int .u8 (bt (⟨#[48, 49, 50, 51, 52, 53, 54, 55, 56, 57, 97, 98, 99, 100, 101, 102]⟩ : ByteArray) (ji4))] from rfl) (Reps.none _ _))); intro v572 w15 ho16 hb hg_ hnew_; clear hg_ hnew_; (first | rw [← Ny571.out] at ho16 | (simp only [Int.reduceToNat] at ho16; rw [← Ny571.out] at ho16)); have n0_ := Aside0.mk (Kd.R_lower ho16 (below_size (R.hb HB.out))); have n1_ := Aside0.mk (below_step (R.hb HB.out) hb); clear HB; have HO573 := n0_; have HB := n1_; clear n0_ n1_; clear hb ho16; refine hK.out _ _ trivial (fun hHeld => ?_); clear hK K; refine norm_ (a' := ?_) ?_ ?_; rotate_left
               · show Act.put _ (some 22) _ = _
                 simp only [Act.put, R.sa, R.sb, R.sc, i64_w, i32_w]; rfl
               refine two_ (i := 4) (j := 7) (Ni := some 20) (Nj := some 23) (R.tf 7 3) #[true, true, true, true, false, true, true, true, false, false] rfl rfl rfl rfl (two_of HT_.out (by kernel_rfl)) (by decide) (by decide) (fun K hK => ?_) (fun K hK => ?_)
               · skip
                 refine goes_ Tryz.func126 (by kernel_rfl) rfl #[.int .u64 (IntKind.u64.wrap (Int.tdiv a0 a1)), .int .u64 a1] (by rfl) rfl rfl R.tp ?_; with_reducible refine (ih k (by omega) (IntKind.u64.wrap (Int.tdiv a0 a1)) a1 t570 _ A12.out).mono ?_
                 rintro e w17 ⟨rfl, hb⟩; refine ⟨_, rfl, ?_⟩; have n0_ := Aside0.mk (Kd.R_below (R.lr HO573.out) hb); have n1_ := Aside0.mk (below_step (R.hb HB.out) hb); clear HO573; clear HB; have HO573 := n0_; have HB := n1_; clear n0_ n1_; (try clear hb); (try clear hb2); (try clear hk); (try clear hi); refine hK.out _ _ trivial (fun hHeld => ?_); clear hK K; refine norm_ (a' := ?_) ?_ ?_; rotate_left
                 · show Act.put _ (some 20) _ = _
                   simp only [Act.put, R.sa, R.sb, R.sc, i64_w, i32_w]; rfl
                 refine one_ (i := 7) (N := some 23) (R.tf 8 2) rfl rfl (R.oo HT_.out) (by decide) (fun K hK => ?_); have hcv18 := own_string (P := Tryz.prog) Tryz.underlying136 Tryz.underlying5 Tryz.underlying9 (Kd.own_of_R HO573.out); refine value_ (w1 := ?_) (v := ?_) (by rfl) rfl ?_ ?_; rotate_left 2
                 · go_simp
                   constructor
                   · rfl
                   · rfl
                 clear hcv18; refine hK.out _ _ trivial (fun hHeld => ?_); clear hK K; refine norm_ (a' := ?_) ?_ ?_; rotate_left
                 · show Act.put _ (some 23) _ = _
                   simp only [Act.put, R.sa, R.sb, R.sc, i64_w, i32_w]; rfl
                 exact norm_ (by simp only [putAll, Act.put, List.setIfInBounds_toArray, List.set_cons_zero, List.set_cons_succ]) (hCont (v572) _ ⟨(R.lr HO573.out), (R.hb HB.out)⟩)
               · skip
                 have hcv17 := own_string (P := Tryz.prog) Tryz.underlying136 Tryz.underlying5 Tryz.underlying9 (Kd.own_of_R HO573.out); refine value_ (w1 := ?_) (v := ?_) (by rfl) rfl ?_ ?_; rotate_left 2
                 · go_simp
                   constructor
                   · rfl
                   · rfl
                 clear hcv17; refine hK.out _ _ trivial (fun hHeld => ?_); clear hK K; refine norm_ (a' := ?_) ?_ ?_; rotate_left
                 · show Act.put _ (some 23) _ = _
                   simp only [Act.put, R.sa, R.sb, R.sc, i64_w, i32_w]; rfl
                 refine one_ (i := 4) (N := some 20) (R.tf 8 2) rfl rfl (R.oo HT_.out) (by decide) (fun K hK => ?_); refine goes_ Tryz.func126 (by kernel_rfl) rfl #[.int .u64 (IntKind.u64.wrap (Int.tdiv a0 a1)), .int .u64 a1] (by rfl) rfl rfl R.tp ?_; with_reducible refine (ih k (by omega) (IntKind.u64.wrap (Int.tdiv a0 a1)) a1 t570 _ A12.out).mono ?_
                 rintro e w18 ⟨rfl, hb⟩; refine ⟨_, rfl, ?_⟩; have n0_ := Aside0.mk (Kd.R_below (R.lr HO573.out) hb); have n1_ := Aside0.mk (below_step (R.hb HB.out) hb); clear HO573; clear HB; have HO573 := n0_; have HB := n1_; clear n0_ n1_; (try clear hb); (try clear hb2); (try clear hk); (try clear hi); refine hK.out _ _ trivial (fun hHeld => ?_); clear hK K; refine norm_ (a' := ?_) ?_ ?_; rotate_left
                 · show Act.put _ (some 20) _ = _
                   simp only [Act.put, R.sa, R.sb, R.sc, i64_w, i32_w]; rfl
                 exact norm_ (by simp only [putAll, Act.put, List.setIfInBounds_toArray, List.set_cons_zero, List.set_cons_succ]) (hCont (v572) _ ⟨(R.lr HO573.out), (R.hb HB.out)⟩)
           rintro v572 w19 ⟨h0_, h1_⟩; have n0_ : Aside0 (Kd.R (Kd.int .u8) 5 w19 w.heap.size (fun _ => True) v572 y571) := ⟨h0_⟩; have n1_ : Aside0 (Below w.heap.size w w19) := ⟨h1_⟩; clear HB; clear h0_ h1_; have HO573 := n0_; have HB := n1_; clear n0_ n1_; have hHeld := trivial; refine norm_ (a' := ?_) ?_ ?_; rotate_left
           · simp only [putAll, Act.put, List.setIfInBounds_toArray, List.set_cons_zero, List.set_cons_succ]; rfl
           refine R.pv (i := 8) (N := some 24) (v := ?_) (a' := ?_) (R.tf 9 1) rfl rfl (R.ao HT_.out) ?_ ?_ ?_; rotate_left
           · intro w'; go_simp; with_reducible rfl
           rotate_left
           · simp only [Act.put, R.sa, R.sb, R.sc, i64_w, i32_w]; rfl
           refine R.pv (i := 9) (N := some 4) (v := ?_) (a' := ?_) (R.tf 10 0) rfl rfl (R.ao HT_.out) ?_ ?_ ?_; rotate_left
           · intro w'; go_simp; with_reducible rfl
           rotate_left
           · simp only [Act.put, R.sa, R.sb, R.sc, i64_w, i32_w]; rfl
           refine done_ (R.dn HT_.out) ?_; try go_wp2
           go_ret
           exact ⟨by first | rfl | (simp [errW_none, errW_some] <;> rfl) | (simp only [← hji4]; first | rfl | (simp [errW_none, errW_some] <;> rfl)) | (simp [*, errW_none, errW_some] <;> rfl), by repeat (first | (with_reducible first | exact HB.out | apply below_alloc | apply pw_below_drewN | apply below_drew1) | exact HB.out)⟩
         · rw [if_neg c13] at H; exact absurd H (by simp)
     · rw [if_neg c6] at H; exact absurd H (by simp)
   · rw [if_neg c5] at H; exact absurd H (by simp)
def spec_Text.f (k : Nat) (a0 : Int) : Option (ByteArray) := (spec_Digits.f k a0 10).bind fun t574 => (some t574)
set_option maxHeartbeats 8000000 in
set_option maxRecDepth 100000 in
theorem spec_Text.calls (k : Nat) (a0 : Int) (r : ByteArray) (w : World) (h : spec_Text.f k a0 = some r) :
 Calls Tryz.prog 86 #[.int .u64 a0] w fun e w' => e = .returned (.string r) ∧ Below w.heap.size w w' := by
 have HB := Aside0.mk (Below.refl w.heap.size w); have H : ((spec_Digits.f k a0 10).bind fun t574 => (some t574)) = some r := h; clear h; replace H := Option.bind_eq_some_iff.mp H; obtain ⟨t574, A20, H⟩ := H; replace H : (some t574) = some r := H; have A2 := Aside0.mk A20; clear A20; obtain rfl := Option.some.inj H
 go_enter Tryz.func86, Tryz.ntmps86
 go_wp2_with (first | ((with_reducible refine gate_callee (f := 126) rfl ?_); refine goesL_ (some 4) rfl rfl Tryz.func126 (by kernel_rfl) rfl #[.int .u64 a0, .int .u64 10] rfl R.tp ?_; (with_reducible refine (spec_Digits.calls k a0 10 t574 _ A2.out).mono ?_); rintro e w3 ⟨rfl, hb⟩; refine ⟨_, rfl, ?_⟩; have n0_ := Aside0.mk (below_step (R.hb HB.out) hb); clear HB; have HB := n0_; clear n0_; (try clear hb); (try clear hb2); (try clear hk); (try clear hi)))
 go_ret
 exact ⟨by first | rfl | (simp [errW_none, errW_some] <;> rfl) | (simp [*, errW_none, errW_some] <;> rfl), by repeat (first | (with_reducible first | exact HB.out | apply below_alloc | apply pw_below_drewN | apply below_drew1) | exact HB.out)⟩
mutual
def spec_digit.j0 : Nat → Int → Bool → Option (Int)
 | 0, _, _ => none
 | k + 1, x0, x3 => if x3 = true then (some ((x0 - 48) % 256)) else (if x0 ≥ 97 then (spec_digit.j1 k x0 (decide (x0 ≤ 102))) else (spec_digit.j1 k x0 false))
def spec_digit.j1 : Nat → Int → Bool → Option (Int)
 | 0, _, _ => none
 | k + 1, x0, x13 => if x13 = true then (some (((x0 - 97) % 256) + 10)) else (if x0 ≥ 65 then (if x0 ≤ 70 then (some (((x0 - 65) % 256) + 10)) else (some 99)) else (some 99))
end
def spec_digit.f (k : Nat) (a0 : Int) : Option (Int) := if a0 ≥ 48 then (spec_digit.j0 k a0 (decide (a0 ≤ 57))) else (spec_digit.j0 k a0 false)
set_option maxHeartbeats 8000000 in
set_option maxRecDepth 100000 in
theorem spec_digit.calls (k : Nat) (a0 : Int) (r : Int) (w : World) (h : spec_digit.f k a0 = some r) :
 Calls Tryz.prog 119 #[.int .u8 a0] w fun e w' => e = .returned (.int .u64 r) ∧ Drawn0 w w' := by
 have H : (if a0 ≥ 48 then (spec_digit.j0 k a0 (decide (a0 ≤ 57))) else (spec_digit.j0 k a0 false)) = some r := h; clear h; have HC2 := Aside0.mk H; clear H
 go_enter Tryz.func119, Tryz.ntmps119
 go_upto_region 1 with (fail)
 go_cut [3] (fun v3 wc => ∃ (kq : Nat) (x3_1 : Bool), v3 = .bool x3_1 ∧ Aside0 (spec_digit.j0 kq a0 x3_1 = some r) ∧ Aside0 (kq ≤ k) ∧ Drawn0 w wc)
 case first =>
  have H := HC2.out; clear HC2
  by_cases c3 : a0 ≥ 48
  · rw [if_pos c3] at H; have c3b0 : decide (48 ≤ a0) = true := decide_eq_true c3; clear c3; (first | rw [c3b0] | (simp only [i64_w, i32_w]; rw [c3b0]) | skip); have H' := Aside0.mk H; clear H; go_wp2
    go_meet
    case rel => exact ⟨_, (decide (a0 ≤ 57)), R.rs, H', ⟨by first | omega | exact Nat.le_refl _⟩, by repeat (first | exact Drawn0.refl _ | apply Drawn0.step)⟩
  · rw [if_neg c3] at H; have c3b0 : decide (48 ≤ a0) = false := decide_eq_false c3; clear c3; (first | rw [c3b0] | (simp only [i64_w, i32_w]; rw [c3b0]) | skip); have H' := Aside0.mk H; clear H; go_wp2
    go_meet
    case rel => exact ⟨_, (false), R.rs, H', ⟨by first | omega | exact Nat.le_refl _⟩, by repeat (first | exact Drawn0.refl _ | apply Drawn0.step)⟩
 case rest =>
  clear HC2; try clear c1
  try clear p2
  try clear c3
  try clear c3b0
  obtain ⟨kq, x3_1, rfl, HA, HJ1, ⟨mc1, rfl⟩⟩ := hcut; cases kq with
  | zero => exact absurd HA.out (by simp [spec_digit.j0])
  | succ kj1 =>
   have H := HA.out; clear HA; simp only [spec_digit.j0] at H
   by_cases c4 : x3_1 = true
   · subst c4
     have H1 : (some ((a0 - 48) % 256)) = some r := by rw [if_pos rfl] at H; exact H
     clear H; have H := H1; clear H1; obtain rfl := Option.some.inj H; go_wp2
     go_ret
     exact ⟨by first | rfl | (simp; done) | (simp [*]; done) | (simp; cases a0.toList <;> rfl), by repeat (first | exact Drawn0.refl _ | apply Drawn0.step)⟩
   · replace c4 := Bool.eq_false_iff.mpr c4; subst c4
     have H1 : (if a0 ≥ 97 then (spec_digit.j1 kj1 a0 (decide (a0 ≤ 102))) else (spec_digit.j1 kj1 a0 false)) = some r := by rw [if_neg (show ¬ (false = true) by decide)] at H; exact H
     clear H; have H := H1; clear H1; have HC5 := Aside0.mk H; clear H
     go_upto_region 3 with (fail)
     go_cut [13] (fun v13 wc => ∃ (kq : Nat) (x13_4 : Bool), v13 = .bool x13_4 ∧ Aside0 (spec_digit.j1 kq a0 x13_4 = some r) ∧ Aside0 (kq ≤ kj1) ∧ Drawn0 w wc)
     case first =>
      have H := HC5.out; clear HC5
      by_cases c6 : a0 ≥ 97
      · rw [if_pos c6] at H; have c6b0 : decide (97 ≤ a0) = true := decide_eq_true c6; clear c6; (first | rw [c6b0] | (simp only [i64_w, i32_w]; rw [c6b0]) | skip); have H' := Aside0.mk H; clear H; go_wp2
        go_meet
        case rel => exact ⟨_, (decide (a0 ≤ 102)), R.rs, H', ⟨by have := HJ1.out; first | omega | exact Nat.le_refl _⟩, by repeat (first | exact Drawn0.refl _ | apply Drawn0.step)⟩
      · rw [if_neg c6] at H; have c6b0 : decide (97 ≤ a0) = false := decide_eq_false c6; clear c6; (first | rw [c6b0] | (simp only [i64_w, i32_w]; rw [c6b0]) | skip); have H' := Aside0.mk H; clear H; go_wp2
        go_meet
        case rel => exact ⟨_, (false), R.rs, H', ⟨by have := HJ1.out; first | omega | exact Nat.le_refl _⟩, by repeat (first | exact Drawn0.refl _ | apply Drawn0.step)⟩
     case rest =>
      clear HC5; try clear c1
      try clear p2
      try clear c3
      try clear c3b0
      try clear c4
      try clear c6
      try clear c6b0
      try clear p2
      obtain ⟨kq, x13_4, rfl, HA, HJ4, ⟨mc4, rfl⟩⟩ := hcut; cases kq with
      | zero => exact absurd HA.out (by simp [spec_digit.j1])
      | succ kj4 =>
       have H := HA.out; clear HA; simp only [spec_digit.j1] at H
       by_cases c7 : x13_4 = true
       · subst c7
         have H1 : (some (((a0 - 97) % 256) + 10)) = some r := by rw [if_pos rfl] at H; exact H
         clear H; have H := H1; clear H1; obtain rfl := Option.some.inj H; go_wp2
         go_ret
         exact ⟨by first | rfl | (simp; done) | (simp [*]; done) | (simp; cases a0.toList <;> rfl), by repeat (first | exact Drawn0.refl _ | apply Drawn0.step)⟩
       · replace c7 := Bool.eq_false_iff.mpr c7; subst c7
         have H1 : (if a0 ≥ 65 then (if a0 ≤ 70 then (some (((a0 - 65) % 256) + 10)) else (some 99)) else (some 99)) = some r := by rw [if_neg (show ¬ (false = true) by decide)] at H; exact H
         clear H; have H := H1; clear H1
         by_cases c8 : a0 ≥ 65
         · rw [if_pos c8] at H; have c8b0 : decide (65 ≤ a0) = true := decide_eq_true c8; clear c8
           by_cases c9 : a0 ≤ 70
           · rw [if_pos c9] at H; have c9b0 : decide (a0 ≤ 70) = true := decide_eq_true c9; clear c9; obtain rfl := Option.some.inj H; go_wp2
             go_ret
             exact ⟨by first | rfl | (simp; done) | (simp [*]; done) | (simp; cases a0.toList <;> rfl), by repeat (first | exact Drawn0.refl _ | apply Drawn0.step)⟩
           · rw [if_neg c9] at H; have c9b0 : decide (a0 ≤ 70) = false := decide_eq_false c9; clear c9; obtain rfl := Option.some.inj H; go_wp2
             go_ret
             exact ⟨by first | rfl | (simp; done) | (simp [*]; done) | (simp; cases a0.toList <;> rfl), by repeat (first | exact Drawn0.refl _ | apply Drawn0.step)⟩
         · rw [if_neg c8] at H; have c8b0 : decide (65 ≤ a0) = false := decide_eq_false c8; clear c8; obtain rfl := Option.some.inj H; go_wp2
           go_ret
           exact ⟨by first | rfl | (simp; done) | (simp [*]; done) | (simp; cases a0.toList <;> rfl), by repeat (first | exact Drawn0.refl _ | apply Drawn0.step)⟩
def spec_Number.l0 : Nat → ByteArray → Int → Int → Int → Int → Option (Int × Bool)
 | 0, _, _, _, _, _ => none
 | k + 1, x0, x1, x6, x10, x11 => if x11 < x10 then (if 0 ≤ x11 then (if x11 < (x0.size : Int) then ((spec_digit.f k (bt x0 x11)).bind fun t575 => (if t575 ≥ x1 then (some (0, false)) else (if x1 = 0 then (none) else (if x6 > (IntKind.u64.wrap (Int.tdiv (IntKind.u64.wrap (18446744073709551615 - t575)) x1)) then (some (0, false)) else (spec_Number.l0 k x0 x1 (IntKind.u64.wrap ((IntKind.u64.wrap (x6 * x1)) + t575)) x10 (wrap64 (x11 + 1))))))) else (none)) else (none)) else (some (x6, (x0.toList != ([] : List UInt8))))
def spec_Number.f (k : Nat) (a0 : ByteArray) (a1 : Int) : Option (Int × Bool) := spec_Number.l0 k a0 a1 0 (a0.size : Int) 0
set_option maxHeartbeats 8000000 in
set_option maxRecDepth 100000 in
theorem spec_Number.calls (k : Nat) (a0 : ByteArray) (a1 : Int) (r1 : Int) (r2 : Bool) (w : World) (h : spec_Number.f k a0 a1 = some (r1, r2)) :
 Calls Tryz.prog 68 #[.string a0, .int .u64 a1] w fun e w' => e = .returned (.tuple #[.int .u64 r1, .bool r2]) ∧ Drawn0 w w' := by
 have H : (spec_Number.l0 k a0 a1 0 (a0.size : Int) 0) = some (r1, r2) := h; clear h; have H' := Aside0.mk H; clear H
 go_enter Tryz.func68, Tryz.ntmps68
 go_wp2
 go_loopg [6, 11] k (fun kq v6 v11 w' => ∃ (x6_1 : Int) (x11_1 : Int), v6 = .int .u64 x6_1 ∧ v11 = .int .i64 x11_1 ∧ Aside0 (spec_Number.l0 kq a0 a1 x6_1 (a0.size : Int) x11_1 = some (r1, r2)) ∧ Aside0 (kq ≤ k) ∧ Drawn0 w w')
 case atStart => exact ⟨(0), (0), R.rs, R.rs, H', ⟨Nat.le_refl _⟩, by repeat (first | exact Drawn0.refl _ | apply Drawn0.step)⟩
 case round =>
  clear H'; try clear p2
  obtain ⟨x6_1, x11_1, rfl, rfl, HA, HK1, ⟨m1, rfl⟩⟩ := hrel; cases gk with
  | zero => exact absurd HA.out (by simp [spec_Number.l0])
  | succ k1 =>
   have H := HA.out; clear HA; simp only [spec_Number.l0] at H
   by_cases c3 : x11_1 < (a0.size : Int)
   · rw [if_pos c3] at H; have c3b0 : decide (x11_1 < (a0.size : Int)) = true := decide_eq_true c3; clear c3
     by_cases c4 : 0 ≤ x11_1
     · rw [if_pos c4] at H; have c4b0 : decide (0 ≤ x11_1) = true := decide_eq_true c4; clear c4
       by_cases c5 : x11_1 < (a0.size : Int)
       · rw [if_pos c5] at H; have c5b0 : decide (x11_1 < (a0.size : Int)) = true := decide_eq_true c5; clear c5; replace H := Option.bind_eq_some_iff.mp H; obtain ⟨t575, A70, H⟩ := H; (try dsimp only at H); have A7 := Aside0.mk A70; clear A70
         by_cases c8 : t575 ≥ a1
         · rw [if_pos c8] at H; have c8b0 : decide (a1 ≤ t575) = true := decide_eq_true c8; clear c8; simp only [Option.some.injEq, Prod.mk.injEq] at H; obtain ⟨rfl, rfl⟩ := H; have p6 : 0 ≤ (x11_1 : Int) := R.od; have q6 : x11_1 < (a0.size : Int) := R.od; have hx6 := bt_at a0 x11_1; replace p6 := eq_true p6; replace q6 := eq_true q6
           go_wp2_with (first | ((with_reducible refine gate_callee (f := 119) rfl ?_); refine goesL_ (some 17) rfl rfl Tryz.func119 (by kernel_rfl) rfl #[.int .u8 (bt a0 x11_1)] rfl R.tp ?_; (with_reducible refine (spec_digit.calls k1 (bt a0 x11_1) t575 _ A7.out).mono ?_); rintro e w' ⟨rfl, ⟨nd, rfl⟩⟩; refine ⟨_, rfl, ?_⟩))
           go_ret2; exact ⟨by first | rfl | (simp; done) | (simp [*]; done) | (simp; cases a0.toList <;> rfl), by repeat (first | exact Drawn0.refl _ | apply Drawn0.step)⟩
         · rw [if_neg c8] at H; have c8b0 : decide (a1 ≤ t575) = false := decide_eq_false c8; clear c8
           by_cases c9 : a1 = 0
           · rw [if_pos c9] at H; exact absurd H (by simp)
           · rw [if_neg c9] at H; have c9b0 : (a1 == 0) = false := beq_eq_false_iff_ne.mpr c9; have c9b1 : (a1 != 0) = true := bne_iff_ne.mpr c9
             by_cases c10 : x6_1 > (IntKind.u64.wrap (Int.tdiv (IntKind.u64.wrap (18446744073709551615 - t575)) a1))
             · rw [if_pos c10] at H; have c10b0 : decide ((IntKind.u64.wrap (Int.tdiv (IntKind.u64.wrap (18446744073709551615 - t575)) a1)) < x6_1) = true := decide_eq_true c10; clear c10; simp only [Option.some.injEq, Prod.mk.injEq] at H; obtain ⟨rfl, rfl⟩ := H; have p6 : 0 ≤ (x11_1 : Int) := R.od; have q6 : x11_1 < (a0.size : Int) := R.od; have hx6 := bt_at a0 x11_1; replace p6 := eq_true p6; replace q6 := eq_true q6
               go_wp2_with (first | ((with_reducible refine gate_callee (f := 119) rfl ?_); refine goesL_ (some 17) rfl rfl Tryz.func119 (by kernel_rfl) rfl #[.int .u8 (bt a0 x11_1)] rfl R.tp ?_; (with_reducible refine (spec_digit.calls k1 (bt a0 x11_1) t575 _ A7.out).mono ?_); rintro e w' ⟨rfl, ⟨nd, rfl⟩⟩; refine ⟨_, rfl, ?_⟩))
               go_ret2; exact ⟨by first | rfl | (simp; done) | (simp [*]; done) | (simp; cases a0.toList <;> rfl), by repeat (first | exact Drawn0.refl _ | apply Drawn0.step)⟩
             · rw [if_neg c10] at H; have c10b0 : decide ((IntKind.u64.wrap (Int.tdiv (IntKind.u64.wrap (18446744073709551615 - t575)) a1)) < x6_1) = false := decide_eq_false c10; clear c10; have H' := Aside0.mk H; clear H; have p6 : 0 ≤ (x11_1 : Int) := R.od; have q6 : x11_1 < (a0.size : Int) := R.od; have hx6 := bt_at a0 x11_1; replace p6 := eq_true p6; replace q6 := eq_true q6
               go_wp2_with (first | ((with_reducible refine gate_callee (f := 119) rfl ?_); refine goesL_ (some 17) rfl rfl Tryz.func119 (by kernel_rfl) rfl #[.int .u8 (bt a0 x11_1)] rfl R.tp ?_; (with_reducible refine (spec_digit.calls k1 (bt a0 x11_1) t575 _ A7.out).mono ?_); rintro e w' ⟨rfl, ⟨nd, rfl⟩⟩; refine ⟨_, rfl, ?_⟩))
               go_roundg k1
               case measure => have := HK1.out; omega
               case rel => exact ⟨(IntKind.u64.wrap ((IntKind.u64.wrap (x6_1 * a1)) + t575)), (wrap64 (x11_1 + 1)), R.rs, R.rs, H', ⟨by have := HK1.out; omega⟩, by repeat (first | exact Drawn0.refl _ | apply Drawn0.step)⟩
       · rw [if_neg c5] at H; exact absurd H (by simp)
     · rw [if_neg c4] at H; exact absurd H (by simp)
   · rw [if_neg c3] at H; have c3b0 : decide (x11_1 < (a0.size : Int)) = false := decide_eq_false c3; clear c3; simp only [Option.some.injEq, Prod.mk.injEq] at H; obtain ⟨rfl, rfl⟩ := H; go_wp2; go_ret2; exact ⟨by first | rfl | (simp; done) | (simp [*]; done) | (simp; cases a0.toList <;> rfl), by repeat (first | exact Drawn0.refl _ | apply Drawn0.step)⟩
def spec_Dec.f (k : Nat) (a0 : ByteArray) : Option (Int × Bool) := (spec_Number.f k a0 10).bind fun bt576 => (some (bt576.1, bt576.2))
set_option maxHeartbeats 8000000 in
set_option maxRecDepth 100000 in
theorem spec_Dec.calls (k : Nat) (a0 : ByteArray) (r1 : Int) (r2 : Bool) (w : World) (h : spec_Dec.f k a0 = some (r1, r2)) :
 Calls Tryz.prog 97 #[.string a0] w fun e w' => e = .returned (.tuple #[.int .u64 r1, .bool r2]) ∧ Drawn0 w w' := by
 have H : ((spec_Number.f k a0 10).bind fun bt576 => (some (bt576.1, bt576.2))) = some (r1, r2) := h; clear h; replace H := Option.bind_eq_some_iff.mp H; obtain ⟨⟨t576, t577⟩, A20, H⟩ := H; replace H : (some (t576, t577)) = some (r1, r2) := H; have A2 := Aside0.mk A20; clear A20; simp only [Option.some.injEq, Prod.mk.injEq] at H; obtain ⟨rfl, rfl⟩ := H
 go_enter Tryz.func97, Tryz.ntmps97
 go_wp2_with (first | ((with_reducible refine gate_callee (f := 68) rfl ?_); refine goesL_ (some 5) rfl rfl Tryz.func68 (by kernel_rfl) rfl #[.string a0, .int .u64 10] rfl R.tp ?_; (with_reducible refine (spec_Number.calls k a0 10 t576 t577 _ A2.out).mono ?_); rintro e w' ⟨rfl, ⟨nd, rfl⟩⟩; refine ⟨_, rfl, ?_⟩))
 go_ret2; exact ⟨by first | rfl | (simp; done) | (simp [*]; done) | (simp; cases a0.toList <;> rfl), by repeat (first | exact Drawn0.refl _ | apply Drawn0.step)⟩
end Go.Proofs.YtabfehcpcjcomaaGreatDoor.QA0
namespace Go.Proofs.YtabfehcpcjcomaaGreatDoor.QA0
open Go.RowKit Go.Proofs.YtabfehcpcjcomaaGreatDoorW.PrintWords Go.Proofs.YtabfehcpcjcomaaGreatDoorW.PrintLast Go.Proofs.YtabfehcpcjcomaaGreatDoorW.PrintMore
attribute [local go_sem] max2_int min2_int max_two min_two max_three min_three max_four min_four
set_option linter.unusedVariables false
set_option linter.unusedSimpArgs false
def spec_decimals.l0 : Nat → List Int → List ByteArray → Int → Int → Option (List Int × Bool)
 | 0, _, _, _, _ => none
 | k + 1, x4, x9, x10, x11 => if x11 < x10 then (if 0 ≤ x11 then (if x11 < (x9.length : Int) then ((spec_Dec.f k (rdOf ByteArray.empty x9 x11)).bind fun bt579 => (if bt579.2 = true then ((spec_Text.f k bt579.1).bind fun t581 => (if t581.toList = (rdOf ByteArray.empty x9 x11).toList then (if x4.length < 17592186044416 then (spec_decimals.l0 k (x4 ++ [bt579.1]) x9 x10 (wrap64 (x11 + 1))) else (none)) else (some (([] : List Int), false)))) else (some (([] : List Int), false)))) else (none)) else (none)) else (some (x4, true))
def spec_decimals.f (k : Nat) (l0 : List ByteArray) : Option (List Int × Bool) := spec_decimals.l0 k ([] : List Int) l0 (l0.length : Int) 0
set_option maxHeartbeats 8000000 in
set_option maxRecDepth 100000 in
theorem spec_decimals.calls (k : Nat) (A0 : Option Addr) (c0 : Nat) (l0 : List ByteArray) (r1 : List Int) (r2 : Bool) (w : World) (hr0 : Kd.C Kd.string w A0 l0.length l0) (hc0 : l0.length ≤ c0) (h : spec_decimals.f k l0 = some (r1, r2)) :
 Calls Tryz.prog 35 #[.slice A0 l0.length c0] w fun e w' => ∃ v0_ : Value, e = .returned (.tuple #[v0_, .bool r2]) ∧ Kd.R (Kd.int .u64) 30 w' w.heap.size (fun _ => True) v0_ r1 ∧ Below w.heap.size w w' := by
 have HR0 := Aside0.mk hr0; have HC0 := Aside0.mk hc0; clear hr0 hc0; have HB := Aside0.mk (Below.refl w.heap.size w); have H : (spec_decimals.l0 k ([] : List Int) l0 (l0.length : Int) 0) = some (r1, r2) := h; clear h; have H' := Aside0.mk H; clear H
 go_enter Tryz.func35, Tryz.ntmps35
 go_wp2
 go_loopg [4, 11] k (fun kq v4 v11 w' => ∃ (x4_1 : List Int) (x11_1 : Int), v11 = .int .i64 x11_1 ∧ Aside0 (spec_decimals.l0 kq x4_1 l0 (l0.length : Int) x11_1 = some (r1, r2)) ∧ Aside0 (kq ≤ k) ∧ Aside0 (Kd.R (Kd.int .u64) 30 w' w.heap.size (fun _ => True) v4 x4_1) ∧ Aside0 (Below w.heap.size w w'))
 case atStart => exact ⟨(([] : List Int)), (0), R.rs, H', ⟨Nat.le_refl _⟩, ⟨by first | exact Kd.R_nil _ _ _ _ _ | exact Kd.N_nil _ _ _ _ _ | exact Kd.V_nil _ _ _ _ _ | exact Kd.Q_nil _ _ _ _ _ | exact Kd.S_nil _ _ _ _ _⟩, ⟨by repeat (first | (with_reducible first | exact HB.out | apply below_alloc | apply pw_below_drewN | apply below_drew1) | exact HB.out)⟩⟩
 case round =>
  clear H'; obtain ⟨x4_1, x11_1, rfl, HA, HK1, HO_4, HB⟩ := hrel; cases gk with
  | zero => exact absurd HA.out (by simp [spec_decimals.l0])
  | succ k1 =>
   have H := HA.out; clear HA; simp only [spec_decimals.l0] at H
   by_cases c2 : x11_1 < (l0.length : Int)
   · rw [if_pos c2] at H; have c2b0 : decide (x11_1 < (l0.length : Int)) = true := decide_eq_true c2; clear c2
     by_cases c3 : 0 ≤ x11_1
     · rw [if_pos c3] at H; have c3b0 : decide (0 ≤ x11_1) = true := decide_eq_true c3; clear c3
       by_cases c4 : x11_1 < (l0.length : Int)
       · rw [if_pos c4] at H; have c4b0 : decide (x11_1 < (l0.length : Int)) = true := decide_eq_true c4; clear c4; replace H := Option.bind_eq_some_iff.mp H; obtain ⟨⟨t579, t580⟩, A50, H⟩ := H; replace H : (if t580 = true then ((spec_Text.f k1 t579).bind fun t581 => (if t581.toList = (rdOf ByteArray.empty l0 x11_1).toList then (if x4_1.length < 17592186044416 then (spec_decimals.l0 k1 (x4_1 ++ [t579]) l0 (l0.length : Int) (wrap64 (x11_1 + 1))) else (none)) else (some (([] : List Int), false)))) else (some (([] : List Int), false))) = some (r1, r2) := H; have A5 := Aside0.mk A50; clear A50
         by_cases c6 : t580 = true
         · subst c6; rw [if_pos rfl] at H; have H1 := H; clear H; have H := H1; clear H1; replace H := Option.bind_eq_some_iff.mp H; obtain ⟨t581, A70, H⟩ := H; (try dsimp only at H); have A7 := Aside0.mk A70; clear A70
           by_cases c8 : t581.toList = (rdOf ByteArray.empty l0 x11_1).toList
           · rw [if_pos c8] at H; have c8b0 : (t581.toList == (rdOf ByteArray.empty l0 x11_1).toList) = true := beq_iff_eq.mpr c8; have c8b1 : (t581.toList != (rdOf ByteArray.empty l0 x11_1).toList) = false := bne_eq_false_iff_eq.mpr c8; clear c8
             by_cases c9 : x4_1.length < 17592186044416
             · rw [if_pos c9] at H; have LMc9 := Aside0.mk c9; clear c9; obtain ⟨y582, hy582⟩ : ∃ y_ : List Int, y_ = (x4_1 ++ [t579]) := ⟨_, rfl⟩
               replace H : (spec_decimals.l0 k1 y582 l0 (l0.length : Int) (wrap64 (x11_1 + 1))) = some (r1, r2) := by first | (rw [hy582]; with_reducible exact H) | (have H2_ := (Option.bind_some _ _).symm.trans H; rw [hy582]; with_reducible exact H2_) | (have H2_ := (Option.bind_some _ _).symm.trans H; with_reducible exact H2_) | with_reducible exact H | (rw [hy582]; exact H) | exact H
               have Ny582 := Aside0.mk hy582; clear hy582; have H' := Aside0.mk H; clear H; have p578 : 0 ≤ (x11_1 : Int) := R.od; have q578 : x11_1 < (l0.length : Int) := R.od; obtain ⟨ad578, e578, hx578_0⟩ := Kd.at_string HR0.out x11_1 p578 q578; cases e578; replace hx578_0 := (HB.out.cell (World.block_lt_of_cell? w _ hx578_0)).trans hx578_0; replace p578 := eq_true p578; replace q578 := eq_true q578
               go_wp2_with (first | ((with_reducible refine gate_callee (f := 97) rfl ?_); refine goesL_ (some 17) rfl rfl Tryz.func97 (by kernel_rfl) rfl #[.string (rdOf ByteArray.empty l0 x11_1)] rfl R.tp ?_; (with_reducible refine (spec_Dec.calls k1 (rdOf ByteArray.empty l0 x11_1) t579 true _ A5.out).mono ?_); rintro e w' ⟨rfl, ⟨nd, rfl⟩⟩; refine ⟨_, rfl, ?_⟩) | (go_at_call 86; (with_reducible refine (spec_Text.calls k1 t579 t581 _ A7.out).mono ?_); rintro e w10 ⟨rfl, hb⟩; have n0_ := Aside0.mk (Kd.R_below (R.lr HO_4.out) hb); have n1_ := Aside0.mk (below_step (R.hb HB.out) hb); clear HO_4; clear HB; have HO_4 := n0_; have HB := n1_; clear n0_ n1_; (try clear hb); (try clear hb2); (try clear hk); (try clear hi)) | ((with_reducible refine gate_builtin (b := .append) (xs := #[.tmp 28, .tmp 30]) rfl ?_); at_builtin; refine Kd.R_append (Kd.int .u64) (w0 := w) w.heap.size rfl (.tmp 28) (.tmp 30) 46 30 (.int .u64 0) 8 rfl Tryz.underlying46 info30 rfl (by decide) (by omega) u4 x4_1 t579 [.int .u64 t579] (fun _ => True) (fun _ => False) rfl rfl ?aP (fun _ hk => hk.elim) ?aF ?aO ?aB ?aS ?aL ?_; (case aP => exact rfl); (case aB => exact (R.hb HB.out)); (case aF => exact (fun _ _ => trivial)); (case aO => exact (R.lr HO_4.out)); (case aS => exact (below_size (R.hb HB.out))); (case aL => have := LMc9.out; omega); intro v583 w11 ho hb hg hat; rw [← Ny582.out] at ho; have n0_ := Aside0.mk (hb); have n1_ := Aside0.mk (ho); clear HB; clear HO_4; have HB := n0_; have HO584 := n1_; clear n0_ n1_; clear ho hb hg hat))
               go_roundg k1
               case measure => have := HK1.out; omega
               case rel => exact ⟨(y582), (wrap64 (x11_1 + 1)), R.rs, H', ⟨by have := HK1.out; omega⟩, ⟨by (with_reducible repeat (first | apply Kd.R_alloc | apply Kd.R_drewN | apply Kd.R_drew)); exact HO584.out⟩, ⟨by repeat (first | (with_reducible first | exact HB.out | apply below_alloc | apply pw_below_drewN | apply below_drew1) | exact HB.out)⟩⟩
             · rw [if_neg c9] at H; exact absurd H (by simp)
           · rw [if_neg c8] at H; have c8b0 : (t581.toList == (rdOf ByteArray.empty l0 x11_1).toList) = false := beq_eq_false_iff_ne.mpr c8; have c8b1 : (t581.toList != (rdOf ByteArray.empty l0 x11_1).toList) = true := bne_iff_ne.mpr c8; simp only [Option.some.injEq, Prod.mk.injEq] at H; obtain ⟨rfl, rfl⟩ := H; have p578 : 0 ≤ (x11_1 : Int) := R.od; have q578 : x11_1 < (l0.length : Int) := R.od; obtain ⟨ad578, e578, hx578_0⟩ := Kd.at_string HR0.out x11_1 p578 q578; cases e578; replace hx578_0 := (HB.out.cell (World.block_lt_of_cell? w _ hx578_0)).trans hx578_0; replace p578 := eq_true p578; replace q578 := eq_true q578
             go_wp2_with (first | ((with_reducible refine gate_callee (f := 97) rfl ?_); refine goesL_ (some 17) rfl rfl Tryz.func97 (by kernel_rfl) rfl #[.string (rdOf ByteArray.empty l0 x11_1)] rfl R.tp ?_; (with_reducible refine (spec_Dec.calls k1 (rdOf ByteArray.empty l0 x11_1) t579 true _ A5.out).mono ?_); rintro e w' ⟨rfl, ⟨nd, rfl⟩⟩; refine ⟨_, rfl, ?_⟩) | (go_at_call 86; (with_reducible refine (spec_Text.calls k1 t579 t581 _ A7.out).mono ?_); rintro e w12 ⟨rfl, hb⟩; have n0_ := Aside0.mk (Kd.R_below (R.lr HO_4.out) hb); have n1_ := Aside0.mk (below_step (R.hb HB.out) hb); clear HO_4; clear HB; have HO_4 := n0_; have HB := n1_; clear n0_ n1_; (try clear hb); (try clear hb2); (try clear hk); (try clear hi)))
             go_ret2; exact ⟨_, by first | rfl | (simp [errW_none, errW_some] <;> rfl) | (simp [*, errW_none, errW_some] <;> rfl), by first | exact Kd.R_nil _ _ _ _ _ | exact Kd.N_nil _ _ _ _ _ | exact Kd.V_nil _ _ _ _ _ | exact Kd.Q_nil _ _ _ _ _ | exact Kd.S_nil _ _ _ _ _, by repeat (first | (with_reducible first | exact HB.out | apply below_alloc | apply pw_below_drewN | apply below_drew1) | exact HB.out)⟩
         · replace c6 := Bool.eq_false_iff.mpr c6; subst c6
           have H1 : (some (([] : List Int), false)) = some (r1, r2) := by rw [if_neg (show ¬ (false = true) by decide)] at H; exact H
           clear H; have H := H1; clear H1; simp only [Option.some.injEq, Prod.mk.injEq] at H; obtain ⟨rfl, rfl⟩ := H; have p578 : 0 ≤ (x11_1 : Int) := R.od; have q578 : x11_1 < (l0.length : Int) := R.od; obtain ⟨ad578, e578, hx578_0⟩ := Kd.at_string HR0.out x11_1 p578 q578; cases e578; replace hx578_0 := (HB.out.cell (World.block_lt_of_cell? w _ hx578_0)).trans hx578_0; replace p578 := eq_true p578; replace q578 := eq_true q578
           go_wp2_with (first | ((with_reducible refine gate_callee (f := 97) rfl ?_); refine goesL_ (some 17) rfl rfl Tryz.func97 (by kernel_rfl) rfl #[.string (rdOf ByteArray.empty l0 x11_1)] rfl R.tp ?_; (with_reducible refine (spec_Dec.calls k1 (rdOf ByteArray.empty l0 x11_1) t579 false _ A5.out).mono ?_); rintro e w' ⟨rfl, ⟨nd, rfl⟩⟩; refine ⟨_, rfl, ?_⟩))
           go_ret2; exact ⟨_, by first | rfl | (simp [errW_none, errW_some] <;> rfl) | (simp [*, errW_none, errW_some] <;> rfl), by first | exact Kd.R_nil _ _ _ _ _ | exact Kd.N_nil _ _ _ _ _ | exact Kd.V_nil _ _ _ _ _ | exact Kd.Q_nil _ _ _ _ _ | exact Kd.S_nil _ _ _ _ _, by repeat (first | (with_reducible first | exact HB.out | apply below_alloc | apply pw_below_drewN | apply below_drew1) | exact HB.out)⟩
       · rw [if_neg c4] at H; exact absurd H (by simp)
     · rw [if_neg c3] at H; exact absurd H (by simp)
   · rw [if_neg c2] at H; have c2b0 : decide (x11_1 < (l0.length : Int)) = false := decide_eq_false c2; clear c2; simp only [Option.some.injEq, Prod.mk.injEq] at H; obtain ⟨rfl, rfl⟩ := H; go_wp2; go_ret2; exact ⟨_, by first | rfl | (simp [errW_none, errW_some] <;> rfl) | (simp [*, errW_none, errW_some] <;> rfl), by (with_reducible repeat (first | apply Kd.R_alloc | apply Kd.R_drewN | apply Kd.R_drew)); exact HO_4.out, by repeat (first | (with_reducible first | exact HB.out | apply below_alloc | apply pw_below_drewN | apply below_drew1) | exact HB.out)⟩
def spec_Join.l0 : Nat → ByteArray → ByteArray → List ByteArray → Int → Int → Option (ByteArray)
 | 0, _, _, _, _, _ => none
 | k + 1, x1, x5, x8, x9, x10 => if x10 < x9 then (if 0 ≤ x10 then (if x10 < (x8.length : Int) then (if x10 > 0 then (if x5.size + x1.size ≤ 9223372036854775807 then (if (x5 ++ x1).size + (rdOf ByteArray.empty x8 x10).size ≤ 9223372036854775807 then (spec_Join.l0 k x1 ((x5 ++ x1) ++ (rdOf ByteArray.empty x8 x10)) x8 x9 (wrap64 (x10 + 1))) else (none)) else (none)) else (if x5.size + (rdOf ByteArray.empty x8 x10).size ≤ 9223372036854775807 then (spec_Join.l0 k x1 (x5 ++ (rdOf ByteArray.empty x8 x10)) x8 x9 (wrap64 (x10 + 1))) else (none))) else (none)) else (none)) else (some x5)
def spec_Join.f (k : Nat) (l0 : List ByteArray) (a1 : ByteArray) : Option (ByteArray) := spec_Join.l0 k a1 (⟨#[]⟩ : ByteArray) l0 (l0.length : Int) 0
set_option maxHeartbeats 8000000 in
set_option maxRecDepth 100000 in
theorem spec_Join.calls (k : Nat) (A0 : Option Addr) (c0 : Nat) (l0 : List ByteArray) (a1 : ByteArray) (r : ByteArray) (w : World) (hr0 : Kd.C Kd.string w A0 l0.length l0) (hc0 : l0.length ≤ c0) (h : spec_Join.f k l0 a1 = some r) :
 Calls Tryz.prog 130 #[.slice A0 l0.length c0, .string a1] w fun e w' => e = .returned (.string r) ∧ Drawn0 w w' := by
 have HR0 := Aside0.mk hr0; have HC0 := Aside0.mk hc0; clear hr0 hc0; have H : (spec_Join.l0 k a1 (⟨#[]⟩ : ByteArray) l0 (l0.length : Int) 0) = some r := h; clear h; have H' := Aside0.mk H; clear H
 go_enter Tryz.func130, Tryz.ntmps130
 go_wp2
 go_loopg [5, 10] k (fun kq v5 v10 w' => ∃ (x5_1 : ByteArray) (x10_1 : Int), v5 = .string x5_1 ∧ v10 = .int .i64 x10_1 ∧ Aside0 (spec_Join.l0 kq a1 x5_1 l0 (l0.length : Int) x10_1 = some r) ∧ Aside0 (kq ≤ k) ∧ Drawn0 w w')
 case atStart => exact ⟨((⟨#[]⟩ : ByteArray)), (0), R.rs, R.rs, H', ⟨Nat.le_refl _⟩, by repeat (first | exact Drawn0.refl _ | apply Drawn0.step)⟩
 case round =>
  clear H'; try clear c1
  try clear p2
  obtain ⟨x5_1, x10_1, rfl, rfl, HA, HK1, ⟨m1, rfl⟩⟩ := hrel; cases gk with
  | zero => exact absurd HA.out (by simp [spec_Join.l0])
  | succ k1 =>
   have H := HA.out; clear HA; simp only [spec_Join.l0] at H
   by_cases c3 : x10_1 < (l0.length : Int)
   · rw [if_pos c3] at H; have c3b0 : decide (x10_1 < (l0.length : Int)) = true := decide_eq_true c3; clear c3
     by_cases c4 : 0 ≤ x10_1
     · rw [if_pos c4] at H; have c4b0 : decide (0 ≤ x10_1) = true := decide_eq_true c4; clear c4
       by_cases c5 : x10_1 < (l0.length : Int)
       · rw [if_pos c5] at H; have c5b0 : decide (x10_1 < (l0.length : Int)) = true := decide_eq_true c5; clear c5
         by_cases c6 : x10_1 > 0
         · rw [if_pos c6] at H; have c6b0 : decide (0 < x10_1) = true := decide_eq_true c6; clear c6
           by_cases c7 : x5_1.size + a1.size ≤ 9223372036854775807
           · rw [if_pos c7] at H; have c7b0 := eq_true c7; have c7b1 : decide (x5_1.size + a1.size ≤ 9223372036854775807) = true := decide_eq_true c7; try have c7b2 : (9223372036854775807 < x5_1.size + a1.size) = False := eq_false (Nat.not_lt.2 c7)
             by_cases c8 : (x5_1 ++ a1).size + (rdOf ByteArray.empty l0 x10_1).size ≤ 9223372036854775807
             · rw [if_pos c8] at H; have c8b0 := eq_true c8; have c8b1 : decide ((x5_1 ++ a1).size + (rdOf ByteArray.empty l0 x10_1).size ≤ 9223372036854775807) = true := decide_eq_true c8; try have c8b2 : (9223372036854775807 < (x5_1 ++ a1).size + (rdOf ByteArray.empty l0 x10_1).size) = False := eq_false (Nat.not_lt.2 c8)
               have c8b3 : (9223372036854775807 < x5_1.size + a1.size + (rdOf ByteArray.empty l0 x10_1).size) = False := by have h_ := c8b2; simp only [ByteArray.size_append] at h_; exact h_
               have H' := Aside0.mk H; clear H; have p586 : 0 ≤ (x10_1 : Int) := R.od; have q586 : x10_1 < (l0.length : Int) := R.od; obtain ⟨ad586, e586, hx586_0⟩ := Kd.at_string HR0.out x10_1 p586 q586; cases e586; replace p586 := eq_true p586; replace q586 := eq_true q586; go_wp2
               go_roundg k1
               case measure => have := HK1.out; omega
               case rel => exact ⟨((x5_1 ++ a1) ++ (rdOf ByteArray.empty l0 x10_1)), (wrap64 (x10_1 + 1)), R.rs, R.rs, H', ⟨by have := HK1.out; omega⟩, by repeat (first | exact Drawn0.refl _ | apply Drawn0.step)⟩
             · rw [if_neg c8] at H; exact absurd H (by simp)
           · rw [if_neg c7] at H; exact absurd H (by simp)
         · rw [if_neg c6] at H; have c6b0 : decide (0 < x10_1) = false := decide_eq_false c6; clear c6
           by_cases c9 : x5_1.size + (rdOf ByteArray.empty l0 x10_1).size ≤ 9223372036854775807
           · rw [if_pos c9] at H; have c9b0 := eq_true c9; have c9b1 : decide (x5_1.size + (rdOf ByteArray.empty l0 x10_1).size ≤ 9223372036854775807) = true := decide_eq_true c9; try have c9b2 : (9223372036854775807 < x5_1.size + (rdOf ByteArray.empty l0 x10_1).size) = False := eq_false (Nat.not_lt.2 c9)
             have H' := Aside0.mk H; clear H; have p586 : 0 ≤ (x10_1 : Int) := R.od; have q586 : x10_1 < (l0.length : Int) := R.od; obtain ⟨ad586, e586, hx586_0⟩ := Kd.at_string HR0.out x10_1 p586 q586; cases e586; replace p586 := eq_true p586; replace q586 := eq_true q586; go_wp2
             go_roundg k1
             case measure => have := HK1.out; omega
             case rel => exact ⟨(x5_1 ++ (rdOf ByteArray.empty l0 x10_1)), (wrap64 (x10_1 + 1)), R.rs, R.rs, H', ⟨by have := HK1.out; omega⟩, by repeat (first | exact Drawn0.refl _ | apply Drawn0.step)⟩
           · rw [if_neg c9] at H; exact absurd H (by simp)
       · rw [if_neg c5] at H; exact absurd H (by simp)
     · rw [if_neg c4] at H; exact absurd H (by simp)
   · rw [if_neg c3] at H; have c3b0 : decide (x10_1 < (l0.length : Int)) = false := decide_eq_false c3; clear c3; obtain rfl := Option.some.inj H; go_wp2
     go_ret
     exact ⟨by first | rfl | (simp; done) | (simp [*]; done) | (simp; cases a0.toList <;> rfl), by repeat (first | exact Drawn0.refl _ | apply Drawn0.step)⟩
def spec_Plain.l0 : Nat → ByteArray → Int → Int → Option (Bool)
 | 0, _, _, _ => none
 | k + 1, x0, x6, x7 => if x7 < x6 then (if 0 ≤ x7 then (if x7 < (x0.size : Int) then (if (bt x0 x7) > 126 then (some false) else (if (bt x0 x7) < 32 then (if (bt x0 x7) = 10 then (spec_Plain.l0 k x0 x6 (wrap64 (x7 + 1))) else (if (bt x0 x7) = 9 then (spec_Plain.l0 k x0 x6 (wrap64 (x7 + 1))) else (some false))) else (spec_Plain.l0 k x0 x6 (wrap64 (x7 + 1))))) else (none)) else (none)) else (some true)
def spec_Plain.f (k : Nat) (a0 : ByteArray) : Option (Bool) := spec_Plain.l0 k a0 (a0.size : Int) 0
set_option maxHeartbeats 8000000 in
set_option maxRecDepth 100000 in
theorem spec_Plain.calls (k : Nat) (a0 : ByteArray) (r : Bool) (w : World) (h : spec_Plain.f k a0 = some r) :
 Calls Tryz.prog 66 #[.string a0] w fun e w' => e = .returned (.bool r) ∧ Drawn0 w w' := by
 have H : (spec_Plain.l0 k a0 (a0.size : Int) 0) = some r := h; clear h; have H' := Aside0.mk H; clear H
 go_enter Tryz.func66, Tryz.ntmps66
 go_wp2
 go_loopg [7] k (fun kq v7 w' => ∃ (x7_1 : Int), v7 = .int .i64 x7_1 ∧ Aside0 (spec_Plain.l0 kq a0 (a0.size : Int) x7_1 = some r) ∧ Aside0 (kq ≤ k) ∧ Drawn0 w w')
 case atStart => exact ⟨(0), R.rs, H', ⟨Nat.le_refl _⟩, by repeat (first | exact Drawn0.refl _ | apply Drawn0.step)⟩
 case round =>
  clear H'; obtain ⟨x7_1, rfl, HA, HK1, ⟨m1, rfl⟩⟩ := hrel; cases gk with
  | zero => exact absurd HA.out (by simp [spec_Plain.l0])
  | succ k1 =>
   have H := HA.out; clear HA; simp only [spec_Plain.l0] at H
   by_cases c2 : x7_1 < (a0.size : Int)
   · rw [if_pos c2] at H; have c2b0 : decide (x7_1 < (a0.size : Int)) = true := decide_eq_true c2; clear c2
     by_cases c3 : 0 ≤ x7_1
     · rw [if_pos c3] at H; have c3b0 : decide (0 ≤ x7_1) = true := decide_eq_true c3; clear c3
       by_cases c4 : x7_1 < (a0.size : Int)
       · rw [if_pos c4] at H; have c4b0 : decide (x7_1 < (a0.size : Int)) = true := decide_eq_true c4; clear c4
         by_cases c6 : (bt a0 x7_1) > 126
         · rw [if_pos c6] at H; have c6b0 : decide (126 < (bt a0 x7_1)) = true := decide_eq_true c6; clear c6; obtain rfl := Option.some.inj H; have p5 : 0 ≤ (x7_1 : Int) := R.od; have q5 : x7_1 < (a0.size : Int) := R.od; have hx5 := bt_at a0 x7_1; replace p5 := eq_true p5; replace q5 := eq_true q5; go_wp2
           go_ret
           exact ⟨by first | rfl | (simp; done) | (simp [*]; done) | (simp; cases a0.toList <;> rfl), by repeat (first | exact Drawn0.refl _ | apply Drawn0.step)⟩
         · rw [if_neg c6] at H; have c6b0 : decide (126 < (bt a0 x7_1)) = false := decide_eq_false c6; clear c6
           by_cases c7 : (bt a0 x7_1) < 32
           · rw [if_pos c7] at H; have c7b0 : decide ((bt a0 x7_1) < 32) = true := decide_eq_true c7; clear c7
             by_cases c8 : (bt a0 x7_1) = 10
             · rw [if_pos c8] at H; have c8b0 : ((bt a0 x7_1) == 10) = true := beq_iff_eq.mpr c8; have c8b1 : ((bt a0 x7_1) != 10) = false := bne_eq_false_iff_eq.mpr c8; clear c8; have H' := Aside0.mk H; clear H; have p5 : 0 ≤ (x7_1 : Int) := R.od; have q5 : x7_1 < (a0.size : Int) := R.od; have hx5 := bt_at a0 x7_1; replace p5 := eq_true p5; replace q5 := eq_true q5; go_wp2
               go_roundg k1
               case measure => have := HK1.out; omega
               case rel => exact ⟨(wrap64 (x7_1 + 1)), R.rs, H', ⟨by have := HK1.out; omega⟩, by repeat (first | exact Drawn0.refl _ | apply Drawn0.step)⟩
             · rw [if_neg c8] at H; have c8b0 : ((bt a0 x7_1) == 10) = false := beq_eq_false_iff_ne.mpr c8; have c8b1 : ((bt a0 x7_1) != 10) = true := bne_iff_ne.mpr c8
               by_cases c9 : (bt a0 x7_1) = 9
               · rw [if_pos c9] at H; have c9b0 : ((bt a0 x7_1) == 9) = true := beq_iff_eq.mpr c9; have c9b1 : ((bt a0 x7_1) != 9) = false := bne_eq_false_iff_eq.mpr c9; clear c9; have H' := Aside0.mk H; clear H; have p5 : 0 ≤ (x7_1 : Int) := R.od; have q5 : x7_1 < (a0.size : Int) := R.od; have hx5 := bt_at a0 x7_1; replace p5 := eq_true p5; replace q5 := eq_true q5; go_wp2
                 go_roundg k1
                 case measure => have := HK1.out; omega
                 case rel => exact ⟨(wrap64 (x7_1 + 1)), R.rs, H', ⟨by have := HK1.out; omega⟩, by repeat (first | exact Drawn0.refl _ | apply Drawn0.step)⟩
               · rw [if_neg c9] at H; have c9b0 : ((bt a0 x7_1) == 9) = false := beq_eq_false_iff_ne.mpr c9; have c9b1 : ((bt a0 x7_1) != 9) = true := bne_iff_ne.mpr c9; obtain rfl := Option.some.inj H; have p5 : 0 ≤ (x7_1 : Int) := R.od; have q5 : x7_1 < (a0.size : Int) := R.od; have hx5 := bt_at a0 x7_1; replace p5 := eq_true p5; replace q5 := eq_true q5; go_wp2
                 go_ret
                 exact ⟨by first | rfl | (simp; done) | (simp [*]; done) | (simp; cases a0.toList <;> rfl), by repeat (first | exact Drawn0.refl _ | apply Drawn0.step)⟩
           · rw [if_neg c7] at H; have c7b0 : decide ((bt a0 x7_1) < 32) = false := decide_eq_false c7; clear c7; have H' := Aside0.mk H; clear H; have p5 : 0 ≤ (x7_1 : Int) := R.od; have q5 : x7_1 < (a0.size : Int) := R.od; have hx5 := bt_at a0 x7_1; replace p5 := eq_true p5; replace q5 := eq_true q5; go_wp2
             go_roundg k1
             case measure => have := HK1.out; omega
             case rel => exact ⟨(wrap64 (x7_1 + 1)), R.rs, H', ⟨by have := HK1.out; omega⟩, by repeat (first | exact Drawn0.refl _ | apply Drawn0.step)⟩
       · rw [if_neg c4] at H; exact absurd H (by simp)
     · rw [if_neg c3] at H; exact absurd H (by simp)
   · rw [if_neg c2] at H; have c2b0 : decide (x7_1 < (a0.size : Int)) = false := decide_eq_false c2; clear c2; obtain rfl := Option.some.inj H; go_wp2
     go_ret
     exact ⟨by first | rfl | (simp; done) | (simp [*]; done) | (simp; cases a0.toList <;> rfl), by repeat (first | exact Drawn0.refl _ | apply Drawn0.step)⟩
end Go.Proofs.YtabfehcpcjcomaaGreatDoor.QA0
namespace Go.Proofs.YtabfehcpcjcomaaGreatDoor.QA0
open Go.RowKit Go.Proofs.YtabfehcpcjcomaaGreatDoorW.PrintWords Go.Proofs.YtabfehcpcjcomaaGreatDoorW.PrintLast Go.Proofs.YtabfehcpcjcomaaGreatDoorW.PrintMore
attribute [local go_sem] max2_int min2_int max_two min_two max_three min_three max_four min_four
set_option linter.unusedVariables false
set_option linter.unusedSimpArgs false
def spec_loose.l0 : Nat → List ByteArray → List ByteArray → Int → Int → Option (Bool)
 | 0, _, _, _, _ => none
 | k + 1, x5, x6, x18, x19 => if x19 < x18 then (if 0 ≤ x19 then (if x19 < (x5.length : Int) then ((spec_Fields.f k (rdOf ByteArray.empty x5 x19)).bind fun t605 => ((spec_Join.f k t605 (⟨#[32]⟩ : ByteArray)).bind fun t608 => (if x19 < (x6.length : Int) then ((spec_Fields.f k (rdOf ByteArray.empty x6 x19)).bind fun t610 => ((spec_Join.f k t610 (⟨#[32]⟩ : ByteArray)).bind fun t613 => (if t608.toList = t613.toList then (spec_loose.l0 k x5 x6 x18 (wrap64 (x19 + 1))) else (some false)))) else (none)))) else (none)) else (none)) else (some true)
def spec_loose.f (k : Nat) (a0 : ByteArray) (a1 : ByteArray) : Option (Bool) := (spec_Lines.f k a0).bind fun t598 => ((spec_Lines.f k a1).bind fun t601 => (if (t598.length : Int) = (t601.length : Int) then (spec_loose.l0 k t598 t601 (t598.length : Int) 0) else (some false)))
def spec_loose.T7 : Bool × List (List Nat × List Nat) := (true, [([], []), ([], []), ([0, 1], [0, 1]), ([2], [2]), ([3], [3]), ([4, 4], [4]), ([], []), ([], []), ([6, 7], [6, 7]), ([8], [8]), ([9, 5], [9]), ([10, 10], [10]), ([5, 11], [5, 11])])
def spec_loose.B7 : List Nat := [0, 0, 3, 7, 15, 31, 0, 0, 192, 448, 1023, 2047, 4095]
theorem spec_loose.tab7 : rtab .any (opsOf Tryz.f98 7) = spec_loose.T7 := by kernel_rfl
theorem spec_loose.bits7 : waitsOk spec_loose.T7.2 spec_loose.B7 = true := by kernel_rfl
set_option maxHeartbeats 8000000 in
set_option maxRecDepth 100000 in
theorem spec_loose.calls (k : Nat) (a0 : ByteArray) (a1 : ByteArray) (r : Bool) (w : World) (h : spec_loose.f k a0 a1 = some r) :
 Calls Tryz.prog 98 #[.string a0, .string a1] w fun e w' => e = .returned (.bool r) ∧ Below w.heap.size w w' := by
 have HB := Aside0.mk (Below.refl w.heap.size w); have H : ((spec_Lines.f k a0).bind fun t598 => ((spec_Lines.f k a1).bind fun t601 => (if (t598.length : Int) = (t601.length : Int) then (spec_loose.l0 k t598 t601 (t598.length : Int) 0) else (some false)))) = some r := h; clear h; replace H := Option.bind_eq_some_iff.mp H; obtain ⟨t598, A30, H⟩ := H; (try dsimp only at H); have A3 := Aside0.mk A30; clear A30; replace H := Option.bind_eq_some_iff.mp H; obtain ⟨t601, A40, H⟩ := H; (try dsimp only at H); have A4 := Aside0.mk A40; clear A40
 by_cases c5 : (t598.length : Int) = (t601.length : Int)
 · rw [if_pos c5] at H; have c5b0 : ((t598.length : Int) == (t601.length : Int)) = true := beq_iff_eq.mpr c5; have c5b1 : ((t598.length : Int) != (t601.length : Int)) = false := bne_eq_false_iff_eq.mpr c5
   have c5b2 : (t598.length == t601.length) = true := by first | simpa using c5 | (simp at c5 ⊢; omega)
   clear c5; have H' := Aside0.mk H; clear H
   go_enter Tryz.func98, Tryz.ntmps98
   go_wp2_with (first | ((with_reducible refine gate_callee (f := 47) rfl ?_); refine goesL_ (some 9) rfl rfl Tryz.func47 (by kernel_rfl) rfl #[.string a0] rfl R.tp ?_; (with_reducible refine (spec_Lines.calls k a0 t598 _ A3.out).mono ?_); rintro e w6 ⟨v599, rfl, ho0, hb⟩; refine ⟨_, rfl, ?_⟩; have n0_ := Aside0.mk (Kd.R_lower ho0 (below_size (R.hb HB.out))); have n1_ := Aside0.mk (below_step (R.hb HB.out) hb); clear HB; have HO600 := n0_; have HB := n1_; clear n0_ n1_; (try clear hb); (try clear hb2); (try clear hk); (try clear hi); (try clear ho0)) | ((with_reducible refine gate_callee (f := 47) rfl ?_); refine goesL_ (some 11) rfl rfl Tryz.func47 (by kernel_rfl) rfl #[.string a1] rfl R.tp ?_; (with_reducible refine (spec_Lines.calls k a1 t601 _ A4.out).mono ?_); rintro e w7 ⟨v602, rfl, ho0, hb⟩; refine ⟨_, rfl, ?_⟩; have n0_ := Aside0.mk (Kd.R_elder' (R.lr HO600.out) (Kd.R_base ho0) hb); have n1_ := Aside0.mk (Kd.R_lower (Kd.R_new' ho0 (Kd.R_lt (R.lr HO600.out))) (below_size (R.hb HB.out))); have n2_ := Aside0.mk (below_step (R.hb HB.out) hb); clear HO600; clear HB; have HO600 := n0_; have HO603 := n1_; have HB := n2_; clear n0_ n1_ n2_; (try clear hb); (try clear hb2); (try clear hk); (try clear hi); (try clear ho0); obtain ⟨Ao8, co8, eo8⟩ := Kd.R_slice HO600.out; subst eo8; obtain ⟨Ao9, co9, eo9⟩ := Kd.R_slice HO603.out; subst eo9))
   go_loopg [19] k (fun kq v19 w' => ∃ (x19_1 : Int), v19 = .int .i64 x19_1 ∧ Aside0 (spec_loose.l0 kq t598 t601 (t598.length : Int) x19_1 = some r) ∧ Aside0 (kq ≤ k) ∧ Aside0 (Kd.R Kd.string 9 w' w.heap.size (fun k_ => some k_ ≠ ((.slice Ao9 t601.length co9) : Value).ownBlock) (.slice Ao8 t598.length co8) t598) ∧ Aside0 (Kd.R Kd.string 9 w' w.heap.size (fun k_ => some k_ ≠ ((.slice Ao8 t598.length co8) : Value).ownBlock) (.slice Ao9 t601.length co9) t601) ∧ Aside0 (Below w.heap.size w w'))
   case atStart => exact ⟨(0), R.rs, H', ⟨Nat.le_refl _⟩, ⟨by (with_reducible repeat (first | apply Kd.R_alloc | apply Kd.R_drewN | apply Kd.R_drew)); exact Kd.R_mono HO600.out (fun _ hk => hk.2)⟩, ⟨by (with_reducible repeat (first | apply Kd.R_alloc | apply Kd.R_drewN | apply Kd.R_drew)); exact Kd.R_mono HO603.out (fun _ hk => hk.2)⟩, ⟨by repeat (first | (with_reducible first | exact HB.out | apply below_alloc | apply pw_below_drewN | apply below_drew1) | exact HB.out)⟩⟩
   case round =>
    clear H'; try clear p2
    try clear c4
    try clear c5
    try clear c5b0
    try clear c5b1
    try clear c5b2
    try clear c9
    obtain ⟨x19_1, rfl, HA, HK1, HO_5, HO_6, HB⟩ := hrel; cases gk with
    | zero => exact absurd HA.out (by simp [spec_loose.l0])
    | succ k1 =>
     have H := HA.out; clear HA; simp only [spec_loose.l0] at H
     by_cases c10 : x19_1 < (t598.length : Int)
     · rw [if_pos c10] at H; have c10b0 : decide (x19_1 < (t598.length : Int)) = true := decide_eq_true c10; clear c10
       by_cases c11 : 0 ≤ x19_1
       · rw [if_pos c11] at H; have c11b0 : decide (0 ≤ x19_1) = true := decide_eq_true c11; clear c11
         by_cases c12 : x19_1 < (t598.length : Int)
         · rw [if_pos c12] at H; have c12b0 : decide (x19_1 < (t598.length : Int)) = true := decide_eq_true c12; clear c12; replace H := Option.bind_eq_some_iff.mp H; obtain ⟨t605, A130, H⟩ := H; (try dsimp only at H); have A13 := Aside0.mk A130; clear A130; replace H := Option.bind_eq_some_iff.mp H; obtain ⟨t608, A140, H⟩ := H; (try dsimp only at H); have A14 := Aside0.mk A140; clear A140
           by_cases c15 : x19_1 < (t601.length : Int)
           · rw [if_pos c15] at H; have c15b0 : decide (x19_1 < (t601.length : Int)) = true := decide_eq_true c15; clear c15; replace H := Option.bind_eq_some_iff.mp H; obtain ⟨t610, A160, H⟩ := H; (try dsimp only at H); have A16 := Aside0.mk A160; clear A160; replace H := Option.bind_eq_some_iff.mp H; obtain ⟨t613, A170, H⟩ := H; (try dsimp only at H); have A17 := Aside0.mk A170; clear A170
             by_cases c18 : t608.toList = t613.toList
             · rw [if_pos c18] at H; have c18b0 : (t608.toList == t613.toList) = true := beq_iff_eq.mpr c18; have c18b1 : (t608.toList != t613.toList) = false := bne_eq_false_iff_eq.mpr c18; clear c18; have H' := Aside0.mk H; clear H; try go_wp2
               have n0_ := Aside0.mk (Kd.R_drew HO_5.out); have n1_ := Aside0.mk (Kd.R_drew HO_6.out); have n2_ := Aside0.mk (below_drew1 HB.out); clear HO_5; clear HO_6; clear HB; have HO_5 := n0_; have HO_6 := n1_; have HB := n2_; clear n0_ n1_ n2_; have p604 : 0 ≤ (x19_1 : Int) := R.od; have q604 : x19_1 < (t598.length : Int) := R.od; obtain ⟨ad604, e604, hx604_0⟩ := Kd.at_string (Kd.R_reads' HO_5.out).2.2 x19_1 p604 q604; cases e604; replace p604 := eq_true p604; replace q604 := eq_true q604; have p609 : 0 ≤ (x19_1 : Int) := R.od; have q609 : x19_1 < (t601.length : Int) := R.od; obtain ⟨ad609, e609, hx609_0⟩ := Kd.at_string (Kd.R_reads' HO_6.out).2.2 x19_1 p609 q609; cases e609; replace p609 := eq_true p609; replace q609 := eq_true q609; refine start_ (n := 13) (S := fun w' => w'.cell? (ad604.add (x19_1).toNat) = some (.string (rdOf ByteArray.empty t598 x19_1)) ∧ w'.cell? (ad609.add (x19_1).toNat) = some (.string (rdOf ByteArray.empty t601 x19_1))) (ds := []) (R.tf 0 13) (by kernel_rfl) rfl rfl ⟨hx604_0, hx609_0⟩ (fun hHeld => ?_); refine with_tabW spec_loose.tab7 spec_loose.bits7 (fun HT_ HW_ => ?_); generalize wr.drew = w19 at HO_5 HO_6 HB hx604_0 hx609_0 hHeld ⊢; refine R.pv (i := 0) (N := some 22) (v := ?_) (a' := ?_) (R.tf 1 12) rfl rfl (R.ao HT_.out) ?_ ?_ ?_; rotate_left
               · intro w'; go_simp; with_reducible rfl
               rotate_left
               · simp only [Act.put, R.sa, R.sb, R.sc, i64_w, i32_w]; rfl
               refine R.pv (i := 1) (N := some 23) (v := ?_) (a' := ?_) (R.tf 2 11) rfl rfl (R.ao HT_.out) ?_ ?_ ?_; rotate_left
               · intro w'; go_simp; with_reducible rfl
               rotate_left
               · simp only [Act.put, R.sa, R.sb, R.sc, i64_w, i32_w]; rfl
               refine R.pv (i := 2) (N := some 24) (v := ?_) (a' := ?_) (R.tf 3 10) rfl rfl (R.ao HT_.out) ?_ ?_ ?_; rotate_left
               · intro w'; go_simp; with_reducible rfl
               rotate_left
               · simp only [Act.put, R.sa, R.sb, R.sc, i64_w, i32_w]; rfl
               refine R.pv (i := 6) (N := some 28) (v := ?_) (a' := ?_) #[true, true, true, false, false, false, true, false, false, false, false, false, false] rfl rfl (R.ao HT_.out) ?_ ?_ ?_; rotate_left
               · intro w'; go_simp; with_reducible rfl
               rotate_left
               · simp only [Act.put, R.sa, R.sb, R.sc, i64_w, i32_w]; rfl
               refine R.pv (i := 7) (N := some 29) (v := ?_) (a' := ?_) #[true, true, true, false, false, false, true, true, false, false, false, false, false] rfl rfl (R.ao HT_.out) ?_ ?_ ?_; rotate_left
               · intro w'; go_simp; with_reducible rfl
               rotate_left
               · simp only [Act.put, R.sa, R.sb, R.sc, i64_w, i32_w]; rfl
               refine R.pv (i := 8) (N := some 30) (v := ?_) (a' := ?_) #[true, true, true, false, false, false, true, true, true, false, false, false, false] rfl rfl (R.ao HT_.out) ?_ ?_ ?_; rotate_left
               · intro w'; go_simp; with_reducible rfl
               rotate_left
               · simp only [Act.put, R.sa, R.sb, R.sc, i64_w, i32_w]; rfl
               refine take_ (i := 3) (N := some 25) (v := ?_) (a' := ?_) #[true, true, true, true, false, false, true, true, true, false, false, false, false] rfl rfl (take_ofW HT_.out HW_.out (by kernel_rfl)) (fun _ _ _ h => h) (Or.inl ⟨by rfl, ?_⟩) hHeld ?_ ?_; rotate_left
               · rintro w' ⟨s0, s1⟩; go_simp; with_reducible rfl
               rotate_left
               · simp only [Act.put, R.sa, R.sb, R.sc, i64_w, i32_w]; rfl
               refine take_ (i := 9) (N := some 31) (v := ?_) (a' := ?_) #[true, true, true, true, false, false, true, true, true, true, false, false, false] rfl rfl (take_ofW HT_.out HW_.out (by kernel_rfl)) (fun _ _ _ h => h) (Or.inl ⟨by rfl, ?_⟩) hHeld ?_ ?_; rotate_left
               · rintro w' ⟨s0, s1⟩; go_simp; with_reducible rfl
               rotate_left
               · simp only [Act.put, R.sa, R.sb, R.sc, i64_w, i32_w]; rfl
               refine one_ (i := 4) (N := some 26) #[true, true, true, true, true, false, true, true, true, true, false, false, false] rfl rfl (R.oo HT_.out) (by decide) (fun K hK => ?_); refine goes_ Tryz.func31 (by kernel_rfl) rfl #[.string (rdOf ByteArray.empty t598 x19_1)] (by rfl) rfl rfl R.tp ?_; with_reducible refine (spec_Fields.calls k1 (rdOf ByteArray.empty t598 x19_1) t605 _ A13.out).mono ?_
               rintro e w20 ⟨v606, rfl, ho0, hb⟩; have HS0_ := (hb.cell (World.block_lt_of_cell? _ _ (hHeld.1))).trans (hHeld.1); have HS1_ := (hb.cell (World.block_lt_of_cell? _ _ (hHeld.2))).trans (hHeld.2); refine ⟨_, rfl, ?_⟩; have n0_ := Aside0.mk (Kd.R_elder' (R.lr HO_5.out) (Kd.R_base ho0) hb); have n1_ := Aside0.mk (Kd.R_elder' (R.lr HO_6.out) (Kd.R_base ho0) hb); have n2_ := Aside0.mk (Kd.R_lower (Kd.R_new' (Kd.R_new' ho0 (Kd.R_lt (R.lr HO_5.out))) (Kd.R_lt (R.lr HO_6.out))) (below_size (R.hb HB.out))); have n3_ := Aside0.mk (below_step (R.hb HB.out) hb); clear HO_5; clear HO_6; clear HB; have HO_5 := n0_; have HO_6 := n1_; have HO607 := n2_; have HB := n3_; clear n0_ n1_ n2_ n3_; (try clear hb); (try clear hb2); (try clear hk); (try clear hi); (try clear ho0); obtain ⟨Ao21, co21, eo21⟩ := Kd.R_slice HO607.out; (first | subst eo21 | (injection eo21 with f1_ f2_ f3_; have f4_ := f1_.symm; have f5_ := f3_.symm; clear f1_ f2_ f3_; subst f4_; subst f5_)); refine hK.out _ _ ⟨HS0_, HS1_⟩ (fun hHeld => ?_); clear hK K; refine norm_ (a' := ?_) ?_ ?_; rotate_left
               · show Act.put _ (some 26) _ = _
                 simp only [Act.put, R.sa, R.sb, R.sc, i64_w, i32_w]; rfl
               refine one_ (i := 5) (N := some 27) (R.tf 10 3) rfl rfl (R.oo HT_.out) (by decide) (fun K hK => ?_); refine goes_ Tryz.func130 (by kernel_rfl) rfl #[.slice Ao21 t605.length co21, .string ⟨#[32]⟩] (by rfl) rfl rfl R.tp ?_; with_reducible refine (spec_Join.calls k1 _ _ t605 (⟨#[32]⟩ : ByteArray) t608 _ ?side1 ?side2 A14.out).mono ?_
               (case side1 => repeat (first | exact (Kd.R_reads' HO607.out).2.2 | (with_reducible refine Kd.C_alloc ?_ _) | (with_reducible refine Kd.C_drewN ?_ _) | (with_reducible refine Kd.C_drew ?_)))
               (case side2 => exact (Kd.R_reads' HO607.out).2.1)
               rintro e w' ⟨rfl, ⟨nd, rfl⟩⟩; refine ⟨_, rfl, ?_⟩; refine hK.out _ _ ⟨hHeld.1, hHeld.2⟩ (fun hHeld => ?_); clear hK K; refine norm_ (a' := ?_) ?_ ?_; rotate_left
               · show Act.put _ (some 27) _ = _
                 simp only [Act.put, R.sa, R.sb, R.sc, i64_w, i32_w]; rfl
               refine one_ (i := 10) (N := some 32) (R.tf 11 2) rfl rfl (R.oo HT_.out) (by decide) (fun K hK => ?_); refine goes_ Tryz.func31 (by kernel_rfl) rfl #[.string (rdOf ByteArray.empty t601 x19_1)] (by rfl) rfl rfl R.tp ?_; with_reducible refine (spec_Fields.calls k1 (rdOf ByteArray.empty t601 x19_1) t610 _ A16.out).mono ?_
               rintro e w22 ⟨v611, rfl, ho0, hb⟩; have HS0_ := (hb.cell (World.block_lt_of_cell? _ _ (hHeld.1))).trans (hHeld.1); have HS1_ := (hb.cell (World.block_lt_of_cell? _ _ (hHeld.2))).trans (hHeld.2); refine ⟨_, rfl, ?_⟩; have n0_ := Aside0.mk (Kd.R_elder' (R.lr HO_5.out) (Kd.R_base ho0) hb); have n1_ := Aside0.mk (Kd.R_elder' (R.lr HO_6.out) (Kd.R_base ho0) hb); have n2_ := Aside0.mk (Kd.R_elder' (R.lr HO607.out) (Kd.R_base ho0) hb); have n3_ := Aside0.mk (Kd.R_lower (Kd.R_new' (Kd.R_new' (Kd.R_new' ho0 (Kd.R_lt (R.lr HO_5.out))) (Kd.R_lt (R.lr HO_6.out))) (Kd.R_lt (R.lr HO607.out))) (below_size (R.hb HB.out))); have n4_ := Aside0.mk (below_step (R.hb HB.out) hb); clear HO_5; clear HO_6; clear HO607; clear HB; have HO_5 := n0_; have HO_6 := n1_; have HO607 := n2_; have HO612 := n3_; have HB := n4_; clear n0_ n1_ n2_ n3_ n4_; (try clear hb); (try clear hb2); (try clear hk); (try clear hi); (try clear ho0); obtain ⟨Ao23, co23, eo23⟩ := Kd.R_slice HO612.out; (first | subst eo23 | (injection eo23 with f1_ f2_ f3_; have f4_ := f1_.symm; have f5_ := f3_.symm; clear f1_ f2_ f3_; subst f4_; subst f5_)); refine hK.out _ _ ⟨HS0_, HS1_⟩ (fun hHeld => ?_); clear hK K; refine norm_ (a' := ?_) ?_ ?_; rotate_left
               · show Act.put _ (some 32) _ = _
                 simp only [Act.put, R.sa, R.sb, R.sc, i64_w, i32_w]; rfl
               refine one_ (i := 11) (N := some 33) (R.tf 12 1) rfl rfl (R.oo HT_.out) (by decide) (fun K hK => ?_); refine goes_ Tryz.func130 (by kernel_rfl) rfl #[.slice Ao23 t610.length co23, .string ⟨#[32]⟩] (by rfl) rfl rfl R.tp ?_; with_reducible refine (spec_Join.calls k1 _ _ t610 (⟨#[32]⟩ : ByteArray) t613 _ ?side1 ?side2 A17.out).mono ?_
               (case side1 => repeat (first | exact (Kd.R_reads' HO612.out).2.2 | (with_reducible refine Kd.C_alloc ?_ _) | (with_reducible refine Kd.C_drewN ?_ _) | (with_reducible refine Kd.C_drew ?_)))
               (case side2 => exact (Kd.R_reads' HO612.out).2.1)
               rintro e w' ⟨rfl, ⟨nd, rfl⟩⟩; refine ⟨_, rfl, ?_⟩; refine hK.out _ _ ⟨hHeld.1, hHeld.2⟩ (fun hHeld => ?_); clear hK K; refine norm_ (a' := ?_) ?_ ?_; rotate_left
               · show Act.put _ (some 33) _ = _
                 simp only [Act.put, R.sa, R.sb, R.sc, i64_w, i32_w]; rfl
               refine R.pv (i := 12) (N := some 34) (v := ?_) (a' := ?_) (R.tf 13 0) rfl rfl (R.ao HT_.out) ?_ ?_ ?_; rotate_left
               · intro w'; go_simp; with_reducible rfl
               rotate_left
               · simp only [Act.put, R.sa, R.sb, R.sc, i64_w, i32_w]; rfl
               refine done_ (R.dn HT_.out) ?_; try go_wp2
               go_roundg k1
               case measure => have := HK1.out; omega
               case rel => exact ⟨(wrap64 (x19_1 + 1)), R.rs, H', ⟨by have := HK1.out; omega⟩, ⟨by (with_reducible repeat (first | apply Kd.R_alloc | apply Kd.R_drewN | apply Kd.R_drew)); exact Kd.R_mono HO_5.out (fun _ hk => hk.1.1)⟩, ⟨by (with_reducible repeat (first | apply Kd.R_alloc | apply Kd.R_drewN | apply Kd.R_drew)); exact Kd.R_mono HO_6.out (fun _ hk => hk.1.1)⟩, ⟨by repeat (first | (with_reducible first | exact HB.out | apply below_alloc | apply pw_below_drewN | apply below_drew1) | exact HB.out)⟩⟩
             · rw [if_neg c18] at H; have c18b0 : (t608.toList == t613.toList) = false := beq_eq_false_iff_ne.mpr c18; have c18b1 : (t608.toList != t613.toList) = true := bne_iff_ne.mpr c18; obtain rfl := Option.some.inj H; try go_wp2
               have n0_ := Aside0.mk (Kd.R_drew HO_5.out); have n1_ := Aside0.mk (Kd.R_drew HO_6.out); have n2_ := Aside0.mk (below_drew1 HB.out); clear HO_5; clear HO_6; clear HB; have HO_5 := n0_; have HO_6 := n1_; have HB := n2_; clear n0_ n1_ n2_; have p604 : 0 ≤ (x19_1 : Int) := R.od; have q604 : x19_1 < (t598.length : Int) := R.od; obtain ⟨ad604, e604, hx604_0⟩ := Kd.at_string (Kd.R_reads' HO_5.out).2.2 x19_1 p604 q604; cases e604; replace p604 := eq_true p604; replace q604 := eq_true q604; have p609 : 0 ≤ (x19_1 : Int) := R.od; have q609 : x19_1 < (t601.length : Int) := R.od; obtain ⟨ad609, e609, hx609_0⟩ := Kd.at_string (Kd.R_reads' HO_6.out).2.2 x19_1 p609 q609; cases e609; replace p609 := eq_true p609; replace q609 := eq_true q609; refine start_ (n := 13) (S := fun w' => w'.cell? (ad604.add (x19_1).toNat) = some (.string (rdOf ByteArray.empty t598 x19_1)) ∧ w'.cell? (ad609.add (x19_1).toNat) = some (.string (rdOf ByteArray.empty t601 x19_1))) (ds := []) (R.tf 0 13) (by kernel_rfl) rfl rfl ⟨hx604_0, hx609_0⟩ (fun hHeld => ?_); refine with_tabW spec_loose.tab7 spec_loose.bits7 (fun HT_ HW_ => ?_); generalize wr.drew = w24 at HO_5 HO_6 HB hx604_0 hx609_0 hHeld ⊢; refine R.pv (i := 0) (N := some 22) (v := ?_) (a' := ?_) (R.tf 1 12) rfl rfl (R.ao HT_.out) ?_ ?_ ?_; rotate_left
               · intro w'; go_simp; with_reducible rfl
               rotate_left
               · simp only [Act.put, R.sa, R.sb, R.sc, i64_w, i32_w]; rfl
               refine R.pv (i := 1) (N := some 23) (v := ?_) (a' := ?_) (R.tf 2 11) rfl rfl (R.ao HT_.out) ?_ ?_ ?_; rotate_left
               · intro w'; go_simp; with_reducible rfl
               rotate_left
               · simp only [Act.put, R.sa, R.sb, R.sc, i64_w, i32_w]; rfl
               refine R.pv (i := 2) (N := some 24) (v := ?_) (a' := ?_) (R.tf 3 10) rfl rfl (R.ao HT_.out) ?_ ?_ ?_; rotate_left
               · intro w'; go_simp; with_reducible rfl
               rotate_left
               · simp only [Act.put, R.sa, R.sb, R.sc, i64_w, i32_w]; rfl
               refine R.pv (i := 6) (N := some 28) (v := ?_) (a' := ?_) #[true, true, true, false, false, false, true, false, false, false, false, false, false] rfl rfl (R.ao HT_.out) ?_ ?_ ?_; rotate_left
               · intro w'; go_simp; with_reducible rfl
               rotate_left
               · simp only [Act.put, R.sa, R.sb, R.sc, i64_w, i32_w]; rfl
               refine R.pv (i := 7) (N := some 29) (v := ?_) (a' := ?_) #[true, true, true, false, false, false, true, true, false, false, false, false, false] rfl rfl (R.ao HT_.out) ?_ ?_ ?_; rotate_left
               · intro w'; go_simp; with_reducible rfl
               rotate_left
               · simp only [Act.put, R.sa, R.sb, R.sc, i64_w, i32_w]; rfl
               refine R.pv (i := 8) (N := some 30) (v := ?_) (a' := ?_) #[true, true, true, false, false, false, true, true, true, false, false, false, false] rfl rfl (R.ao HT_.out) ?_ ?_ ?_; rotate_left
               · intro w'; go_simp; with_reducible rfl
               rotate_left
               · simp only [Act.put, R.sa, R.sb, R.sc, i64_w, i32_w]; rfl
               refine take_ (i := 3) (N := some 25) (v := ?_) (a' := ?_) #[true, true, true, true, false, false, true, true, true, false, false, false, false] rfl rfl (take_ofW HT_.out HW_.out (by kernel_rfl)) (fun _ _ _ h => h) (Or.inl ⟨by rfl, ?_⟩) hHeld ?_ ?_; rotate_left
               · rintro w' ⟨s0, s1⟩; go_simp; with_reducible rfl
               rotate_left
               · simp only [Act.put, R.sa, R.sb, R.sc, i64_w, i32_w]; rfl
               refine take_ (i := 9) (N := some 31) (v := ?_) (a' := ?_) #[true, true, true, true, false, false, true, true, true, true, false, false, false] rfl rfl (take_ofW HT_.out HW_.out (by kernel_rfl)) (fun _ _ _ h => h) (Or.inl ⟨by rfl, ?_⟩) hHeld ?_ ?_; rotate_left
               · rintro w' ⟨s0, s1⟩; go_simp; with_reducible rfl
               rotate_left
               · simp only [Act.put, R.sa, R.sb, R.sc, i64_w, i32_w]; rfl
               refine one_ (i := 4) (N := some 26) #[true, true, true, true, true, false, true, true, true, true, false, false, false] rfl rfl (R.oo HT_.out) (by decide) (fun K hK => ?_); refine goes_ Tryz.func31 (by kernel_rfl) rfl #[.string (rdOf ByteArray.empty t598 x19_1)] (by rfl) rfl rfl R.tp ?_; with_reducible refine (spec_Fields.calls k1 (rdOf ByteArray.empty t598 x19_1) t605 _ A13.out).mono ?_
               rintro e w25 ⟨v606, rfl, ho0, hb⟩; have HS0_ := (hb.cell (World.block_lt_of_cell? _ _ (hHeld.1))).trans (hHeld.1); have HS1_ := (hb.cell (World.block_lt_of_cell? _ _ (hHeld.2))).trans (hHeld.2); refine ⟨_, rfl, ?_⟩; have n0_ := Aside0.mk (Kd.R_elder' (R.lr HO_5.out) (Kd.R_base ho0) hb); have n1_ := Aside0.mk (Kd.R_elder' (R.lr HO_6.out) (Kd.R_base ho0) hb); have n2_ := Aside0.mk (Kd.R_lower (Kd.R_new' (Kd.R_new' ho0 (Kd.R_lt (R.lr HO_5.out))) (Kd.R_lt (R.lr HO_6.out))) (below_size (R.hb HB.out))); have n3_ := Aside0.mk (below_step (R.hb HB.out) hb); clear HO_5; clear HO_6; clear HB; have HO_5 := n0_; have HO_6 := n1_; have HO607 := n2_; have HB := n3_; clear n0_ n1_ n2_ n3_; (try clear hb); (try clear hb2); (try clear hk); (try clear hi); (try clear ho0); obtain ⟨Ao26, co26, eo26⟩ := Kd.R_slice HO607.out; (first | subst eo26 | (injection eo26 with f1_ f2_ f3_; have f4_ := f1_.symm; have f5_ := f3_.symm; clear f1_ f2_ f3_; subst f4_; subst f5_)); refine hK.out _ _ ⟨HS0_, HS1_⟩ (fun hHeld => ?_); clear hK K; refine norm_ (a' := ?_) ?_ ?_; rotate_left
               · show Act.put _ (some 26) _ = _
                 simp only [Act.put, R.sa, R.sb, R.sc, i64_w, i32_w]; rfl
               refine one_ (i := 5) (N := some 27) (R.tf 10 3) rfl rfl (R.oo HT_.out) (by decide) (fun K hK => ?_); refine goes_ Tryz.func130 (by kernel_rfl) rfl #[.slice Ao26 t605.length co26, .string ⟨#[32]⟩] (by rfl) rfl rfl R.tp ?_; with_reducible refine (spec_Join.calls k1 _ _ t605 (⟨#[32]⟩ : ByteArray) t608 _ ?side1 ?side2 A14.out).mono ?_
               (case side1 => repeat (first | exact (Kd.R_reads' HO607.out).2.2 | (with_reducible refine Kd.C_alloc ?_ _) | (with_reducible refine Kd.C_drewN ?_ _) | (with_reducible refine Kd.C_drew ?_)))
               (case side2 => exact (Kd.R_reads' HO607.out).2.1)
               rintro e w' ⟨rfl, ⟨nd, rfl⟩⟩; refine ⟨_, rfl, ?_⟩; refine hK.out _ _ ⟨hHeld.1, hHeld.2⟩ (fun hHeld => ?_); clear hK K; refine norm_ (a' := ?_) ?_ ?_; rotate_left
               · show Act.put _ (some 27) _ = _
                 simp only [Act.put, R.sa, R.sb, R.sc, i64_w, i32_w]; rfl
               refine one_ (i := 10) (N := some 32) (R.tf 11 2) rfl rfl (R.oo HT_.out) (by decide) (fun K hK => ?_); refine goes_ Tryz.func31 (by kernel_rfl) rfl #[.string (rdOf ByteArray.empty t601 x19_1)] (by rfl) rfl rfl R.tp ?_; with_reducible refine (spec_Fields.calls k1 (rdOf ByteArray.empty t601 x19_1) t610 _ A16.out).mono ?_
               rintro e w27 ⟨v611, rfl, ho0, hb⟩; have HS0_ := (hb.cell (World.block_lt_of_cell? _ _ (hHeld.1))).trans (hHeld.1); have HS1_ := (hb.cell (World.block_lt_of_cell? _ _ (hHeld.2))).trans (hHeld.2); refine ⟨_, rfl, ?_⟩; have n0_ := Aside0.mk (Kd.R_elder' (R.lr HO_5.out) (Kd.R_base ho0) hb); have n1_ := Aside0.mk (Kd.R_elder' (R.lr HO_6.out) (Kd.R_base ho0) hb); have n2_ := Aside0.mk (Kd.R_elder' (R.lr HO607.out) (Kd.R_base ho0) hb); have n3_ := Aside0.mk (Kd.R_lower (Kd.R_new' (Kd.R_new' (Kd.R_new' ho0 (Kd.R_lt (R.lr HO_5.out))) (Kd.R_lt (R.lr HO_6.out))) (Kd.R_lt (R.lr HO607.out))) (below_size (R.hb HB.out))); have n4_ := Aside0.mk (below_step (R.hb HB.out) hb); clear HO_5; clear HO_6; clear HO607; clear HB; have HO_5 := n0_; have HO_6 := n1_; have HO607 := n2_; have HO612 := n3_; have HB := n4_; clear n0_ n1_ n2_ n3_ n4_; (try clear hb); (try clear hb2); (try clear hk); (try clear hi); (try clear ho0); obtain ⟨Ao28, co28, eo28⟩ := Kd.R_slice HO612.out; (first | subst eo28 | (injection eo28 with f1_ f2_ f3_; have f4_ := f1_.symm; have f5_ := f3_.symm; clear f1_ f2_ f3_; subst f4_; subst f5_)); refine hK.out _ _ ⟨HS0_, HS1_⟩ (fun hHeld => ?_); clear hK K; refine norm_ (a' := ?_) ?_ ?_; rotate_left
               · show Act.put _ (some 32) _ = _
                 simp only [Act.put, R.sa, R.sb, R.sc, i64_w, i32_w]; rfl
               refine one_ (i := 11) (N := some 33) (R.tf 12 1) rfl rfl (R.oo HT_.out) (by decide) (fun K hK => ?_); refine goes_ Tryz.func130 (by kernel_rfl) rfl #[.slice Ao28 t610.length co28, .string ⟨#[32]⟩] (by rfl) rfl rfl R.tp ?_; with_reducible refine (spec_Join.calls k1 _ _ t610 (⟨#[32]⟩ : ByteArray) t613 _ ?side1 ?side2 A17.out).mono ?_
               (case side1 => repeat (first | exact (Kd.R_reads' HO612.out).2.2 | (with_reducible refine Kd.C_alloc ?_ _) | (with_reducible refine Kd.C_drewN ?_ _) | (with_reducible refine Kd.C_drew ?_)))
               (case side2 => exact (Kd.R_reads' HO612.out).2.1)
               rintro e w' ⟨rfl, ⟨nd, rfl⟩⟩; refine ⟨_, rfl, ?_⟩; refine hK.out _ _ ⟨hHeld.1, hHeld.2⟩ (fun hHeld => ?_); clear hK K; refine norm_ (a' := ?_) ?_ ?_; rotate_left
               · show Act.put _ (some 33) _ = _
                 simp only [Act.put, R.sa, R.sb, R.sc, i64_w, i32_w]; rfl
               refine R.pv (i := 12) (N := some 34) (v := ?_) (a' := ?_) (R.tf 13 0) rfl rfl (R.ao HT_.out) ?_ ?_ ?_; rotate_left
               · intro w'; go_simp; with_reducible rfl
               rotate_left
               · simp only [Act.put, R.sa, R.sb, R.sc, i64_w, i32_w]; rfl
               refine done_ (R.dn HT_.out) ?_; try go_wp2
               go_ret
               exact ⟨by first | rfl | (simp [errW_none, errW_some] <;> rfl) | (simp [*, errW_none, errW_some] <;> rfl), by repeat (first | (with_reducible first | exact HB.out | apply below_alloc | apply pw_below_drewN | apply below_drew1) | exact HB.out)⟩
           · rw [if_neg c15] at H; exact absurd H (by simp)
         · rw [if_neg c12] at H; exact absurd H (by simp)
       · rw [if_neg c11] at H; exact absurd H (by simp)
     · rw [if_neg c10] at H; have c10b0 : decide (x19_1 < (t598.length : Int)) = false := decide_eq_false c10; clear c10; obtain rfl := Option.some.inj H; go_wp2
       go_ret
       exact ⟨by first | rfl | (simp [errW_none, errW_some] <;> rfl) | (simp [*, errW_none, errW_some] <;> rfl), by repeat (first | (with_reducible first | exact HB.out | apply below_alloc | apply pw_below_drewN | apply below_drew1) | exact HB.out)⟩
 · rw [if_neg c5] at H; have c5b0 : ((t598.length : Int) == (t601.length : Int)) = false := beq_eq_false_iff_ne.mpr c5; have c5b1 : ((t598.length : Int) != (t601.length : Int)) = true := bne_iff_ne.mpr c5
   have c5b2 : (t598.length == t601.length) = false := by first | simpa using c5 | (simp at c5 ⊢; omega)
   obtain rfl := Option.some.inj H
   go_enter Tryz.func98, Tryz.ntmps98
   go_wp2_with (first | ((with_reducible refine gate_callee (f := 47) rfl ?_); refine goesL_ (some 9) rfl rfl Tryz.func47 (by kernel_rfl) rfl #[.string a0] rfl R.tp ?_; (with_reducible refine (spec_Lines.calls k a0 t598 _ A3.out).mono ?_); rintro e w29 ⟨v599, rfl, ho0, hb⟩; refine ⟨_, rfl, ?_⟩; have n0_ := Aside0.mk (Kd.R_lower ho0 (below_size (R.hb HB.out))); have n1_ := Aside0.mk (below_step (R.hb HB.out) hb); clear HB; have HO600 := n0_; have HB := n1_; clear n0_ n1_; (try clear hb); (try clear hb2); (try clear hk); (try clear hi); (try clear ho0)) | ((with_reducible refine gate_callee (f := 47) rfl ?_); refine goesL_ (some 11) rfl rfl Tryz.func47 (by kernel_rfl) rfl #[.string a1] rfl R.tp ?_; (with_reducible refine (spec_Lines.calls k a1 t601 _ A4.out).mono ?_); rintro e w30 ⟨v602, rfl, ho0, hb⟩; refine ⟨_, rfl, ?_⟩; have n0_ := Aside0.mk (Kd.R_elder' (R.lr HO600.out) (Kd.R_base ho0) hb); have n1_ := Aside0.mk (Kd.R_lower (Kd.R_new' ho0 (Kd.R_lt (R.lr HO600.out))) (below_size (R.hb HB.out))); have n2_ := Aside0.mk (below_step (R.hb HB.out) hb); clear HO600; clear HB; have HO600 := n0_; have HO603 := n1_; have HB := n2_; clear n0_ n1_ n2_; (try clear hb); (try clear hb2); (try clear hk); (try clear hi); (try clear ho0); obtain ⟨Ao31, co31, eo31⟩ := Kd.R_slice HO600.out; subst eo31; obtain ⟨Ao32, co32, eo32⟩ := Kd.R_slice HO603.out; subst eo32))
   go_ret
   exact ⟨by first | rfl | (simp [errW_none, errW_some] <;> rfl) | (simp [*, errW_none, errW_some] <;> rfl), by repeat (first | (with_reducible first | exact HB.out | apply below_alloc | apply pw_below_drewN | apply below_drew1) | exact HB.out)⟩
def spec_leads.l0 : Nat → ByteArray → List ByteArray → Int → Int → Option (Bool)
 | 0, _, _, _, _ => none
 | k + 1, x0, x6, x7, x8 => if x8 < x7 then (if 0 ≤ x8 then (if x8 < (x6.length : Int) then (if (rdOf ByteArray.empty x6 x8).toList = ([] : List UInt8) then (some false) else (if 0 ≤ (wrap64 (((rdOf ByteArray.empty x6 x8).size : Int) - 1)) then (if (wrap64 (((rdOf ByteArray.empty x6 x8).size : Int) - 1)) < ((rdOf ByteArray.empty x6 x8).size : Int) then (if (bt (rdOf ByteArray.empty x6 x8) (wrap64 (((rdOf ByteArray.empty x6 x8).size : Int) - 1))) = 32 then (some false) else (if (bt (rdOf ByteArray.empty x6 x8) (wrap64 (((rdOf ByteArray.empty x6 x8).size : Int) - 1))) = 9 then (some false) else (spec_leads.l0 k x0 x6 x7 (wrap64 (x8 + 1))))) else (none)) else (none))) else (none)) else (none)) else (if x0.toList = ([] : List UInt8) then (some true) else (if 0 ≤ (wrap64 ((x0.size : Int) - 1)) then (if (wrap64 ((x0.size : Int) - 1)) < (x0.size : Int) then (some ((bt x0 (wrap64 ((x0.size : Int) - 1))) == 10)) else (none)) else (none)))
def spec_leads.f (k : Nat) (a0 : ByteArray) : Option (Bool) := (spec_Lines.f k a0).bind fun t614 => (spec_leads.l0 k a0 t614 (t614.length : Int) 0)
set_option maxHeartbeats 8000000 in
set_option maxRecDepth 100000 in
theorem spec_leads.calls (k : Nat) (a0 : ByteArray) (r : Bool) (w : World) (h : spec_leads.f k a0 = some r) :
 Calls Tryz.prog 99 #[.string a0] w fun e w' => e = .returned (.bool r) ∧ Below w.heap.size w w' := by
 have HB := Aside0.mk (Below.refl w.heap.size w); have H : ((spec_Lines.f k a0).bind fun t614 => (spec_leads.l0 k a0 t614 (t614.length : Int) 0)) = some r := h; clear h; replace H := Option.bind_eq_some_iff.mp H; obtain ⟨t614, A20, H⟩ := H; replace H : (spec_leads.l0 k a0 t614 (t614.length : Int) 0) = some r := H; have A2 := Aside0.mk A20; clear A20; have H' := Aside0.mk H; clear H
 go_enter Tryz.func99, Tryz.ntmps99
 go_wp2_with (first | ((with_reducible refine gate_callee (f := 47) rfl ?_); refine goesL_ (some 6) rfl rfl Tryz.func47 (by kernel_rfl) rfl #[.string a0] rfl R.tp ?_; (with_reducible refine (spec_Lines.calls k a0 t614 _ A2.out).mono ?_); rintro e w3 ⟨v615, rfl, ho0, hb⟩; refine ⟨_, rfl, ?_⟩; have n0_ := Aside0.mk (Kd.R_lower ho0 (below_size (R.hb HB.out))); have n1_ := Aside0.mk (below_step (R.hb HB.out) hb); clear HB; have HO616 := n0_; have HB := n1_; clear n0_ n1_; (try clear hb); (try clear hb2); (try clear hk); (try clear hi); (try clear ho0); obtain ⟨Ao4, co4, eo4⟩ := Kd.R_slice HO616.out; subst eo4))
 go_loopg [8] k (fun kq v8 w' => ∃ (x8_1 : Int), v8 = .int .i64 x8_1 ∧ Aside0 (spec_leads.l0 kq a0 t614 (t614.length : Int) x8_1 = some r) ∧ Aside0 (kq ≤ k) ∧ Aside0 (Kd.R Kd.string 9 w' w.heap.size (fun _ => True) (.slice Ao4 t614.length co4) t614) ∧ Aside0 (Below w.heap.size w w'))
 case atStart => exact ⟨(0), R.rs, H', ⟨Nat.le_refl _⟩, ⟨by (with_reducible repeat (first | apply Kd.R_alloc | apply Kd.R_drewN | apply Kd.R_drew)); exact HO616.out⟩, ⟨by repeat (first | (with_reducible first | exact HB.out | apply below_alloc | apply pw_below_drewN | apply below_drew1) | exact HB.out)⟩⟩
 case round =>
  clear H'; try clear p2
  try clear c4
  obtain ⟨x8_1, rfl, HA, HK1, HO_6, HB⟩ := hrel; cases gk with
  | zero => exact absurd HA.out (by simp [spec_leads.l0])
  | succ k1 =>
   have H := HA.out; clear HA; simp only [spec_leads.l0] at H
   by_cases c5 : x8_1 < (t614.length : Int)
   · rw [if_pos c5] at H; have c5b0 : decide (x8_1 < (t614.length : Int)) = true := decide_eq_true c5; clear c5
     by_cases c6 : 0 ≤ x8_1
     · rw [if_pos c6] at H; have c6b0 : decide (0 ≤ x8_1) = true := decide_eq_true c6; clear c6
       by_cases c7 : x8_1 < (t614.length : Int)
       · rw [if_pos c7] at H; have c7b0 : decide (x8_1 < (t614.length : Int)) = true := decide_eq_true c7; clear c7
         by_cases c8 : (rdOf ByteArray.empty t614 x8_1).toList = ([] : List UInt8)
         · rw [if_pos c8] at H; have c8b0 : ((rdOf ByteArray.empty t614 x8_1).toList == ([] : List UInt8)) = true := beq_iff_eq.mpr c8; have c8b1 : ((rdOf ByteArray.empty t614 x8_1).toList != ([] : List UInt8)) = false := bne_eq_false_iff_eq.mpr c8; clear c8; obtain rfl := Option.some.inj H; have p617 : 0 ≤ (x8_1 : Int) := R.od; have q617 : x8_1 < (t614.length : Int) := R.od; obtain ⟨ad617, e617, hx617_0⟩ := Kd.at_string (Kd.R_reads' HO_6.out).2.2 x8_1 p617 q617; cases e617; replace p617 := eq_true p617; replace q617 := eq_true q617; go_wp2
           go_ret
           exact ⟨by first | rfl | (simp [errW_none, errW_some] <;> rfl) | (simp [*, errW_none, errW_some] <;> rfl), by repeat (first | (with_reducible first | exact HB.out | apply below_alloc | apply pw_below_drewN | apply below_drew1) | exact HB.out)⟩
         · rw [if_neg c8] at H; have c8b0 : ((rdOf ByteArray.empty t614 x8_1).toList == ([] : List UInt8)) = false := beq_eq_false_iff_ne.mpr c8; have c8b1 : ((rdOf ByteArray.empty t614 x8_1).toList != ([] : List UInt8)) = true := bne_iff_ne.mpr c8; obtain ⟨ji9, hji9⟩ : ∃ j_ : Int, (wrap64 (((rdOf ByteArray.empty t614 x8_1).size : Int) - 1)) = j_ := ⟨_, rfl⟩
           replace H : (if 0 ≤ (ji9) then (if (ji9) < ((rdOf ByteArray.empty t614 x8_1).size : Int) then (if (bt (rdOf ByteArray.empty t614 x8_1) (ji9)) = 32 then (some false) else (if (bt (rdOf ByteArray.empty t614 x8_1) (ji9)) = 9 then (some false) else (spec_leads.l0 k1 a0 t614 (t614.length : Int) (wrap64 (x8_1 + 1))))) else (none)) else (none)) = some r := by first | (rw [hji9] at H; exact H) | (simp only [hji9] at H ⊢; exact H)
           have hji9w : (IntKind.i64.wrap (((rdOf ByteArray.empty t614 x8_1).size : Int) - 1)) = ji9 := (i64_w _).trans hji9
           by_cases c10 : 0 ≤ (ji9)
           · rw [if_pos c10] at H; have c10b0 : decide (0 ≤ (ji9)) = true := decide_eq_true c10; clear c10
             by_cases c11 : (ji9) < ((rdOf ByteArray.empty t614 x8_1).size : Int)
             · rw [if_pos c11] at H; have c11b0 : decide ((ji9) < ((rdOf ByteArray.empty t614 x8_1).size : Int)) = true := decide_eq_true c11; clear c11
               by_cases c13 : (bt (rdOf ByteArray.empty t614 x8_1) (ji9)) = 32
               · rw [if_pos c13] at H; have c13b0 : ((bt (rdOf ByteArray.empty t614 x8_1) (ji9)) == 32) = true := beq_iff_eq.mpr c13; have c13b1 : ((bt (rdOf ByteArray.empty t614 x8_1) (ji9)) != 32) = false := bne_eq_false_iff_eq.mpr c13; clear c13; obtain rfl := Option.some.inj H; have p617 : 0 ≤ (x8_1 : Int) := R.od; have q617 : x8_1 < (t614.length : Int) := R.od; obtain ⟨ad617, e617, hx617_0⟩ := Kd.at_string (Kd.R_reads' HO_6.out).2.2 x8_1 p617 q617; cases e617; replace p617 := eq_true p617; replace q617 := eq_true q617; have p12 : 0 ≤ ((ji9) : Int) := R.od; have q12 : (ji9) < ((rdOf ByteArray.empty t614 x8_1).size : Int) := R.od; have hx12 := bt_at (rdOf ByteArray.empty t614 x8_1) (ji9); replace p12 := eq_true p12; replace q12 := eq_true q12; go_wp2
                 go_ret
                 exact ⟨by first | rfl | (simp [errW_none, errW_some] <;> rfl) | (simp only [← hji9]; first | rfl | (simp [errW_none, errW_some] <;> rfl)) | (simp [*, errW_none, errW_some] <;> rfl), by repeat (first | (with_reducible first | exact HB.out | apply below_alloc | apply pw_below_drewN | apply below_drew1) | exact HB.out)⟩
               · rw [if_neg c13] at H; have c13b0 : ((bt (rdOf ByteArray.empty t614 x8_1) (ji9)) == 32) = false := beq_eq_false_iff_ne.mpr c13; have c13b1 : ((bt (rdOf ByteArray.empty t614 x8_1) (ji9)) != 32) = true := bne_iff_ne.mpr c13
                 by_cases c15 : (bt (rdOf ByteArray.empty t614 x8_1) (ji9)) = 9
                 · rw [if_pos c15] at H; have c15b0 : ((bt (rdOf ByteArray.empty t614 x8_1) (ji9)) == 9) = true := beq_iff_eq.mpr c15; have c15b1 : ((bt (rdOf ByteArray.empty t614 x8_1) (ji9)) != 9) = false := bne_eq_false_iff_eq.mpr c15; clear c15; obtain rfl := Option.some.inj H; have p617 : 0 ≤ (x8_1 : Int) := R.od; have q617 : x8_1 < (t614.length : Int) := R.od; obtain ⟨ad617, e617, hx617_0⟩ := Kd.at_string (Kd.R_reads' HO_6.out).2.2 x8_1 p617 q617; cases e617; replace p617 := eq_true p617; replace q617 := eq_true q617; have p12 : 0 ≤ ((ji9) : Int) := R.od; have q12 : (ji9) < ((rdOf ByteArray.empty t614 x8_1).size : Int) := R.od; have hx12 := bt_at (rdOf ByteArray.empty t614 x8_1) (ji9); replace p12 := eq_true p12; replace q12 := eq_true q12; have p14 : 0 ≤ ((ji9) : Int) := R.od; have q14 : (ji9) < ((rdOf ByteArray.empty t614 x8_1).size : Int) := R.od; have hx14 := bt_at (rdOf ByteArray.empty t614 x8_1) (ji9); replace p14 := eq_true p14; replace q14 := eq_true q14; go_wp2
                   go_ret
                   exact ⟨by first | rfl | (simp [errW_none, errW_some] <;> rfl) | (simp only [← hji9]; first | rfl | (simp [errW_none, errW_some] <;> rfl)) | (simp [*, errW_none, errW_some] <;> rfl), by repeat (first | (with_reducible first | exact HB.out | apply below_alloc | apply pw_below_drewN | apply below_drew1) | exact HB.out)⟩
                 · rw [if_neg c15] at H; have c15b0 : ((bt (rdOf ByteArray.empty t614 x8_1) (ji9)) == 9) = false := beq_eq_false_iff_ne.mpr c15; have c15b1 : ((bt (rdOf ByteArray.empty t614 x8_1) (ji9)) != 9) = true := bne_iff_ne.mpr c15; have H' := Aside0.mk H; clear H; have p617 : 0 ≤ (x8_1 : Int) := R.od; have q617 : x8_1 < (t614.length : Int) := R.od; obtain ⟨ad617, e617, hx617_0⟩ := Kd.at_string (Kd.R_reads' HO_6.out).2.2 x8_1 p617 q617; cases e617; replace p617 := eq_true p617; replace q617 := eq_true q617; have p12 : 0 ≤ ((ji9) : Int) := R.od; have q12 : (ji9) < ((rdOf ByteArray.empty t614 x8_1).size : Int) := R.od; have hx12 := bt_at (rdOf ByteArray.empty t614 x8_1) (ji9); replace p12 := eq_true p12; replace q12 := eq_true q12; have p14 : 0 ≤ ((ji9) : Int) := R.od; have q14 : (ji9) < ((rdOf ByteArray.empty t614 x8_1).size : Int) := R.od; have hx14 := bt_at (rdOf ByteArray.empty t614 x8_1) (ji9); replace p14 := eq_true p14; replace q14 := eq_true q14; go_wp2
                   go_roundg k1
                   case measure => have := HK1.out; omega
                   case rel => exact ⟨(wrap64 (x8_1 + 1)), R.rs, H', ⟨by have := HK1.out; omega⟩, ⟨by (with_reducible repeat (first | apply Kd.R_alloc | apply Kd.R_drewN | apply Kd.R_drew)); exact HO_6.out⟩, ⟨by repeat (first | (with_reducible first | exact HB.out | apply below_alloc | apply pw_below_drewN | apply below_drew1) | exact HB.out)⟩⟩
             · rw [if_neg c11] at H; exact absurd H (by simp)
           · rw [if_neg c10] at H; exact absurd H (by simp)
       · rw [if_neg c7] at H; exact absurd H (by simp)
     · rw [if_neg c6] at H; exact absurd H (by simp)
   · rw [if_neg c5] at H; have c5b0 : decide (x8_1 < (t614.length : Int)) = false := decide_eq_false c5; clear c5
     by_cases c16 : a0.toList = ([] : List UInt8)
     · rw [if_pos c16] at H; have c16b0 : (a0.toList == ([] : List UInt8)) = true := beq_iff_eq.mpr c16; have c16b1 : (a0.toList != ([] : List UInt8)) = false := bne_eq_false_iff_eq.mpr c16; clear c16; obtain rfl := Option.some.inj H; go_wp2
       go_ret
       exact ⟨by first | rfl | (simp [errW_none, errW_some] <;> rfl) | (simp [*, errW_none, errW_some] <;> rfl), by repeat (first | (with_reducible first | exact HB.out | apply below_alloc | apply pw_below_drewN | apply below_drew1) | exact HB.out)⟩
     · rw [if_neg c16] at H; have c16b0 : (a0.toList == ([] : List UInt8)) = false := beq_eq_false_iff_ne.mpr c16; have c16b1 : (a0.toList != ([] : List UInt8)) = true := bne_iff_ne.mpr c16; obtain ⟨ji17, hji17⟩ : ∃ j_ : Int, (wrap64 ((a0.size : Int) - 1)) = j_ := ⟨_, rfl⟩
       replace H : (if 0 ≤ (ji17) then (if (ji17) < (a0.size : Int) then (some ((bt a0 (ji17)) == 10)) else (none)) else (none)) = some r := by first | (rw [hji17] at H; exact H) | (simp only [hji17] at H ⊢; exact H)
       have hji17w : (IntKind.i64.wrap ((a0.size : Int) - 1)) = ji17 := (i64_w _).trans hji17
       by_cases c18 : 0 ≤ (ji17)
       · rw [if_pos c18] at H; have c18b0 : decide (0 ≤ (ji17)) = true := decide_eq_true c18; clear c18
         by_cases c19 : (ji17) < (a0.size : Int)
         · rw [if_pos c19] at H; have c19b0 : decide ((ji17) < (a0.size : Int)) = true := decide_eq_true c19; clear c19; obtain rfl := Option.some.inj H; have p20 : 0 ≤ ((ji17) : Int) := R.od; have q20 : (ji17) < (a0.size : Int) := R.od; have hx20 := bt_at a0 (ji17); replace p20 := eq_true p20; replace q20 := eq_true q20; go_wp2
           go_ret
           exact ⟨by first | rfl | (simp [errW_none, errW_some] <;> rfl) | (simp only [← hji17]; first | rfl | (simp [errW_none, errW_some] <;> rfl)) | (simp [*, errW_none, errW_some] <;> rfl), by repeat (first | (with_reducible first | exact HB.out | apply below_alloc | apply pw_below_drewN | apply below_drew1) | exact HB.out)⟩
         · rw [if_neg c19] at H; exact absurd H (by simp)
       · rw [if_neg c18] at H; exact absurd H (by simp)
end Go.Proofs.YtabfehcpcjcomaaGreatDoor.QA0
namespace Go.Proofs.YtabfehcpcjcomaaGreatDoor.QA0
open Go.RowKit Go.Proofs.YtabfehcpcjcomaaGreatDoorW.PrintWords Go.Proofs.YtabfehcpcjcomaaGreatDoorW.PrintLast Go.Proofs.YtabfehcpcjcomaaGreatDoorW.PrintMore
attribute [local go_sem] max2_int min2_int max_two min_two max_three min_three max_four min_four
set_option linter.unusedVariables false
set_option linter.unusedSimpArgs false
def spec_recordNode.f (a0 : ByteArray) (l1 : List (S38)) : Option (ByteArray × Int × Bool × Int × Int × Nat × ByteArray × (List (S38))) := some (a0, 8, false, 0, 0, 0, (⟨#[]⟩ : ByteArray), l1)
set_option maxHeartbeats 8000000 in
set_option maxRecDepth 100000 in
theorem spec_recordNode.calls (a0 : ByteArray) (P1_ : Nat → Prop) (A1 : Option Addr) (c1 : Nat) (l1 : List (S38)) (r1 : ByteArray) (r2 : Int) (r3 : Bool) (r4 : Int) (r5 : Int) (r6 : Nat) (r7 : ByteArray) (r8 : List (S38)) (w : World) (hs1 : Kd.V k38 38 w w.heap.size (fun k_ => P1_ k_) (.slice A1 l1.length c1) l1) (h : spec_recordNode.f a0 l1 = some (r1, r2, r3, r4, r5, r6, r7, r8)) :
 Calls Tryz.prog 38 #[.string a0, .slice A1 l1.length c1] w fun e w' => ∃ v7_ : Value, e = .returned (.agg #[.string r1, .int .i64 r2, .bool r3, .int .i64 r4, .int .u64 r5, .float .f64 r6, .string r7, v7_]) ∧ Kd.V k38 38 w' w.heap.size (fun k_ => (P1_ k_ ∨ w.heap.size ≤ k_)) v7_ r8 ∧ Below w.heap.size w w' := by
 have hu38 := Tryz.underlying38; have HO1 := Aside0.mk (show Kd.V k38 38 w w.heap.size (fun k_ => (P1_ k_ ∨ w.heap.size ≤ k_)) (.slice A1 l1.length c1) l1 from Kd.V_mono hs1 (fun k_ hk => .inl hk)); have HB := Aside0.mk (Below.refl w.heap.size w); have H : (some (a0, 8, false, 0, 0, 0, (⟨#[]⟩ : ByteArray), l1)) = some (r1, r2, r3, r4, r5, r6, r7, r8) := h; clear h; simp only [Option.some.injEq, Prod.mk.injEq] at H; obtain ⟨rfl, rfl, rfl, rfl, rfl, rfl, rfl, rfl⟩ := H
 go_enter Tryz.func38, Tryz.ntmps38
 go_wp2_with (first | ((with_reducible refine gate_dst (N := 4) rfl ?_); refine box_event ?hg (N := 4) ?hd (cs := #[.string ⟨#[]⟩, .int .i64 0, .bool false, .int .i64 0, .int .u64 0, .float .f64 0, .string ⟨#[]⟩, .slice none 0 0]) (t := 38) ?hr ?_; (case hd => rfl); (case hg => rfl); (case hr => first | (go_simp; done) | (go_simp; rfl)); intro gb639 hg w3 hbox hb; have n0_ := Aside0.mk (Kd.V_below (Kd.V_elderB (R.lv HO1.out) gb639 (Nat.le_of_eq hg.symm)) hb); have n1_ := Aside0.mk (below_step (R.hb HB.out) hb); have n2_ := Aside0.mk (hbox); have n3_ := Aside0.mk ((by rw [hg]; exact (below_size (R.hb HB.out)) : w.heap.size ≤ gb639)); have n4_ := n3_; clear HO1; clear HB; have HO1 := n0_; have HB := n1_; have BK639 := n2_; have GW639 := n3_; have GE639 := n4_; clear n0_ n1_ n2_ n3_ n4_; clear hb hbox hg; have hcz4_0 : w3.cell? ⟨gb639, 0, none⟩ = some (.string ⟨#[]⟩) := (blk_cell BK639.out 0).trans rfl; have hcz4_1 : w3.cell? ⟨gb639, 1, none⟩ = some (.int .i64 0) := (blk_cell BK639.out 1).trans rfl; have hcz4_2 : w3.cell? ⟨gb639, 2, none⟩ = some (.bool false) := (blk_cell BK639.out 2).trans rfl; have hcz4_3 : w3.cell? ⟨gb639, 3, none⟩ = some (.int .i64 0) := (blk_cell BK639.out 3).trans rfl; have hcz4_4 : w3.cell? ⟨gb639, 4, none⟩ = some (.int .u64 0) := (blk_cell BK639.out 4).trans rfl; have hcz4_5 : w3.cell? ⟨gb639, 5, none⟩ = some (.float .f64 0) := (blk_cell BK639.out 5).trans rfl; have hcz4_6 : w3.cell? ⟨gb639, 6, none⟩ = some (.string ⟨#[]⟩) := (blk_cell BK639.out 6).trans rfl; have hcz4_7 : w3.cell? ⟨gb639, 7, none⟩ = some (.slice none 0 0) := (blk_cell BK639.out 7).trans rfl; have hfz4_0 := blk_frozen BK639.out 0; have hfz4_1 := blk_frozen BK639.out 1; have hfz4_2 := blk_frozen BK639.out 2; have hfz4_3 := blk_frozen BK639.out 3; have hfz4_4 := blk_frozen BK639.out 4; have hfz4_5 := blk_frozen BK639.out 5; have hfz4_6 := blk_frozen BK639.out 6; have hfz4_7 := blk_frozen BK639.out 7))
 refine bodyPost_ret (results_cell_row rfl _ _ gb639 38 #[.string a0, .int .i64 8, .bool false, .int .i64 0, .int .u64 0, .float .f64 0, .string ⟨#[]⟩, .slice A1 l1.length c1] (0, 0) _ rfl (by (with_reducible repeat (first | refine blk_drewN ?_ _ | refine blk_drew ?_ | refine blk_alloc ?_ _)); refine blk_put (cs := #[.string a0, .int .i64 8, .bool false, .int .i64 0, .int .u64 0, .float .f64 0, .string ⟨#[]⟩, .slice none 0 0]) ?_ 7 _ rfl; (with_reducible repeat (first | refine blk_drewN ?_ _ | refine blk_drew ?_ | refine blk_alloc ?_ _)); refine blk_put (cs := #[.string a0, .int .i64 8, .bool false, .int .i64 0, .int .u64 0, .float .f64 0, .string ⟨#[]⟩, .slice none 0 0]) ?_ 6 _ rfl; (with_reducible repeat (first | refine blk_drewN ?_ _ | refine blk_drew ?_ | refine blk_alloc ?_ _)); refine blk_put (cs := #[.string a0, .int .i64 8, .bool false, .int .i64 0, .int .u64 0, .float .f64 0, .string ⟨#[]⟩, .slice none 0 0]) ?_ 5 _ rfl; (with_reducible repeat (first | refine blk_drewN ?_ _ | refine blk_drew ?_ | refine blk_alloc ?_ _)); refine blk_put (cs := #[.string a0, .int .i64 8, .bool false, .int .i64 0, .int .u64 0, .float .f64 0, .string ⟨#[]⟩, .slice none 0 0]) ?_ 4 _ rfl; (with_reducible repeat (first | refine blk_drewN ?_ _ | refine blk_drew ?_ | refine blk_alloc ?_ _)); refine blk_put (cs := #[.string a0, .int .i64 8, .bool false, .int .i64 0, .int .u64 0, .float .f64 0, .string ⟨#[]⟩, .slice none 0 0]) ?_ 3 _ rfl; (with_reducible repeat (first | refine blk_drewN ?_ _ | refine blk_drew ?_ | refine blk_alloc ?_ _)); refine blk_put (cs := #[.string a0, .int .i64 8, .bool false, .int .i64 0, .int .u64 0, .float .f64 0, .string ⟨#[]⟩, .slice none 0 0]) ?_ 2 _ rfl; (with_reducible repeat (first | refine blk_drewN ?_ _ | refine blk_drew ?_ | refine blk_alloc ?_ _)); refine blk_put (cs := #[.string a0, .int .i64 0, .bool false, .int .i64 0, .int .u64 0, .float .f64 0, .string ⟨#[]⟩, .slice none 0 0]) ?_ 1 _ rfl; (with_reducible repeat (first | refine blk_drewN ?_ _ | refine blk_drew ?_ | refine blk_alloc ?_ _)); refine blk_put (cs := #[.string ⟨#[]⟩, .int .i64 0, .bool false, .int .i64 0, .int .u64 0, .float .f64 0, .string ⟨#[]⟩, .slice none 0 0]) ?_ 0 _ rfl; (with_reducible repeat (first | refine blk_drewN ?_ _ | refine blk_drew ?_ | refine blk_alloc ?_ _)); exact BK639.out) Tryz.underlying38 rfl (by kernel_rfl)) rfl ?_; exact ⟨_, by first | rfl | (simp [errW_none, errW_some] <;> rfl) | (simp [*, errW_none, errW_some] <;> rfl), by (with_reducible repeat (first | apply Kd.V_alloc | apply Kd.V_drewN | apply Kd.V_drew)); exact Kd.V_mono (Kd.V_far (p := ⟨gb639, 7, none⟩) (Kd.V_far (p := ⟨gb639, 6, none⟩) (Kd.V_far (p := ⟨gb639, 5, none⟩) (Kd.V_far (p := ⟨gb639, 4, none⟩) (Kd.V_far (p := ⟨gb639, 3, none⟩) (Kd.V_far (p := ⟨gb639, 2, none⟩) (Kd.V_far (p := ⟨gb639, 1, none⟩) (Kd.V_far (p := ⟨gb639, 0, none⟩) (Kd.V_mono HO1.out (fun k_ hk => (⟨hk, hk.2⟩ : _ ∧ k_ ≠ gb639))) (fun _ hk => hk.2) (.string a0)) (fun _ hk => hk.2) (.int .i64 8)) (fun _ hk => hk.2) (.bool false)) (fun _ hk => hk.2) (.int .i64 0)) (fun _ hk => hk.2) (.int .u64 0)) (fun _ hk => hk.2) (.float .f64 0)) (fun _ hk => hk.2) (.string ⟨#[]⟩)) (fun _ hk => hk.2) (.slice A1 l1.length c1)) (fun _ hk => hk.1.1), by repeat (first | (with_reducible first | exact HB.out | apply below_alloc | apply pw_below_drewN | apply below_drew1 | refine below_set ?_ GE639.out) | exact HB.out)⟩
def laws_lives.f : Option Bool := some true
theorem laws_lives.calls (r : Bool) (w : World) (h : laws_lives.f = some r) (ht : R.LTabs w := by first | assumption | exact Aside0.out ‹Aside0 (R.LTabs _)› | exact R.LTabs.below (Aside0.out ‹Aside0 (R.LTabs _)›) (by repeat (first | (with_reducible first | exact Aside0.out ‹Aside0 (Below _ _ _)› | exact Below.refl _ _ | apply below_alloc | apply pw_below_drewN | apply below_drew1) | refine below_set ?_ ?_ | exact Aside0.out ‹Aside0 (_ ≤ _)›))) :
 Calls Tryz.prog 28 #[] w fun e w' => e = .returned (.bool r) ∧ Below w.heap.size w w' := by
 obtain rfl := Option.some.inj h; exact R.lives_ok w ht
end Go.Proofs.YtabfehcpcjcomaaGreatDoor.QA0
namespace Go.Proofs.YtabfehcpcjcomaaGreatDoor.QA0
open Go.RowKit Go.Proofs.YtabfehcpcjcomaaGreatDoorW.PrintWords Go.Proofs.YtabfehcpcjcomaaGreatDoorW.PrintLast Go.Proofs.YtabfehcpcjcomaaGreatDoorW.PrintMore
attribute [local go_sem] max2_int min2_int max_two min_two max_three min_three max_four min_four
set_option linter.unusedVariables false
set_option linter.unusedSimpArgs false
def spec_Where.l0 : Nat → ByteArray → Int → Int → Int → Option (Int)
 | 0, _, _, _, _ => none
 | k + 1, x0, x1, x7, x8 => if x8 < x7 then (if 0 ≤ x8 then (if x8 < (x0.size : Int) then (if (bt x0 x8) = x1 then (some x8) else (spec_Where.l0 k x0 x1 x7 (wrap64 (x8 + 1)))) else (none)) else (none)) else (some (-1))
def spec_Where.f (k : Nat) (a0 : ByteArray) (a1 : Int) : Option (Int) := spec_Where.l0 k a0 a1 (a0.size : Int) 0
set_option maxHeartbeats 8000000 in
set_option maxRecDepth 100000 in
theorem spec_Where.calls (k : Nat) (a0 : ByteArray) (a1 : Int) (r : Int) (w : World) (h : spec_Where.f k a0 a1 = some r) :
 Calls Tryz.prog 96 #[.string a0, .int .u8 a1] w fun e w' => e = .returned (.int .i64 r) ∧ Drawn0 w w' := by
 have H : (spec_Where.l0 k a0 a1 (a0.size : Int) 0) = some r := h; clear h; have H' := Aside0.mk H; clear H
 go_enter Tryz.func96, Tryz.ntmps96
 go_wp2
 go_loopg [8] k (fun kq v8 w' => ∃ (x8_1 : Int), v8 = .int .i64 x8_1 ∧ Aside0 (spec_Where.l0 kq a0 a1 (a0.size : Int) x8_1 = some r) ∧ Aside0 (kq ≤ k) ∧ Drawn0 w w')
 case atStart => exact ⟨(0), R.rs, H', ⟨Nat.le_refl _⟩, by repeat (first | exact Drawn0.refl _ | apply Drawn0.step)⟩
 case round =>
  clear H'; try clear p2
  obtain ⟨x8_1, rfl, HA, HK1, ⟨m1, rfl⟩⟩ := hrel; cases gk with
  | zero => exact absurd HA.out (by simp [spec_Where.l0])
  | succ k1 =>
   have H := HA.out; clear HA; simp only [spec_Where.l0] at H
   by_cases c3 : x8_1 < (a0.size : Int)
   · rw [if_pos c3] at H; have c3b0 : decide (x8_1 < (a0.size : Int)) = true := decide_eq_true c3; clear c3
     by_cases c4 : 0 ≤ x8_1
     · rw [if_pos c4] at H; have c4b0 : decide (0 ≤ x8_1) = true := decide_eq_true c4; clear c4
       by_cases c5 : x8_1 < (a0.size : Int)
       · rw [if_pos c5] at H; have c5b0 : decide (x8_1 < (a0.size : Int)) = true := decide_eq_true c5; clear c5
         by_cases c7 : (bt a0 x8_1) = a1
         · rw [if_pos c7] at H; have c7b0 : ((bt a0 x8_1) == a1) = true := beq_iff_eq.mpr c7; have c7b1 : ((bt a0 x8_1) != a1) = false := bne_eq_false_iff_eq.mpr c7; clear c7; obtain rfl := Option.some.inj H; have p6 : 0 ≤ (x8_1 : Int) := R.od; have q6 : x8_1 < (a0.size : Int) := R.od; have hx6 := bt_at a0 x8_1; replace p6 := eq_true p6; replace q6 := eq_true q6; go_wp2
           go_ret
           exact ⟨by first | rfl | (simp; done) | (simp [*]; done) | (simp; cases a0.toList <;> rfl), by repeat (first | exact Drawn0.refl _ | apply Drawn0.step)⟩
         · rw [if_neg c7] at H; have c7b0 : ((bt a0 x8_1) == a1) = false := beq_eq_false_iff_ne.mpr c7; have c7b1 : ((bt a0 x8_1) != a1) = true := bne_iff_ne.mpr c7; have H' := Aside0.mk H; clear H; have p6 : 0 ≤ (x8_1 : Int) := R.od; have q6 : x8_1 < (a0.size : Int) := R.od; have hx6 := bt_at a0 x8_1; replace p6 := eq_true p6; replace q6 := eq_true q6; go_wp2
           go_roundg k1
           case measure => have := HK1.out; omega
           case rel => exact ⟨(wrap64 (x8_1 + 1)), R.rs, H', ⟨by have := HK1.out; omega⟩, by repeat (first | exact Drawn0.refl _ | apply Drawn0.step)⟩
       · rw [if_neg c5] at H; exact absurd H (by simp)
     · rw [if_neg c4] at H; exact absurd H (by simp)
   · rw [if_neg c3] at H; have c3b0 : decide (x8_1 < (a0.size : Int)) = false := decide_eq_false c3; clear c3; obtain rfl := Option.some.inj H; go_wp2
     go_ret
     exact ⟨by first | rfl | (simp; done) | (simp [*]; done) | (simp; cases a0.toList <;> rfl), by repeat (first | exact Drawn0.refl _ | apply Drawn0.step)⟩
def spec_small.l0 : Nat → Int → List Int → Int → Int → Option (Bool)
 | 0, _, _, _, _ => none
 | k + 1, x0, x7, x8, x9 => if x9 < x8 then (if 0 ≤ x9 then (if x9 < (x7.length : Int) then (if (rd x7 x9) ≥ x0 then (some false) else (spec_small.l0 k x0 x7 x8 (wrap64 (x9 + 1)))) else (none)) else (none)) else (some true)
def spec_small.f (k : Nat) (a0 : Int) (l1 : List Int) : Option (Bool) := spec_small.l0 k a0 l1 (l1.length : Int) 0
set_option maxHeartbeats 8000000 in
set_option maxRecDepth 100000 in
theorem spec_small.calls (k : Nat) (a0 : Int) (A1 : Option Addr) (c1 : Nat) (l1 : List Int) (r : Bool) (w : World) (hr1 : Kd.C (Kd.int .u64) w A1 l1.length l1) (hc1 : l1.length ≤ c1) (h : spec_small.f k a0 l1 = some r) :
 Calls Tryz.prog 101 #[.int .u64 a0, .slice A1 l1.length c1] w fun e w' => e = .returned (.bool r) ∧ Drawn0 w w' := by
 have HR1 := Aside0.mk hr1; have HC1 := Aside0.mk hc1; clear hr1 hc1; have H : (spec_small.l0 k a0 l1 (l1.length : Int) 0) = some r := h; clear h; have H' := Aside0.mk H; clear H
 go_enter Tryz.func101, Tryz.ntmps101
 go_wp2
 go_loopg [9] k (fun kq v9 w' => ∃ (x9_1 : Int), v9 = .int .i64 x9_1 ∧ Aside0 (spec_small.l0 kq a0 l1 (l1.length : Int) x9_1 = some r) ∧ Aside0 (kq ≤ k) ∧ Drawn0 w w')
 case atStart => exact ⟨(0), R.rs, H', ⟨Nat.le_refl _⟩, by repeat (first | exact Drawn0.refl _ | apply Drawn0.step)⟩
 case round =>
  clear H'; try clear c1
  try clear p2
  obtain ⟨x9_1, rfl, HA, HK1, ⟨m1, rfl⟩⟩ := hrel; cases gk with
  | zero => exact absurd HA.out (by simp [spec_small.l0])
  | succ k1 =>
   have H := HA.out; clear HA; simp only [spec_small.l0] at H
   by_cases c3 : x9_1 < (l1.length : Int)
   · rw [if_pos c3] at H; have c3b0 : decide (x9_1 < (l1.length : Int)) = true := decide_eq_true c3; clear c3
     by_cases c4 : 0 ≤ x9_1
     · rw [if_pos c4] at H; have c4b0 : decide (0 ≤ x9_1) = true := decide_eq_true c4; clear c4
       by_cases c5 : x9_1 < (l1.length : Int)
       · rw [if_pos c5] at H; have c5b0 : decide (x9_1 < (l1.length : Int)) = true := decide_eq_true c5; clear c5
         by_cases c6 : (rd l1 x9_1) ≥ a0
         · rw [if_pos c6] at H; have c6b0 : decide (a0 ≤ (rd l1 x9_1)) = true := decide_eq_true c6; clear c6; obtain rfl := Option.some.inj H; have p766 : 0 ≤ (x9_1 : Int) := R.od; have q766 : x9_1 < (l1.length : Int) := R.od; obtain ⟨ad766, e766, hx766_0⟩ := Kd.at_int HR1.out x9_1 p766 q766; cases e766; replace p766 := eq_true p766; replace q766 := eq_true q766; go_wp2
           go_ret
           exact ⟨by first | rfl | (simp; done) | (simp [*]; done) | (simp; cases a0.toList <;> rfl), by repeat (first | exact Drawn0.refl _ | apply Drawn0.step)⟩
         · rw [if_neg c6] at H; have c6b0 : decide (a0 ≤ (rd l1 x9_1)) = false := decide_eq_false c6; clear c6; have H' := Aside0.mk H; clear H; have p766 : 0 ≤ (x9_1 : Int) := R.od; have q766 : x9_1 < (l1.length : Int) := R.od; obtain ⟨ad766, e766, hx766_0⟩ := Kd.at_int HR1.out x9_1 p766 q766; cases e766; replace p766 := eq_true p766; replace q766 := eq_true q766; go_wp2
           go_roundg k1
           case measure => have := HK1.out; omega
           case rel => exact ⟨(wrap64 (x9_1 + 1)), R.rs, H', ⟨by have := HK1.out; omega⟩, by repeat (first | exact Drawn0.refl _ | apply Drawn0.step)⟩
       · rw [if_neg c5] at H; exact absurd H (by simp)
     · rw [if_neg c4] at H; exact absurd H (by simp)
   · rw [if_neg c3] at H; have c3b0 : decide (x9_1 < (l1.length : Int)) = false := decide_eq_false c3; clear c3; obtain rfl := Option.some.inj H; go_wp2
     go_ret
     exact ⟨by first | rfl | (simp; done) | (simp [*]; done) | (simp; cases a0.toList <;> rfl), by repeat (first | exact Drawn0.refl _ | apply Drawn0.step)⟩
end Go.Proofs.YtabfehcpcjcomaaGreatDoor.QA0
namespace Go.Proofs.YtabfehcpcjcomaaGreatDoor.QA0
open Go.RowKit Go.Proofs.YtabfehcpcjcomaaGreatDoorW.PrintWords Go.Proofs.YtabfehcpcjcomaaGreatDoorW.PrintLast Go.Proofs.YtabfehcpcjcomaaGreatDoorW.PrintMore
attribute [local go_sem] max2_int min2_int max_two min_two max_three min_three max_four min_four
set_option linter.unusedVariables false
set_option linter.unusedSimpArgs false
def spec_floatNode.f (a0 : ByteArray) (a1 : Nat) : Option (ByteArray × Int × Bool × Int × Int × Nat × ByteArray × (List (S38))) := some (a0, 4, false, 0, 0, a1, (⟨#[]⟩ : ByteArray), ([] : List (S38)))
set_option maxHeartbeats 8000000 in
set_option maxRecDepth 100000 in
theorem spec_floatNode.calls (a0 : ByteArray) (a1 : Nat) (r1 : ByteArray) (r2 : Int) (r3 : Bool) (r4 : Int) (r5 : Int) (r6 : Nat) (r7 : ByteArray) (r8 : List (S38)) (w : World) (h : spec_floatNode.f a0 a1 = some (r1, r2, r3, r4, r5, r6, r7, r8)) :
 Calls Tryz.prog 39 #[.string a0, .float .f64 a1] w fun e w' => ∃ v7_ : Value, e = .returned (.agg #[.string r1, .int .i64 r2, .bool r3, .int .i64 r4, .int .u64 r5, .float .f64 r6, .string r7, v7_]) ∧ Kd.R k38 38 w' w.heap.size (fun _ => True) v7_ r8 ∧ Below w.heap.size w w' := by
 have hu38 := Tryz.underlying38; have HB := Aside0.mk (Below.refl w.heap.size w); have H : (some (a0, 4, false, 0, 0, a1, (⟨#[]⟩ : ByteArray), ([] : List (S38)))) = some (r1, r2, r3, r4, r5, r6, r7, r8) := h; clear h; simp only [Option.some.injEq, Prod.mk.injEq] at H; obtain ⟨rfl, rfl, rfl, rfl, rfl, rfl, rfl, rfl⟩ := H
 go_enter Tryz.func39, Tryz.ntmps39
 go_wp2_with (first | ((with_reducible refine gate_dst (N := 4) rfl ?_); refine box_event ?hg (N := 4) ?hd (cs := #[.string ⟨#[]⟩, .int .i64 0, .bool false, .int .i64 0, .int .u64 0, .float .f64 0, .string ⟨#[]⟩, .slice none 0 0]) (t := 38) ?hr ?_; (case hd => rfl); (case hg => rfl); (case hr => first | (go_simp; done) | (go_simp; rfl)); intro gb841 hg w3 hbox hb; have n0_ := Aside0.mk (below_step (R.hb HB.out) hb); have n1_ := Aside0.mk (hbox); have n2_ := Aside0.mk ((by rw [hg]; exact (below_size (R.hb HB.out)) : w.heap.size ≤ gb841)); have n3_ := n2_; clear HB; have HB := n0_; have BK841 := n1_; have GW841 := n2_; have GE841 := n3_; clear n0_ n1_ n2_ n3_; clear hb hbox hg; have hcz4_0 : w3.cell? ⟨gb841, 0, none⟩ = some (.string ⟨#[]⟩) := (blk_cell BK841.out 0).trans rfl; have hcz4_1 : w3.cell? ⟨gb841, 1, none⟩ = some (.int .i64 0) := (blk_cell BK841.out 1).trans rfl; have hcz4_2 : w3.cell? ⟨gb841, 2, none⟩ = some (.bool false) := (blk_cell BK841.out 2).trans rfl; have hcz4_3 : w3.cell? ⟨gb841, 3, none⟩ = some (.int .i64 0) := (blk_cell BK841.out 3).trans rfl; have hcz4_4 : w3.cell? ⟨gb841, 4, none⟩ = some (.int .u64 0) := (blk_cell BK841.out 4).trans rfl; have hcz4_5 : w3.cell? ⟨gb841, 5, none⟩ = some (.float .f64 0) := (blk_cell BK841.out 5).trans rfl; have hcz4_6 : w3.cell? ⟨gb841, 6, none⟩ = some (.string ⟨#[]⟩) := (blk_cell BK841.out 6).trans rfl; have hcz4_7 : w3.cell? ⟨gb841, 7, none⟩ = some (.slice none 0 0) := (blk_cell BK841.out 7).trans rfl; have hfz4_0 := blk_frozen BK841.out 0; have hfz4_1 := blk_frozen BK841.out 1; have hfz4_2 := blk_frozen BK841.out 2; have hfz4_3 := blk_frozen BK841.out 3; have hfz4_4 := blk_frozen BK841.out 4; have hfz4_5 := blk_frozen BK841.out 5; have hfz4_6 := blk_frozen BK841.out 6; have hfz4_7 := blk_frozen BK841.out 7))
 refine bodyPost_ret (results_cell_row rfl _ _ gb841 38 #[.string a0, .int .i64 4, .bool false, .int .i64 0, .int .u64 0, .float .f64 a1, .string ⟨#[]⟩, .slice none 0 0] (0, 0) _ rfl (by (with_reducible repeat (first | refine blk_drewN ?_ _ | refine blk_drew ?_ | refine blk_alloc ?_ _)); refine blk_put (cs := #[.string a0, .int .i64 4, .bool false, .int .i64 0, .int .u64 0, .float .f64 a1, .string ⟨#[]⟩, .slice none 0 0]) ?_ 7 _ rfl; (with_reducible repeat (first | refine blk_drewN ?_ _ | refine blk_drew ?_ | refine blk_alloc ?_ _)); refine blk_put (cs := #[.string a0, .int .i64 4, .bool false, .int .i64 0, .int .u64 0, .float .f64 a1, .string ⟨#[]⟩, .slice none 0 0]) ?_ 6 _ rfl; (with_reducible repeat (first | refine blk_drewN ?_ _ | refine blk_drew ?_ | refine blk_alloc ?_ _)); refine blk_put (cs := #[.string a0, .int .i64 4, .bool false, .int .i64 0, .int .u64 0, .float .f64 0, .string ⟨#[]⟩, .slice none 0 0]) ?_ 5 _ rfl; (with_reducible repeat (first | refine blk_drewN ?_ _ | refine blk_drew ?_ | refine blk_alloc ?_ _)); refine blk_put (cs := #[.string a0, .int .i64 4, .bool false, .int .i64 0, .int .u64 0, .float .f64 0, .string ⟨#[]⟩, .slice none 0 0]) ?_ 4 _ rfl; (with_reducible repeat (first | refine blk_drewN ?_ _ | refine blk_drew ?_ | refine blk_alloc ?_ _)); refine blk_put (cs := #[.string a0, .int .i64 4, .bool false, .int .i64 0, .int .u64 0, .float .f64 0, .string ⟨#[]⟩, .slice none 0 0]) ?_ 3 _ rfl; (with_reducible repeat (first | refine blk_drewN ?_ _ | refine blk_drew ?_ | refine blk_alloc ?_ _)); refine blk_put (cs := #[.string a0, .int .i64 4, .bool false, .int .i64 0, .int .u64 0, .float .f64 0, .string ⟨#[]⟩, .slice none 0 0]) ?_ 2 _ rfl; (with_reducible repeat (first | refine blk_drewN ?_ _ | refine blk_drew ?_ | refine blk_alloc ?_ _)); refine blk_put (cs := #[.string a0, .int .i64 0, .bool false, .int .i64 0, .int .u64 0, .float .f64 0, .string ⟨#[]⟩, .slice none 0 0]) ?_ 1 _ rfl; (with_reducible repeat (first | refine blk_drewN ?_ _ | refine blk_drew ?_ | refine blk_alloc ?_ _)); refine blk_put (cs := #[.string ⟨#[]⟩, .int .i64 0, .bool false, .int .i64 0, .int .u64 0, .float .f64 0, .string ⟨#[]⟩, .slice none 0 0]) ?_ 0 _ rfl; (with_reducible repeat (first | refine blk_drewN ?_ _ | refine blk_drew ?_ | refine blk_alloc ?_ _)); exact BK841.out) Tryz.underlying38 rfl (by kernel_rfl)) rfl ?_; exact ⟨_, by first | rfl | (simp [errW_none, errW_some] <;> rfl) | (simp [*, errW_none, errW_some] <;> rfl), by first | exact Kd.R_nil _ _ _ _ _ | exact Kd.N_nil _ _ _ _ _ | exact Kd.V_nil _ _ _ _ _ | exact Kd.Q_nil _ _ _ _ _ | exact Kd.S_nil _ _ _ _ _, by repeat (first | (with_reducible first | exact HB.out | apply below_alloc | apply pw_below_drewN | apply below_drew1 | refine below_set ?_ GE841.out) | exact HB.out)⟩
end Go.Proofs.YtabfehcpcjcomaaGreatDoor.QA0
namespace Go.Proofs.YtabfehcpcjcomaaGreatDoor.QA0
open Go.RowKit Go.Proofs.YtabfehcpcjcomaaGreatDoorW.PrintWords Go.Proofs.YtabfehcpcjcomaaGreatDoorW.PrintLast Go.Proofs.YtabfehcpcjcomaaGreatDoorW.PrintMore
attribute [local go_sem] max2_int min2_int max_two min_two max_three min_three max_four min_four
set_option linter.unusedVariables false
set_option linter.unusedSimpArgs false
def spec_listNode.f (a0 : ByteArray) (l1 : List (S38)) : Option (ByteArray × Int × Bool × Int × Int × Nat × ByteArray × (List (S38))) := some (a0, 6, false, 0, 0, 0, (⟨#[]⟩ : ByteArray), l1)
set_option maxHeartbeats 8000000 in
set_option maxRecDepth 100000 in
theorem spec_listNode.calls (a0 : ByteArray) (P1_ : Nat → Prop) (A1 : Option Addr) (c1 : Nat) (l1 : List (S38)) (r1 : ByteArray) (r2 : Int) (r3 : Bool) (r4 : Int) (r5 : Int) (r6 : Nat) (r7 : ByteArray) (r8 : List (S38)) (w : World) (hs1 : Kd.V k38 38 w w.heap.size (fun k_ => P1_ k_) (.slice A1 l1.length c1) l1) (h : spec_listNode.f a0 l1 = some (r1, r2, r3, r4, r5, r6, r7, r8)) :
 Calls Tryz.prog 51 #[.string a0, .slice A1 l1.length c1] w fun e w' => ∃ v7_ : Value, e = .returned (.agg #[.string r1, .int .i64 r2, .bool r3, .int .i64 r4, .int .u64 r5, .float .f64 r6, .string r7, v7_]) ∧ Kd.V k38 38 w' w.heap.size (fun k_ => (P1_ k_ ∨ w.heap.size ≤ k_)) v7_ r8 ∧ Below w.heap.size w w' := by
 have hu38 := Tryz.underlying38; have HO1 := Aside0.mk (show Kd.V k38 38 w w.heap.size (fun k_ => (P1_ k_ ∨ w.heap.size ≤ k_)) (.slice A1 l1.length c1) l1 from Kd.V_mono hs1 (fun k_ hk => .inl hk)); have HB := Aside0.mk (Below.refl w.heap.size w); have H : (some (a0, 6, false, 0, 0, 0, (⟨#[]⟩ : ByteArray), l1)) = some (r1, r2, r3, r4, r5, r6, r7, r8) := h; clear h; simp only [Option.some.injEq, Prod.mk.injEq] at H; obtain ⟨rfl, rfl, rfl, rfl, rfl, rfl, rfl, rfl⟩ := H
 go_enter Tryz.func51, Tryz.ntmps51
 go_wp2_with (first | ((with_reducible refine gate_dst (N := 4) rfl ?_); refine box_event ?hg (N := 4) ?hd (cs := #[.string ⟨#[]⟩, .int .i64 0, .bool false, .int .i64 0, .int .u64 0, .float .f64 0, .string ⟨#[]⟩, .slice none 0 0]) (t := 38) ?hr ?_; (case hd => rfl); (case hg => rfl); (case hr => first | (go_simp; done) | (go_simp; rfl)); intro gb968 hg w3 hbox hb; have n0_ := Aside0.mk (Kd.V_below (Kd.V_elderB (R.lv HO1.out) gb968 (Nat.le_of_eq hg.symm)) hb); have n1_ := Aside0.mk (below_step (R.hb HB.out) hb); have n2_ := Aside0.mk (hbox); have n3_ := Aside0.mk ((by rw [hg]; exact (below_size (R.hb HB.out)) : w.heap.size ≤ gb968)); have n4_ := n3_; clear HO1; clear HB; have HO1 := n0_; have HB := n1_; have BK968 := n2_; have GW968 := n3_; have GE968 := n4_; clear n0_ n1_ n2_ n3_ n4_; clear hb hbox hg; have hcz4_0 : w3.cell? ⟨gb968, 0, none⟩ = some (.string ⟨#[]⟩) := (blk_cell BK968.out 0).trans rfl; have hcz4_1 : w3.cell? ⟨gb968, 1, none⟩ = some (.int .i64 0) := (blk_cell BK968.out 1).trans rfl; have hcz4_2 : w3.cell? ⟨gb968, 2, none⟩ = some (.bool false) := (blk_cell BK968.out 2).trans rfl; have hcz4_3 : w3.cell? ⟨gb968, 3, none⟩ = some (.int .i64 0) := (blk_cell BK968.out 3).trans rfl; have hcz4_4 : w3.cell? ⟨gb968, 4, none⟩ = some (.int .u64 0) := (blk_cell BK968.out 4).trans rfl; have hcz4_5 : w3.cell? ⟨gb968, 5, none⟩ = some (.float .f64 0) := (blk_cell BK968.out 5).trans rfl; have hcz4_6 : w3.cell? ⟨gb968, 6, none⟩ = some (.string ⟨#[]⟩) := (blk_cell BK968.out 6).trans rfl; have hcz4_7 : w3.cell? ⟨gb968, 7, none⟩ = some (.slice none 0 0) := (blk_cell BK968.out 7).trans rfl; have hfz4_0 := blk_frozen BK968.out 0; have hfz4_1 := blk_frozen BK968.out 1; have hfz4_2 := blk_frozen BK968.out 2; have hfz4_3 := blk_frozen BK968.out 3; have hfz4_4 := blk_frozen BK968.out 4; have hfz4_5 := blk_frozen BK968.out 5; have hfz4_6 := blk_frozen BK968.out 6; have hfz4_7 := blk_frozen BK968.out 7))
 refine bodyPost_ret (results_cell_row rfl _ _ gb968 38 #[.string a0, .int .i64 6, .bool false, .int .i64 0, .int .u64 0, .float .f64 0, .string ⟨#[]⟩, .slice A1 l1.length c1] (0, 0) _ rfl (by (with_reducible repeat (first | refine blk_drewN ?_ _ | refine blk_drew ?_ | refine blk_alloc ?_ _)); refine blk_put (cs := #[.string a0, .int .i64 6, .bool false, .int .i64 0, .int .u64 0, .float .f64 0, .string ⟨#[]⟩, .slice none 0 0]) ?_ 7 _ rfl; (with_reducible repeat (first | refine blk_drewN ?_ _ | refine blk_drew ?_ | refine blk_alloc ?_ _)); refine blk_put (cs := #[.string a0, .int .i64 6, .bool false, .int .i64 0, .int .u64 0, .float .f64 0, .string ⟨#[]⟩, .slice none 0 0]) ?_ 6 _ rfl; (with_reducible repeat (first | refine blk_drewN ?_ _ | refine blk_drew ?_ | refine blk_alloc ?_ _)); refine blk_put (cs := #[.string a0, .int .i64 6, .bool false, .int .i64 0, .int .u64 0, .float .f64 0, .string ⟨#[]⟩, .slice none 0 0]) ?_ 5 _ rfl; (with_reducible repeat (first | refine blk_drewN ?_ _ | refine blk_drew ?_ | refine blk_alloc ?_ _)); refine blk_put (cs := #[.string a0, .int .i64 6, .bool false, .int .i64 0, .int .u64 0, .float .f64 0, .string ⟨#[]⟩, .slice none 0 0]) ?_ 4 _ rfl; (with_reducible repeat (first | refine blk_drewN ?_ _ | refine blk_drew ?_ | refine blk_alloc ?_ _)); refine blk_put (cs := #[.string a0, .int .i64 6, .bool false, .int .i64 0, .int .u64 0, .float .f64 0, .string ⟨#[]⟩, .slice none 0 0]) ?_ 3 _ rfl; (with_reducible repeat (first | refine blk_drewN ?_ _ | refine blk_drew ?_ | refine blk_alloc ?_ _)); refine blk_put (cs := #[.string a0, .int .i64 6, .bool false, .int .i64 0, .int .u64 0, .float .f64 0, .string ⟨#[]⟩, .slice none 0 0]) ?_ 2 _ rfl; (with_reducible repeat (first | refine blk_drewN ?_ _ | refine blk_drew ?_ | refine blk_alloc ?_ _)); refine blk_put (cs := #[.string a0, .int .i64 0, .bool false, .int .i64 0, .int .u64 0, .float .f64 0, .string ⟨#[]⟩, .slice none 0 0]) ?_ 1 _ rfl; (with_reducible repeat (first | refine blk_drewN ?_ _ | refine blk_drew ?_ | refine blk_alloc ?_ _)); refine blk_put (cs := #[.string ⟨#[]⟩, .int .i64 0, .bool false, .int .i64 0, .int .u64 0, .float .f64 0, .string ⟨#[]⟩, .slice none 0 0]) ?_ 0 _ rfl; (with_reducible repeat (first | refine blk_drewN ?_ _ | refine blk_drew ?_ | refine blk_alloc ?_ _)); exact BK968.out) Tryz.underlying38 rfl (by kernel_rfl)) rfl ?_; exact ⟨_, by first | rfl | (simp [errW_none, errW_some] <;> rfl) | (simp [*, errW_none, errW_some] <;> rfl), by (with_reducible repeat (first | apply Kd.V_alloc | apply Kd.V_drewN | apply Kd.V_drew)); exact Kd.V_mono (Kd.V_far (p := ⟨gb968, 7, none⟩) (Kd.V_far (p := ⟨gb968, 6, none⟩) (Kd.V_far (p := ⟨gb968, 5, none⟩) (Kd.V_far (p := ⟨gb968, 4, none⟩) (Kd.V_far (p := ⟨gb968, 3, none⟩) (Kd.V_far (p := ⟨gb968, 2, none⟩) (Kd.V_far (p := ⟨gb968, 1, none⟩) (Kd.V_far (p := ⟨gb968, 0, none⟩) (Kd.V_mono HO1.out (fun k_ hk => (⟨hk, hk.2⟩ : _ ∧ k_ ≠ gb968))) (fun _ hk => hk.2) (.string a0)) (fun _ hk => hk.2) (.int .i64 6)) (fun _ hk => hk.2) (.bool false)) (fun _ hk => hk.2) (.int .i64 0)) (fun _ hk => hk.2) (.int .u64 0)) (fun _ hk => hk.2) (.float .f64 0)) (fun _ hk => hk.2) (.string ⟨#[]⟩)) (fun _ hk => hk.2) (.slice A1 l1.length c1)) (fun _ hk => hk.1.1), by repeat (first | (with_reducible first | exact HB.out | apply below_alloc | apply pw_below_drewN | apply below_drew1 | refine below_set ?_ GE968.out) | exact HB.out)⟩
end Go.Proofs.YtabfehcpcjcomaaGreatDoor.QA0
namespace Go.Proofs.YtabfehcpcjcomaaGreatDoor.QA0
open Go.RowKit Go.Proofs.YtabfehcpcjcomaaGreatDoorW.PrintWords Go.Proofs.YtabfehcpcjcomaaGreatDoorW.PrintLast Go.Proofs.YtabfehcpcjcomaaGreatDoorW.PrintMore
attribute [local go_sem] max2_int min2_int max_two min_two max_three min_three max_four min_four
set_option linter.unusedVariables false
set_option linter.unusedSimpArgs false
def spec_textNode.f (a0 : ByteArray) (a1 : ByteArray) : Option (ByteArray × Int × Bool × Int × Int × Nat × ByteArray × (List (S38))) := some (a0, 5, false, 0, 0, 0, a1, ([] : List (S38)))
set_option maxHeartbeats 8000000 in
set_option maxRecDepth 100000 in
theorem spec_textNode.calls (a0 : ByteArray) (a1 : ByteArray) (r1 : ByteArray) (r2 : Int) (r3 : Bool) (r4 : Int) (r5 : Int) (r6 : Nat) (r7 : ByteArray) (r8 : List (S38)) (w : World) (h : spec_textNode.f a0 a1 = some (r1, r2, r3, r4, r5, r6, r7, r8)) :
 Calls Tryz.prog 50 #[.string a0, .string a1] w fun e w' => ∃ v7_ : Value, e = .returned (.agg #[.string r1, .int .i64 r2, .bool r3, .int .i64 r4, .int .u64 r5, .float .f64 r6, .string r7, v7_]) ∧ Kd.R k38 38 w' w.heap.size (fun _ => True) v7_ r8 ∧ Below w.heap.size w w' := by
 have hu38 := Tryz.underlying38; have HB := Aside0.mk (Below.refl w.heap.size w); have H : (some (a0, 5, false, 0, 0, 0, a1, ([] : List (S38)))) = some (r1, r2, r3, r4, r5, r6, r7, r8) := h; clear h; simp only [Option.some.injEq, Prod.mk.injEq] at H; obtain ⟨rfl, rfl, rfl, rfl, rfl, rfl, rfl, rfl⟩ := H
 go_enter Tryz.func50, Tryz.ntmps50
 go_wp2_with (first | ((with_reducible refine gate_dst (N := 4) rfl ?_); refine box_event ?hg (N := 4) ?hd (cs := #[.string ⟨#[]⟩, .int .i64 0, .bool false, .int .i64 0, .int .u64 0, .float .f64 0, .string ⟨#[]⟩, .slice none 0 0]) (t := 38) ?hr ?_; (case hd => rfl); (case hg => rfl); (case hr => first | (go_simp; done) | (go_simp; rfl)); intro gb1114 hg w3 hbox hb; have n0_ := Aside0.mk (below_step (R.hb HB.out) hb); have n1_ := Aside0.mk (hbox); have n2_ := Aside0.mk ((by rw [hg]; exact (below_size (R.hb HB.out)) : w.heap.size ≤ gb1114)); have n3_ := n2_; clear HB; have HB := n0_; have BK1114 := n1_; have GW1114 := n2_; have GE1114 := n3_; clear n0_ n1_ n2_ n3_; clear hb hbox hg; have hcz4_0 : w3.cell? ⟨gb1114, 0, none⟩ = some (.string ⟨#[]⟩) := (blk_cell BK1114.out 0).trans rfl; have hcz4_1 : w3.cell? ⟨gb1114, 1, none⟩ = some (.int .i64 0) := (blk_cell BK1114.out 1).trans rfl; have hcz4_2 : w3.cell? ⟨gb1114, 2, none⟩ = some (.bool false) := (blk_cell BK1114.out 2).trans rfl; have hcz4_3 : w3.cell? ⟨gb1114, 3, none⟩ = some (.int .i64 0) := (blk_cell BK1114.out 3).trans rfl; have hcz4_4 : w3.cell? ⟨gb1114, 4, none⟩ = some (.int .u64 0) := (blk_cell BK1114.out 4).trans rfl; have hcz4_5 : w3.cell? ⟨gb1114, 5, none⟩ = some (.float .f64 0) := (blk_cell BK1114.out 5).trans rfl; have hcz4_6 : w3.cell? ⟨gb1114, 6, none⟩ = some (.string ⟨#[]⟩) := (blk_cell BK1114.out 6).trans rfl; have hcz4_7 : w3.cell? ⟨gb1114, 7, none⟩ = some (.slice none 0 0) := (blk_cell BK1114.out 7).trans rfl; have hfz4_0 := blk_frozen BK1114.out 0; have hfz4_1 := blk_frozen BK1114.out 1; have hfz4_2 := blk_frozen BK1114.out 2; have hfz4_3 := blk_frozen BK1114.out 3; have hfz4_4 := blk_frozen BK1114.out 4; have hfz4_5 := blk_frozen BK1114.out 5; have hfz4_6 := blk_frozen BK1114.out 6; have hfz4_7 := blk_frozen BK1114.out 7))
 refine bodyPost_ret (results_cell_row rfl _ _ gb1114 38 #[.string a0, .int .i64 5, .bool false, .int .i64 0, .int .u64 0, .float .f64 0, .string a1, .slice none 0 0] (0, 0) _ rfl (by (with_reducible repeat (first | refine blk_drewN ?_ _ | refine blk_drew ?_ | refine blk_alloc ?_ _)); refine blk_put (cs := #[.string a0, .int .i64 5, .bool false, .int .i64 0, .int .u64 0, .float .f64 0, .string a1, .slice none 0 0]) ?_ 7 _ rfl; (with_reducible repeat (first | refine blk_drewN ?_ _ | refine blk_drew ?_ | refine blk_alloc ?_ _)); refine blk_put (cs := #[.string a0, .int .i64 5, .bool false, .int .i64 0, .int .u64 0, .float .f64 0, .string ⟨#[]⟩, .slice none 0 0]) ?_ 6 _ rfl; (with_reducible repeat (first | refine blk_drewN ?_ _ | refine blk_drew ?_ | refine blk_alloc ?_ _)); refine blk_put (cs := #[.string a0, .int .i64 5, .bool false, .int .i64 0, .int .u64 0, .float .f64 0, .string ⟨#[]⟩, .slice none 0 0]) ?_ 5 _ rfl; (with_reducible repeat (first | refine blk_drewN ?_ _ | refine blk_drew ?_ | refine blk_alloc ?_ _)); refine blk_put (cs := #[.string a0, .int .i64 5, .bool false, .int .i64 0, .int .u64 0, .float .f64 0, .string ⟨#[]⟩, .slice none 0 0]) ?_ 4 _ rfl; (with_reducible repeat (first | refine blk_drewN ?_ _ | refine blk_drew ?_ | refine blk_alloc ?_ _)); refine blk_put (cs := #[.string a0, .int .i64 5, .bool false, .int .i64 0, .int .u64 0, .float .f64 0, .string ⟨#[]⟩, .slice none 0 0]) ?_ 3 _ rfl; (with_reducible repeat (first | refine blk_drewN ?_ _ | refine blk_drew ?_ | refine blk_alloc ?_ _)); refine blk_put (cs := #[.string a0, .int .i64 5, .bool false, .int .i64 0, .int .u64 0, .float .f64 0, .string ⟨#[]⟩, .slice none 0 0]) ?_ 2 _ rfl; (with_reducible repeat (first | refine blk_drewN ?_ _ | refine blk_drew ?_ | refine blk_alloc ?_ _)); refine blk_put (cs := #[.string a0, .int .i64 0, .bool false, .int .i64 0, .int .u64 0, .float .f64 0, .string ⟨#[]⟩, .slice none 0 0]) ?_ 1 _ rfl; (with_reducible repeat (first | refine blk_drewN ?_ _ | refine blk_drew ?_ | refine blk_alloc ?_ _)); refine blk_put (cs := #[.string ⟨#[]⟩, .int .i64 0, .bool false, .int .i64 0, .int .u64 0, .float .f64 0, .string ⟨#[]⟩, .slice none 0 0]) ?_ 0 _ rfl; (with_reducible repeat (first | refine blk_drewN ?_ _ | refine blk_drew ?_ | refine blk_alloc ?_ _)); exact BK1114.out) Tryz.underlying38 rfl (by kernel_rfl)) rfl ?_; exact ⟨_, by first | rfl | (simp [errW_none, errW_some] <;> rfl) | (simp [*, errW_none, errW_some] <;> rfl), by first | exact Kd.R_nil _ _ _ _ _ | exact Kd.N_nil _ _ _ _ _ | exact Kd.V_nil _ _ _ _ _ | exact Kd.Q_nil _ _ _ _ _ | exact Kd.S_nil _ _ _ _ _, by repeat (first | (with_reducible first | exact HB.out | apply below_alloc | apply pw_below_drewN | apply below_drew1 | refine below_set ?_ GE1114.out) | exact HB.out)⟩
end Go.Proofs.YtabfehcpcjcomaaGreatDoor.QA0
namespace Go.Proofs.YtabfehcpcjcomaaGreatDoor.QA0
open Go.RowKit Go.Proofs.YtabfehcpcjcomaaGreatDoorW.PrintWords Go.Proofs.YtabfehcpcjcomaaGreatDoorW.PrintLast Go.Proofs.YtabfehcpcjcomaaGreatDoorW.PrintMore
attribute [local go_sem] max2_int min2_int max_two min_two max_three min_three max_four min_four
set_option linter.unusedVariables false
set_option linter.unusedSimpArgs false
def spec_Ends.f (a0 : ByteArray) (a1 : ByteArray) : Option (Bool) := if (a0.size : Int) ≥ (a1.size : Int) then (if 0 ≤ (wrap64 ((a0.size : Int) - (a1.size : Int))) then (if (wrap64 ((a0.size : Int) - (a1.size : Int))) ≤ (a0.size : Int) then (some ((a0.extract ((wrap64 ((a0.size : Int) - (a1.size : Int))) : Int).toNat a0.size).toList == a1.toList)) else (none)) else (none)) else (some false)
set_option maxHeartbeats 8000000 in
set_option maxRecDepth 100000 in
theorem spec_Ends.calls (a0 : ByteArray) (a1 : ByteArray) (r : Bool) (w : World) (h : spec_Ends.f a0 a1 = some r) :
 Calls Tryz.prog 48 #[.string a0, .string a1] w fun e w' => e = .returned (.bool r) ∧ Drawn0 w w' := by
 have H : (if (a0.size : Int) ≥ (a1.size : Int) then (if 0 ≤ (wrap64 ((a0.size : Int) - (a1.size : Int))) then (if (wrap64 ((a0.size : Int) - (a1.size : Int))) ≤ (a0.size : Int) then (some ((a0.extract ((wrap64 ((a0.size : Int) - (a1.size : Int))) : Int).toNat a0.size).toList == a1.toList)) else (none)) else (none)) else (some false)) = some r := h; clear h
 by_cases c3 : (a0.size : Int) ≥ (a1.size : Int)
 · rw [if_pos c3] at H; have c3b0 : decide ((a1.size : Int) ≤ (a0.size : Int)) = true := decide_eq_true c3; have c3b1 : decide (a1.size ≤ a0.size) = true := decide_eq_true (Int.ofNat_le.mp c3); clear c3; obtain ⟨ji4, hji4⟩ : ∃ j_ : Int, (wrap64 ((a0.size : Int) - (a1.size : Int))) = j_ := ⟨_, rfl⟩
   replace H : (if 0 ≤ (ji4) then (if (ji4) ≤ (a0.size : Int) then (some ((a0.extract ((ji4) : Int).toNat a0.size).toList == a1.toList)) else (none)) else (none)) = some r := by first | (rw [hji4] at H; exact H) | (simp only [hji4] at H ⊢; exact H)
   have hji4w : (IntKind.i64.wrap ((a0.size : Int) - (a1.size : Int))) = ji4 := (i64_w _).trans hji4
   by_cases c5 : 0 ≤ (ji4)
   · rw [if_pos c5] at H; have c5b0 := eq_true c5; have c5b1 : decide (0 ≤ (ji4)) = true := decide_eq_true c5; clear c5
     by_cases c6 : (ji4) ≤ (a0.size : Int)
     · rw [if_pos c6] at H; have c6b0 := eq_true c6; have c6b1 : decide ((ji4) ≤ (a0.size : Int)) = true := decide_eq_true c6; clear c6; obtain rfl := Option.some.inj H
       go_enter Tryz.func48, Tryz.ntmps48
       go_wp2
       go_ret
       exact ⟨by first | rfl | (simp; done) | (simp only [← hji4] <;> (first | rfl | simp)) | (simp [*]; done), by repeat (first | exact Drawn0.refl _ | apply Drawn0.step)⟩
     · rw [if_neg c6] at H; exact absurd H (by simp)
   · rw [if_neg c5] at H; exact absurd H (by simp)
 · rw [if_neg c3] at H; have c3b0 : decide ((a1.size : Int) ≤ (a0.size : Int)) = false := decide_eq_false c3; have c3b1 : decide (a1.size ≤ a0.size) = false := decide_eq_false (fun h => c3 (Int.ofNat_le.mpr h)); clear c3; obtain rfl := Option.some.inj H
   go_enter Tryz.func48, Tryz.ntmps48
   go_wp2
   go_ret
   exact ⟨by first | rfl | (simp; done) | (simp [*]; done) | (simp; cases a0.toList <;> rfl), by repeat (first | exact Drawn0.refl _ | apply Drawn0.step)⟩
def spec_Word.l0 : Nat → ByteArray → Int → Int → Option (Bool)
 | 0, _, _, _ => none
 | k + 1, x0, x5, x6 => if x6 < x5 then (if 0 ≤ x6 then (if x6 < (x0.size : Int) then (if (bt x0 x6) ≤ 32 then (some false) else (if (bt x0 x6) > 126 then (some false) else (spec_Word.l0 k x0 x5 (wrap64 (x6 + 1))))) else (none)) else (none)) else (some (x0.toList != ([] : List UInt8)))
def spec_Word.f (k : Nat) (a0 : ByteArray) : Option (Bool) := spec_Word.l0 k a0 (a0.size : Int) 0
set_option maxHeartbeats 8000000 in
set_option maxRecDepth 100000 in
theorem spec_Word.calls (k : Nat) (a0 : ByteArray) (r : Bool) (w : World) (h : spec_Word.f k a0 = some r) :
 Calls Tryz.prog 134 #[.string a0] w fun e w' => e = .returned (.bool r) ∧ Drawn0 w w' := by
 have H : (spec_Word.l0 k a0 (a0.size : Int) 0) = some r := h; clear h; have H' := Aside0.mk H; clear H
 go_enter Tryz.func134, Tryz.ntmps134
 go_wp2
 go_loopg [6] k (fun kq v6 w' => ∃ (x6_1 : Int), v6 = .int .i64 x6_1 ∧ Aside0 (spec_Word.l0 kq a0 (a0.size : Int) x6_1 = some r) ∧ Aside0 (kq ≤ k) ∧ Drawn0 w w')
 case atStart => exact ⟨(0), R.rs, H', ⟨Nat.le_refl _⟩, by repeat (first | exact Drawn0.refl _ | apply Drawn0.step)⟩
 case round =>
  clear H'; try clear c1
  obtain ⟨x6_1, rfl, HA, HK1, ⟨m1, rfl⟩⟩ := hrel; cases gk with
  | zero => exact absurd HA.out (by simp [spec_Word.l0])
  | succ k1 =>
   have H := HA.out; clear HA; simp only [spec_Word.l0] at H
   by_cases c2 : x6_1 < (a0.size : Int)
   · rw [if_pos c2] at H; have c2b0 : decide (x6_1 < (a0.size : Int)) = true := decide_eq_true c2; clear c2
     by_cases c3 : 0 ≤ x6_1
     · rw [if_pos c3] at H; have c3b0 : decide (0 ≤ x6_1) = true := decide_eq_true c3; clear c3
       by_cases c4 : x6_1 < (a0.size : Int)
       · rw [if_pos c4] at H; have c4b0 : decide (x6_1 < (a0.size : Int)) = true := decide_eq_true c4; clear c4
         by_cases c6 : (bt a0 x6_1) ≤ 32
         · rw [if_pos c6] at H; have c6b0 : decide ((bt a0 x6_1) ≤ 32) = true := decide_eq_true c6; clear c6; obtain rfl := Option.some.inj H; have p5 : 0 ≤ (x6_1 : Int) := R.od; have q5 : x6_1 < (a0.size : Int) := R.od; have hx5 := bt_at a0 x6_1; replace p5 := eq_true p5; replace q5 := eq_true q5; go_wp2
           go_ret
           exact ⟨by first | rfl | (simp; done) | (simp [*]; done) | (simp; cases a0.toList <;> rfl), by repeat (first | exact Drawn0.refl _ | apply Drawn0.step)⟩
         · rw [if_neg c6] at H; have c6b0 : decide ((bt a0 x6_1) ≤ 32) = false := decide_eq_false c6; clear c6
           by_cases c8 : (bt a0 x6_1) > 126
           · rw [if_pos c8] at H; have c8b0 : decide (126 < (bt a0 x6_1)) = true := decide_eq_true c8; clear c8; obtain rfl := Option.some.inj H; have p5 : 0 ≤ (x6_1 : Int) := R.od; have q5 : x6_1 < (a0.size : Int) := R.od; have hx5 := bt_at a0 x6_1; replace p5 := eq_true p5; replace q5 := eq_true q5; have p7 : 0 ≤ (x6_1 : Int) := R.od; have q7 : x6_1 < (a0.size : Int) := R.od; have hx7 := bt_at a0 x6_1; replace p7 := eq_true p7; replace q7 := eq_true q7; go_wp2
             go_ret
             exact ⟨by first | rfl | (simp; done) | (simp [*]; done) | (simp; cases a0.toList <;> rfl), by repeat (first | exact Drawn0.refl _ | apply Drawn0.step)⟩
           · rw [if_neg c8] at H; have c8b0 : decide (126 < (bt a0 x6_1)) = false := decide_eq_false c8; clear c8; have H' := Aside0.mk H; clear H; have p5 : 0 ≤ (x6_1 : Int) := R.od; have q5 : x6_1 < (a0.size : Int) := R.od; have hx5 := bt_at a0 x6_1; replace p5 := eq_true p5; replace q5 := eq_true q5; have p7 : 0 ≤ (x6_1 : Int) := R.od; have q7 : x6_1 < (a0.size : Int) := R.od; have hx7 := bt_at a0 x6_1; replace p7 := eq_true p7; replace q7 := eq_true q7; go_wp2
             go_roundg k1
             case measure => have := HK1.out; omega
             case rel => exact ⟨(wrap64 (x6_1 + 1)), R.rs, H', ⟨by have := HK1.out; omega⟩, by repeat (first | exact Drawn0.refl _ | apply Drawn0.step)⟩
       · rw [if_neg c4] at H; exact absurd H (by simp)
     · rw [if_neg c3] at H; exact absurd H (by simp)
   · rw [if_neg c2] at H; have c2b0 : decide (x6_1 < (a0.size : Int)) = false := decide_eq_false c2; clear c2; obtain rfl := Option.some.inj H; go_wp2
     go_ret
     exact ⟨by first | rfl | (simp; done) | (simp [*]; done) | (simp; cases a0.toList <;> rfl), by repeat (first | exact Drawn0.refl _ | apply Drawn0.step)⟩
def spec_words.l0 : Nat → List ByteArray → Int → Int → Option (Bool)
 | 0, _, _, _ => none
 | k + 1, x5, x6, x7 => if x7 < x6 then (if 0 ≤ x7 then (if x7 < (x5.length : Int) then ((spec_Word.f k (rdOf ByteArray.empty x5 x7)).bind fun t1358 => (if t1358 = true then (spec_words.l0 k x5 x6 (wrap64 (x7 + 1))) else (some false))) else (none)) else (none)) else (some true)
def spec_words.f (k : Nat) (l0 : List ByteArray) : Option (Bool) := spec_words.l0 k l0 (l0.length : Int) 0
set_option maxHeartbeats 8000000 in
set_option maxRecDepth 100000 in
theorem spec_words.calls (k : Nat) (A0 : Option Addr) (c0 : Nat) (l0 : List ByteArray) (r : Bool) (w : World) (hr0 : Kd.C Kd.string w A0 l0.length l0) (hc0 : l0.length ≤ c0) (h : spec_words.f k l0 = some r) :
 Calls Tryz.prog 107 #[.slice A0 l0.length c0] w fun e w' => e = .returned (.bool r) ∧ Drawn0 w w' := by
 have HR0 := Aside0.mk hr0; have HC0 := Aside0.mk hc0; clear hr0 hc0; have H : (spec_words.l0 k l0 (l0.length : Int) 0) = some r := h; clear h; have H' := Aside0.mk H; clear H
 go_enter Tryz.func107, Tryz.ntmps107
 go_wp2
 go_loopg [7] k (fun kq v7 w' => ∃ (x7_1 : Int), v7 = .int .i64 x7_1 ∧ Aside0 (spec_words.l0 kq l0 (l0.length : Int) x7_1 = some r) ∧ Aside0 (kq ≤ k) ∧ Drawn0 w w')
 case atStart => exact ⟨(0), R.rs, H', ⟨Nat.le_refl _⟩, by repeat (first | exact Drawn0.refl _ | apply Drawn0.step)⟩
 case round =>
  clear H'; try clear c1
  obtain ⟨x7_1, rfl, HA, HK1, ⟨m1, rfl⟩⟩ := hrel; cases gk with
  | zero => exact absurd HA.out (by simp [spec_words.l0])
  | succ k1 =>
   have H := HA.out; clear HA; simp only [spec_words.l0] at H
   by_cases c2 : x7_1 < (l0.length : Int)
   · rw [if_pos c2] at H; have c2b0 : decide (x7_1 < (l0.length : Int)) = true := decide_eq_true c2; clear c2
     by_cases c3 : 0 ≤ x7_1
     · rw [if_pos c3] at H; have c3b0 : decide (0 ≤ x7_1) = true := decide_eq_true c3; clear c3
       by_cases c4 : x7_1 < (l0.length : Int)
       · rw [if_pos c4] at H; have c4b0 : decide (x7_1 < (l0.length : Int)) = true := decide_eq_true c4; clear c4; replace H := Option.bind_eq_some_iff.mp H; obtain ⟨t1358, A50, H⟩ := H; replace H : (if t1358 = true then (spec_words.l0 k1 l0 (l0.length : Int) (wrap64 (x7_1 + 1))) else (some false)) = some r := H; have A5 := Aside0.mk A50; clear A50
         by_cases c6 : t1358 = true
         · subst c6
           have H1 : (spec_words.l0 k1 l0 (l0.length : Int) (wrap64 (x7_1 + 1))) = some r := by rw [if_pos rfl] at H; exact H
           clear H; have H := H1; clear H1; have H' := Aside0.mk H; clear H; have p1357 : 0 ≤ (x7_1 : Int) := R.od; have q1357 : x7_1 < (l0.length : Int) := R.od; obtain ⟨ad1357, e1357, hx1357_0⟩ := Kd.at_string HR0.out x7_1 p1357 q1357; cases e1357; replace p1357 := eq_true p1357; replace q1357 := eq_true q1357
           go_wp2_with (first | ((with_reducible refine gate_callee (f := 134) rfl ?_); refine goesL_ (some 12) rfl rfl Tryz.func134 (by kernel_rfl) rfl #[.string (rdOf ByteArray.empty l0 x7_1)] rfl R.tp ?_; (with_reducible refine (spec_Word.calls k1 (rdOf ByteArray.empty l0 x7_1) true _ A5.out).mono ?_); rintro e w' ⟨rfl, ⟨nd, rfl⟩⟩; refine ⟨_, rfl, ?_⟩))
           go_roundg k1
           case measure => have := HK1.out; omega
           case rel => exact ⟨(wrap64 (x7_1 + 1)), R.rs, H', ⟨by have := HK1.out; omega⟩, by repeat (first | exact Drawn0.refl _ | apply Drawn0.step)⟩
         · replace c6 := Bool.eq_false_iff.mpr c6; subst c6
           have H1 : (some false) = some r := by rw [if_neg (show ¬ (false = true) by decide)] at H; exact H
           clear H; have H := H1; clear H1; obtain rfl := Option.some.inj H; have p1357 : 0 ≤ (x7_1 : Int) := R.od; have q1357 : x7_1 < (l0.length : Int) := R.od; obtain ⟨ad1357, e1357, hx1357_0⟩ := Kd.at_string HR0.out x7_1 p1357 q1357; cases e1357; replace p1357 := eq_true p1357; replace q1357 := eq_true q1357
           go_wp2_with (first | ((with_reducible refine gate_callee (f := 134) rfl ?_); refine goesL_ (some 12) rfl rfl Tryz.func134 (by kernel_rfl) rfl #[.string (rdOf ByteArray.empty l0 x7_1)] rfl R.tp ?_; (with_reducible refine (spec_Word.calls k1 (rdOf ByteArray.empty l0 x7_1) false _ A5.out).mono ?_); rintro e w' ⟨rfl, ⟨nd, rfl⟩⟩; refine ⟨_, rfl, ?_⟩))
           go_ret
           exact ⟨by first | rfl | (simp; done) | (simp [*]; done) | (simp; cases a0.toList <;> rfl), by repeat (first | exact Drawn0.refl _ | apply Drawn0.step)⟩
       · rw [if_neg c4] at H; exact absurd H (by simp)
     · rw [if_neg c3] at H; exact absurd H (by simp)
   · rw [if_neg c2] at H; have c2b0 : decide (x7_1 < (l0.length : Int)) = false := decide_eq_false c2; clear c2; obtain rfl := Option.some.inj H; go_wp2
     go_ret
     exact ⟨by first | rfl | (simp; done) | (simp [*]; done) | (simp; cases a0.toList <;> rfl), by repeat (first | exact Drawn0.refl _ | apply Drawn0.step)⟩
def spec_Right.l0 : Nat → ByteArray → Int → Option (ByteArray)
 | 0, _, _ => none
 | k + 1, x0, x1 => if (x0.size : Int) < x1 then (if 1 + x0.size ≤ 9223372036854775807 then (spec_Right.l0 k ((⟨#[32]⟩ : ByteArray) ++ x0) x1) else (none)) else (some x0)
def spec_Right.f (k : Nat) (a0 : ByteArray) (a1 : Int) : Option (ByteArray) := spec_Right.l0 k a0 a1
set_option maxHeartbeats 8000000 in
set_option maxRecDepth 100000 in
theorem spec_Right.calls (k : Nat) (a0 : ByteArray) (a1 : Int) (r : ByteArray) (w : World) (h : spec_Right.f k a0 a1 = some r) :
 Calls Tryz.prog 108 #[.string a0, .int .i64 a1] w fun e w' => e = .returned (.string r) ∧ Drawn0 w w' := by
 have H : (spec_Right.l0 k a0 a1) = some r := h; clear h; have H' := Aside0.mk H; clear H
 go_enter Tryz.func108, Tryz.ntmps108
 go_wp2
 go_loopg [0] k (fun kq v0 w' => ∃ (x0_1 : ByteArray), v0 = .string x0_1 ∧ Aside0 (spec_Right.l0 kq x0_1 a1 = some r) ∧ Aside0 (kq ≤ k) ∧ Drawn0 w w')
 case atStart => exact ⟨(a0), R.rs, H', ⟨Nat.le_refl _⟩, by repeat (first | exact Drawn0.refl _ | apply Drawn0.step)⟩
 case round =>
  clear H'; try clear c1
  try clear p2
  obtain ⟨x0_1, rfl, HA, HK1, ⟨m1, rfl⟩⟩ := hrel; cases gk with
  | zero => exact absurd HA.out (by simp [spec_Right.l0])
  | succ k1 =>
   have H := HA.out; clear HA; simp only [spec_Right.l0] at H
   by_cases c3 : (x0_1.size : Int) < a1
   · rw [if_pos c3] at H; have c3b0 : decide ((x0_1.size : Int) < a1) = true := decide_eq_true c3; clear c3
     by_cases c4 : 1 + x0_1.size ≤ 9223372036854775807
     · rw [if_pos c4] at H; have c4b0 := eq_true c4; have c4b1 : decide (1 + x0_1.size ≤ 9223372036854775807) = true := decide_eq_true c4; try have c4b2 : (9223372036854775807 < 1 + x0_1.size) = False := eq_false (Nat.not_lt.2 c4)
       have H' := Aside0.mk H; clear H; go_wp2
       go_roundg k1
       case measure => have := HK1.out; omega
       case rel => exact ⟨((⟨#[32]⟩ : ByteArray) ++ x0_1), R.rs, H', ⟨by have := HK1.out; omega⟩, by repeat (first | exact Drawn0.refl _ | apply Drawn0.step)⟩
     · rw [if_neg c4] at H; exact absurd H (by simp)
   · rw [if_neg c3] at H; have c3b0 : decide ((x0_1.size : Int) < a1) = false := decide_eq_false c3; clear c3; obtain rfl := Option.some.inj H; go_wp2
     go_ret
     exact ⟨by first | rfl | (simp; done) | (simp [*]; done) | (simp; cases a0.toList <;> rfl), by repeat (first | exact Drawn0.refl _ | apply Drawn0.step)⟩
end Go.Proofs.YtabfehcpcjcomaaGreatDoor.QA0
