-- Written by a program of this session (wip/tools/myprint.py), over the kit's print of the loaded functions. Not trusted: Lean checks it.
import Derived.Test.YtabfehcpcjcomaaDoorQP1x0
namespace Go.Proofs.YtabfehcpcjcomaaDoor.QP1
open Go.RowKit Go.Proofs.YtabfehcpcjcomaaDoorW.PrintWords Go.Proofs.YtabfehcpcjcomaaDoorW.PrintLast Go.Proofs.YtabfehcpcjcomaaDoorW.PrintMore
attribute [local go_sem] max2_int min2_int max_two min_two max_three min_three max_four min_four   -- for this text's walks alone
set_option linter.unusedVariables false
set_option linter.unusedSimpArgs false

/-! ### procfs_zzNumbers: function 23 -/
mutual
def procfs_zzNumbers.l0 : Nat → ByteArray → ByteArray → Int → Int → Option (List ByteArray)
  | 0, _, _, _, _ => none
  | k + 1, x0, x1, x2, x7 => if (wrap64 (x7 + (x1.size : Int))) ≤ (x0.size : Int) then (if 0 ≤ x7 then (if x7 ≤ (wrap64 (x7 + (x1.size : Int))) then (if (x0.extract (x7 : Int).toNat ((wrap64 (x7 + (x1.size : Int))) : Int).toNat).toList = x1.toList then (procfs_zzNumbers.l1 k x0 x1 x2 x7 (wrap64 (x7 + (x1.size : Int))) (([(⟨#[]⟩ : ByteArray)] : List ByteArray))) else (procfs_zzNumbers.l0 k x0 x1 x2 (wrap64 (x7 + 1)))) else (none)) else (none)) else (some ([] : List ByteArray))
def procfs_zzNumbers.l1 : Nat → ByteArray → ByteArray → Int → Int → Int → List ByteArray → Option (List ByteArray)
  | 0, _, _, _, _, _, _ => none
  | k + 1, x0, x1, x2, x7, x8, x9 => if (x9.length : Int) ≤ x2 then (if (x9.length : Int) > 1 then (if x8 = (x0.size : Int) then (if (x9.length : Int) > x2 then (if 0 ≤ x7 then (if x7 ≤ x8 then (if x8 ≤ (x0.size : Int) then (if 0 < (x9.length : Int) then (some (x9.set (0 : Int).toNat (x0.extract (x7 : Int).toNat (x8 : Int).toNat))) else (none)) else (none)) else (none)) else (none)) else (procfs_zzNumbers.l0 k x0 x1 x2 (wrap64 (x7 + 1)))) else (if 0 ≤ x8 then (if x8 < (x0.size : Int) then (if (bt x0 x8) = 32 then (procfs_zzNumbers.j2 k x0 x1 x2 x7 (wrap64 (x8 + 1)) x9) else (if (x9.length : Int) > x2 then (if 0 ≤ x7 then (if x7 ≤ x8 then (if x8 ≤ (x0.size : Int) then (if 0 < (x9.length : Int) then (some (x9.set (0 : Int).toNat (x0.extract (x7 : Int).toNat (x8 : Int).toNat))) else (none)) else (none)) else (none)) else (none)) else (procfs_zzNumbers.l0 k x0 x1 x2 (wrap64 (x7 + 1))))) else (none)) else (none))) else (procfs_zzNumbers.j2 k x0 x1 x2 x7 x8 x9)) else (if (x9.length : Int) > x2 then (if 0 ≤ x7 then (if x7 ≤ x8 then (if x8 ≤ (x0.size : Int) then (if 0 < (x9.length : Int) then (some (x9.set (0 : Int).toNat (x0.extract (x7 : Int).toNat (x8 : Int).toNat))) else (none)) else (none)) else (none)) else (none)) else (procfs_zzNumbers.l0 k x0 x1 x2 (wrap64 (x7 + 1))))
def procfs_zzNumbers.j2 : Nat → ByteArray → ByteArray → Int → Int → Int → List ByteArray → Option (List ByteArray)
  | 0, _, _, _, _, _, _ => none
  | k + 1, x0, x1, x2, x7, x8, x9 => procfs_zzNumbers.l2 k x0 x1 x2 x7 x8 x9 x8
def procfs_zzNumbers.l2 : Nat → ByteArray → ByteArray → Int → Int → Int → List ByteArray → Int → Option (List ByteArray)
  | 0, _, _, _, _, _, _, _ => none
  | k + 1, x0, x1, x2, x7, x8, x9, x10 => if x8 < (x0.size : Int) then (if 0 ≤ x8 then (if (bt x0 x8) ≥ 48 then (if (bt x0 x8) ≤ 57 then (procfs_zzNumbers.l2 k x0 x1 x2 x7 (wrap64 (x8 + 1)) x9 x10) else (if x8 = x10 then (if (x9.length : Int) > x2 then (if 0 ≤ x7 then (if x7 ≤ x8 then (if x8 ≤ (x0.size : Int) then (if 0 < (x9.length : Int) then (some (x9.set (0 : Int).toNat (x0.extract (x7 : Int).toNat (x8 : Int).toNat))) else (none)) else (none)) else (none)) else (none)) else (procfs_zzNumbers.l0 k x0 x1 x2 (wrap64 (x7 + 1)))) else (if 0 ≤ x10 then (if x10 ≤ x8 then (if x8 ≤ (x0.size : Int) then (if x9.length < 8796093022208 then (procfs_zzNumbers.l1 k x0 x1 x2 x7 x8 (x9 ++ [x0.extract (x10 : Int).toNat (x8 : Int).toNat])) else (none)) else (none)) else (none)) else (none)))) else (if x8 = x10 then (if (x9.length : Int) > x2 then (if 0 ≤ x7 then (if x7 ≤ x8 then (if x8 ≤ (x0.size : Int) then (if 0 < (x9.length : Int) then (some (x9.set (0 : Int).toNat (x0.extract (x7 : Int).toNat (x8 : Int).toNat))) else (none)) else (none)) else (none)) else (none)) else (procfs_zzNumbers.l0 k x0 x1 x2 (wrap64 (x7 + 1)))) else (if 0 ≤ x10 then (if x10 ≤ x8 then (if x8 ≤ (x0.size : Int) then (if x9.length < 8796093022208 then (procfs_zzNumbers.l1 k x0 x1 x2 x7 x8 (x9 ++ [x0.extract (x10 : Int).toNat (x8 : Int).toNat])) else (none)) else (none)) else (none)) else (none)))) else (none)) else (if x8 = x10 then (if (x9.length : Int) > x2 then (if 0 ≤ x7 then (if x7 ≤ x8 then (if x8 ≤ (x0.size : Int) then (if 0 < (x9.length : Int) then (some (x9.set (0 : Int).toNat (x0.extract (x7 : Int).toNat (x8 : Int).toNat))) else (none)) else (none)) else (none)) else (none)) else (procfs_zzNumbers.l0 k x0 x1 x2 (wrap64 (x7 + 1)))) else (if 0 ≤ x10 then (if x10 ≤ x8 then (if x8 ≤ (x0.size : Int) then (if x9.length < 8796093022208 then (procfs_zzNumbers.l1 k x0 x1 x2 x7 x8 (x9 ++ [x0.extract (x10 : Int).toNat (x8 : Int).toNat])) else (none)) else (none)) else (none)) else (none)))
end
def procfs_zzNumbers.f (k : Nat) (a0 : ByteArray) (a1 : ByteArray) (a2 : Int) : Option (List ByteArray) := procfs_zzNumbers.l0 k a0 a1 a2 0
theorem procfs_zzNumbers.mono_l : ∀ k, (∀ y0 y1 y2 y3, LeO (procfs_zzNumbers.l0 k y0 y1 y2 y3) (procfs_zzNumbers.l0 (k + 1) y0 y1 y2 y3)) ∧ (∀ y0 y1 y2 y3 y4 y5, LeO (procfs_zzNumbers.l1 k y0 y1 y2 y3 y4 y5) (procfs_zzNumbers.l1 (k + 1) y0 y1 y2 y3 y4 y5)) ∧ (∀ y0 y1 y2 y3 y4 y5, LeO (procfs_zzNumbers.j2 k y0 y1 y2 y3 y4 y5) (procfs_zzNumbers.j2 (k + 1) y0 y1 y2 y3 y4 y5)) ∧ (∀ y0 y1 y2 y3 y4 y5 y6, LeO (procfs_zzNumbers.l2 k y0 y1 y2 y3 y4 y5 y6) (procfs_zzNumbers.l2 (k + 1) y0 y1 y2 y3 y4 y5 y6))
  | 0 => ⟨fun _ _ _ _ r h => by simp [procfs_zzNumbers.l0] at h, fun _ _ _ _ _ _ r h => by simp [procfs_zzNumbers.l1] at h, fun _ _ _ _ _ _ r h => by simp [procfs_zzNumbers.j2] at h, fun _ _ _ _ _ _ _ r h => by simp [procfs_zzNumbers.l2] at h⟩
  | k + 1 => by
    obtain ⟨ih0, ih1, ih2, ih3⟩ := procfs_zzNumbers.mono_l k
    refine ⟨?_, ?_, ?_, ?_⟩
    · intro y0 y1 y2 y3
      unfold procfs_zzNumbers.l0
      repeat' first
      | (with_reducible exact ih0 _ _ _ _)
      | (with_reducible exact ih1 _ _ _ _ _ _)
      | (with_reducible exact ih2 _ _ _ _ _ _)
      | (with_reducible exact ih3 _ _ _ _ _ _ _)
      | (with_reducible exact LeO.refl _)
      | (with_reducible exact LeO.none _)
      | (with_reducible refine LeO.ite ?_ ?_)
      | (with_reducible refine LeO.bind ?_ (fun _ => ?_))
      | exact ih0 _ _ _ _
      | exact ih1 _ _ _ _ _ _
      | exact ih2 _ _ _ _ _ _
      | exact ih3 _ _ _ _ _ _ _
      | exact LeO.none _
      | refine LeO.ite ?_ ?_
      | refine LeO.bind ?_ (fun _ => ?_)
    · intro y0 y1 y2 y3 y4 y5
      unfold procfs_zzNumbers.l1
      repeat' first
      | (with_reducible exact ih0 _ _ _ _)
      | (with_reducible exact ih1 _ _ _ _ _ _)
      | (with_reducible exact ih2 _ _ _ _ _ _)
      | (with_reducible exact ih3 _ _ _ _ _ _ _)
      | (with_reducible exact LeO.refl _)
      | (with_reducible exact LeO.none _)
      | (with_reducible refine LeO.ite ?_ ?_)
      | (with_reducible refine LeO.bind ?_ (fun _ => ?_))
      | exact ih0 _ _ _ _
      | exact ih1 _ _ _ _ _ _
      | exact ih2 _ _ _ _ _ _
      | exact ih3 _ _ _ _ _ _ _
      | exact LeO.none _
      | refine LeO.ite ?_ ?_
      | refine LeO.bind ?_ (fun _ => ?_)
    · intro y0 y1 y2 y3 y4 y5
      unfold procfs_zzNumbers.j2
      repeat' first
      | (with_reducible exact ih0 _ _ _ _)
      | (with_reducible exact ih1 _ _ _ _ _ _)
      | (with_reducible exact ih2 _ _ _ _ _ _)
      | (with_reducible exact ih3 _ _ _ _ _ _ _)
      | (with_reducible exact LeO.refl _)
      | (with_reducible exact LeO.none _)
      | (with_reducible refine LeO.ite ?_ ?_)
      | (with_reducible refine LeO.bind ?_ (fun _ => ?_))
      | exact ih0 _ _ _ _
      | exact ih1 _ _ _ _ _ _
      | exact ih2 _ _ _ _ _ _
      | exact ih3 _ _ _ _ _ _ _
      | exact LeO.none _
      | refine LeO.ite ?_ ?_
      | refine LeO.bind ?_ (fun _ => ?_)
    · intro y0 y1 y2 y3 y4 y5 y6
      unfold procfs_zzNumbers.l2
      repeat' first
      | (with_reducible exact ih0 _ _ _ _)
      | (with_reducible exact ih1 _ _ _ _ _ _)
      | (with_reducible exact ih2 _ _ _ _ _ _)
      | (with_reducible exact ih3 _ _ _ _ _ _ _)
      | (with_reducible exact LeO.refl _)
      | (with_reducible exact LeO.none _)
      | (with_reducible refine LeO.ite ?_ ?_)
      | (with_reducible refine LeO.bind ?_ (fun _ => ?_))
      | exact ih0 _ _ _ _
      | exact ih1 _ _ _ _ _ _
      | exact ih2 _ _ _ _ _ _
      | exact ih3 _ _ _ _ _ _ _
      | exact LeO.none _
      | refine LeO.ite ?_ ?_
      | refine LeO.bind ?_ (fun _ => ?_)
theorem procfs_zzNumbers.mono : ∀ a0 a1 a2 k, LeO (procfs_zzNumbers.f k a0 a1 a2) (procfs_zzNumbers.f (k + 1) a0 a1 a2) := by
  intro a0 a1 a2 k
  obtain ⟨ih0, ih1, ih2, ih3⟩ := procfs_zzNumbers.mono_l k
  unfold procfs_zzNumbers.f
  repeat' first
      | (with_reducible exact ih0 _ _ _ _)
      | (with_reducible exact ih1 _ _ _ _ _ _)
      | (with_reducible exact ih2 _ _ _ _ _ _)
      | (with_reducible exact ih3 _ _ _ _ _ _ _)
      | (with_reducible exact LeO.refl _)
      | (with_reducible exact LeO.none _)
      | (with_reducible refine LeO.ite ?_ ?_)
      | (with_reducible refine LeO.bind ?_ (fun _ => ?_))
      | exact ih0 _ _ _ _
      | exact ih1 _ _ _ _ _ _
      | exact ih2 _ _ _ _ _ _
      | exact ih3 _ _ _ _ _ _ _
      | exact LeO.none _
      | refine LeO.ite ?_ ?_
      | refine LeO.bind ?_ (fun _ => ?_)
set_option maxHeartbeats 8000000 in
set_option maxRecDepth 100000 in
theorem procfs_zzNumbers.calls (k : Nat) (a0 : ByteArray) (a1 : ByteArray) (a2 : Int) (r : List ByteArray) (w : World) (h : procfs_zzNumbers.f k a0 a1 a2 = some r) :
    Calls Tryd.prog 23 #[.string a0, .string a1, .int .i64 a2] w fun e w' => ∃ v0_ : Value, e = .returned (v0_) ∧ Kd.R Kd.string 9 w' w.heap.size (fun _ => True) v0_ r ∧ Below w.heap.size w w' := by
  have HB := Aside0.mk (Below.refl w.heap.size w)
  have H : (procfs_zzNumbers.l0 k a0 a1 a2 0) = some r := h
  clear h
  have H' := Aside0.mk H
  clear H
  go_enter Tryd.func23, Tryd.ntmps23
  go_wp2
  go_loopg [7] k (fun kq v7 w' => ∃ (x7_1 : Int), v7 = .int .i64 x7_1 ∧ Aside0 (procfs_zzNumbers.l0 kq a0 a1 a2 x7_1 = some r) ∧ Aside0 (kq ≤ k) ∧ Aside0 (Below w.heap.size w w'))
  case atStart => exact ⟨(0), (by first | rfl | (simp; done) | (simp [*]; done)), H', ⟨Nat.le_refl _⟩, ⟨by repeat (first | (with_reducible first | exact HB.out | apply below_alloc | apply pw_below_drewN | apply below_drew1) | exact HB.out)⟩⟩
  case round =>
    clear H'
    try clear c2
    try clear p2
    obtain ⟨x7_1, rfl, HA, HK1, HB⟩ := hrel
    cases gk with
    | zero => exact absurd HA.out (by simp [procfs_zzNumbers.l0])
    | succ k1 =>
      have H := HA.out
      clear HA
      simp only [procfs_zzNumbers.l0] at H
      by_cases c4 : (wrap64 (x7_1 + (a1.size : Int))) ≤ (a0.size : Int)
      · rw [if_pos c4] at H
        have c4b0 : decide ((wrap64 (x7_1 + (a1.size : Int))) ≤ (a0.size : Int)) = true := decide_eq_true c4
        clear c4
        by_cases c5 : 0 ≤ x7_1
        · rw [if_pos c5] at H
          have c5b0 := eq_true c5
          have c5b1 : decide (0 ≤ x7_1) = true := decide_eq_true c5
          clear c5
          by_cases c6 : x7_1 ≤ (wrap64 (x7_1 + (a1.size : Int)))
          · rw [if_pos c6] at H
            have c6b0 := eq_true c6
            have c6b1 : decide (x7_1 ≤ (wrap64 (x7_1 + (a1.size : Int)))) = true := decide_eq_true c6
            have c7b0 := eq_true (of_decide_eq_true (by first | (with_reducible assumption) | assumption) : (wrap64 (x7_1 + (a1.size : Int))) ≤ (a0.size : Int))
            by_cases c8 : (a0.extract (x7_1 : Int).toNat ((wrap64 (x7_1 + (a1.size : Int))) : Int).toNat).toList = a1.toList
            · rw [if_pos c8] at H
              have c8b0 : ((a0.extract (x7_1 : Int).toNat ((wrap64 (x7_1 + (a1.size : Int))) : Int).toNat).toList == a1.toList) = true := beq_iff_eq.mpr c8
              have c8b1 : ((a0.extract (x7_1 : Int).toNat ((wrap64 (x7_1 + (a1.size : Int))) : Int).toNat).toList != a1.toList) = false := bne_eq_false_iff_eq.mpr c8
              clear c8
              obtain ⟨y124, hy124⟩ : ∃ y_ : List ByteArray, y_ = (([(⟨#[]⟩ : ByteArray)] : List ByteArray)) := ⟨_, rfl⟩
              replace H : (procfs_zzNumbers.l1 k1 a0 a1 a2 x7_1 (wrap64 (x7_1 + (a1.size : Int))) y124) = some r := by first | (rw [hy124]; with_reducible exact H) | (have H2_ := (Option.bind_some _ _).symm.trans H; rw [hy124]; with_reducible exact H2_) | (have H2_ := (Option.bind_some _ _).symm.trans H; with_reducible exact H2_) | with_reducible exact H | (rw [hy124]; exact H) | exact H
              have Ny124 := Aside0.mk hy124
              clear hy124
              have H' := Aside0.mk H
              clear H
              go_wp2_with (first | ((with_reducible refine gate_dst (N := 33) rfl ?_); refine Kd.R_lit Kd.string _ 9 ?hg (N := 33) ?hd (xs := ([(⟨#[]⟩ : ByteArray)] : List ByteArray)) (inner := [.string (⟨#[]⟩ : ByteArray)]) (ok := fun _ => True) (okp := fun _ => True) ?hr ?hp (fun _ hk => hk) trivial (Below.refl _ _) (Nat.le_refl _) (by simp) ?_; (case hd => rfl); (case hg => rfl); (case hr => first | (go_simp; done) | (go_simp; rfl)); (case hp => exact (Reps.one (show Kd.M Kd.string _ _ _ (⟨#[]⟩ : ByteArray) [.string (⟨#[]⟩ : ByteArray)] from rfl) (Reps.none _ _))); intro v125 w9 ho10 hb hg_ hnew_; clear hg_ hnew_; (first | rw [← Ny124.out] at ho10 | (simp only [Int.reduceToNat] at ho10; rw [← Ny124.out] at ho10)); have n0_ := Aside0.mk (Kd.R_lower ho10 (below_size (by repeat (first | (with_reducible first | exact HB.out | apply below_alloc | apply pw_below_drewN | apply below_drew1) | exact HB.out)))); have n1_ := Aside0.mk (below_step (by repeat (first | (with_reducible first | exact HB.out | apply below_alloc | apply pw_below_drewN | apply below_drew1) | exact HB.out)) hb); clear HB; have HO126 := n0_; have HB := n1_; clear n0_ n1_; clear hb ho10))
              go_loopg [8, 9] k1 (fun kq v8 v9 w' => ∃ (x8_2 : Int) (x9_2 : List ByteArray), v8 = .int .i64 x8_2 ∧ Aside0 (procfs_zzNumbers.l1 kq a0 a1 a2 x7_1 x8_2 x9_2 = some r) ∧ Aside0 (kq ≤ k1) ∧ Aside0 (Kd.R Kd.string 9 w' w.heap.size (fun _ => True) v9 x9_2) ∧ Aside0 (Below w.heap.size w w'))
              case atStart => exact ⟨(wrap64 (x7_1 + (a1.size : Int))), (y124), (by first | rfl | (simp; done) | (simp [*]; done)), H', ⟨Nat.le_refl _⟩, ⟨by (with_reducible repeat (first | apply Kd.R_alloc | apply Kd.R_drewN | apply Kd.R_drew)); exact HO126.out⟩, ⟨by repeat (first | (with_reducible first | exact HB.out | apply below_alloc | apply pw_below_drewN | apply below_drew1) | exact HB.out)⟩⟩
              case round =>
                clear H'
                try clear c2
                try clear p2
                try clear c4
                try clear c4b0
                try clear c5
                try clear c5b0
                try clear c5b1
                try clear c6
                try clear c6b0
                try clear c6b1
                try clear p6
                try clear c7
                try clear c7b0
                try clear c8
                try clear c8b0
                try clear c8b1
                try clear p2
                obtain ⟨x8_2, x9_2, rfl, HA, HK2, HO_9, HB⟩ := hrel
                cases gk with
                | zero => exact absurd HA.out (by simp [procfs_zzNumbers.l1])
                | succ k2 =>
                  have H := HA.out
                  clear HA
                  simp only [procfs_zzNumbers.l1] at H
                  by_cases c11 : (x9_2.length : Int) ≤ a2
                  · rw [if_pos c11] at H
                    have c11b0 : decide ((x9_2.length : Int) ≤ a2) = true := decide_eq_true c11
                    clear c11
                    have HC12 := Aside0.mk H
                    clear H
                    obtain ⟨Ao13, co13, eo13⟩ := Kd.R_slice HO_9.out
                    subst eo13
                    go_upto_if 40 with (fail)
                    go_cut [8] (fun v8 wc => ∃ (kq : Nat) (x8_11 : Int), v8 = .int .i64 x8_11 ∧ Aside0 (procfs_zzNumbers.j2 kq a0 a1 a2 x7_1 x8_11 x9_2 = some r) ∧ Aside0 (kq ≤ k2) ∧ Aside0 (Kd.R Kd.string 9 wc w.heap.size (fun _ => True) (.slice Ao13 x9_2.length co13) x9_2) ∧ Aside0 (Below w.heap.size w wc))
                    case first =>
                      have H := HC12.out
                      clear HC12
                      by_cases c14 : (x9_2.length : Int) > 1
                      · rw [if_pos c14] at H
                        have c14b0 : decide (1 < (x9_2.length : Int)) = true := decide_eq_true c14
                        have c14b1 : decide (1 < x9_2.length) = true := decide_eq_true (by omega)
                        clear c14
                        (first | rw [c14b0] | (simp only [i64_w, i32_w]; rw [c14b0]) | skip)
                        by_cases c15 : x8_2 = (a0.size : Int)
                        · rw [if_pos c15] at H
                          have c15b0 : (x8_2 == (a0.size : Int)) = true := beq_iff_eq.mpr c15
                          have c15b1 : (x8_2 != (a0.size : Int)) = false := bne_eq_false_iff_eq.mpr c15
                          clear c15
                          by_cases c16 : (x9_2.length : Int) > a2
                          · rw [if_pos c16] at H
                            have c16b0 : decide (a2 < (x9_2.length : Int)) = true := decide_eq_true c16
                            clear c16
                            by_cases c17 : 0 ≤ x7_1
                            · rw [if_pos c17] at H
                              have c17b0 := eq_true c17
                              have c17b1 : decide (0 ≤ x7_1) = true := decide_eq_true c17
                              clear c17
                              by_cases c18 : x7_1 ≤ x8_2
                              · rw [if_pos c18] at H
                                have c18b0 := eq_true c18
                                have c18b1 : decide (x7_1 ≤ x8_2) = true := decide_eq_true c18
                                clear c18
                                by_cases c19 : x8_2 ≤ (a0.size : Int)
                                · rw [if_pos c19] at H
                                  have c19b0 := eq_true c19
                                  have c19b1 : decide (x8_2 ≤ (a0.size : Int)) = true := decide_eq_true c19
                                  clear c19
                                  by_cases c20 : 0 < (x9_2.length : Int)
                                  · rw [if_pos c20] at H
                                    have c20b0 : decide (0 < (x9_2.length : Int)) = true := decide_eq_true c20
                                    have c20b1 : decide (0 < x9_2.length) = true := decide_eq_true (by omega)
                                    clear c20
                                    obtain ⟨y128, hy128⟩ : ∃ y_ : List ByteArray, y_ = (x9_2.set (0 : Int).toNat (a0.extract (x7_1 : Int).toNat (x8_2 : Int).toNat)) := ⟨_, rfl⟩
                                    replace H : (some y128) = some r := by first | (rw [hy128]; with_reducible exact H) | (have H2_ := (Option.bind_some _ _).symm.trans H; rw [hy128]; with_reducible exact H2_) | (have H2_ := (Option.bind_some _ _).symm.trans H; with_reducible exact H2_) | with_reducible exact H | (rw [hy128]; exact H) | exact H
                                    have Ny128 := Aside0.mk hy128
                                    clear hy128
                                    obtain rfl := Option.some.inj H
                                    have p21 : 0 ≤ (0 : Int) := (by omega)
                                    have q21 : (0 : Int) < ((x9_2.length : Int) : Int) := of_decide_eq_true (by first | (with_reducible assumption) | assumption)
                                    have qi21 : (0 < x9_2.length) = True := eq_true (by omega)
                                    obtain ⟨go21, co21, eo21, gb21, gl21, cl21, HG21⟩ := Kd.R_form HO_9.out (by omega)
                                    (first | cases eo21 | (injection eo21 with ea_ en_ ec_; (first | subst ea_ | (injection ea_ with ea_; subst ea_)); subst ec_; clear en_))
                                    have GB21 := Aside0.mk gb21
                                    have GG21 := Aside0.mk HG21
                                    clear gb21 gl21 HG21
                                    obtain ⟨hx21_0, hf21_0⟩ := Kd.R_celln (⟨#[]⟩ : ByteArray) HO_9.out (0 : Int) p21 q21
                                    (try rw [show ((0 : Int)).toNat = 0 from rfl] at hx21_0)
                                    (try simp only [Nat.reduceMul, Nat.zero_mul, Nat.zero_add, Nat.reduceAdd] at hx21_0)
                                    (try rw [show ((0 : Int)).toNat = 0 from rfl] at hf21_0)
                                    (try simp only [Nat.reduceMul, Nat.zero_mul, Nat.zero_add, Nat.reduceAdd] at hf21_0)
                                    replace p21 := eq_true p21
                                    replace q21 := eq_true q21
                                    have HP22 := Kd.R_putg HO_9.out (0 : Int) (a0.extract (x7_1 : Int).toNat (x8_2 : Int).toNat)
                                    go_wp2_with (first | ((with_reducible refine gate_store (t := 9) (p := 91) rfl ?_); refine store_event (t := 9) (p := 91) (v := ?vo_w23) (w1 := (wr.setCell ⟨go21, (0 : Int).toNat, none⟩ (.string (a0.extract (x7_1 : Int).toNat (x8_2 : Int).toNat)))) ?hg ?ho ?hn ?hr ?_; (case ho => rfl); (case hg => rfl); (case hn => rfl); (case hr => first | (go_simp; done) | (go_simp; rfl)); intro w23 hw; have hg : wr.grownBy w23 (some go21) := (by rw [hw]; exact HP22.2); have hp_ : Kd.R Kd.string 9 w23 w.heap.size (fun _ => True) (.slice (some ⟨go21, 0, none⟩) x9_2.length co13) y128 := (by rw [hw, Ny128.out]; exact HP22.1); clear HP22; have n0_ := Aside0.mk (hp_); have n1_ := Aside0.mk ((by rw [hw]; exact below_set (HB.out) GB21.out : Below w.heap.size w w23)); clear HO_9; clear HB; have HO_9 := n0_; have HB := n1_; clear n0_ n1_; clear hg hw hp_))
                                    go_ret
                                    exact ⟨_, by first | rfl | (simp [errW_none, errW_some] <;> rfl) | (simp [*, errW_none, errW_some] <;> rfl), by (with_reducible repeat (first | apply Kd.R_alloc | apply Kd.R_drewN | apply Kd.R_drew)); exact HO_9.out, by repeat (first | (with_reducible first | exact HB.out | apply below_alloc | apply pw_below_drewN | apply below_drew1) | exact HB.out)⟩
                                  · rw [if_neg c20] at H
                                    exact absurd H (by simp)
                                · rw [if_neg c19] at H
                                  exact absurd H (by simp)
                              · rw [if_neg c18] at H
                                exact absurd H (by simp)
                            · rw [if_neg c17] at H
                              exact absurd H (by simp)
                          · rw [if_neg c16] at H
                            have c16b0 : decide (a2 < (x9_2.length : Int)) = false := decide_eq_false c16
                            clear c16
                            have H' := Aside0.mk H
                            clear H
                            go_wp2
                            go_roundg k2
                            case measure => have := HK1.out; have := HK2.out; omega
                            case rel => exact ⟨(wrap64 (x7_1 + 1)), (by first | rfl | (simp; done) | (simp [*]; done)), H', ⟨by have := HK1.out; have := HK2.out; omega⟩, ⟨by repeat (first | (with_reducible first | exact HB.out | apply below_alloc | apply pw_below_drewN | apply below_drew1) | exact HB.out)⟩⟩
                        · rw [if_neg c15] at H
                          have c15b0 : (x8_2 == (a0.size : Int)) = false := beq_eq_false_iff_ne.mpr c15
                          have c15b1 : (x8_2 != (a0.size : Int)) = true := bne_iff_ne.mpr c15
                          by_cases c24 : 0 ≤ x8_2
                          · rw [if_pos c24] at H
                            have c24b0 : decide (0 ≤ x8_2) = true := decide_eq_true c24
                            clear c24
                            by_cases c25 : x8_2 < (a0.size : Int)
                            · rw [if_pos c25] at H
                              have c25b0 : decide (x8_2 < (a0.size : Int)) = true := decide_eq_true c25
                              clear c25
                              by_cases c27 : (bt a0 x8_2) = 32
                              · rw [if_pos c27] at H
                                have c27b0 : ((bt a0 x8_2) == 32) = true := beq_iff_eq.mpr c27
                                have c27b1 : ((bt a0 x8_2) != 32) = false := bne_eq_false_iff_eq.mpr c27
                                clear c27
                                have H' := Aside0.mk H
                                clear H
                                have p26 : 0 ≤ (x8_2 : Int) := of_decide_eq_true (by first | (with_reducible assumption) | assumption)
                                have q26 : x8_2 < (a0.size : Int) := of_decide_eq_true (by first | (with_reducible assumption) | assumption)
                                have hx26 := bt_at a0 x8_2
                                replace p26 := eq_true p26
                                replace q26 := eq_true q26
                                go_wp2
                                go_meet
                                case rel => exact ⟨_, (wrap64 (x8_2 + 1)), (by first | rfl | (simp; done) | (simp [*]; done)), H', ⟨by have := HK1.out; have := HK2.out; first | omega | exact Nat.le_refl _⟩, ⟨by (with_reducible repeat (first | apply Kd.R_alloc | apply Kd.R_drewN | apply Kd.R_drew)); exact HO_9.out⟩, ⟨by repeat (first | (with_reducible first | exact HB.out | apply below_alloc | apply pw_below_drewN | apply below_drew1) | exact HB.out)⟩⟩
                              · rw [if_neg c27] at H
                                have c27b0 : ((bt a0 x8_2) == 32) = false := beq_eq_false_iff_ne.mpr c27
                                have c27b1 : ((bt a0 x8_2) != 32) = true := bne_iff_ne.mpr c27
                                by_cases c28 : (x9_2.length : Int) > a2
                                · rw [if_pos c28] at H
                                  have c28b0 : decide (a2 < (x9_2.length : Int)) = true := decide_eq_true c28
                                  clear c28
                                  by_cases c29 : 0 ≤ x7_1
                                  · rw [if_pos c29] at H
                                    have c29b0 := eq_true c29
                                    have c29b1 : decide (0 ≤ x7_1) = true := decide_eq_true c29
                                    clear c29
                                    by_cases c30 : x7_1 ≤ x8_2
                                    · rw [if_pos c30] at H
                                      have c30b0 := eq_true c30
                                      have c30b1 : decide (x7_1 ≤ x8_2) = true := decide_eq_true c30
                                      clear c30
                                      by_cases c31 : x8_2 ≤ (a0.size : Int)
                                      · rw [if_pos c31] at H
                                        have c31b0 := eq_true c31
                                        have c31b1 : decide (x8_2 ≤ (a0.size : Int)) = true := decide_eq_true c31
                                        clear c31
                                        by_cases c32 : 0 < (x9_2.length : Int)
                                        · rw [if_pos c32] at H
                                          have c32b0 : decide (0 < (x9_2.length : Int)) = true := decide_eq_true c32
                                          have c32b1 : decide (0 < x9_2.length) = true := decide_eq_true (by omega)
                                          clear c32
                                          obtain ⟨y129, hy129⟩ : ∃ y_ : List ByteArray, y_ = (x9_2.set (0 : Int).toNat (a0.extract (x7_1 : Int).toNat (x8_2 : Int).toNat)) := ⟨_, rfl⟩
                                          replace H : (some y129) = some r := by first | (rw [hy129]; with_reducible exact H) | (have H2_ := (Option.bind_some _ _).symm.trans H; rw [hy129]; with_reducible exact H2_) | (have H2_ := (Option.bind_some _ _).symm.trans H; with_reducible exact H2_) | with_reducible exact H | (rw [hy129]; exact H) | exact H
                                          have Ny129 := Aside0.mk hy129
                                          clear hy129
                                          obtain rfl := Option.some.inj H
                                          have p26 : 0 ≤ (x8_2 : Int) := of_decide_eq_true (by first | (with_reducible assumption) | assumption)
                                          have q26 : x8_2 < (a0.size : Int) := of_decide_eq_true (by first | (with_reducible assumption) | assumption)
                                          have hx26 := bt_at a0 x8_2
                                          replace p26 := eq_true p26
                                          replace q26 := eq_true q26
                                          have p33 : 0 ≤ (0 : Int) := (by omega)
                                          have q33 : (0 : Int) < ((x9_2.length : Int) : Int) := of_decide_eq_true (by first | (with_reducible assumption) | assumption)
                                          have qi33 : (0 < x9_2.length) = True := eq_true (by omega)
                                          obtain ⟨go33, co33, eo33, gb33, gl33, cl33, HG33⟩ := Kd.R_form HO_9.out (by omega)
                                          (first | cases eo33 | (injection eo33 with ea_ en_ ec_; (first | subst ea_ | (injection ea_ with ea_; subst ea_)); subst ec_; clear en_))
                                          have GB33 := Aside0.mk gb33
                                          have GG33 := Aside0.mk HG33
                                          clear gb33 gl33 HG33
                                          obtain ⟨hx33_0, hf33_0⟩ := Kd.R_celln (⟨#[]⟩ : ByteArray) HO_9.out (0 : Int) p33 q33
                                          (try rw [show ((0 : Int)).toNat = 0 from rfl] at hx33_0)
                                          (try simp only [Nat.reduceMul, Nat.zero_mul, Nat.zero_add, Nat.reduceAdd] at hx33_0)
                                          (try rw [show ((0 : Int)).toNat = 0 from rfl] at hf33_0)
                                          (try simp only [Nat.reduceMul, Nat.zero_mul, Nat.zero_add, Nat.reduceAdd] at hf33_0)
                                          replace p33 := eq_true p33
                                          replace q33 := eq_true q33
                                          have HP34 := Kd.R_putg HO_9.out (0 : Int) (a0.extract (x7_1 : Int).toNat (x8_2 : Int).toNat)
                                          go_wp2_with (first | ((with_reducible refine gate_store (t := 9) (p := 91) rfl ?_); refine store_event (t := 9) (p := 91) (v := ?vo_w35) (w1 := (wr.setCell ⟨go33, (0 : Int).toNat, none⟩ (.string (a0.extract (x7_1 : Int).toNat (x8_2 : Int).toNat)))) ?hg ?ho ?hn ?hr ?_; (case ho => rfl); (case hg => rfl); (case hn => rfl); (case hr => first | (go_simp; done) | (go_simp; rfl)); intro w35 hw; have hg : wr.grownBy w35 (some go33) := (by rw [hw]; exact HP34.2); have hp_ : Kd.R Kd.string 9 w35 w.heap.size (fun _ => True) (.slice (some ⟨go33, 0, none⟩) x9_2.length co13) y129 := (by rw [hw, Ny129.out]; exact HP34.1); clear HP34; have n0_ := Aside0.mk (hp_); have n1_ := Aside0.mk ((by rw [hw]; exact below_set (HB.out) GB33.out : Below w.heap.size w w35)); clear HO_9; clear HB; have HO_9 := n0_; have HB := n1_; clear n0_ n1_; clear hg hw hp_))
                                          go_ret
                                          exact ⟨_, by first | rfl | (simp [errW_none, errW_some] <;> rfl) | (simp [*, errW_none, errW_some] <;> rfl), by (with_reducible repeat (first | apply Kd.R_alloc | apply Kd.R_drewN | apply Kd.R_drew)); exact HO_9.out, by repeat (first | (with_reducible first | exact HB.out | apply below_alloc | apply pw_below_drewN | apply below_drew1) | exact HB.out)⟩
                                        · rw [if_neg c32] at H
                                          exact absurd H (by simp)
                                      · rw [if_neg c31] at H
                                        exact absurd H (by simp)
                                    · rw [if_neg c30] at H
                                      exact absurd H (by simp)
                                  · rw [if_neg c29] at H
                                    exact absurd H (by simp)
                                · rw [if_neg c28] at H
                                  have c28b0 : decide (a2 < (x9_2.length : Int)) = false := decide_eq_false c28
                                  clear c28
                                  have H' := Aside0.mk H
                                  clear H
                                  have p26 : 0 ≤ (x8_2 : Int) := of_decide_eq_true (by first | (with_reducible assumption) | assumption)
                                  have q26 : x8_2 < (a0.size : Int) := of_decide_eq_true (by first | (with_reducible assumption) | assumption)
                                  have hx26 := bt_at a0 x8_2
                                  replace p26 := eq_true p26
                                  replace q26 := eq_true q26
                                  go_wp2
                                  go_roundg k2
                                  case measure => have := HK1.out; have := HK2.out; omega
                                  case rel => exact ⟨(wrap64 (x7_1 + 1)), (by first | rfl | (simp; done) | (simp [*]; done)), H', ⟨by have := HK1.out; have := HK2.out; omega⟩, ⟨by repeat (first | (with_reducible first | exact HB.out | apply below_alloc | apply pw_below_drewN | apply below_drew1) | exact HB.out)⟩⟩
                            · rw [if_neg c25] at H
                              exact absurd H (by simp)
                          · rw [if_neg c24] at H
                            exact absurd H (by simp)
                      · rw [if_neg c14] at H
                        have c14b0 : decide (1 < (x9_2.length : Int)) = false := decide_eq_false c14
                        have c14b1 : decide (1 < x9_2.length) = false := decide_eq_false (by omega)
                        clear c14
                        (first | rw [c14b0] | (simp only [i64_w, i32_w]; rw [c14b0]) | skip)
                        have H' := Aside0.mk H
                        clear H
                        go_wp2
                        go_meet
                        case rel => exact ⟨_, (x8_2), (by first | rfl | (simp; done) | (simp [*]; done)), H', ⟨by have := HK1.out; have := HK2.out; first | omega | exact Nat.le_refl _⟩, ⟨by (with_reducible repeat (first | apply Kd.R_alloc | apply Kd.R_drewN | apply Kd.R_drew)); exact HO_9.out⟩, ⟨by repeat (first | (with_reducible first | exact HB.out | apply below_alloc | apply pw_below_drewN | apply below_drew1) | exact HB.out)⟩⟩
                    case rest =>
                      clear HC12
                      try clear c1
                      try clear c2
                      try clear p2
                      try clear q2
                      try clear hx2
                      try clear qi2
                      try clear c3
                      try clear p3
                      try clear q3
                      try clear hx3
                      try clear qi3
                      try clear hf3
                      try clear c4
                      try clear c4b0
                      try clear c5
                      try clear c5b0
                      try clear c5b1
                      try clear c6
                      try clear c6b0
                      try clear c6b1
                      try clear p6
                      try clear c7
                      try clear c7b0
                      try clear c8
                      try clear c8b0
                      try clear c8b1
                      try clear c11
                      try clear c11b0
                      try clear c14
                      try clear c14b0
                      try clear c14b1
                      try clear c15
                      try clear c15b0
                      try clear c15b1
                      try clear c16
                      try clear c16b0
                      try clear c17
                      try clear c17b0
                      try clear c17b1
                      try clear c18
                      try clear c18b0
                      try clear c18b1
                      try clear c19
                      try clear c19b0
                      try clear c19b1
                      try clear c20
                      try clear c20b0
                      try clear c20b1
                      try clear p21
                      try clear q21
                      try clear hx21
                      try clear qi21
                      try clear hf21
                      try clear c23
                      try clear c24
                      try clear c24b0
                      try clear c25
                      try clear c25b0
                      try clear p26
                      try clear q26
                      try clear hx26
                      try clear c27
                      try clear c27b0
                      try clear c27b1
                      try clear c28
                      try clear c28b0
                      try clear c29
                      try clear c29b0
                      try clear c29b1
                      try clear c30
                      try clear c30b0
                      try clear c30b1
                      try clear c31
                      try clear c31b0
                      try clear c31b1
                      try clear c32
                      try clear c32b0
                      try clear c32b1
                      try clear p33
                      try clear q33
                      try clear hx33
                      try clear qi33
                      try clear hf33
                      try clear hx21_0
                      try clear hx33_0
                      try clear p2
                      try clear p21
                      try clear p26
                      try clear p33
                      try clear p6
                      try clear q21
                      try clear q26
                      try clear q33
                      obtain ⟨kq, x8_11, rfl, HA, HJ11, HO_9, HB⟩ := hcut
                      cases kq with
                      | zero => exact absurd HA.out (by simp [procfs_zzNumbers.j2])
                      | succ kj11 =>
                        have H := HA.out
                        clear HA
                        simp only [procfs_zzNumbers.j2] at H
                        have H' := Aside0.mk H
                        clear H
                        go_wp2
                        go_loopg [8] kj11 (fun kq v8 w' => ∃ (x8_4 : Int), v8 = .int .i64 x8_4 ∧ Aside0 (procfs_zzNumbers.l2 kq a0 a1 a2 x7_1 x8_4 x9_2 x8_11 = some r) ∧ Aside0 (kq ≤ kj11) ∧ Aside0 (Kd.R Kd.string 9 w' w.heap.size (fun _ => True) (.slice Ao13 x9_2.length co13) x9_2) ∧ Aside0 (Below w.heap.size w w'))
                        case atStart => exact ⟨(x8_11), (by first | rfl | (simp; done) | (simp [*]; done)), H', ⟨Nat.le_refl _⟩, ⟨by (with_reducible repeat (first | apply Kd.R_alloc | apply Kd.R_drewN | apply Kd.R_drew)); exact HO_9.out⟩, ⟨by repeat (first | (with_reducible first | exact HB.out | apply below_alloc | apply pw_below_drewN | apply below_drew1) | exact HB.out)⟩⟩
                        case round =>
                          clear H'
                          try clear c1
                          try clear c2
                          try clear p2
                          try clear q2
                          try clear hx2
                          try clear qi2
                          try clear c3
                          try clear p3
                          try clear q3
                          try clear hx3
                          try clear qi3
                          try clear hf3
                          try clear c4
                          try clear c4b0
                          try clear c5
                          try clear c5b0
                          try clear c5b1
                          try clear c6
                          try clear c6b0
                          try clear c6b1
                          try clear p6
                          try clear c7
                          try clear c7b0
                          try clear c8
                          try clear c8b0
                          try clear c8b1
                          try clear c11
                          try clear c11b0
                          try clear c14
                          try clear c14b0
                          try clear c14b1
                          try clear c15
                          try clear c15b0
                          try clear c15b1
                          try clear c16
                          try clear c16b0
                          try clear c17
                          try clear c17b0
                          try clear c17b1
                          try clear c18
                          try clear c18b0
                          try clear c18b1
                          try clear c19
                          try clear c19b0
                          try clear c19b1
                          try clear c20
                          try clear c20b0
                          try clear c20b1
                          try clear p21
                          try clear q21
                          try clear hx21
                          try clear qi21
                          try clear hf21
                          try clear c23
                          try clear c24
                          try clear c24b0
                          try clear c25
                          try clear c25b0
                          try clear p26
                          try clear q26
                          try clear hx26
                          try clear c27
                          try clear c27b0
                          try clear c27b1
                          try clear c28
                          try clear c28b0
                          try clear c29
                          try clear c29b0
                          try clear c29b1
                          try clear c30
                          try clear c30b0
                          try clear c30b1
                          try clear c31
                          try clear c31b0
                          try clear c31b1
                          try clear c32
                          try clear c32b0
                          try clear c32b1
                          try clear p33
                          try clear q33
                          try clear hx33
                          try clear qi33
                          try clear hf33
                          try clear hx21_0
                          try clear hx33_0
                          try clear p2
                          try clear p21
                          try clear p26
                          try clear p3
                          try clear p33
                          try clear p6
                          try clear q2
                          try clear q21
                          try clear q26
                          try clear q3
                          try clear q33
                          obtain ⟨x8_4, rfl, HA, HK4, HO_9, HB⟩ := hrel
                          cases gk with
                          | zero => exact absurd HA.out (by simp [procfs_zzNumbers.l2])
                          | succ k4 =>
                            have H := HA.out
                            clear HA
                            simp only [procfs_zzNumbers.l2] at H
                            by_cases c36 : x8_4 < (a0.size : Int)
                            · rw [if_pos c36] at H
                              have c36b0 : decide (x8_4 < (a0.size : Int)) = true := decide_eq_true c36
                              clear c36
                              by_cases c37 : 0 ≤ x8_4
                              · rw [if_pos c37] at H
                                have c37b0 : decide (0 ≤ x8_4) = true := decide_eq_true c37
                                clear c37
                                by_cases c39 : (bt a0 x8_4) ≥ 48
                                · rw [if_pos c39] at H
                                  have c39b0 : decide (48 ≤ (bt a0 x8_4)) = true := decide_eq_true c39
                                  clear c39
                                  by_cases c41 : (bt a0 x8_4) ≤ 57
                                  · rw [if_pos c41] at H
                                    have c41b0 : decide ((bt a0 x8_4) ≤ 57) = true := decide_eq_true c41
                                    clear c41
                                    have H' := Aside0.mk H
                                    clear H
                                    have p38 : 0 ≤ (x8_4 : Int) := of_decide_eq_true (by first | (with_reducible assumption) | assumption)
                                    have q38 : x8_4 < (a0.size : Int) := of_decide_eq_true (by first | (with_reducible assumption) | assumption)
                                    have hx38 := bt_at a0 x8_4
                                    replace p38 := eq_true p38
                                    replace q38 := eq_true q38
                                    have p40 : 0 ≤ (x8_4 : Int) := of_decide_eq_true (by first | (with_reducible assumption) | assumption)
                                    have q40 : x8_4 < (a0.size : Int) := of_decide_eq_true (by first | (with_reducible assumption) | assumption)
                                    have hx40 := bt_at a0 x8_4
                                    replace p40 := eq_true p40
                                    replace q40 := eq_true q40
                                    go_wp2
                                    go_roundg k4
                                    case measure => have := HK1.out; have := HK2.out; have := HJ11.out; have := HK4.out; omega
                                    case rel => exact ⟨(wrap64 (x8_4 + 1)), (by first | rfl | (simp; done) | (simp [*]; done)), H', ⟨by have := HK1.out; have := HK2.out; have := HJ11.out; have := HK4.out; omega⟩, ⟨by (with_reducible repeat (first | apply Kd.R_alloc | apply Kd.R_drewN | apply Kd.R_drew)); exact HO_9.out⟩, ⟨by repeat (first | (with_reducible first | exact HB.out | apply below_alloc | apply pw_below_drewN | apply below_drew1) | exact HB.out)⟩⟩
                                  · rw [if_neg c41] at H
                                    have c41b0 : decide ((bt a0 x8_4) ≤ 57) = false := decide_eq_false c41
                                    clear c41
                                    by_cases c42 : x8_4 = x8_11
                                    · rw [if_pos c42] at H
                                      have c42b0 : (x8_4 == x8_11) = true := beq_iff_eq.mpr c42
                                      have c42b1 : (x8_4 != x8_11) = false := bne_eq_false_iff_eq.mpr c42
                                      clear c42
                                      by_cases c43 : (x9_2.length : Int) > a2
                                      · rw [if_pos c43] at H
                                        have c43b0 : decide (a2 < (x9_2.length : Int)) = true := decide_eq_true c43
                                        clear c43
                                        by_cases c44 : 0 ≤ x7_1
                                        · rw [if_pos c44] at H
                                          have c44b0 := eq_true c44
                                          have c44b1 : decide (0 ≤ x7_1) = true := decide_eq_true c44
                                          clear c44
                                          by_cases c45 : x7_1 ≤ x8_4
                                          · rw [if_pos c45] at H
                                            have c45b0 := eq_true c45
                                            have c45b1 : decide (x7_1 ≤ x8_4) = true := decide_eq_true c45
                                            clear c45
                                            by_cases c46 : x8_4 ≤ (a0.size : Int)
                                            · rw [if_pos c46] at H
                                              have c46b0 := eq_true c46
                                              have c46b1 : decide (x8_4 ≤ (a0.size : Int)) = true := decide_eq_true c46
                                              clear c46
                                              by_cases c47 : 0 < (x9_2.length : Int)
                                              · rw [if_pos c47] at H
                                                have c47b0 : decide (0 < (x9_2.length : Int)) = true := decide_eq_true c47
                                                have c47b1 : decide (0 < x9_2.length) = true := decide_eq_true (by omega)
                                                clear c47
                                                obtain ⟨y130, hy130⟩ : ∃ y_ : List ByteArray, y_ = (x9_2.set (0 : Int).toNat (a0.extract (x7_1 : Int).toNat (x8_4 : Int).toNat)) := ⟨_, rfl⟩
                                                replace H : (some y130) = some r := by first | (rw [hy130]; with_reducible exact H) | (have H2_ := (Option.bind_some _ _).symm.trans H; rw [hy130]; with_reducible exact H2_) | (have H2_ := (Option.bind_some _ _).symm.trans H; with_reducible exact H2_) | with_reducible exact H | (rw [hy130]; exact H) | exact H
                                                have Ny130 := Aside0.mk hy130
                                                clear hy130
                                                obtain rfl := Option.some.inj H
                                                have p38 : 0 ≤ (x8_4 : Int) := of_decide_eq_true (by first | (with_reducible assumption) | assumption)
                                                have q38 : x8_4 < (a0.size : Int) := of_decide_eq_true (by first | (with_reducible assumption) | assumption)
                                                have hx38 := bt_at a0 x8_4
                                                replace p38 := eq_true p38
                                                replace q38 := eq_true q38
                                                have p40 : 0 ≤ (x8_4 : Int) := of_decide_eq_true (by first | (with_reducible assumption) | assumption)
                                                have q40 : x8_4 < (a0.size : Int) := of_decide_eq_true (by first | (with_reducible assumption) | assumption)
                                                have hx40 := bt_at a0 x8_4
                                                replace p40 := eq_true p40
                                                replace q40 := eq_true q40
                                                have p48 : 0 ≤ (0 : Int) := (by omega)
                                                have q48 : (0 : Int) < ((x9_2.length : Int) : Int) := of_decide_eq_true (by first | (with_reducible assumption) | assumption)
                                                have qi48 : (0 < x9_2.length) = True := eq_true (by omega)
                                                obtain ⟨go48, co48, eo48, gb48, gl48, cl48, HG48⟩ := Kd.R_form HO_9.out (by omega)
                                                (first | cases eo48 | (injection eo48 with ea_ en_ ec_; (first | subst ea_ | (injection ea_ with ea_; subst ea_)); subst ec_; clear en_))
                                                have GB48 := Aside0.mk gb48
                                                have GG48 := Aside0.mk HG48
                                                clear gb48 gl48 HG48
                                                obtain ⟨hx48_0, hf48_0⟩ := Kd.R_celln (⟨#[]⟩ : ByteArray) HO_9.out (0 : Int) p48 q48
                                                (try rw [show ((0 : Int)).toNat = 0 from rfl] at hx48_0)
                                                (try simp only [Nat.reduceMul, Nat.zero_mul, Nat.zero_add, Nat.reduceAdd] at hx48_0)
                                                (try rw [show ((0 : Int)).toNat = 0 from rfl] at hf48_0)
                                                (try simp only [Nat.reduceMul, Nat.zero_mul, Nat.zero_add, Nat.reduceAdd] at hf48_0)
                                                replace p48 := eq_true p48
                                                replace q48 := eq_true q48
                                                have HP49 := Kd.R_putg HO_9.out (0 : Int) (a0.extract (x7_1 : Int).toNat (x8_4 : Int).toNat)
                                                go_wp2_with (first | ((with_reducible refine gate_store (t := 9) (p := 91) rfl ?_); refine store_event (t := 9) (p := 91) (v := ?vo_w50) (w1 := (wr.setCell ⟨go48, (0 : Int).toNat, none⟩ (.string (a0.extract (x7_1 : Int).toNat (x8_4 : Int).toNat)))) ?hg ?ho ?hn ?hr ?_; (case ho => rfl); (case hg => rfl); (case hn => rfl); (case hr => first | (go_simp; done) | (go_simp; rfl)); intro w50 hw; have hg : wr.grownBy w50 (some go48) := (by rw [hw]; exact HP49.2); have hp_ : Kd.R Kd.string 9 w50 w.heap.size (fun _ => True) (.slice (some ⟨go48, 0, none⟩) x9_2.length co13) y130 := (by rw [hw, Ny130.out]; exact HP49.1); clear HP49; have n0_ := Aside0.mk (hp_); have n1_ := Aside0.mk ((by rw [hw]; exact below_set (HB.out) GB48.out : Below w.heap.size w w50)); clear HO_9; clear HB; have HO_9 := n0_; have HB := n1_; clear n0_ n1_; clear hg hw hp_))
                                                go_ret
                                                exact ⟨_, by first | rfl | (simp [errW_none, errW_some] <;> rfl) | (simp [*, errW_none, errW_some] <;> rfl), by (with_reducible repeat (first | apply Kd.R_alloc | apply Kd.R_drewN | apply Kd.R_drew)); exact HO_9.out, by repeat (first | (with_reducible first | exact HB.out | apply below_alloc | apply pw_below_drewN | apply below_drew1) | exact HB.out)⟩
                                              · rw [if_neg c47] at H
                                                exact absurd H (by simp)
                                            · rw [if_neg c46] at H
                                              exact absurd H (by simp)
                                          · rw [if_neg c45] at H
                                            exact absurd H (by simp)
                                        · rw [if_neg c44] at H
                                          exact absurd H (by simp)
                                      · rw [if_neg c43] at H
                                        have c43b0 : decide (a2 < (x9_2.length : Int)) = false := decide_eq_false c43
                                        clear c43
                                        have H' := Aside0.mk H
                                        clear H
                                        have p38 : 0 ≤ (x8_4 : Int) := of_decide_eq_true (by first | (with_reducible assumption) | assumption)
                                        have q38 : x8_4 < (a0.size : Int) := of_decide_eq_true (by first | (with_reducible assumption) | assumption)
                                        have hx38 := bt_at a0 x8_4
                                        replace p38 := eq_true p38
                                        replace q38 := eq_true q38
                                        have p40 : 0 ≤ (x8_4 : Int) := of_decide_eq_true (by first | (with_reducible assumption) | assumption)
                                        have q40 : x8_4 < (a0.size : Int) := of_decide_eq_true (by first | (with_reducible assumption) | assumption)
                                        have hx40 := bt_at a0 x8_4
                                        replace p40 := eq_true p40
                                        replace q40 := eq_true q40
                                        go_wp2
                                        go_roundg k4
                                        case measure => have := HK1.out; have := HK2.out; have := HJ11.out; have := HK4.out; omega
                                        case rel => exact ⟨(wrap64 (x7_1 + 1)), (by first | rfl | (simp; done) | (simp [*]; done)), H', ⟨by have := HK1.out; have := HK2.out; have := HJ11.out; have := HK4.out; omega⟩, ⟨by repeat (first | (with_reducible first | exact HB.out | apply below_alloc | apply pw_below_drewN | apply below_drew1) | exact HB.out)⟩⟩
                                    · rw [if_neg c42] at H
                                      have c42b0 : (x8_4 == x8_11) = false := beq_eq_false_iff_ne.mpr c42
                                      have c42b1 : (x8_4 != x8_11) = true := bne_iff_ne.mpr c42
                                      by_cases c51 : 0 ≤ x8_11
                                      · rw [if_pos c51] at H
                                        have c51b0 := eq_true c51
                                        have c51b1 : decide (0 ≤ x8_11) = true := decide_eq_true c51
                                        clear c51
                                        by_cases c52 : x8_11 ≤ x8_4
                                        · rw [if_pos c52] at H
                                          have c52b0 := eq_true c52
                                          have c52b1 : decide (x8_11 ≤ x8_4) = true := decide_eq_true c52
                                          clear c52
                                          by_cases c53 : x8_4 ≤ (a0.size : Int)
                                          · rw [if_pos c53] at H
                                            have c53b0 := eq_true c53
                                            have c53b1 : decide (x8_4 ≤ (a0.size : Int)) = true := decide_eq_true c53
                                            clear c53
                                            by_cases c54 : x9_2.length < 8796093022208
                                            · rw [if_pos c54] at H
                                              have LMc54 := Aside0.mk c54
                                              clear c54
                                              obtain ⟨y131, hy131⟩ : ∃ y_ : List ByteArray, y_ = (x9_2 ++ [a0.extract (x8_11 : Int).toNat (x8_4 : Int).toNat]) := ⟨_, rfl⟩
                                              replace H : (procfs_zzNumbers.l1 k4 a0 a1 a2 x7_1 x8_4 y131) = some r := by first | (rw [hy131]; with_reducible exact H) | (have H2_ := (Option.bind_some _ _).symm.trans H; rw [hy131]; with_reducible exact H2_) | (have H2_ := (Option.bind_some _ _).symm.trans H; with_reducible exact H2_) | with_reducible exact H | (rw [hy131]; exact H) | exact H
                                              have Ny131 := Aside0.mk hy131
                                              clear hy131
                                              have H' := Aside0.mk H
                                              clear H
                                              have p38 : 0 ≤ (x8_4 : Int) := of_decide_eq_true (by first | (with_reducible assumption) | assumption)
                                              have q38 : x8_4 < (a0.size : Int) := of_decide_eq_true (by first | (with_reducible assumption) | assumption)
                                              have hx38 := bt_at a0 x8_4
                                              replace p38 := eq_true p38
                                              replace q38 := eq_true q38
                                              have p40 : 0 ≤ (x8_4 : Int) := of_decide_eq_true (by first | (with_reducible assumption) | assumption)
                                              have q40 : x8_4 < (a0.size : Int) := of_decide_eq_true (by first | (with_reducible assumption) | assumption)
                                              have hx40 := bt_at a0 x8_4
                                              replace p40 := eq_true p40
                                              replace q40 := eq_true q40
                                              go_wp2_with (first | ((with_reducible refine gate_builtin (b := .append) (xs := #[.tmp 75, .tmp 80]) rfl ?_); at_builtin; refine Kd.R_append Kd.string (w0 := w) w.heap.size rfl (.tmp 75) (.tmp 80) 56 9 (.string ⟨#[]⟩) 16 rfl Tryd.underlying56 info9 rfl (by decide) (by omega) (.slice Ao13 x9_2.length co13) x9_2 (a0.extract (x8_11 : Int).toNat (x8_4 : Int).toNat) [.string (a0.extract (x8_11 : Int).toNat (x8_4 : Int).toNat)] (fun _ => True) (fun _ => False) rfl rfl ?aP (fun _ hk => hk.elim) ?aF ?aO ?aB ?aS ?aL ?_; (case aP => exact rfl); (case aB => exact (by repeat (first | (with_reducible first | exact HB.out | apply below_alloc | apply pw_below_drewN | apply below_drew1) | exact HB.out))); (case aF => exact (fun _ _ => trivial)); (case aO => exact (by (with_reducible repeat (first | apply Kd.R_alloc | apply Kd.R_drewN | apply Kd.R_drew)); exact HO_9.out)); (case aS => exact (below_size (by repeat (first | (with_reducible first | exact HB.out | apply below_alloc | apply pw_below_drewN | apply below_drew1) | exact HB.out)))); (case aL => have := LMc54.out; omega); intro v132 w55 ho hb hg hat; rw [← Ny131.out] at ho; have n0_ := Aside0.mk (hb); have n1_ := Aside0.mk (ho); clear HB; clear HO_9; have HB := n0_; have HO133 := n1_; clear n0_ n1_; clear ho hb hg hat))
                                              go_roundg k4
                                              case measure => have := HK1.out; have := HK2.out; have := HJ11.out; have := HK4.out; omega
                                              case rel => exact ⟨(x8_4), (y131), (by first | rfl | (simp; done) | (simp [*]; done)), H', ⟨by have := HK1.out; have := HK2.out; have := HJ11.out; have := HK4.out; omega⟩, ⟨by (with_reducible repeat (first | apply Kd.R_alloc | apply Kd.R_drewN | apply Kd.R_drew)); exact HO133.out⟩, ⟨by repeat (first | (with_reducible first | exact HB.out | apply below_alloc | apply pw_below_drewN | apply below_drew1) | exact HB.out)⟩⟩
                                            · rw [if_neg c54] at H
                                              exact absurd H (by simp)
                                          · rw [if_neg c53] at H
                                            exact absurd H (by simp)
                                        · rw [if_neg c52] at H
                                          exact absurd H (by simp)
                                      · rw [if_neg c51] at H
                                        exact absurd H (by simp)
                                · rw [if_neg c39] at H
                                  have c39b0 : decide (48 ≤ (bt a0 x8_4)) = false := decide_eq_false c39
                                  clear c39
                                  by_cases c56 : x8_4 = x8_11
                                  · rw [if_pos c56] at H
                                    have c56b0 : (x8_4 == x8_11) = true := beq_iff_eq.mpr c56
                                    have c56b1 : (x8_4 != x8_11) = false := bne_eq_false_iff_eq.mpr c56
                                    clear c56
                                    by_cases c57 : (x9_2.length : Int) > a2
                                    · rw [if_pos c57] at H
                                      have c57b0 : decide (a2 < (x9_2.length : Int)) = true := decide_eq_true c57
                                      clear c57
                                      by_cases c58 : 0 ≤ x7_1
                                      · rw [if_pos c58] at H
                                        have c58b0 := eq_true c58
                                        have c58b1 : decide (0 ≤ x7_1) = true := decide_eq_true c58
                                        clear c58
                                        by_cases c59 : x7_1 ≤ x8_4
                                        · rw [if_pos c59] at H
                                          have c59b0 := eq_true c59
                                          have c59b1 : decide (x7_1 ≤ x8_4) = true := decide_eq_true c59
                                          clear c59
                                          by_cases c60 : x8_4 ≤ (a0.size : Int)
                                          · rw [if_pos c60] at H
                                            have c60b0 := eq_true c60
                                            have c60b1 : decide (x8_4 ≤ (a0.size : Int)) = true := decide_eq_true c60
                                            clear c60
                                            by_cases c61 : 0 < (x9_2.length : Int)
                                            · rw [if_pos c61] at H
                                              have c61b0 : decide (0 < (x9_2.length : Int)) = true := decide_eq_true c61
                                              have c61b1 : decide (0 < x9_2.length) = true := decide_eq_true (by omega)
                                              clear c61
                                              obtain ⟨y134, hy134⟩ : ∃ y_ : List ByteArray, y_ = (x9_2.set (0 : Int).toNat (a0.extract (x7_1 : Int).toNat (x8_4 : Int).toNat)) := ⟨_, rfl⟩
                                              replace H : (some y134) = some r := by first | (rw [hy134]; with_reducible exact H) | (have H2_ := (Option.bind_some _ _).symm.trans H; rw [hy134]; with_reducible exact H2_) | (have H2_ := (Option.bind_some _ _).symm.trans H; with_reducible exact H2_) | with_reducible exact H | (rw [hy134]; exact H) | exact H
                                              have Ny134 := Aside0.mk hy134
                                              clear hy134
                                              obtain rfl := Option.some.inj H
                                              have p38 : 0 ≤ (x8_4 : Int) := of_decide_eq_true (by first | (with_reducible assumption) | assumption)
                                              have q38 : x8_4 < (a0.size : Int) := of_decide_eq_true (by first | (with_reducible assumption) | assumption)
                                              have hx38 := bt_at a0 x8_4
                                              replace p38 := eq_true p38
                                              replace q38 := eq_true q38
                                              have p62 : 0 ≤ (0 : Int) := (by omega)
                                              have q62 : (0 : Int) < ((x9_2.length : Int) : Int) := of_decide_eq_true (by first | (with_reducible assumption) | assumption)
                                              have qi62 : (0 < x9_2.length) = True := eq_true (by omega)
                                              obtain ⟨go62, co62, eo62, gb62, gl62, cl62, HG62⟩ := Kd.R_form HO_9.out (by omega)
                                              (first | cases eo62 | (injection eo62 with ea_ en_ ec_; (first | subst ea_ | (injection ea_ with ea_; subst ea_)); subst ec_; clear en_))
                                              have GB62 := Aside0.mk gb62
                                              have GG62 := Aside0.mk HG62
                                              clear gb62 gl62 HG62
                                              obtain ⟨hx62_0, hf62_0⟩ := Kd.R_celln (⟨#[]⟩ : ByteArray) HO_9.out (0 : Int) p62 q62
                                              (try rw [show ((0 : Int)).toNat = 0 from rfl] at hx62_0)
                                              (try simp only [Nat.reduceMul, Nat.zero_mul, Nat.zero_add, Nat.reduceAdd] at hx62_0)
                                              (try rw [show ((0 : Int)).toNat = 0 from rfl] at hf62_0)
                                              (try simp only [Nat.reduceMul, Nat.zero_mul, Nat.zero_add, Nat.reduceAdd] at hf62_0)
                                              replace p62 := eq_true p62
                                              replace q62 := eq_true q62
                                              have HP63 := Kd.R_putg HO_9.out (0 : Int) (a0.extract (x7_1 : Int).toNat (x8_4 : Int).toNat)
                                              go_wp2_with (first | ((with_reducible refine gate_store (t := 9) (p := 91) rfl ?_); refine store_event (t := 9) (p := 91) (v := ?vo_w64) (w1 := (wr.setCell ⟨go62, (0 : Int).toNat, none⟩ (.string (a0.extract (x7_1 : Int).toNat (x8_4 : Int).toNat)))) ?hg ?ho ?hn ?hr ?_; (case ho => rfl); (case hg => rfl); (case hn => rfl); (case hr => first | (go_simp; done) | (go_simp; rfl)); intro w64 hw; have hg : wr.grownBy w64 (some go62) := (by rw [hw]; exact HP63.2); have hp_ : Kd.R Kd.string 9 w64 w.heap.size (fun _ => True) (.slice (some ⟨go62, 0, none⟩) x9_2.length co13) y134 := (by rw [hw, Ny134.out]; exact HP63.1); clear HP63; have n0_ := Aside0.mk (hp_); have n1_ := Aside0.mk ((by rw [hw]; exact below_set (HB.out) GB62.out : Below w.heap.size w w64)); clear HO_9; clear HB; have HO_9 := n0_; have HB := n1_; clear n0_ n1_; clear hg hw hp_))
                                              go_ret
                                              exact ⟨_, by first | rfl | (simp [errW_none, errW_some] <;> rfl) | (simp [*, errW_none, errW_some] <;> rfl), by (with_reducible repeat (first | apply Kd.R_alloc | apply Kd.R_drewN | apply Kd.R_drew)); exact HO_9.out, by repeat (first | (with_reducible first | exact HB.out | apply below_alloc | apply pw_below_drewN | apply below_drew1) | exact HB.out)⟩
                                            · rw [if_neg c61] at H
                                              exact absurd H (by simp)
                                          · rw [if_neg c60] at H
                                            exact absurd H (by simp)
                                        · rw [if_neg c59] at H
                                          exact absurd H (by simp)
                                      · rw [if_neg c58] at H
                                        exact absurd H (by simp)
                                    · rw [if_neg c57] at H
                                      have c57b0 : decide (a2 < (x9_2.length : Int)) = false := decide_eq_false c57
                                      clear c57
                                      have H' := Aside0.mk H
                                      clear H
                                      have p38 : 0 ≤ (x8_4 : Int) := of_decide_eq_true (by first | (with_reducible assumption) | assumption)
                                      have q38 : x8_4 < (a0.size : Int) := of_decide_eq_true (by first | (with_reducible assumption) | assumption)
                                      have hx38 := bt_at a0 x8_4
                                      replace p38 := eq_true p38
                                      replace q38 := eq_true q38
                                      go_wp2
                                      go_roundg k4
                                      case measure => have := HK1.out; have := HK2.out; have := HJ11.out; have := HK4.out; omega
                                      case rel => exact ⟨(wrap64 (x7_1 + 1)), (by first | rfl | (simp; done) | (simp [*]; done)), H', ⟨by have := HK1.out; have := HK2.out; have := HJ11.out; have := HK4.out; omega⟩, ⟨by repeat (first | (with_reducible first | exact HB.out | apply below_alloc | apply pw_below_drewN | apply below_drew1) | exact HB.out)⟩⟩
                                  · rw [if_neg c56] at H
                                    have c56b0 : (x8_4 == x8_11) = false := beq_eq_false_iff_ne.mpr c56
                                    have c56b1 : (x8_4 != x8_11) = true := bne_iff_ne.mpr c56
                                    by_cases c65 : 0 ≤ x8_11
                                    · rw [if_pos c65] at H
                                      have c65b0 := eq_true c65
                                      have c65b1 : decide (0 ≤ x8_11) = true := decide_eq_true c65
                                      clear c65
                                      by_cases c66 : x8_11 ≤ x8_4
                                      · rw [if_pos c66] at H
                                        have c66b0 := eq_true c66
                                        have c66b1 : decide (x8_11 ≤ x8_4) = true := decide_eq_true c66
                                        clear c66
                                        by_cases c67 : x8_4 ≤ (a0.size : Int)
                                        · rw [if_pos c67] at H
                                          have c67b0 := eq_true c67
                                          have c67b1 : decide (x8_4 ≤ (a0.size : Int)) = true := decide_eq_true c67
                                          clear c67
                                          by_cases c68 : x9_2.length < 8796093022208
                                          · rw [if_pos c68] at H
                                            have LMc68 := Aside0.mk c68
                                            clear c68
                                            obtain ⟨y135, hy135⟩ : ∃ y_ : List ByteArray, y_ = (x9_2 ++ [a0.extract (x8_11 : Int).toNat (x8_4 : Int).toNat]) := ⟨_, rfl⟩
                                            replace H : (procfs_zzNumbers.l1 k4 a0 a1 a2 x7_1 x8_4 y135) = some r := by first | (rw [hy135]; with_reducible exact H) | (have H2_ := (Option.bind_some _ _).symm.trans H; rw [hy135]; with_reducible exact H2_) | (have H2_ := (Option.bind_some _ _).symm.trans H; with_reducible exact H2_) | with_reducible exact H | (rw [hy135]; exact H) | exact H
                                            have Ny135 := Aside0.mk hy135
                                            clear hy135
                                            have H' := Aside0.mk H
                                            clear H
                                            have p38 : 0 ≤ (x8_4 : Int) := of_decide_eq_true (by first | (with_reducible assumption) | assumption)
                                            have q38 : x8_4 < (a0.size : Int) := of_decide_eq_true (by first | (with_reducible assumption) | assumption)
                                            have hx38 := bt_at a0 x8_4
                                            replace p38 := eq_true p38
                                            replace q38 := eq_true q38
                                            go_wp2_with (first | ((with_reducible refine gate_builtin (b := .append) (xs := #[.tmp 75, .tmp 80]) rfl ?_); at_builtin; refine Kd.R_append Kd.string (w0 := w) w.heap.size rfl (.tmp 75) (.tmp 80) 56 9 (.string ⟨#[]⟩) 16 rfl Tryd.underlying56 info9 rfl (by decide) (by omega) (.slice Ao13 x9_2.length co13) x9_2 (a0.extract (x8_11 : Int).toNat (x8_4 : Int).toNat) [.string (a0.extract (x8_11 : Int).toNat (x8_4 : Int).toNat)] (fun _ => True) (fun _ => False) rfl rfl ?aP (fun _ hk => hk.elim) ?aF ?aO ?aB ?aS ?aL ?_; (case aP => exact rfl); (case aB => exact (by repeat (first | (with_reducible first | exact HB.out | apply below_alloc | apply pw_below_drewN | apply below_drew1) | exact HB.out))); (case aF => exact (fun _ _ => trivial)); (case aO => exact (by (with_reducible repeat (first | apply Kd.R_alloc | apply Kd.R_drewN | apply Kd.R_drew)); exact HO_9.out)); (case aS => exact (below_size (by repeat (first | (with_reducible first | exact HB.out | apply below_alloc | apply pw_below_drewN | apply below_drew1) | exact HB.out)))); (case aL => have := LMc68.out; omega); intro v136 w69 ho hb hg hat; rw [← Ny135.out] at ho; have n0_ := Aside0.mk (hb); have n1_ := Aside0.mk (ho); clear HB; clear HO_9; have HB := n0_; have HO137 := n1_; clear n0_ n1_; clear ho hb hg hat))
                                            go_roundg k4
                                            case measure => have := HK1.out; have := HK2.out; have := HJ11.out; have := HK4.out; omega
                                            case rel => exact ⟨(x8_4), (y135), (by first | rfl | (simp; done) | (simp [*]; done)), H', ⟨by have := HK1.out; have := HK2.out; have := HJ11.out; have := HK4.out; omega⟩, ⟨by (with_reducible repeat (first | apply Kd.R_alloc | apply Kd.R_drewN | apply Kd.R_drew)); exact HO137.out⟩, ⟨by repeat (first | (with_reducible first | exact HB.out | apply below_alloc | apply pw_below_drewN | apply below_drew1) | exact HB.out)⟩⟩
                                          · rw [if_neg c68] at H
                                            exact absurd H (by simp)
                                        · rw [if_neg c67] at H
                                          exact absurd H (by simp)
                                      · rw [if_neg c66] at H
                                        exact absurd H (by simp)
                                    · rw [if_neg c65] at H
                                      exact absurd H (by simp)
                              · rw [if_neg c37] at H
                                exact absurd H (by simp)
                            · rw [if_neg c36] at H
                              have c36b0 : decide (x8_4 < (a0.size : Int)) = false := decide_eq_false c36
                              clear c36
                              by_cases c70 : x8_4 = x8_11
                              · rw [if_pos c70] at H
                                have c70b0 : (x8_4 == x8_11) = true := beq_iff_eq.mpr c70
                                have c70b1 : (x8_4 != x8_11) = false := bne_eq_false_iff_eq.mpr c70
                                clear c70
                                by_cases c71 : (x9_2.length : Int) > a2
                                · rw [if_pos c71] at H
                                  have c71b0 : decide (a2 < (x9_2.length : Int)) = true := decide_eq_true c71
                                  clear c71
                                  by_cases c72 : 0 ≤ x7_1
                                  · rw [if_pos c72] at H
                                    have c72b0 := eq_true c72
                                    have c72b1 : decide (0 ≤ x7_1) = true := decide_eq_true c72
                                    clear c72
                                    by_cases c73 : x7_1 ≤ x8_4
                                    · rw [if_pos c73] at H
                                      have c73b0 := eq_true c73
                                      have c73b1 : decide (x7_1 ≤ x8_4) = true := decide_eq_true c73
                                      clear c73
                                      by_cases c74 : x8_4 ≤ (a0.size : Int)
                                      · rw [if_pos c74] at H
                                        have c74b0 := eq_true c74
                                        have c74b1 : decide (x8_4 ≤ (a0.size : Int)) = true := decide_eq_true c74
                                        clear c74
                                        by_cases c75 : 0 < (x9_2.length : Int)
                                        · rw [if_pos c75] at H
                                          have c75b0 : decide (0 < (x9_2.length : Int)) = true := decide_eq_true c75
                                          have c75b1 : decide (0 < x9_2.length) = true := decide_eq_true (by omega)
                                          clear c75
                                          obtain ⟨y138, hy138⟩ : ∃ y_ : List ByteArray, y_ = (x9_2.set (0 : Int).toNat (a0.extract (x7_1 : Int).toNat (x8_4 : Int).toNat)) := ⟨_, rfl⟩
                                          replace H : (some y138) = some r := by first | (rw [hy138]; with_reducible exact H) | (have H2_ := (Option.bind_some _ _).symm.trans H; rw [hy138]; with_reducible exact H2_) | (have H2_ := (Option.bind_some _ _).symm.trans H; with_reducible exact H2_) | with_reducible exact H | (rw [hy138]; exact H) | exact H
                                          have Ny138 := Aside0.mk hy138
                                          clear hy138
                                          obtain rfl := Option.some.inj H
                                          have p76 : 0 ≤ (0 : Int) := (by omega)
                                          have q76 : (0 : Int) < ((x9_2.length : Int) : Int) := of_decide_eq_true (by first | (with_reducible assumption) | assumption)
                                          have qi76 : (0 < x9_2.length) = True := eq_true (by omega)
                                          obtain ⟨go76, co76, eo76, gb76, gl76, cl76, HG76⟩ := Kd.R_form HO_9.out (by omega)
                                          (first | cases eo76 | (injection eo76 with ea_ en_ ec_; (first | subst ea_ | (injection ea_ with ea_; subst ea_)); subst ec_; clear en_))
                                          have GB76 := Aside0.mk gb76
                                          have GG76 := Aside0.mk HG76
                                          clear gb76 gl76 HG76
                                          obtain ⟨hx76_0, hf76_0⟩ := Kd.R_celln (⟨#[]⟩ : ByteArray) HO_9.out (0 : Int) p76 q76
                                          (try rw [show ((0 : Int)).toNat = 0 from rfl] at hx76_0)
                                          (try simp only [Nat.reduceMul, Nat.zero_mul, Nat.zero_add, Nat.reduceAdd] at hx76_0)
                                          (try rw [show ((0 : Int)).toNat = 0 from rfl] at hf76_0)
                                          (try simp only [Nat.reduceMul, Nat.zero_mul, Nat.zero_add, Nat.reduceAdd] at hf76_0)
                                          replace p76 := eq_true p76
                                          replace q76 := eq_true q76
                                          have HP77 := Kd.R_putg HO_9.out (0 : Int) (a0.extract (x7_1 : Int).toNat (x8_4 : Int).toNat)
                                          go_wp2_with (first | ((with_reducible refine gate_store (t := 9) (p := 91) rfl ?_); refine store_event (t := 9) (p := 91) (v := ?vo_w78) (w1 := (wr.setCell ⟨go76, (0 : Int).toNat, none⟩ (.string (a0.extract (x7_1 : Int).toNat (x8_4 : Int).toNat)))) ?hg ?ho ?hn ?hr ?_; (case ho => rfl); (case hg => rfl); (case hn => rfl); (case hr => first | (go_simp; done) | (go_simp; rfl)); intro w78 hw; have hg : wr.grownBy w78 (some go76) := (by rw [hw]; exact HP77.2); have hp_ : Kd.R Kd.string 9 w78 w.heap.size (fun _ => True) (.slice (some ⟨go76, 0, none⟩) x9_2.length co13) y138 := (by rw [hw, Ny138.out]; exact HP77.1); clear HP77; have n0_ := Aside0.mk (hp_); have n1_ := Aside0.mk ((by rw [hw]; exact below_set (HB.out) GB76.out : Below w.heap.size w w78)); clear HO_9; clear HB; have HO_9 := n0_; have HB := n1_; clear n0_ n1_; clear hg hw hp_))
                                          go_ret
                                          exact ⟨_, by first | rfl | (simp [errW_none, errW_some] <;> rfl) | (simp [*, errW_none, errW_some] <;> rfl), by (with_reducible repeat (first | apply Kd.R_alloc | apply Kd.R_drewN | apply Kd.R_drew)); exact HO_9.out, by repeat (first | (with_reducible first | exact HB.out | apply below_alloc | apply pw_below_drewN | apply below_drew1) | exact HB.out)⟩
                                        · rw [if_neg c75] at H
                                          exact absurd H (by simp)
                                      · rw [if_neg c74] at H
                                        exact absurd H (by simp)
                                    · rw [if_neg c73] at H
                                      exact absurd H (by simp)
                                  · rw [if_neg c72] at H
                                    exact absurd H (by simp)
                                · rw [if_neg c71] at H
                                  have c71b0 : decide (a2 < (x9_2.length : Int)) = false := decide_eq_false c71
                                  clear c71
                                  have H' := Aside0.mk H
                                  clear H
                                  go_wp2
                                  go_roundg k4
                                  case measure => have := HK1.out; have := HK2.out; have := HJ11.out; have := HK4.out; omega
                                  case rel => exact ⟨(wrap64 (x7_1 + 1)), (by first | rfl | (simp; done) | (simp [*]; done)), H', ⟨by have := HK1.out; have := HK2.out; have := HJ11.out; have := HK4.out; omega⟩, ⟨by repeat (first | (with_reducible first | exact HB.out | apply below_alloc | apply pw_below_drewN | apply below_drew1) | exact HB.out)⟩⟩
                              · rw [if_neg c70] at H
                                have c70b0 : (x8_4 == x8_11) = false := beq_eq_false_iff_ne.mpr c70
                                have c70b1 : (x8_4 != x8_11) = true := bne_iff_ne.mpr c70
                                by_cases c79 : 0 ≤ x8_11
                                · rw [if_pos c79] at H
                                  have c79b0 := eq_true c79
                                  have c79b1 : decide (0 ≤ x8_11) = true := decide_eq_true c79
                                  clear c79
                                  by_cases c80 : x8_11 ≤ x8_4
                                  · rw [if_pos c80] at H
                                    have c80b0 := eq_true c80
                                    have c80b1 : decide (x8_11 ≤ x8_4) = true := decide_eq_true c80
                                    clear c80
                                    by_cases c81 : x8_4 ≤ (a0.size : Int)
                                    · rw [if_pos c81] at H
                                      have c81b0 := eq_true c81
                                      have c81b1 : decide (x8_4 ≤ (a0.size : Int)) = true := decide_eq_true c81
                                      clear c81
                                      by_cases c82 : x9_2.length < 8796093022208
                                      · rw [if_pos c82] at H
                                        have LMc82 := Aside0.mk c82
                                        clear c82
                                        obtain ⟨y139, hy139⟩ : ∃ y_ : List ByteArray, y_ = (x9_2 ++ [a0.extract (x8_11 : Int).toNat (x8_4 : Int).toNat]) := ⟨_, rfl⟩
                                        replace H : (procfs_zzNumbers.l1 k4 a0 a1 a2 x7_1 x8_4 y139) = some r := by first | (rw [hy139]; with_reducible exact H) | (have H2_ := (Option.bind_some _ _).symm.trans H; rw [hy139]; with_reducible exact H2_) | (have H2_ := (Option.bind_some _ _).symm.trans H; with_reducible exact H2_) | with_reducible exact H | (rw [hy139]; exact H) | exact H
                                        have Ny139 := Aside0.mk hy139
                                        clear hy139
                                        have H' := Aside0.mk H
                                        clear H
                                        go_wp2_with (first | ((with_reducible refine gate_builtin (b := .append) (xs := #[.tmp 75, .tmp 80]) rfl ?_); at_builtin; refine Kd.R_append Kd.string (w0 := w) w.heap.size rfl (.tmp 75) (.tmp 80) 56 9 (.string ⟨#[]⟩) 16 rfl Tryd.underlying56 info9 rfl (by decide) (by omega) (.slice Ao13 x9_2.length co13) x9_2 (a0.extract (x8_11 : Int).toNat (x8_4 : Int).toNat) [.string (a0.extract (x8_11 : Int).toNat (x8_4 : Int).toNat)] (fun _ => True) (fun _ => False) rfl rfl ?aP (fun _ hk => hk.elim) ?aF ?aO ?aB ?aS ?aL ?_; (case aP => exact rfl); (case aB => exact (by repeat (first | (with_reducible first | exact HB.out | apply below_alloc | apply pw_below_drewN | apply below_drew1) | exact HB.out))); (case aF => exact (fun _ _ => trivial)); (case aO => exact (by (with_reducible repeat (first | apply Kd.R_alloc | apply Kd.R_drewN | apply Kd.R_drew)); exact HO_9.out)); (case aS => exact (below_size (by repeat (first | (with_reducible first | exact HB.out | apply below_alloc | apply pw_below_drewN | apply below_drew1) | exact HB.out)))); (case aL => have := LMc82.out; omega); intro v140 w83 ho hb hg hat; rw [← Ny139.out] at ho; have n0_ := Aside0.mk (hb); have n1_ := Aside0.mk (ho); clear HB; clear HO_9; have HB := n0_; have HO141 := n1_; clear n0_ n1_; clear ho hb hg hat))
                                        go_roundg k4
                                        case measure => have := HK1.out; have := HK2.out; have := HJ11.out; have := HK4.out; omega
                                        case rel => exact ⟨(x8_4), (y139), (by first | rfl | (simp; done) | (simp [*]; done)), H', ⟨by have := HK1.out; have := HK2.out; have := HJ11.out; have := HK4.out; omega⟩, ⟨by (with_reducible repeat (first | apply Kd.R_alloc | apply Kd.R_drewN | apply Kd.R_drew)); exact HO141.out⟩, ⟨by repeat (first | (with_reducible first | exact HB.out | apply below_alloc | apply pw_below_drewN | apply below_drew1) | exact HB.out)⟩⟩
                                      · rw [if_neg c82] at H
                                        exact absurd H (by simp)
                                    · rw [if_neg c81] at H
                                      exact absurd H (by simp)
                                  · rw [if_neg c80] at H
                                    exact absurd H (by simp)
                                · rw [if_neg c79] at H
                                  exact absurd H (by simp)
                  · rw [if_neg c11] at H
                    have c11b0 : decide ((x9_2.length : Int) ≤ a2) = false := decide_eq_false c11
                    clear c11
                    by_cases c84 : (x9_2.length : Int) > a2
                    · rw [if_pos c84] at H
                      have c84b0 : decide (a2 < (x9_2.length : Int)) = true := decide_eq_true c84
                      clear c84
                      by_cases c85 : 0 ≤ x7_1
                      · rw [if_pos c85] at H
                        have c85b0 := eq_true c85
                        have c85b1 : decide (0 ≤ x7_1) = true := decide_eq_true c85
                        clear c85
                        by_cases c86 : x7_1 ≤ x8_2
                        · rw [if_pos c86] at H
                          have c86b0 := eq_true c86
                          have c86b1 : decide (x7_1 ≤ x8_2) = true := decide_eq_true c86
                          clear c86
                          by_cases c87 : x8_2 ≤ (a0.size : Int)
                          · rw [if_pos c87] at H
                            have c87b0 := eq_true c87
                            have c87b1 : decide (x8_2 ≤ (a0.size : Int)) = true := decide_eq_true c87
                            clear c87
                            by_cases c88 : 0 < (x9_2.length : Int)
                            · rw [if_pos c88] at H
                              have c88b0 : decide (0 < (x9_2.length : Int)) = true := decide_eq_true c88
                              have c88b1 : decide (0 < x9_2.length) = true := decide_eq_true (by omega)
                              clear c88
                              obtain ⟨y127, hy127⟩ : ∃ y_ : List ByteArray, y_ = (x9_2.set (0 : Int).toNat (a0.extract (x7_1 : Int).toNat (x8_2 : Int).toNat)) := ⟨_, rfl⟩
                              replace H : (some y127) = some r := by first | (rw [hy127]; with_reducible exact H) | (have H2_ := (Option.bind_some _ _).symm.trans H; rw [hy127]; with_reducible exact H2_) | (have H2_ := (Option.bind_some _ _).symm.trans H; with_reducible exact H2_) | with_reducible exact H | (rw [hy127]; exact H) | exact H
                              have Ny127 := Aside0.mk hy127
                              clear hy127
                              obtain rfl := Option.some.inj H
                              obtain ⟨Ao90, co90, eo90⟩ := Kd.R_slice HO_9.out
                              subst eo90
                              have p89 : 0 ≤ (0 : Int) := (by omega)
                              have q89 : (0 : Int) < ((x9_2.length : Int) : Int) := of_decide_eq_true (by first | (with_reducible assumption) | assumption)
                              have qi89 : (0 < x9_2.length) = True := eq_true (by omega)
                              obtain ⟨go89, co89, eo89, gb89, gl89, cl89, HG89⟩ := Kd.R_form HO_9.out (by omega)
                              (first | cases eo89 | (injection eo89 with ea_ en_ ec_; (first | subst ea_ | (injection ea_ with ea_; subst ea_)); subst ec_; clear en_))
                              have GB89 := Aside0.mk gb89
                              have GG89 := Aside0.mk HG89
                              clear gb89 gl89 HG89
                              obtain ⟨hx89_0, hf89_0⟩ := Kd.R_celln (⟨#[]⟩ : ByteArray) HO_9.out (0 : Int) p89 q89
                              (try rw [show ((0 : Int)).toNat = 0 from rfl] at hx89_0)
                              (try simp only [Nat.reduceMul, Nat.zero_mul, Nat.zero_add, Nat.reduceAdd] at hx89_0)
                              (try rw [show ((0 : Int)).toNat = 0 from rfl] at hf89_0)
                              (try simp only [Nat.reduceMul, Nat.zero_mul, Nat.zero_add, Nat.reduceAdd] at hf89_0)
                              replace p89 := eq_true p89
                              replace q89 := eq_true q89
                              have HP91 := Kd.R_putg HO_9.out (0 : Int) (a0.extract (x7_1 : Int).toNat (x8_2 : Int).toNat)
                              go_wp2_with (first | ((with_reducible refine gate_store (t := 9) (p := 91) rfl ?_); refine store_event (t := 9) (p := 91) (v := ?vo_w92) (w1 := (wr.setCell ⟨go89, (0 : Int).toNat, none⟩ (.string (a0.extract (x7_1 : Int).toNat (x8_2 : Int).toNat)))) ?hg ?ho ?hn ?hr ?_; (case ho => rfl); (case hg => rfl); (case hn => rfl); (case hr => first | (go_simp; done) | (go_simp; rfl)); intro w92 hw; have hg : wr.grownBy w92 (some go89) := (by rw [hw]; exact HP91.2); have hp_ : Kd.R Kd.string 9 w92 w.heap.size (fun _ => True) (.slice (some ⟨go89, 0, none⟩) x9_2.length co90) y127 := (by rw [hw, Ny127.out]; exact HP91.1); clear HP91; have n0_ := Aside0.mk (hp_); have n1_ := Aside0.mk ((by rw [hw]; exact below_set (HB.out) GB89.out : Below w.heap.size w w92)); clear HO_9; clear HB; have HO_9 := n0_; have HB := n1_; clear n0_ n1_; clear hg hw hp_))
                              go_ret
                              exact ⟨_, by first | rfl | (simp [errW_none, errW_some] <;> rfl) | (simp [*, errW_none, errW_some] <;> rfl), by (with_reducible repeat (first | apply Kd.R_alloc | apply Kd.R_drewN | apply Kd.R_drew)); exact HO_9.out, by repeat (first | (with_reducible first | exact HB.out | apply below_alloc | apply pw_below_drewN | apply below_drew1) | exact HB.out)⟩
                            · rw [if_neg c88] at H
                              exact absurd H (by simp)
                          · rw [if_neg c87] at H
                            exact absurd H (by simp)
                        · rw [if_neg c86] at H
                          exact absurd H (by simp)
                      · rw [if_neg c85] at H
                        exact absurd H (by simp)
                    · rw [if_neg c84] at H
                      have c84b0 : decide (a2 < (x9_2.length : Int)) = false := decide_eq_false c84
                      clear c84
                      have H' := Aside0.mk H
                      clear H
                      obtain ⟨Ao93, co93, eo93⟩ := Kd.R_slice HO_9.out
                      subst eo93
                      go_wp2
                      go_roundg k2
                      case measure => have := HK1.out; have := HK2.out; omega
                      case rel => exact ⟨(wrap64 (x7_1 + 1)), (by first | rfl | (simp; done) | (simp [*]; done)), H', ⟨by have := HK1.out; have := HK2.out; omega⟩, ⟨by repeat (first | (with_reducible first | exact HB.out | apply below_alloc | apply pw_below_drewN | apply below_drew1) | exact HB.out)⟩⟩
            · rw [if_neg c8] at H
              have c8b0 : ((a0.extract (x7_1 : Int).toNat ((wrap64 (x7_1 + (a1.size : Int))) : Int).toNat).toList == a1.toList) = false := beq_eq_false_iff_ne.mpr c8
              have c8b1 : ((a0.extract (x7_1 : Int).toNat ((wrap64 (x7_1 + (a1.size : Int))) : Int).toNat).toList != a1.toList) = true := bne_iff_ne.mpr c8
              have H' := Aside0.mk H
              clear H
              go_wp2
              go_roundg k1
              case measure => have := HK1.out; omega
              case rel => exact ⟨(wrap64 (x7_1 + 1)), (by first | rfl | (simp; done) | (simp [*]; done)), H', ⟨by have := HK1.out; omega⟩, ⟨by repeat (first | (with_reducible first | exact HB.out | apply below_alloc | apply pw_below_drewN | apply below_drew1) | exact HB.out)⟩⟩
          · rw [if_neg c6] at H
            exact absurd H (by simp)
        · rw [if_neg c5] at H
          exact absurd H (by simp)
      · rw [if_neg c4] at H
        have c4b0 : decide ((wrap64 (x7_1 + (a1.size : Int))) ≤ (a0.size : Int)) = false := decide_eq_false c4
        clear c4
        obtain rfl := Option.some.inj H
        go_wp2
        go_ret
        exact ⟨_, by first | rfl | (simp [errW_none, errW_some] <;> rfl) | (simp [*, errW_none, errW_some] <;> rfl), by first | exact Kd.R_nil _ _ _ _ _ | exact Kd.N_nil _ _ _ _ _ | exact Kd.V_nil _ _ _ _ _ | exact Kd.Q_nil _ _ _ _ _ | exact Kd.S_nil _ _ _ _ _, by repeat (first | (with_reducible first | exact HB.out | apply below_alloc | apply pw_below_drewN | apply below_drew1) | exact HB.out)⟩

end Go.Proofs.YtabfehcpcjcomaaDoor.QP1
