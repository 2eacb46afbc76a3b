/- The texts QA0x13, QA0x14, QA0x18, QA0x19, QA0x20, without what the claims do not use, laid together by a program of this session (wip/tools/bundle.py). Conditions: those of each theorem. -/
import Derived.Test.YtabfehcpcjcomaaGreatDoorXc3
namespace Go.Proofs.YtabfehcpcjcomaaGreatDoor.QA0
open Go.RowKit Go.Proofs.YtabfehcpcjcomaaGreatDoorW.PrintWords Go.Proofs.YtabfehcpcjcomaaGreatDoorW.PrintLast Go.Proofs.YtabfehcpcjcomaaGreatDoorW.PrintMore
attribute [local go_sem] max2_int min2_int max_two min_two max_three min_three max_four min_four
set_option linter.unusedVariables false
set_option linter.unusedSimpArgs false
def spec_loose.l0 : Nat → List ByteArray → List ByteArray → Int → Int → Option (Bool)
 | 0, _, _, _, _ => none
 | k + 1, x5, x6, x18, x19 => if x19 < x18 then (if 0 ≤ x19 then (if x19 < (x5.length : Int) then ((spec_Fields.f k (rdOf ByteArray.empty x5 x19)).bind fun t605 => ((spec_Join.f k t605 (⟨#[32]⟩ : ByteArray)).bind fun t608 => (if x19 < (x6.length : Int) then ((spec_Fields.f k (rdOf ByteArray.empty x6 x19)).bind fun t610 => ((spec_Join.f k t610 (⟨#[32]⟩ : ByteArray)).bind fun t613 => (if t608.toList = t613.toList then (spec_loose.l0 k x5 x6 x18 (wrap64 (x19 + 1))) else (some false)))) else (none)))) else (none)) else (none)) else (some true)
def spec_loose.f (k : Nat) (a0 : ByteArray) (a1 : ByteArray) : Option (Bool) := (spec_Lines.f k a0).bind fun t598 => ((spec_Lines.f k a1).bind fun t601 => (if (t598.length : Int) = (t601.length : Int) then (spec_loose.l0 k t598 t601 (t598.length : Int) 0) else (some false)))
def spec_loose.T7 : Bool × List (List Nat × List Nat) := (true, [([], []), ([], []), ([0, 1], [0, 1]), ([2], [2]), ([3], [3]), ([4, 4], [4]), ([], []), ([], []), ([6, 7], [6, 7]), ([8], [8]), ([9, 5], [9]), ([10, 10], [10]), ([5, 11], [5, 11])])
def spec_loose.B7 : List Nat := [0, 0, 3, 7, 15, 31, 0, 0, 192, 448, 1023, 2047, 4095]
theorem spec_loose.tab7 : rtab .any (opsOf Tryz.f98 7) = spec_loose.T7 := by kernel_rfl
theorem spec_loose.bits7 : waitsOk spec_loose.T7.2 spec_loose.B7 = true := by kernel_rfl
set_option maxHeartbeats 8000000 in
set_option maxRecDepth 100000 in
theorem spec_loose.calls (k : Nat) (a0 : ByteArray) (a1 : ByteArray) (r : Bool) (w : World) (h : spec_loose.f k a0 a1 = some r) :
 Calls Tryz.prog 98 #[.string a0, .string a1] w fun e w' => e = .returned (.bool r) ∧ Below w.heap.size w w' := by
 have HB := Aside0.mk (Below.refl w.heap.size w)
 have H : ((spec_Lines.f k a0).bind fun t598 => ((spec_Lines.f k a1).bind fun t601 => (if (t598.length : Int) = (t601.length : Int) then (spec_loose.l0 k t598 t601 (t598.length : Int) 0) else (some false)))) = some r := h
 clear h
 replace H := Option.bind_eq_some_iff.mp H
 obtain ⟨t598, A30, H⟩ := H
 replace H : ((spec_Lines.f k a1).bind fun t601 => (if (t598.length : Int) = (t601.length : Int) then (spec_loose.l0 k t598 t601 (t598.length : Int) 0) else (some false))) = some r := H
 have A3 := Aside0.mk A30
 clear A30
 replace H := Option.bind_eq_some_iff.mp H
 obtain ⟨t601, A40, H⟩ := H
 replace H : (if (t598.length : Int) = (t601.length : Int) then (spec_loose.l0 k t598 t601 (t598.length : Int) 0) else (some false)) = some r := H
 have A4 := Aside0.mk A40
 clear A40
 by_cases c5 : (t598.length : Int) = (t601.length : Int)
 · rw [if_pos c5] at H
   have c5b0 : ((t598.length : Int) == (t601.length : Int)) = true := beq_iff_eq.mpr c5
   have c5b1 : ((t598.length : Int) != (t601.length : Int)) = false := bne_eq_false_iff_eq.mpr c5
   have c5b2 : (t598.length == t601.length) = true := by first | simpa using c5 | (simp at c5 ⊢; omega)
   clear c5
   have H' := Aside0.mk H
   clear H
   go_enter Tryz.func98, Tryz.ntmps98
   go_wp2_with (first | ((with_reducible refine gate_callee (f := 47) rfl ?_); refine goesL_ (some 9) rfl rfl Tryz.func47 (by kernel_rfl) rfl #[.string a0] rfl (by (try simp only [List.map_toArray, List.map_cons, List.map_nil]); first | done | rfl | (simp only [List.length_drop, List.length_take]; rfl)) ?_; (with_reducible refine (spec_Lines.calls k a0 t598 _ A3.out).mono ?_); rintro e w6 ⟨v599, rfl, ho0, hb⟩; refine ⟨_, rfl, ?_⟩; have n0_ := Aside0.mk (Kd.R_lower ho0 (below_size (by repeat (first | (with_reducible first | exact HB.out | apply below_alloc | apply pw_below_drewN | apply below_drew1) | exact HB.out)))); have n1_ := Aside0.mk (below_step (by repeat (first | (with_reducible first | exact HB.out | apply below_alloc | apply pw_below_drewN | apply below_drew1) | exact HB.out)) hb); clear HB; have HO600 := n0_; have HB := n1_; clear n0_ n1_; (try clear hb); (try clear hb2); (try clear hk); (try clear hi); (try clear ho0)) | ((with_reducible refine gate_callee (f := 47) rfl ?_); refine goesL_ (some 11) rfl rfl Tryz.func47 (by kernel_rfl) rfl #[.string a1] rfl (by (try simp only [List.map_toArray, List.map_cons, List.map_nil]); first | done | rfl | (simp only [List.length_drop, List.length_take]; rfl)) ?_; (with_reducible refine (spec_Lines.calls k a1 t601 _ A4.out).mono ?_); rintro e w7 ⟨v602, rfl, ho0, hb⟩; refine ⟨_, rfl, ?_⟩; have n0_ := Aside0.mk (Kd.R_elder' (by (with_reducible repeat (first | apply Kd.R_alloc | apply Kd.R_drewN | apply Kd.R_drew)); exact HO600.out) (Kd.R_base ho0) hb); have n1_ := Aside0.mk (Kd.R_lower (Kd.R_new' ho0 (Kd.R_lt (by (with_reducible repeat (first | apply Kd.R_alloc | apply Kd.R_drewN | apply Kd.R_drew)); exact HO600.out))) (below_size (by repeat (first | (with_reducible first | exact HB.out | apply below_alloc | apply pw_below_drewN | apply below_drew1) | exact HB.out)))); have n2_ := Aside0.mk (below_step (by repeat (first | (with_reducible first | exact HB.out | apply below_alloc | apply pw_below_drewN | apply below_drew1) | exact HB.out)) hb); clear HO600; clear HB; have HO600 := n0_; have HO603 := n1_; have HB := n2_; clear n0_ n1_ n2_; (try clear hb); (try clear hb2); (try clear hk); (try clear hi); (try clear ho0); obtain ⟨Ao8, co8, eo8⟩ := Kd.R_slice HO600.out; subst eo8; obtain ⟨Ao9, co9, eo9⟩ := Kd.R_slice HO603.out; subst eo9))
   go_loopg [19] k (fun kq v19 w' => ∃ (x19_1 : Int), v19 = .int .i64 x19_1 ∧ Aside0 (spec_loose.l0 kq t598 t601 (t598.length : Int) x19_1 = some r) ∧ Aside0 (kq ≤ k) ∧ Aside0 (Kd.R Kd.string 9 w' w.heap.size (fun k_ => some k_ ≠ ((.slice Ao9 t601.length co9) : Value).ownBlock) (.slice Ao8 t598.length co8) t598) ∧ Aside0 (Kd.R Kd.string 9 w' w.heap.size (fun k_ => some k_ ≠ ((.slice Ao8 t598.length co8) : Value).ownBlock) (.slice Ao9 t601.length co9) t601) ∧ Aside0 (Below w.heap.size w w'))
   case atStart => exact ⟨(0), (by first | rfl | (simp; done) | (simp [*]; done)), H', ⟨Nat.le_refl _⟩, ⟨by (with_reducible repeat (first | apply Kd.R_alloc | apply Kd.R_drewN | apply Kd.R_drew)); exact Kd.R_mono HO600.out (fun _ hk => hk.2)⟩, ⟨by (with_reducible repeat (first | apply Kd.R_alloc | apply Kd.R_drewN | apply Kd.R_drew)); exact Kd.R_mono HO603.out (fun _ hk => hk.2)⟩, ⟨by repeat (first | (with_reducible first | exact HB.out | apply below_alloc | apply pw_below_drewN | apply below_drew1) | exact HB.out)⟩⟩
   case round =>
    clear H'
    try clear p2
    try clear c4
    try clear c5
    try clear c5b0
    try clear c5b1
    try clear c5b2
    try clear c9
    obtain ⟨x19_1, rfl, HA, HK1, HO_5, HO_6, HB⟩ := hrel
    cases gk with
    | zero => exact absurd HA.out (by simp [spec_loose.l0])
    | succ k1 =>
     have H := HA.out
     clear HA
     simp only [spec_loose.l0] at H
     by_cases c10 : x19_1 < (t598.length : Int)
     · rw [if_pos c10] at H
       have c10b0 : decide (x19_1 < (t598.length : Int)) = true := decide_eq_true c10
       clear c10
       by_cases c11 : 0 ≤ x19_1
       · rw [if_pos c11] at H
         have c11b0 : decide (0 ≤ x19_1) = true := decide_eq_true c11
         clear c11
         by_cases c12 : x19_1 < (t598.length : Int)
         · rw [if_pos c12] at H
           have c12b0 : decide (x19_1 < (t598.length : Int)) = true := decide_eq_true c12
           clear c12
           replace H := Option.bind_eq_some_iff.mp H
           obtain ⟨t605, A130, H⟩ := H
           replace H : ((spec_Join.f k1 t605 (⟨#[32]⟩ : ByteArray)).bind fun t608 => (if x19_1 < (t601.length : Int) then ((spec_Fields.f k1 (rdOf ByteArray.empty t601 x19_1)).bind fun t610 => ((spec_Join.f k1 t610 (⟨#[32]⟩ : ByteArray)).bind fun t613 => (if t608.toList = t613.toList then (spec_loose.l0 k1 t598 t601 (t598.length : Int) (wrap64 (x19_1 + 1))) else (some false)))) else (none))) = some r := H
           have A13 := Aside0.mk A130
           clear A130
           replace H := Option.bind_eq_some_iff.mp H
           obtain ⟨t608, A140, H⟩ := H
           replace H : (if x19_1 < (t601.length : Int) then ((spec_Fields.f k1 (rdOf ByteArray.empty t601 x19_1)).bind fun t610 => ((spec_Join.f k1 t610 (⟨#[32]⟩ : ByteArray)).bind fun t613 => (if t608.toList = t613.toList then (spec_loose.l0 k1 t598 t601 (t598.length : Int) (wrap64 (x19_1 + 1))) else (some false)))) else (none)) = some r := H
           have A14 := Aside0.mk A140
           clear A140
           by_cases c15 : x19_1 < (t601.length : Int)
           · rw [if_pos c15] at H
             have c15b0 : decide (x19_1 < (t601.length : Int)) = true := decide_eq_true c15
             clear c15
             replace H := Option.bind_eq_some_iff.mp H
             obtain ⟨t610, A160, H⟩ := H
             replace H : ((spec_Join.f k1 t610 (⟨#[32]⟩ : ByteArray)).bind fun t613 => (if t608.toList = t613.toList then (spec_loose.l0 k1 t598 t601 (t598.length : Int) (wrap64 (x19_1 + 1))) else (some false))) = some r := H
             have A16 := Aside0.mk A160
             clear A160
             replace H := Option.bind_eq_some_iff.mp H
             obtain ⟨t613, A170, H⟩ := H
             replace H : (if t608.toList = t613.toList then (spec_loose.l0 k1 t598 t601 (t598.length : Int) (wrap64 (x19_1 + 1))) else (some false)) = some r := H
             have A17 := Aside0.mk A170
             clear A170
             by_cases c18 : t608.toList = t613.toList
             · rw [if_pos c18] at H
               have c18b0 : (t608.toList == t613.toList) = true := beq_iff_eq.mpr c18
               have c18b1 : (t608.toList != t613.toList) = false := bne_eq_false_iff_eq.mpr c18
               clear c18
               have H' := Aside0.mk H
               clear H
               try go_wp2
               have n0_ := Aside0.mk (Kd.R_drew HO_5.out)
               have n1_ := Aside0.mk (Kd.R_drew HO_6.out)
               have n2_ := Aside0.mk (below_drew1 HB.out)
               clear HO_5
               clear HO_6
               clear HB
               have HO_5 := n0_
               have HO_6 := n1_
               have HB := n2_
               clear n0_ n1_ n2_
               have p604 : 0 ≤ (x19_1 : Int) := of_decide_eq_true (by first | (with_reducible assumption) | assumption)
               have q604 : x19_1 < (t598.length : Int) := of_decide_eq_true (by first | (with_reducible assumption) | assumption)
               obtain ⟨ad604, e604, hx604_0⟩ := Kd.at_string (Kd.R_reads' HO_5.out).2.2 x19_1 p604 q604
               cases e604
               replace p604 := eq_true p604
               replace q604 := eq_true q604
               have p609 : 0 ≤ (x19_1 : Int) := of_decide_eq_true (by first | (with_reducible assumption) | assumption)
               have q609 : x19_1 < (t601.length : Int) := of_decide_eq_true (by first | (with_reducible assumption) | assumption)
               obtain ⟨ad609, e609, hx609_0⟩ := Kd.at_string (Kd.R_reads' HO_6.out).2.2 x19_1 p609 q609
               cases e609
               replace p609 := eq_true p609
               replace q609 := eq_true q609
               refine start_ (n := 13) (S := fun w' => w'.cell? (ad604.add (x19_1).toNat) = some (.string (rdOf ByteArray.empty t598 x19_1)) ∧ w'.cell? (ad609.add (x19_1).toNat) = some (.string (rdOf ByteArray.empty t601 x19_1))) (ds := []) #[false, false, false, false, false, false, false, false, false, false, false, false, false] (by kernel_rfl) rfl rfl ⟨hx604_0, hx609_0⟩ (fun hHeld => ?_); refine with_tabW spec_loose.tab7 spec_loose.bits7 (fun HT_ HW_ => ?_)
               generalize wr.drew = w19 at HO_5 HO_6 HB hx604_0 hx609_0 hHeld ⊢
               refine pure_ (i := 0) (N := some 22) (v := ?_) (a' := ?_) #[true, false, false, false, false, false, false, false, false, false, false, false, false] rfl rfl (any_of HT_.out (by kernel_rfl)) (fun _ _ _ h => h) (Or.inl ⟨by rfl, ?_⟩) ?_ ?_
               rotate_left
               · intro w'
                 go_simp
                 with_reducible rfl
               rotate_left
               · simp only [Act.put, List.setIfInBounds_toArray, List.set_cons_zero, List.set_cons_succ, i64_w, i32_w]
                 rfl
               refine pure_ (i := 1) (N := some 23) (v := ?_) (a' := ?_) #[true, true, false, false, false, false, false, false, false, false, false, false, false] rfl rfl (any_of HT_.out (by kernel_rfl)) (fun _ _ _ h => h) (Or.inl ⟨by rfl, ?_⟩) ?_ ?_
               rotate_left
               · intro w'
                 go_simp
                 with_reducible rfl
               rotate_left
               · simp only [Act.put, List.setIfInBounds_toArray, List.set_cons_zero, List.set_cons_succ, i64_w, i32_w]
                 rfl
               refine pure_ (i := 2) (N := some 24) (v := ?_) (a' := ?_) #[true, true, true, false, false, false, false, false, false, false, false, false, false] rfl rfl (any_of HT_.out (by kernel_rfl)) (fun _ _ _ h => h) (Or.inl ⟨by rfl, ?_⟩) ?_ ?_
               rotate_left
               · intro w'
                 go_simp
                 with_reducible rfl
               rotate_left
               · simp only [Act.put, List.setIfInBounds_toArray, List.set_cons_zero, List.set_cons_succ, i64_w, i32_w]
                 rfl
               refine pure_ (i := 6) (N := some 28) (v := ?_) (a' := ?_) #[true, true, true, false, false, false, true, false, false, false, false, false, false] rfl rfl (any_of HT_.out (by kernel_rfl)) (fun _ _ _ h => h) (Or.inl ⟨by rfl, ?_⟩) ?_ ?_
               rotate_left
               · intro w'
                 go_simp
                 with_reducible rfl
               rotate_left
               · simp only [Act.put, List.setIfInBounds_toArray, List.set_cons_zero, List.set_cons_succ, i64_w, i32_w]
                 rfl
               refine pure_ (i := 7) (N := some 29) (v := ?_) (a' := ?_) #[true, true, true, false, false, false, true, true, false, false, false, false, false] rfl rfl (any_of HT_.out (by kernel_rfl)) (fun _ _ _ h => h) (Or.inl ⟨by rfl, ?_⟩) ?_ ?_
               rotate_left
               · intro w'
                 go_simp
                 with_reducible rfl
               rotate_left
               · simp only [Act.put, List.setIfInBounds_toArray, List.set_cons_zero, List.set_cons_succ, i64_w, i32_w]
                 rfl
               refine pure_ (i := 8) (N := some 30) (v := ?_) (a' := ?_) #[true, true, true, false, false, false, true, true, true, false, false, false, false] rfl rfl (any_of HT_.out (by kernel_rfl)) (fun _ _ _ h => h) (Or.inl ⟨by rfl, ?_⟩) ?_ ?_
               rotate_left
               · intro w'
                 go_simp
                 with_reducible rfl
               rotate_left
               · simp only [Act.put, List.setIfInBounds_toArray, List.set_cons_zero, List.set_cons_succ, i64_w, i32_w]
                 rfl
               refine take_ (i := 3) (N := some 25) (v := ?_) (a' := ?_) #[true, true, true, true, false, false, true, true, true, false, false, false, false] rfl rfl (take_ofW HT_.out HW_.out (by kernel_rfl)) (fun _ _ _ h => h) (Or.inl ⟨by rfl, ?_⟩) hHeld ?_ ?_
               rotate_left
               · rintro w' ⟨s0, s1⟩
                 go_simp
                 with_reducible rfl
               rotate_left
               · simp only [Act.put, List.setIfInBounds_toArray, List.set_cons_zero, List.set_cons_succ, i64_w, i32_w]
                 rfl
               refine take_ (i := 9) (N := some 31) (v := ?_) (a' := ?_) #[true, true, true, true, false, false, true, true, true, true, false, false, false] rfl rfl (take_ofW HT_.out HW_.out (by kernel_rfl)) (fun _ _ _ h => h) (Or.inl ⟨by rfl, ?_⟩) hHeld ?_ ?_
               rotate_left
               · rintro w' ⟨s0, s1⟩
                 go_simp
                 with_reducible rfl
               rotate_left
               · simp only [Act.put, List.setIfInBounds_toArray, List.set_cons_zero, List.set_cons_succ, i64_w, i32_w]
                 rfl
               refine one_ (i := 4) (N := some 26) #[true, true, true, true, true, false, true, true, true, true, false, false, false] rfl rfl (one_of HT_.out (by kernel_rfl)) (by decide) (fun K hK => ?_)
               refine goes_ Tryz.func31 (by kernel_rfl) rfl #[.string (rdOf ByteArray.empty t598 x19_1)] (by rfl) rfl rfl (by (try simp only [List.map_toArray, List.map_cons, List.map_nil]); first | done | rfl | (simp only [List.length_drop, List.length_take]; rfl)) ?_
               with_reducible refine (spec_Fields.calls k1 (rdOf ByteArray.empty t598 x19_1) t605 _ A13.out).mono ?_
               rintro e w20 ⟨v606, rfl, ho0, hb⟩
               have HS0_ := (hb.cell (World.block_lt_of_cell? _ _ (hHeld.1))).trans (hHeld.1)
               have HS1_ := (hb.cell (World.block_lt_of_cell? _ _ (hHeld.2))).trans (hHeld.2)
               refine ⟨_, rfl, ?_⟩
               have n0_ := Aside0.mk (Kd.R_elder' (by (with_reducible repeat (first | apply Kd.R_alloc | apply Kd.R_drewN | apply Kd.R_drew)); exact HO_5.out) (Kd.R_base ho0) hb)
               have n1_ := Aside0.mk (Kd.R_elder' (by (with_reducible repeat (first | apply Kd.R_alloc | apply Kd.R_drewN | apply Kd.R_drew)); exact HO_6.out) (Kd.R_base ho0) hb)
               have n2_ := Aside0.mk (Kd.R_lower (Kd.R_new' (Kd.R_new' ho0 (Kd.R_lt (by (with_reducible repeat (first | apply Kd.R_alloc | apply Kd.R_drewN | apply Kd.R_drew)); exact HO_5.out))) (Kd.R_lt (by (with_reducible repeat (first | apply Kd.R_alloc | apply Kd.R_drewN | apply Kd.R_drew)); exact HO_6.out))) (below_size (by repeat (first | (with_reducible first | exact HB.out | apply below_alloc | apply pw_below_drewN | apply below_drew1) | exact HB.out))))
               have n3_ := Aside0.mk (below_step (by repeat (first | (with_reducible first | exact HB.out | apply below_alloc | apply pw_below_drewN | apply below_drew1) | exact HB.out)) hb)
               clear HO_5
               clear HO_6
               clear HB
               have HO_5 := n0_
               have HO_6 := n1_
               have HO607 := n2_
               have HB := n3_
               clear n0_ n1_ n2_ n3_
               (try clear hb)
               (try clear hb2)
               (try clear hk)
               (try clear hi)
               (try clear ho0)
               obtain ⟨Ao21, co21, eo21⟩ := Kd.R_slice HO607.out
               (first | subst eo21 | (injection eo21 with f1_ f2_ f3_; have f4_ := f1_.symm; have f5_ := f3_.symm; clear f1_ f2_ f3_; subst f4_; subst f5_))
               refine hK.out _ _ ⟨HS0_, HS1_⟩ (fun hHeld => ?_)
               clear hK K
               refine norm_ (a' := ?_) ?_ ?_
               rotate_left
               · show Act.put _ (some 26) _ = _
                 simp only [Act.put, List.setIfInBounds_toArray, List.set_cons_zero, List.set_cons_succ, i64_w, i32_w]
                 rfl
               refine one_ (i := 5) (N := some 27) #[true, true, true, true, true, true, true, true, true, true, false, false, false] rfl rfl (one_of HT_.out (by kernel_rfl)) (by decide) (fun K hK => ?_)
               refine goes_ Tryz.func130 (by kernel_rfl) rfl #[.slice Ao21 t605.length co21, .string (⟨#[32]⟩ : ByteArray)] (by rfl) rfl rfl (by (try simp only [List.map_toArray, List.map_cons, List.map_nil]); first | done | rfl | (simp only [List.length_drop, List.length_take]; rfl)) ?_
               with_reducible refine (spec_Join.calls k1 _ _ t605 (⟨#[32]⟩ : ByteArray) t608 _ ?side1 ?side2 A14.out).mono ?_
               (case side1 => repeat (first | exact (Kd.R_reads' HO607.out).2.2 | (with_reducible refine Kd.C_alloc ?_ _) | (with_reducible refine Kd.C_drewN ?_ _) | (with_reducible refine Kd.C_drew ?_)))
               (case side2 => exact (Kd.R_reads' HO607.out).2.1)
               rintro e w' ⟨rfl, ⟨nd, rfl⟩⟩
               refine ⟨_, rfl, ?_⟩
               refine hK.out _ _ ⟨hHeld.1, hHeld.2⟩ (fun hHeld => ?_)
               clear hK K
               refine norm_ (a' := ?_) ?_ ?_
               rotate_left
               · show Act.put _ (some 27) _ = _
                 simp only [Act.put, List.setIfInBounds_toArray, List.set_cons_zero, List.set_cons_succ, i64_w, i32_w]
                 rfl
               refine one_ (i := 10) (N := some 32) #[true, true, true, true, true, true, true, true, true, true, true, false, false] rfl rfl (one_of HT_.out (by kernel_rfl)) (by decide) (fun K hK => ?_)
               refine goes_ Tryz.func31 (by kernel_rfl) rfl #[.string (rdOf ByteArray.empty t601 x19_1)] (by rfl) rfl rfl (by (try simp only [List.map_toArray, List.map_cons, List.map_nil]); first | done | rfl | (simp only [List.length_drop, List.length_take]; rfl)) ?_
               with_reducible refine (spec_Fields.calls k1 (rdOf ByteArray.empty t601 x19_1) t610 _ A16.out).mono ?_
               rintro e w22 ⟨v611, rfl, ho0, hb⟩
               have HS0_ := (hb.cell (World.block_lt_of_cell? _ _ (hHeld.1))).trans (hHeld.1)
               have HS1_ := (hb.cell (World.block_lt_of_cell? _ _ (hHeld.2))).trans (hHeld.2)
               refine ⟨_, rfl, ?_⟩
               have n0_ := Aside0.mk (Kd.R_elder' (by (with_reducible repeat (first | apply Kd.R_alloc | apply Kd.R_drewN | apply Kd.R_drew)); exact HO_5.out) (Kd.R_base ho0) hb)
               have n1_ := Aside0.mk (Kd.R_elder' (by (with_reducible repeat (first | apply Kd.R_alloc | apply Kd.R_drewN | apply Kd.R_drew)); exact HO_6.out) (Kd.R_base ho0) hb)
               have n2_ := Aside0.mk (Kd.R_elder' (by (with_reducible repeat (first | apply Kd.R_alloc | apply Kd.R_drewN | apply Kd.R_drew)); exact HO607.out) (Kd.R_base ho0) hb)
               have n3_ := Aside0.mk (Kd.R_lower (Kd.R_new' (Kd.R_new' (Kd.R_new' ho0 (Kd.R_lt (by (with_reducible repeat (first | apply Kd.R_alloc | apply Kd.R_drewN | apply Kd.R_drew)); exact HO_5.out))) (Kd.R_lt (by (with_reducible repeat (first | apply Kd.R_alloc | apply Kd.R_drewN | apply Kd.R_drew)); exact HO_6.out))) (Kd.R_lt (by (with_reducible repeat (first | apply Kd.R_alloc | apply Kd.R_drewN | apply Kd.R_drew)); exact HO607.out))) (below_size (by repeat (first | (with_reducible first | exact HB.out | apply below_alloc | apply pw_below_drewN | apply below_drew1) | exact HB.out))))
               have n4_ := Aside0.mk (below_step (by repeat (first | (with_reducible first | exact HB.out | apply below_alloc | apply pw_below_drewN | apply below_drew1) | exact HB.out)) hb)
               clear HO_5
               clear HO_6
               clear HO607
               clear HB
               have HO_5 := n0_
               have HO_6 := n1_
               have HO607 := n2_
               have HO612 := n3_
               have HB := n4_
               clear n0_ n1_ n2_ n3_ n4_
               (try clear hb)
               (try clear hb2)
               (try clear hk)
               (try clear hi)
               (try clear ho0)
               obtain ⟨Ao23, co23, eo23⟩ := Kd.R_slice HO612.out
               (first | subst eo23 | (injection eo23 with f1_ f2_ f3_; have f4_ := f1_.symm; have f5_ := f3_.symm; clear f1_ f2_ f3_; subst f4_; subst f5_))
               refine hK.out _ _ ⟨HS0_, HS1_⟩ (fun hHeld => ?_)
               clear hK K
               refine norm_ (a' := ?_) ?_ ?_
               rotate_left
               · show Act.put _ (some 32) _ = _
                 simp only [Act.put, List.setIfInBounds_toArray, List.set_cons_zero, List.set_cons_succ, i64_w, i32_w]
                 rfl
               refine one_ (i := 11) (N := some 33) #[true, true, true, true, true, true, true, true, true, true, true, true, false] rfl rfl (one_of HT_.out (by kernel_rfl)) (by decide) (fun K hK => ?_)
               refine goes_ Tryz.func130 (by kernel_rfl) rfl #[.slice Ao23 t610.length co23, .string (⟨#[32]⟩ : ByteArray)] (by rfl) rfl rfl (by (try simp only [List.map_toArray, List.map_cons, List.map_nil]); first | done | rfl | (simp only [List.length_drop, List.length_take]; rfl)) ?_
               with_reducible refine (spec_Join.calls k1 _ _ t610 (⟨#[32]⟩ : ByteArray) t613 _ ?side1 ?side2 A17.out).mono ?_
               (case side1 => repeat (first | exact (Kd.R_reads' HO612.out).2.2 | (with_reducible refine Kd.C_alloc ?_ _) | (with_reducible refine Kd.C_drewN ?_ _) | (with_reducible refine Kd.C_drew ?_)))
               (case side2 => exact (Kd.R_reads' HO612.out).2.1)
               rintro e w' ⟨rfl, ⟨nd, rfl⟩⟩
               refine ⟨_, rfl, ?_⟩
               refine hK.out _ _ ⟨hHeld.1, hHeld.2⟩ (fun hHeld => ?_)
               clear hK K
               refine norm_ (a' := ?_) ?_ ?_
               rotate_left
               · show Act.put _ (some 33) _ = _
                 simp only [Act.put, List.setIfInBounds_toArray, List.set_cons_zero, List.set_cons_succ, i64_w, i32_w]
                 rfl
               refine pure_ (i := 12) (N := some 34) (v := ?_) (a' := ?_) #[true, true, true, true, true, true, true, true, true, true, true, true, true] rfl rfl (any_of HT_.out (by kernel_rfl)) (fun _ _ _ h => h) (Or.inl ⟨by rfl, ?_⟩) ?_ ?_
               rotate_left
               · intro w'
                 go_simp
                 with_reducible rfl
               rotate_left
               · simp only [Act.put, List.setIfInBounds_toArray, List.set_cons_zero, List.set_cons_succ, i64_w, i32_w]
                 rfl
               refine done_ (done_of HT_.out (by kernel_rfl)) ?_
               try go_wp2
               go_roundg k1
               case measure => have := HK1.out; omega
               case rel => exact ⟨(wrap64 (x19_1 + 1)), (by first | rfl | (simp; done) | (simp [*]; done)), H', ⟨by have := HK1.out; omega⟩, ⟨by (with_reducible repeat (first | apply Kd.R_alloc | apply Kd.R_drewN | apply Kd.R_drew)); exact Kd.R_mono HO_5.out (fun _ hk => hk.1.1)⟩, ⟨by (with_reducible repeat (first | apply Kd.R_alloc | apply Kd.R_drewN | apply Kd.R_drew)); exact Kd.R_mono HO_6.out (fun _ hk => hk.1.1)⟩, ⟨by repeat (first | (with_reducible first | exact HB.out | apply below_alloc | apply pw_below_drewN | apply below_drew1) | exact HB.out)⟩⟩
             · rw [if_neg c18] at H
               have c18b0 : (t608.toList == t613.toList) = false := beq_eq_false_iff_ne.mpr c18
               have c18b1 : (t608.toList != t613.toList) = true := bne_iff_ne.mpr c18
               obtain rfl := Option.some.inj H
               try go_wp2
               have n0_ := Aside0.mk (Kd.R_drew HO_5.out)
               have n1_ := Aside0.mk (Kd.R_drew HO_6.out)
               have n2_ := Aside0.mk (below_drew1 HB.out)
               clear HO_5
               clear HO_6
               clear HB
               have HO_5 := n0_
               have HO_6 := n1_
               have HB := n2_
               clear n0_ n1_ n2_
               have p604 : 0 ≤ (x19_1 : Int) := of_decide_eq_true (by first | (with_reducible assumption) | assumption)
               have q604 : x19_1 < (t598.length : Int) := of_decide_eq_true (by first | (with_reducible assumption) | assumption)
               obtain ⟨ad604, e604, hx604_0⟩ := Kd.at_string (Kd.R_reads' HO_5.out).2.2 x19_1 p604 q604
               cases e604
               replace p604 := eq_true p604
               replace q604 := eq_true q604
               have p609 : 0 ≤ (x19_1 : Int) := of_decide_eq_true (by first | (with_reducible assumption) | assumption)
               have q609 : x19_1 < (t601.length : Int) := of_decide_eq_true (by first | (with_reducible assumption) | assumption)
               obtain ⟨ad609, e609, hx609_0⟩ := Kd.at_string (Kd.R_reads' HO_6.out).2.2 x19_1 p609 q609
               cases e609
               replace p609 := eq_true p609
               replace q609 := eq_true q609
               refine start_ (n := 13) (S := fun w' => w'.cell? (ad604.add (x19_1).toNat) = some (.string (rdOf ByteArray.empty t598 x19_1)) ∧ w'.cell? (ad609.add (x19_1).toNat) = some (.string (rdOf ByteArray.empty t601 x19_1))) (ds := []) #[false, false, false, false, false, false, false, false, false, false, false, false, false] (by kernel_rfl) rfl rfl ⟨hx604_0, hx609_0⟩ (fun hHeld => ?_); refine with_tabW spec_loose.tab7 spec_loose.bits7 (fun HT_ HW_ => ?_)
               generalize wr.drew = w24 at HO_5 HO_6 HB hx604_0 hx609_0 hHeld ⊢
               refine pure_ (i := 0) (N := some 22) (v := ?_) (a' := ?_) #[true, false, false, false, false, false, false, false, false, false, false, false, false] rfl rfl (any_of HT_.out (by kernel_rfl)) (fun _ _ _ h => h) (Or.inl ⟨by rfl, ?_⟩) ?_ ?_
               rotate_left
               · intro w'
                 go_simp
                 with_reducible rfl
               rotate_left
               · simp only [Act.put, List.setIfInBounds_toArray, List.set_cons_zero, List.set_cons_succ, i64_w, i32_w]
                 rfl
               refine pure_ (i := 1) (N := some 23) (v := ?_) (a' := ?_) #[true, true, false, false, false, false, false, false, false, false, false, false, false] rfl rfl (any_of HT_.out (by kernel_rfl)) (fun _ _ _ h => h) (Or.inl ⟨by rfl, ?_⟩) ?_ ?_
               rotate_left
               · intro w'
                 go_simp
                 with_reducible rfl
               rotate_left
               · simp only [Act.put, List.setIfInBounds_toArray, List.set_cons_zero, List.set_cons_succ, i64_w, i32_w]
                 rfl
               refine pure_ (i := 2) (N := some 24) (v := ?_) (a' := ?_) #[true, true, true, false, false, false, false, false, false, false, false, false, false] rfl rfl (any_of HT_.out (by kernel_rfl)) (fun _ _ _ h => h) (Or.inl ⟨by rfl, ?_⟩) ?_ ?_
               rotate_left
               · intro w'
                 go_simp
                 with_reducible rfl
               rotate_left
               · simp only [Act.put, List.setIfInBounds_toArray, List.set_cons_zero, List.set_cons_succ, i64_w, i32_w]
                 rfl
               refine pure_ (i := 6) (N := some 28) (v := ?_) (a' := ?_) #[true, true, true, false, false, false, true, false, false, false, false, false, false] rfl rfl (any_of HT_.out (by kernel_rfl)) (fun _ _ _ h => h) (Or.inl ⟨by rfl, ?_⟩) ?_ ?_
               rotate_left
               · intro w'
                 go_simp
                 with_reducible rfl
               rotate_left
               · simp only [Act.put, List.setIfInBounds_toArray, List.set_cons_zero, List.set_cons_succ, i64_w, i32_w]
                 rfl
               refine pure_ (i := 7) (N := some 29) (v := ?_) (a' := ?_) #[true, true, true, false, false, false, true, true, false, false, false, false, false] rfl rfl (any_of HT_.out (by kernel_rfl)) (fun _ _ _ h => h) (Or.inl ⟨by rfl, ?_⟩) ?_ ?_
               rotate_left
               · intro w'
                 go_simp
                 with_reducible rfl
               rotate_left
               · simp only [Act.put, List.setIfInBounds_toArray, List.set_cons_zero, List.set_cons_succ, i64_w, i32_w]
                 rfl
               refine pure_ (i := 8) (N := some 30) (v := ?_) (a' := ?_) #[true, true, true, false, false, false, true, true, true, false, false, false, false] rfl rfl (any_of HT_.out (by kernel_rfl)) (fun _ _ _ h => h) (Or.inl ⟨by rfl, ?_⟩) ?_ ?_
               rotate_left
               · intro w'
                 go_simp
                 with_reducible rfl
               rotate_left
               · simp only [Act.put, List.setIfInBounds_toArray, List.set_cons_zero, List.set_cons_succ, i64_w, i32_w]
                 rfl
               refine take_ (i := 3) (N := some 25) (v := ?_) (a' := ?_) #[true, true, true, true, false, false, true, true, true, false, false, false, false] rfl rfl (take_ofW HT_.out HW_.out (by kernel_rfl)) (fun _ _ _ h => h) (Or.inl ⟨by rfl, ?_⟩) hHeld ?_ ?_
               rotate_left
               · rintro w' ⟨s0, s1⟩
                 go_simp
                 with_reducible rfl
               rotate_left
               · simp only [Act.put, List.setIfInBounds_toArray, List.set_cons_zero, List.set_cons_succ, i64_w, i32_w]
                 rfl
               refine take_ (i := 9) (N := some 31) (v := ?_) (a' := ?_) #[true, true, true, true, false, false, true, true, true, true, false, false, false] rfl rfl (take_ofW HT_.out HW_.out (by kernel_rfl)) (fun _ _ _ h => h) (Or.inl ⟨by rfl, ?_⟩) hHeld ?_ ?_
               rotate_left
               · rintro w' ⟨s0, s1⟩
                 go_simp
                 with_reducible rfl
               rotate_left
               · simp only [Act.put, List.setIfInBounds_toArray, List.set_cons_zero, List.set_cons_succ, i64_w, i32_w]
                 rfl
               refine one_ (i := 4) (N := some 26) #[true, true, true, true, true, false, true, true, true, true, false, false, false] rfl rfl (one_of HT_.out (by kernel_rfl)) (by decide) (fun K hK => ?_)
               refine goes_ Tryz.func31 (by kernel_rfl) rfl #[.string (rdOf ByteArray.empty t598 x19_1)] (by rfl) rfl rfl (by (try simp only [List.map_toArray, List.map_cons, List.map_nil]); first | done | rfl | (simp only [List.length_drop, List.length_take]; rfl)) ?_
               with_reducible refine (spec_Fields.calls k1 (rdOf ByteArray.empty t598 x19_1) t605 _ A13.out).mono ?_
               rintro e w25 ⟨v606, rfl, ho0, hb⟩
               have HS0_ := (hb.cell (World.block_lt_of_cell? _ _ (hHeld.1))).trans (hHeld.1)
               have HS1_ := (hb.cell (World.block_lt_of_cell? _ _ (hHeld.2))).trans (hHeld.2)
               refine ⟨_, rfl, ?_⟩
               have n0_ := Aside0.mk (Kd.R_elder' (by (with_reducible repeat (first | apply Kd.R_alloc | apply Kd.R_drewN | apply Kd.R_drew)); exact HO_5.out) (Kd.R_base ho0) hb)
               have n1_ := Aside0.mk (Kd.R_elder' (by (with_reducible repeat (first | apply Kd.R_alloc | apply Kd.R_drewN | apply Kd.R_drew)); exact HO_6.out) (Kd.R_base ho0) hb)
               have n2_ := Aside0.mk (Kd.R_lower (Kd.R_new' (Kd.R_new' ho0 (Kd.R_lt (by (with_reducible repeat (first | apply Kd.R_alloc | apply Kd.R_drewN | apply Kd.R_drew)); exact HO_5.out))) (Kd.R_lt (by (with_reducible repeat (first | apply Kd.R_alloc | apply Kd.R_drewN | apply Kd.R_drew)); exact HO_6.out))) (below_size (by repeat (first | (with_reducible first | exact HB.out | apply below_alloc | apply pw_below_drewN | apply below_drew1) | exact HB.out))))
               have n3_ := Aside0.mk (below_step (by repeat (first | (with_reducible first | exact HB.out | apply below_alloc | apply pw_below_drewN | apply below_drew1) | exact HB.out)) hb)
               clear HO_5
               clear HO_6
               clear HB
               have HO_5 := n0_
               have HO_6 := n1_
               have HO607 := n2_
               have HB := n3_
               clear n0_ n1_ n2_ n3_
               (try clear hb)
               (try clear hb2)
               (try clear hk)
               (try clear hi)
               (try clear ho0)
               obtain ⟨Ao26, co26, eo26⟩ := Kd.R_slice HO607.out
               (first | subst eo26 | (injection eo26 with f1_ f2_ f3_; have f4_ := f1_.symm; have f5_ := f3_.symm; clear f1_ f2_ f3_; subst f4_; subst f5_))
               refine hK.out _ _ ⟨HS0_, HS1_⟩ (fun hHeld => ?_)
               clear hK K
               refine norm_ (a' := ?_) ?_ ?_
               rotate_left
               · show Act.put _ (some 26) _ = _
                 simp only [Act.put, List.setIfInBounds_toArray, List.set_cons_zero, List.set_cons_succ, i64_w, i32_w]
                 rfl
               refine one_ (i := 5) (N := some 27) #[true, true, true, true, true, true, true, true, true, true, false, false, false] rfl rfl (one_of HT_.out (by kernel_rfl)) (by decide) (fun K hK => ?_)
               refine goes_ Tryz.func130 (by kernel_rfl) rfl #[.slice Ao26 t605.length co26, .string (⟨#[32]⟩ : ByteArray)] (by rfl) rfl rfl (by (try simp only [List.map_toArray, List.map_cons, List.map_nil]); first | done | rfl | (simp only [List.length_drop, List.length_take]; rfl)) ?_
               with_reducible refine (spec_Join.calls k1 _ _ t605 (⟨#[32]⟩ : ByteArray) t608 _ ?side1 ?side2 A14.out).mono ?_
               (case side1 => repeat (first | exact (Kd.R_reads' HO607.out).2.2 | (with_reducible refine Kd.C_alloc ?_ _) | (with_reducible refine Kd.C_drewN ?_ _) | (with_reducible refine Kd.C_drew ?_)))
               (case side2 => exact (Kd.R_reads' HO607.out).2.1)
               rintro e w' ⟨rfl, ⟨nd, rfl⟩⟩
               refine ⟨_, rfl, ?_⟩
               refine hK.out _ _ ⟨hHeld.1, hHeld.2⟩ (fun hHeld => ?_)
               clear hK K
               refine norm_ (a' := ?_) ?_ ?_
               rotate_left
               · show Act.put _ (some 27) _ = _
                 simp only [Act.put, List.setIfInBounds_toArray, List.set_cons_zero, List.set_cons_succ, i64_w, i32_w]
                 rfl
               refine one_ (i := 10) (N := some 32) #[true, true, true, true, true, true, true, true, true, true, true, false, false] rfl rfl (one_of HT_.out (by kernel_rfl)) (by decide) (fun K hK => ?_)
               refine goes_ Tryz.func31 (by kernel_rfl) rfl #[.string (rdOf ByteArray.empty t601 x19_1)] (by rfl) rfl rfl (by (try simp only [List.map_toArray, List.map_cons, List.map_nil]); first | done | rfl | (simp only [List.length_drop, List.length_take]; rfl)) ?_
               with_reducible refine (spec_Fields.calls k1 (rdOf ByteArray.empty t601 x19_1) t610 _ A16.out).mono ?_
               rintro e w27 ⟨v611, rfl, ho0, hb⟩
               have HS0_ := (hb.cell (World.block_lt_of_cell? _ _ (hHeld.1))).trans (hHeld.1)
               have HS1_ := (hb.cell (World.block_lt_of_cell? _ _ (hHeld.2))).trans (hHeld.2)
               refine ⟨_, rfl, ?_⟩
               have n0_ := Aside0.mk (Kd.R_elder' (by (with_reducible repeat (first | apply Kd.R_alloc | apply Kd.R_drewN | apply Kd.R_drew)); exact HO_5.out) (Kd.R_base ho0) hb)
               have n1_ := Aside0.mk (Kd.R_elder' (by (with_reducible repeat (first | apply Kd.R_alloc | apply Kd.R_drewN | apply Kd.R_drew)); exact HO_6.out) (Kd.R_base ho0) hb)
               have n2_ := Aside0.mk (Kd.R_elder' (by (with_reducible repeat (first | apply Kd.R_alloc | apply Kd.R_drewN | apply Kd.R_drew)); exact HO607.out) (Kd.R_base ho0) hb)
               have n3_ := Aside0.mk (Kd.R_lower (Kd.R_new' (Kd.R_new' (Kd.R_new' ho0 (Kd.R_lt (by (with_reducible repeat (first | apply Kd.R_alloc | apply Kd.R_drewN | apply Kd.R_drew)); exact HO_5.out))) (Kd.R_lt (by (with_reducible repeat (first | apply Kd.R_alloc | apply Kd.R_drewN | apply Kd.R_drew)); exact HO_6.out))) (Kd.R_lt (by (with_reducible repeat (first | apply Kd.R_alloc | apply Kd.R_drewN | apply Kd.R_drew)); exact HO607.out))) (below_size (by repeat (first | (with_reducible first | exact HB.out | apply below_alloc | apply pw_below_drewN | apply below_drew1) | exact HB.out))))
               have n4_ := Aside0.mk (below_step (by repeat (first | (with_reducible first | exact HB.out | apply below_alloc | apply pw_below_drewN | apply below_drew1) | exact HB.out)) hb)
               clear HO_5
               clear HO_6
               clear HO607
               clear HB
               have HO_5 := n0_
               have HO_6 := n1_
               have HO607 := n2_
               have HO612 := n3_
               have HB := n4_
               clear n0_ n1_ n2_ n3_ n4_
               (try clear hb)
               (try clear hb2)
               (try clear hk)
               (try clear hi)
               (try clear ho0)
               obtain ⟨Ao28, co28, eo28⟩ := Kd.R_slice HO612.out
               (first | subst eo28 | (injection eo28 with f1_ f2_ f3_; have f4_ := f1_.symm; have f5_ := f3_.symm; clear f1_ f2_ f3_; subst f4_; subst f5_))
               refine hK.out _ _ ⟨HS0_, HS1_⟩ (fun hHeld => ?_)
               clear hK K
               refine norm_ (a' := ?_) ?_ ?_
               rotate_left
               · show Act.put _ (some 32) _ = _
                 simp only [Act.put, List.setIfInBounds_toArray, List.set_cons_zero, List.set_cons_succ, i64_w, i32_w]
                 rfl
               refine one_ (i := 11) (N := some 33) #[true, true, true, true, true, true, true, true, true, true, true, true, false] rfl rfl (one_of HT_.out (by kernel_rfl)) (by decide) (fun K hK => ?_)
               refine goes_ Tryz.func130 (by kernel_rfl) rfl #[.slice Ao28 t610.length co28, .string (⟨#[32]⟩ : ByteArray)] (by rfl) rfl rfl (by (try simp only [List.map_toArray, List.map_cons, List.map_nil]); first | done | rfl | (simp only [List.length_drop, List.length_take]; rfl)) ?_
               with_reducible refine (spec_Join.calls k1 _ _ t610 (⟨#[32]⟩ : ByteArray) t613 _ ?side1 ?side2 A17.out).mono ?_
               (case side1 => repeat (first | exact (Kd.R_reads' HO612.out).2.2 | (with_reducible refine Kd.C_alloc ?_ _) | (with_reducible refine Kd.C_drewN ?_ _) | (with_reducible refine Kd.C_drew ?_)))
               (case side2 => exact (Kd.R_reads' HO612.out).2.1)
               rintro e w' ⟨rfl, ⟨nd, rfl⟩⟩
               refine ⟨_, rfl, ?_⟩
               refine hK.out _ _ ⟨hHeld.1, hHeld.2⟩ (fun hHeld => ?_)
               clear hK K
               refine norm_ (a' := ?_) ?_ ?_
               rotate_left
               · show Act.put _ (some 33) _ = _
                 simp only [Act.put, List.setIfInBounds_toArray, List.set_cons_zero, List.set_cons_succ, i64_w, i32_w]
                 rfl
               refine pure_ (i := 12) (N := some 34) (v := ?_) (a' := ?_) #[true, true, true, true, true, true, true, true, true, true, true, true, true] rfl rfl (any_of HT_.out (by kernel_rfl)) (fun _ _ _ h => h) (Or.inl ⟨by rfl, ?_⟩) ?_ ?_
               rotate_left
               · intro w'
                 go_simp
                 with_reducible rfl
               rotate_left
               · simp only [Act.put, List.setIfInBounds_toArray, List.set_cons_zero, List.set_cons_succ, i64_w, i32_w]
                 rfl
               refine done_ (done_of HT_.out (by kernel_rfl)) ?_
               try go_wp2
               go_ret
               exact ⟨by first | rfl | (simp [errW_none, errW_some] <;> rfl) | (simp [*, errW_none, errW_some] <;> rfl), by repeat (first | (with_reducible first | exact HB.out | apply below_alloc | apply pw_below_drewN | apply below_drew1) | exact HB.out)⟩
           · rw [if_neg c15] at H
             exact absurd H (by simp)
         · rw [if_neg c12] at H
           exact absurd H (by simp)
       · rw [if_neg c11] at H
         exact absurd H (by simp)
     · rw [if_neg c10] at H
       have c10b0 : decide (x19_1 < (t598.length : Int)) = false := decide_eq_false c10
       clear c10
       obtain rfl := Option.some.inj H
       go_wp2
       go_ret
       exact ⟨by first | rfl | (simp [errW_none, errW_some] <;> rfl) | (simp [*, errW_none, errW_some] <;> rfl), by repeat (first | (with_reducible first | exact HB.out | apply below_alloc | apply pw_below_drewN | apply below_drew1) | exact HB.out)⟩
 · rw [if_neg c5] at H
   have c5b0 : ((t598.length : Int) == (t601.length : Int)) = false := beq_eq_false_iff_ne.mpr c5
   have c5b1 : ((t598.length : Int) != (t601.length : Int)) = true := bne_iff_ne.mpr c5
   have c5b2 : (t598.length == t601.length) = false := by first | simpa using c5 | (simp at c5 ⊢; omega)
   obtain rfl := Option.some.inj H
   go_enter Tryz.func98, Tryz.ntmps98
   go_wp2_with (first | ((with_reducible refine gate_callee (f := 47) rfl ?_); refine goesL_ (some 9) rfl rfl Tryz.func47 (by kernel_rfl) rfl #[.string a0] rfl (by (try simp only [List.map_toArray, List.map_cons, List.map_nil]); first | done | rfl | (simp only [List.length_drop, List.length_take]; rfl)) ?_; (with_reducible refine (spec_Lines.calls k a0 t598 _ A3.out).mono ?_); rintro e w29 ⟨v599, rfl, ho0, hb⟩; refine ⟨_, rfl, ?_⟩; have n0_ := Aside0.mk (Kd.R_lower ho0 (below_size (by repeat (first | (with_reducible first | exact HB.out | apply below_alloc | apply pw_below_drewN | apply below_drew1) | exact HB.out)))); have n1_ := Aside0.mk (below_step (by repeat (first | (with_reducible first | exact HB.out | apply below_alloc | apply pw_below_drewN | apply below_drew1) | exact HB.out)) hb); clear HB; have HO600 := n0_; have HB := n1_; clear n0_ n1_; (try clear hb); (try clear hb2); (try clear hk); (try clear hi); (try clear ho0)) | ((with_reducible refine gate_callee (f := 47) rfl ?_); refine goesL_ (some 11) rfl rfl Tryz.func47 (by kernel_rfl) rfl #[.string a1] rfl (by (try simp only [List.map_toArray, List.map_cons, List.map_nil]); first | done | rfl | (simp only [List.length_drop, List.length_take]; rfl)) ?_; (with_reducible refine (spec_Lines.calls k a1 t601 _ A4.out).mono ?_); rintro e w30 ⟨v602, rfl, ho0, hb⟩; refine ⟨_, rfl, ?_⟩; have n0_ := Aside0.mk (Kd.R_elder' (by (with_reducible repeat (first | apply Kd.R_alloc | apply Kd.R_drewN | apply Kd.R_drew)); exact HO600.out) (Kd.R_base ho0) hb); have n1_ := Aside0.mk (Kd.R_lower (Kd.R_new' ho0 (Kd.R_lt (by (with_reducible repeat (first | apply Kd.R_alloc | apply Kd.R_drewN | apply Kd.R_drew)); exact HO600.out))) (below_size (by repeat (first | (with_reducible first | exact HB.out | apply below_alloc | apply pw_below_drewN | apply below_drew1) | exact HB.out)))); have n2_ := Aside0.mk (below_step (by repeat (first | (with_reducible first | exact HB.out | apply below_alloc | apply pw_below_drewN | apply below_drew1) | exact HB.out)) hb); clear HO600; clear HB; have HO600 := n0_; have HO603 := n1_; have HB := n2_; clear n0_ n1_ n2_; (try clear hb); (try clear hb2); (try clear hk); (try clear hi); (try clear ho0); obtain ⟨Ao31, co31, eo31⟩ := Kd.R_slice HO600.out; subst eo31; obtain ⟨Ao32, co32, eo32⟩ := Kd.R_slice HO603.out; subst eo32))
   go_ret
   exact ⟨by first | rfl | (simp [errW_none, errW_some] <;> rfl) | (simp [*, errW_none, errW_some] <;> rfl), by repeat (first | (with_reducible first | exact HB.out | apply below_alloc | apply pw_below_drewN | apply below_drew1) | exact HB.out)⟩
def spec_leads.l0 : Nat → ByteArray → List ByteArray → Int → Int → Option (Bool)
 | 0, _, _, _, _ => none
 | k + 1, x0, x6, x7, x8 => if x8 < x7 then (if 0 ≤ x8 then (if x8 < (x6.length : Int) then (if (rdOf ByteArray.empty x6 x8).toList = ([] : List UInt8) then (some false) else (if 0 ≤ (wrap64 (((rdOf ByteArray.empty x6 x8).size : Int) - 1)) then (if (wrap64 (((rdOf ByteArray.empty x6 x8).size : Int) - 1)) < ((rdOf ByteArray.empty x6 x8).size : Int) then (if (bt (rdOf ByteArray.empty x6 x8) (wrap64 (((rdOf ByteArray.empty x6 x8).size : Int) - 1))) = 32 then (some false) else (if (bt (rdOf ByteArray.empty x6 x8) (wrap64 (((rdOf ByteArray.empty x6 x8).size : Int) - 1))) = 9 then (some false) else (spec_leads.l0 k x0 x6 x7 (wrap64 (x8 + 1))))) else (none)) else (none))) else (none)) else (none)) else (if x0.toList = ([] : List UInt8) then (some true) else (if 0 ≤ (wrap64 ((x0.size : Int) - 1)) then (if (wrap64 ((x0.size : Int) - 1)) < (x0.size : Int) then (some ((bt x0 (wrap64 ((x0.size : Int) - 1))) == 10)) else (none)) else (none)))
def spec_leads.f (k : Nat) (a0 : ByteArray) : Option (Bool) := (spec_Lines.f k a0).bind fun t614 => (spec_leads.l0 k a0 t614 (t614.length : Int) 0)
set_option maxHeartbeats 8000000 in
set_option maxRecDepth 100000 in
theorem spec_leads.calls (k : Nat) (a0 : ByteArray) (r : Bool) (w : World) (h : spec_leads.f k a0 = some r) :
 Calls Tryz.prog 99 #[.string a0] w fun e w' => e = .returned (.bool r) ∧ Below w.heap.size w w' := by
 have HB := Aside0.mk (Below.refl w.heap.size w)
 have H : ((spec_Lines.f k a0).bind fun t614 => (spec_leads.l0 k a0 t614 (t614.length : Int) 0)) = some r := h
 clear h
 replace H := Option.bind_eq_some_iff.mp H
 obtain ⟨t614, A20, H⟩ := H
 replace H : (spec_leads.l0 k a0 t614 (t614.length : Int) 0) = some r := H
 have A2 := Aside0.mk A20
 clear A20
 have H' := Aside0.mk H
 clear H
 go_enter Tryz.func99, Tryz.ntmps99
 go_wp2_with (first | ((with_reducible refine gate_callee (f := 47) rfl ?_); refine goesL_ (some 6) rfl rfl Tryz.func47 (by kernel_rfl) rfl #[.string a0] rfl (by (try simp only [List.map_toArray, List.map_cons, List.map_nil]); first | done | rfl | (simp only [List.length_drop, List.length_take]; rfl)) ?_; (with_reducible refine (spec_Lines.calls k a0 t614 _ A2.out).mono ?_); rintro e w3 ⟨v615, rfl, ho0, hb⟩; refine ⟨_, rfl, ?_⟩; have n0_ := Aside0.mk (Kd.R_lower ho0 (below_size (by repeat (first | (with_reducible first | exact HB.out | apply below_alloc | apply pw_below_drewN | apply below_drew1) | exact HB.out)))); have n1_ := Aside0.mk (below_step (by repeat (first | (with_reducible first | exact HB.out | apply below_alloc | apply pw_below_drewN | apply below_drew1) | exact HB.out)) hb); clear HB; have HO616 := n0_; have HB := n1_; clear n0_ n1_; (try clear hb); (try clear hb2); (try clear hk); (try clear hi); (try clear ho0); obtain ⟨Ao4, co4, eo4⟩ := Kd.R_slice HO616.out; subst eo4))
 go_loopg [8] k (fun kq v8 w' => ∃ (x8_1 : Int), v8 = .int .i64 x8_1 ∧ Aside0 (spec_leads.l0 kq a0 t614 (t614.length : Int) x8_1 = some r) ∧ Aside0 (kq ≤ k) ∧ Aside0 (Kd.R Kd.string 9 w' w.heap.size (fun _ => True) (.slice Ao4 t614.length co4) t614) ∧ Aside0 (Below w.heap.size w w'))
 case atStart => exact ⟨(0), (by first | rfl | (simp; done) | (simp [*]; done)), H', ⟨Nat.le_refl _⟩, ⟨by (with_reducible repeat (first | apply Kd.R_alloc | apply Kd.R_drewN | apply Kd.R_drew)); exact HO616.out⟩, ⟨by repeat (first | (with_reducible first | exact HB.out | apply below_alloc | apply pw_below_drewN | apply below_drew1) | exact HB.out)⟩⟩
 case round =>
  clear H'
  try clear p2
  try clear c4
  obtain ⟨x8_1, rfl, HA, HK1, HO_6, HB⟩ := hrel
  cases gk with
  | zero => exact absurd HA.out (by simp [spec_leads.l0])
  | succ k1 =>
   have H := HA.out
   clear HA
   simp only [spec_leads.l0] at H
   by_cases c5 : x8_1 < (t614.length : Int)
   · rw [if_pos c5] at H
     have c5b0 : decide (x8_1 < (t614.length : Int)) = true := decide_eq_true c5
     clear c5
     by_cases c6 : 0 ≤ x8_1
     · rw [if_pos c6] at H
       have c6b0 : decide (0 ≤ x8_1) = true := decide_eq_true c6
       clear c6
       by_cases c7 : x8_1 < (t614.length : Int)
       · rw [if_pos c7] at H
         have c7b0 : decide (x8_1 < (t614.length : Int)) = true := decide_eq_true c7
         clear c7
         by_cases c8 : (rdOf ByteArray.empty t614 x8_1).toList = ([] : List UInt8)
         · rw [if_pos c8] at H
           have c8b0 : ((rdOf ByteArray.empty t614 x8_1).toList == ([] : List UInt8)) = true := beq_iff_eq.mpr c8
           have c8b1 : ((rdOf ByteArray.empty t614 x8_1).toList != ([] : List UInt8)) = false := bne_eq_false_iff_eq.mpr c8
           clear c8
           obtain rfl := Option.some.inj H
           have p617 : 0 ≤ (x8_1 : Int) := of_decide_eq_true (by first | (with_reducible assumption) | assumption)
           have q617 : x8_1 < (t614.length : Int) := of_decide_eq_true (by first | (with_reducible assumption) | assumption)
           obtain ⟨ad617, e617, hx617_0⟩ := Kd.at_string (Kd.R_reads' HO_6.out).2.2 x8_1 p617 q617
           cases e617
           replace p617 := eq_true p617
           replace q617 := eq_true q617
           go_wp2
           go_ret
           exact ⟨by first | rfl | (simp [errW_none, errW_some] <;> rfl) | (simp [*, errW_none, errW_some] <;> rfl), by repeat (first | (with_reducible first | exact HB.out | apply below_alloc | apply pw_below_drewN | apply below_drew1) | exact HB.out)⟩
         · rw [if_neg c8] at H
           have c8b0 : ((rdOf ByteArray.empty t614 x8_1).toList == ([] : List UInt8)) = false := beq_eq_false_iff_ne.mpr c8
           have c8b1 : ((rdOf ByteArray.empty t614 x8_1).toList != ([] : List UInt8)) = true := bne_iff_ne.mpr c8
           obtain ⟨ji9, hji9⟩ : ∃ j_ : Int, (wrap64 (((rdOf ByteArray.empty t614 x8_1).size : Int) - 1)) = j_ := ⟨_, rfl⟩
           replace H : (if 0 ≤ (ji9) then (if (ji9) < ((rdOf ByteArray.empty t614 x8_1).size : Int) then (if (bt (rdOf ByteArray.empty t614 x8_1) (ji9)) = 32 then (some false) else (if (bt (rdOf ByteArray.empty t614 x8_1) (ji9)) = 9 then (some false) else (spec_leads.l0 k1 a0 t614 (t614.length : Int) (wrap64 (x8_1 + 1))))) else (none)) else (none)) = some r := by first | (rw [hji9] at H; exact H) | (simp only [hji9] at H ⊢; exact H)
           have hji9w : (IntKind.i64.wrap (((rdOf ByteArray.empty t614 x8_1).size : Int) - 1)) = ji9 := (i64_w _).trans hji9
           by_cases c10 : 0 ≤ (ji9)
           · rw [if_pos c10] at H
             have c10b0 : decide (0 ≤ (ji9)) = true := decide_eq_true c10
             clear c10
             by_cases c11 : (ji9) < ((rdOf ByteArray.empty t614 x8_1).size : Int)
             · rw [if_pos c11] at H
               have c11b0 : decide ((ji9) < ((rdOf ByteArray.empty t614 x8_1).size : Int)) = true := decide_eq_true c11
               clear c11
               by_cases c13 : (bt (rdOf ByteArray.empty t614 x8_1) (ji9)) = 32
               · rw [if_pos c13] at H
                 have c13b0 : ((bt (rdOf ByteArray.empty t614 x8_1) (ji9)) == 32) = true := beq_iff_eq.mpr c13
                 have c13b1 : ((bt (rdOf ByteArray.empty t614 x8_1) (ji9)) != 32) = false := bne_eq_false_iff_eq.mpr c13
                 clear c13
                 obtain rfl := Option.some.inj H
                 have p617 : 0 ≤ (x8_1 : Int) := of_decide_eq_true (by first | (with_reducible assumption) | assumption)
                 have q617 : x8_1 < (t614.length : Int) := of_decide_eq_true (by first | (with_reducible assumption) | assumption)
                 obtain ⟨ad617, e617, hx617_0⟩ := Kd.at_string (Kd.R_reads' HO_6.out).2.2 x8_1 p617 q617
                 cases e617
                 replace p617 := eq_true p617
                 replace q617 := eq_true q617
                 have p12 : 0 ≤ ((ji9) : Int) := of_decide_eq_true (by first | (with_reducible assumption) | assumption)
                 have q12 : (ji9) < ((rdOf ByteArray.empty t614 x8_1).size : Int) := of_decide_eq_true (by first | (with_reducible assumption) | assumption)
                 have hx12 := bt_at (rdOf ByteArray.empty t614 x8_1) (ji9)
                 replace p12 := eq_true p12
                 replace q12 := eq_true q12
                 go_wp2
                 go_ret
                 exact ⟨by first | rfl | (simp [errW_none, errW_some] <;> rfl) | (simp only [← hji9]; first | rfl | (simp [errW_none, errW_some] <;> rfl)) | (simp [*, errW_none, errW_some] <;> rfl), by repeat (first | (with_reducible first | exact HB.out | apply below_alloc | apply pw_below_drewN | apply below_drew1) | exact HB.out)⟩
               · rw [if_neg c13] at H
                 have c13b0 : ((bt (rdOf ByteArray.empty t614 x8_1) (ji9)) == 32) = false := beq_eq_false_iff_ne.mpr c13
                 have c13b1 : ((bt (rdOf ByteArray.empty t614 x8_1) (ji9)) != 32) = true := bne_iff_ne.mpr c13
                 by_cases c15 : (bt (rdOf ByteArray.empty t614 x8_1) (ji9)) = 9
                 · rw [if_pos c15] at H
                   have c15b0 : ((bt (rdOf ByteArray.empty t614 x8_1) (ji9)) == 9) = true := beq_iff_eq.mpr c15
                   have c15b1 : ((bt (rdOf ByteArray.empty t614 x8_1) (ji9)) != 9) = false := bne_eq_false_iff_eq.mpr c15
                   clear c15
                   obtain rfl := Option.some.inj H
                   have p617 : 0 ≤ (x8_1 : Int) := of_decide_eq_true (by first | (with_reducible assumption) | assumption)
                   have q617 : x8_1 < (t614.length : Int) := of_decide_eq_true (by first | (with_reducible assumption) | assumption)
                   obtain ⟨ad617, e617, hx617_0⟩ := Kd.at_string (Kd.R_reads' HO_6.out).2.2 x8_1 p617 q617
                   cases e617
                   replace p617 := eq_true p617
                   replace q617 := eq_true q617
                   have p12 : 0 ≤ ((ji9) : Int) := of_decide_eq_true (by first | (with_reducible assumption) | assumption)
                   have q12 : (ji9) < ((rdOf ByteArray.empty t614 x8_1).size : Int) := of_decide_eq_true (by first | (with_reducible assumption) | assumption)
                   have hx12 := bt_at (rdOf ByteArray.empty t614 x8_1) (ji9)
                   replace p12 := eq_true p12
                   replace q12 := eq_true q12
                   have p14 : 0 ≤ ((ji9) : Int) := of_decide_eq_true (by first | (with_reducible assumption) | assumption)
                   have q14 : (ji9) < ((rdOf ByteArray.empty t614 x8_1).size : Int) := of_decide_eq_true (by first | (with_reducible assumption) | assumption)
                   have hx14 := bt_at (rdOf ByteArray.empty t614 x8_1) (ji9)
                   replace p14 := eq_true p14
                   replace q14 := eq_true q14
                   go_wp2
                   go_ret
                   exact ⟨by first | rfl | (simp [errW_none, errW_some] <;> rfl) | (simp only [← hji9]; first | rfl | (simp [errW_none, errW_some] <;> rfl)) | (simp [*, errW_none, errW_some] <;> rfl), by repeat (first | (with_reducible first | exact HB.out | apply below_alloc | apply pw_below_drewN | apply below_drew1) | exact HB.out)⟩
                 · rw [if_neg c15] at H
                   have c15b0 : ((bt (rdOf ByteArray.empty t614 x8_1) (ji9)) == 9) = false := beq_eq_false_iff_ne.mpr c15
                   have c15b1 : ((bt (rdOf ByteArray.empty t614 x8_1) (ji9)) != 9) = true := bne_iff_ne.mpr c15
                   have H' := Aside0.mk H
                   clear H
                   have p617 : 0 ≤ (x8_1 : Int) := of_decide_eq_true (by first | (with_reducible assumption) | assumption)
                   have q617 : x8_1 < (t614.length : Int) := of_decide_eq_true (by first | (with_reducible assumption) | assumption)
                   obtain ⟨ad617, e617, hx617_0⟩ := Kd.at_string (Kd.R_reads' HO_6.out).2.2 x8_1 p617 q617
                   cases e617
                   replace p617 := eq_true p617
                   replace q617 := eq_true q617
                   have p12 : 0 ≤ ((ji9) : Int) := of_decide_eq_true (by first | (with_reducible assumption) | assumption)
                   have q12 : (ji9) < ((rdOf ByteArray.empty t614 x8_1).size : Int) := of_decide_eq_true (by first | (with_reducible assumption) | assumption)
                   have hx12 := bt_at (rdOf ByteArray.empty t614 x8_1) (ji9)
                   replace p12 := eq_true p12
                   replace q12 := eq_true q12
                   have p14 : 0 ≤ ((ji9) : Int) := of_decide_eq_true (by first | (with_reducible assumption) | assumption)
                   have q14 : (ji9) < ((rdOf ByteArray.empty t614 x8_1).size : Int) := of_decide_eq_true (by first | (with_reducible assumption) | assumption)
                   have hx14 := bt_at (rdOf ByteArray.empty t614 x8_1) (ji9)
                   replace p14 := eq_true p14
                   replace q14 := eq_true q14
                   go_wp2
                   go_roundg k1
                   case measure => have := HK1.out; omega
                   case rel => exact ⟨(wrap64 (x8_1 + 1)), (by first | rfl | (simp; done) | (simp [*]; done)), H', ⟨by have := HK1.out; omega⟩, ⟨by (with_reducible repeat (first | apply Kd.R_alloc | apply Kd.R_drewN | apply Kd.R_drew)); exact HO_6.out⟩, ⟨by repeat (first | (with_reducible first | exact HB.out | apply below_alloc | apply pw_below_drewN | apply below_drew1) | exact HB.out)⟩⟩
             · rw [if_neg c11] at H
               exact absurd H (by simp)
           · rw [if_neg c10] at H
             exact absurd H (by simp)
       · rw [if_neg c7] at H
         exact absurd H (by simp)
     · rw [if_neg c6] at H
       exact absurd H (by simp)
   · rw [if_neg c5] at H
     have c5b0 : decide (x8_1 < (t614.length : Int)) = false := decide_eq_false c5
     clear c5
     by_cases c16 : a0.toList = ([] : List UInt8)
     · rw [if_pos c16] at H
       have c16b0 : (a0.toList == ([] : List UInt8)) = true := beq_iff_eq.mpr c16
       have c16b1 : (a0.toList != ([] : List UInt8)) = false := bne_eq_false_iff_eq.mpr c16
       clear c16
       obtain rfl := Option.some.inj H
       go_wp2
       go_ret
       exact ⟨by first | rfl | (simp [errW_none, errW_some] <;> rfl) | (simp [*, errW_none, errW_some] <;> rfl), by repeat (first | (with_reducible first | exact HB.out | apply below_alloc | apply pw_below_drewN | apply below_drew1) | exact HB.out)⟩
     · rw [if_neg c16] at H
       have c16b0 : (a0.toList == ([] : List UInt8)) = false := beq_eq_false_iff_ne.mpr c16
       have c16b1 : (a0.toList != ([] : List UInt8)) = true := bne_iff_ne.mpr c16
       obtain ⟨ji17, hji17⟩ : ∃ j_ : Int, (wrap64 ((a0.size : Int) - 1)) = j_ := ⟨_, rfl⟩
       replace H : (if 0 ≤ (ji17) then (if (ji17) < (a0.size : Int) then (some ((bt a0 (ji17)) == 10)) else (none)) else (none)) = some r := by first | (rw [hji17] at H; exact H) | (simp only [hji17] at H ⊢; exact H)
       have hji17w : (IntKind.i64.wrap ((a0.size : Int) - 1)) = ji17 := (i64_w _).trans hji17
       by_cases c18 : 0 ≤ (ji17)
       · rw [if_pos c18] at H
         have c18b0 : decide (0 ≤ (ji17)) = true := decide_eq_true c18
         clear c18
         by_cases c19 : (ji17) < (a0.size : Int)
         · rw [if_pos c19] at H
           have c19b0 : decide ((ji17) < (a0.size : Int)) = true := decide_eq_true c19
           clear c19
           obtain rfl := Option.some.inj H
           have p20 : 0 ≤ ((ji17) : Int) := of_decide_eq_true (by first | (with_reducible assumption) | assumption)
           have q20 : (ji17) < (a0.size : Int) := of_decide_eq_true (by first | (with_reducible assumption) | assumption)
           have hx20 := bt_at a0 (ji17)
           replace p20 := eq_true p20
           replace q20 := eq_true q20
           go_wp2
           go_ret
           exact ⟨by first | rfl | (simp [errW_none, errW_some] <;> rfl) | (simp only [← hji17]; first | rfl | (simp [errW_none, errW_some] <;> rfl)) | (simp [*, errW_none, errW_some] <;> rfl), by repeat (first | (with_reducible first | exact HB.out | apply below_alloc | apply pw_below_drewN | apply below_drew1) | exact HB.out)⟩
         · rw [if_neg c19] at H
           exact absurd H (by simp)
       · rw [if_neg c18] at H
         exact absurd H (by simp)
end Go.Proofs.YtabfehcpcjcomaaGreatDoor.QA0
namespace Go.Proofs.YtabfehcpcjcomaaGreatDoor.QA0
open Go.RowKit Go.Proofs.YtabfehcpcjcomaaGreatDoorW.PrintWords Go.Proofs.YtabfehcpcjcomaaGreatDoorW.PrintLast Go.Proofs.YtabfehcpcjcomaaGreatDoorW.PrintMore
attribute [local go_sem] max2_int min2_int max_two min_two max_three min_three max_four min_four
set_option linter.unusedVariables false
set_option linter.unusedSimpArgs false
def spec_recordNode.f (a0 : ByteArray) (l1 : List (S38)) : Option (ByteArray × Int × Bool × Int × Int × Nat × ByteArray × (List (S38))) := some (a0, 8, false, 0, 0, 0, (⟨#[]⟩ : ByteArray), l1)
set_option maxHeartbeats 8000000 in
set_option maxRecDepth 100000 in
theorem spec_recordNode.calls (a0 : ByteArray) (P1_ : Nat → Prop) (A1 : Option Addr) (c1 : Nat) (l1 : List (S38)) (r1 : ByteArray) (r2 : Int) (r3 : Bool) (r4 : Int) (r5 : Int) (r6 : Nat) (r7 : ByteArray) (r8 : List (S38)) (w : World) (hs1 : Kd.V k38 38 w w.heap.size (fun k_ => P1_ k_) (.slice A1 l1.length c1) l1) (h : spec_recordNode.f a0 l1 = some (r1, r2, r3, r4, r5, r6, r7, r8)) :
 Calls Tryz.prog 38 #[.string a0, .slice A1 l1.length c1] w fun e w' => ∃ v7_ : Value, e = .returned (.agg #[.string r1, .int .i64 r2, .bool r3, .int .i64 r4, .int .u64 r5, .float .f64 r6, .string r7, v7_]) ∧ Kd.V k38 38 w' w.heap.size (fun k_ => (P1_ k_ ∨ w.heap.size ≤ k_)) v7_ r8 ∧ Below w.heap.size w w' := by
 have hu38 := Tryz.underlying38
 have HO1 := Aside0.mk (show Kd.V k38 38 w w.heap.size (fun k_ => (P1_ k_ ∨ w.heap.size ≤ k_)) (.slice A1 l1.length c1) l1 from Kd.V_mono hs1 (fun k_ hk => .inl hk))
 have HB := Aside0.mk (Below.refl w.heap.size w)
 have H : (some (a0, 8, false, 0, 0, 0, (⟨#[]⟩ : ByteArray), l1)) = some (r1, r2, r3, r4, r5, r6, r7, r8) := h
 clear h
 simp only [Option.some.injEq, Prod.mk.injEq] at H
 obtain ⟨rfl, rfl, rfl, rfl, rfl, rfl, rfl, rfl⟩ := H
 go_enter Tryz.func38, Tryz.ntmps38
 go_wp2_with (first | ((with_reducible refine gate_dst (N := 4) rfl ?_); refine box_event ?hg (N := 4) ?hd (cs := #[.string (⟨#[]⟩ : ByteArray), .int .i64 0, .bool false, .int .i64 0, .int .u64 0, .float .f64 0, .string (⟨#[]⟩ : ByteArray), .slice none 0 0]) (t := 38) ?hr ?_; (case hd => rfl); (case hg => rfl); (case hr => first | (go_simp; done) | (go_simp; rfl)); intro gb639 hg w3 hbox hb; have n0_ := Aside0.mk (Kd.V_below (Kd.V_elderB (by (with_reducible repeat (first | apply Kd.V_alloc | apply Kd.V_drewN | apply Kd.V_drew)); exact HO1.out) gb639 (Nat.le_of_eq hg.symm)) hb); have n1_ := Aside0.mk (below_step (by repeat (first | (with_reducible first | exact HB.out | apply below_alloc | apply pw_below_drewN | apply below_drew1) | exact HB.out)) hb); have n2_ := Aside0.mk (hbox); have n3_ := Aside0.mk ((by rw [hg]; exact (below_size (by repeat (first | (with_reducible first | exact HB.out | apply below_alloc | apply pw_below_drewN | apply below_drew1) | exact HB.out))) : w.heap.size ≤ gb639)); have n4_ := Aside0.mk ((by rw [hg]; exact (below_size (by repeat (first | (with_reducible first | exact HB.out | apply below_alloc | apply pw_below_drewN | apply below_drew1) | exact HB.out))) : w.heap.size ≤ gb639)); clear HO1; clear HB; have HO1 := n0_; have HB := n1_; have BK639 := n2_; have GW639 := n3_; have GE639 := n4_; clear n0_ n1_ n2_ n3_ n4_; clear hb hbox hg; have hcz4_0 : w3.cell? ⟨gb639, 0, none⟩ = some (.string (⟨#[]⟩ : ByteArray)) := (blk_cell BK639.out 0).trans rfl; have hcz4_1 : w3.cell? ⟨gb639, 1, none⟩ = some (.int .i64 0) := (blk_cell BK639.out 1).trans rfl; have hcz4_2 : w3.cell? ⟨gb639, 2, none⟩ = some (.bool false) := (blk_cell BK639.out 2).trans rfl; have hcz4_3 : w3.cell? ⟨gb639, 3, none⟩ = some (.int .i64 0) := (blk_cell BK639.out 3).trans rfl; have hcz4_4 : w3.cell? ⟨gb639, 4, none⟩ = some (.int .u64 0) := (blk_cell BK639.out 4).trans rfl; have hcz4_5 : w3.cell? ⟨gb639, 5, none⟩ = some (.float .f64 0) := (blk_cell BK639.out 5).trans rfl; have hcz4_6 : w3.cell? ⟨gb639, 6, none⟩ = some (.string (⟨#[]⟩ : ByteArray)) := (blk_cell BK639.out 6).trans rfl; have hcz4_7 : w3.cell? ⟨gb639, 7, none⟩ = some (.slice none 0 0) := (blk_cell BK639.out 7).trans rfl; have hfz4_0 := blk_frozen BK639.out 0; have hfz4_1 := blk_frozen BK639.out 1; have hfz4_2 := blk_frozen BK639.out 2; have hfz4_3 := blk_frozen BK639.out 3; have hfz4_4 := blk_frozen BK639.out 4; have hfz4_5 := blk_frozen BK639.out 5; have hfz4_6 := blk_frozen BK639.out 6; have hfz4_7 := blk_frozen BK639.out 7))
 refine bodyPost_ret (results_cell_row rfl _ _ gb639 38 #[.string a0, .int .i64 8, .bool false, .int .i64 0, .int .u64 0, .float .f64 0, .string (⟨#[]⟩ : ByteArray), .slice A1 l1.length c1] (0, 0) _ rfl (by (with_reducible repeat (first | refine blk_drewN ?_ _ | refine blk_drew ?_ | refine blk_alloc ?_ _)); refine blk_put (cs := #[.string a0, .int .i64 8, .bool false, .int .i64 0, .int .u64 0, .float .f64 0, .string (⟨#[]⟩ : ByteArray), .slice none 0 0]) ?_ 7 _ rfl; (with_reducible repeat (first | refine blk_drewN ?_ _ | refine blk_drew ?_ | refine blk_alloc ?_ _)); refine blk_put (cs := #[.string a0, .int .i64 8, .bool false, .int .i64 0, .int .u64 0, .float .f64 0, .string (⟨#[]⟩ : ByteArray), .slice none 0 0]) ?_ 6 _ rfl; (with_reducible repeat (first | refine blk_drewN ?_ _ | refine blk_drew ?_ | refine blk_alloc ?_ _)); refine blk_put (cs := #[.string a0, .int .i64 8, .bool false, .int .i64 0, .int .u64 0, .float .f64 0, .string (⟨#[]⟩ : ByteArray), .slice none 0 0]) ?_ 5 _ rfl; (with_reducible repeat (first | refine blk_drewN ?_ _ | refine blk_drew ?_ | refine blk_alloc ?_ _)); refine blk_put (cs := #[.string a0, .int .i64 8, .bool false, .int .i64 0, .int .u64 0, .float .f64 0, .string (⟨#[]⟩ : ByteArray), .slice none 0 0]) ?_ 4 _ rfl; (with_reducible repeat (first | refine blk_drewN ?_ _ | refine blk_drew ?_ | refine blk_alloc ?_ _)); refine blk_put (cs := #[.string a0, .int .i64 8, .bool false, .int .i64 0, .int .u64 0, .float .f64 0, .string (⟨#[]⟩ : ByteArray), .slice none 0 0]) ?_ 3 _ rfl; (with_reducible repeat (first | refine blk_drewN ?_ _ | refine blk_drew ?_ | refine blk_alloc ?_ _)); refine blk_put (cs := #[.string a0, .int .i64 8, .bool false, .int .i64 0, .int .u64 0, .float .f64 0, .string (⟨#[]⟩ : ByteArray), .slice none 0 0]) ?_ 2 _ rfl; (with_reducible repeat (first | refine blk_drewN ?_ _ | refine blk_drew ?_ | refine blk_alloc ?_ _)); refine blk_put (cs := #[.string a0, .int .i64 0, .bool false, .int .i64 0, .int .u64 0, .float .f64 0, .string (⟨#[]⟩ : ByteArray), .slice none 0 0]) ?_ 1 _ rfl; (with_reducible repeat (first | refine blk_drewN ?_ _ | refine blk_drew ?_ | refine blk_alloc ?_ _)); refine blk_put (cs := #[.string (⟨#[]⟩ : ByteArray), .int .i64 0, .bool false, .int .i64 0, .int .u64 0, .float .f64 0, .string (⟨#[]⟩ : ByteArray), .slice none 0 0]) ?_ 0 _ rfl; (with_reducible repeat (first | refine blk_drewN ?_ _ | refine blk_drew ?_ | refine blk_alloc ?_ _)); exact BK639.out) Tryz.underlying38 rfl (by kernel_rfl)) rfl ?_
 exact ⟨_, by first | rfl | (simp [errW_none, errW_some] <;> rfl) | (simp [*, errW_none, errW_some] <;> rfl), by (with_reducible repeat (first | apply Kd.V_alloc | apply Kd.V_drewN | apply Kd.V_drew)); exact Kd.V_mono (Kd.V_far (p := ⟨gb639, 7, none⟩) (Kd.V_far (p := ⟨gb639, 6, none⟩) (Kd.V_far (p := ⟨gb639, 5, none⟩) (Kd.V_far (p := ⟨gb639, 4, none⟩) (Kd.V_far (p := ⟨gb639, 3, none⟩) (Kd.V_far (p := ⟨gb639, 2, none⟩) (Kd.V_far (p := ⟨gb639, 1, none⟩) (Kd.V_far (p := ⟨gb639, 0, none⟩) (Kd.V_mono HO1.out (fun k_ hk => (⟨hk, hk.2⟩ : _ ∧ k_ ≠ gb639))) (fun _ hk => hk.2) (.string a0)) (fun _ hk => hk.2) (.int .i64 8)) (fun _ hk => hk.2) (.bool false)) (fun _ hk => hk.2) (.int .i64 0)) (fun _ hk => hk.2) (.int .u64 0)) (fun _ hk => hk.2) (.float .f64 0)) (fun _ hk => hk.2) (.string (⟨#[]⟩ : ByteArray))) (fun _ hk => hk.2) (.slice A1 l1.length c1)) (fun _ hk => hk.1.1), by repeat (first | (with_reducible first | exact HB.out | apply below_alloc | apply pw_below_drewN | apply below_drew1 | refine below_set ?_ GE639.out) | exact HB.out)⟩
def laws_lives.f : Option Bool := some true
theorem laws_lives.calls (r : Bool) (w : World) (h : laws_lives.f = some r) (ht : R.LTabs w := by first | assumption | exact Aside0.out ‹Aside0 (R.LTabs _)› | exact R.LTabs.below (Aside0.out ‹Aside0 (R.LTabs _)›) (by repeat (first | (with_reducible first | exact Aside0.out ‹Aside0 (Below _ _ _)› | exact Below.refl _ _ | apply below_alloc | apply pw_below_drewN | apply below_drew1) | refine below_set ?_ ?_ | exact Aside0.out ‹Aside0 (_ ≤ _)›))) :
 Calls Tryz.prog 28 #[] w fun e w' => e = .returned (.bool r) ∧ Below w.heap.size w w' := by
 obtain rfl := Option.some.inj h
 exact R.lives_ok w ht
end Go.Proofs.YtabfehcpcjcomaaGreatDoor.QA0
namespace Go.Proofs.YtabfehcpcjcomaaGreatDoor.QA0
open Go.RowKit Go.Proofs.YtabfehcpcjcomaaGreatDoorW.PrintWords Go.Proofs.YtabfehcpcjcomaaGreatDoorW.PrintLast Go.Proofs.YtabfehcpcjcomaaGreatDoorW.PrintMore
attribute [local go_sem] max2_int min2_int max_two min_two max_three min_three max_four min_four
set_option linter.unusedVariables false
set_option linter.unusedSimpArgs false
def spec_Parts.l0 : Nat → ByteArray → Int → List ByteArray → Int → Int → Int → Option (List ByteArray)
 | 0, _, _, _, _, _, _ => none
 | k + 1, x0, x1, x5, x6, x9, x10 => if x10 < x9 then (if 0 ≤ x10 then (if x10 < (x0.size : Int) then (if (bt x0 x10) = x1 then (if 0 ≤ x6 then (if x6 ≤ x10 then (if x10 ≤ (x0.size : Int) then (if x5.length < 8796093022208 then (spec_Parts.l0 k x0 x1 (x5 ++ [x0.extract (x6 : Int).toNat (x10 : Int).toNat]) (wrap64 (x10 + 1)) x9 (wrap64 (x10 + 1))) else (none)) else (none)) else (none)) else (none)) else (spec_Parts.l0 k x0 x1 x5 x6 x9 (wrap64 (x10 + 1)))) else (none)) else (none)) else (if 0 ≤ x6 then (if x6 ≤ (x0.size : Int) then (if x5.length < 8796093022208 then (some (x5 ++ [x0.extract (x6 : Int).toNat x0.size])) else (none)) else (none)) else (none))
def spec_Parts.f (k : Nat) (a0 : ByteArray) (a1 : Int) : Option (List ByteArray) := spec_Parts.l0 k a0 a1 ([] : List ByteArray) 0 (a0.size : Int) 0
set_option maxHeartbeats 8000000 in
set_option maxRecDepth 100000 in
theorem spec_Parts.calls (k : Nat) (a0 : ByteArray) (a1 : Int) (r : List ByteArray) (w : World) (h : spec_Parts.f k a0 a1 = some r) :
 Calls Tryz.prog 33 #[.string a0, .int .u8 a1] w fun e w' => ∃ v0_ : Value, e = .returned (v0_) ∧ Kd.R Kd.string 9 w' w.heap.size (fun _ => True) v0_ r ∧ Below w.heap.size w w' := by
 have HB := Aside0.mk (Below.refl w.heap.size w)
 have H : (spec_Parts.l0 k a0 a1 ([] : List ByteArray) 0 (a0.size : Int) 0) = some r := h
 clear h
 have H' := Aside0.mk H
 clear H
 go_enter Tryz.func33, Tryz.ntmps33
 go_wp2
 go_loopg [5, 6, 10] k (fun kq v5 v6 v10 w' => ∃ (x5_1 : List ByteArray) (x6_1 : Int) (x10_1 : Int), v6 = .int .i64 x6_1 ∧ v10 = .int .i64 x10_1 ∧ Aside0 (spec_Parts.l0 kq a0 a1 x5_1 x6_1 (a0.size : Int) x10_1 = some r) ∧ Aside0 (kq ≤ k) ∧ Aside0 (Kd.R Kd.string 9 w' w.heap.size (fun _ => True) v5 x5_1) ∧ Aside0 (Below w.heap.size w w'))
 case atStart => exact ⟨(([] : List ByteArray)), (0), (0), (by first | rfl | (simp; done) | (simp [*]; done)), (by first | rfl | (simp; done) | (simp [*]; done)), H', ⟨Nat.le_refl _⟩, ⟨by first | exact Kd.R_nil _ _ _ _ _ | exact Kd.N_nil _ _ _ _ _ | exact Kd.V_nil _ _ _ _ _ | exact Kd.Q_nil _ _ _ _ _ | exact Kd.S_nil _ _ _ _ _⟩, ⟨by repeat (first | (with_reducible first | exact HB.out | apply below_alloc | apply pw_below_drewN | apply below_drew1) | exact HB.out)⟩⟩
 case round =>
  clear H'
  try clear p2
  obtain ⟨x5_1, x6_1, x10_1, rfl, rfl, HA, HK1, HO_5, HB⟩ := hrel
  cases gk with
  | zero => exact absurd HA.out (by simp [spec_Parts.l0])
  | succ k1 =>
   have H := HA.out
   clear HA
   simp only [spec_Parts.l0] at H
   by_cases c3 : x10_1 < (a0.size : Int)
   · rw [if_pos c3] at H
     have c3b0 : decide (x10_1 < (a0.size : Int)) = true := decide_eq_true c3
     clear c3
     by_cases c4 : 0 ≤ x10_1
     · rw [if_pos c4] at H
       have c4b0 : decide (0 ≤ x10_1) = true := decide_eq_true c4
       clear c4
       by_cases c5 : x10_1 < (a0.size : Int)
       · rw [if_pos c5] at H
         have c5b0 : decide (x10_1 < (a0.size : Int)) = true := decide_eq_true c5
         clear c5
         by_cases c7 : (bt a0 x10_1) = a1
         · rw [if_pos c7] at H
           have c7b0 : ((bt a0 x10_1) == a1) = true := beq_iff_eq.mpr c7
           have c7b1 : ((bt a0 x10_1) != a1) = false := bne_eq_false_iff_eq.mpr c7
           clear c7
           by_cases c8 : 0 ≤ x6_1
           · rw [if_pos c8] at H
             have c8b0 := eq_true c8
             have c8b1 : decide (0 ≤ x6_1) = true := decide_eq_true c8
             clear c8
             by_cases c9 : x6_1 ≤ x10_1
             · rw [if_pos c9] at H
               have c9b0 := eq_true c9
               have c9b1 : decide (x6_1 ≤ x10_1) = true := decide_eq_true c9
               clear c9
               by_cases c10 : x10_1 ≤ (a0.size : Int)
               · rw [if_pos c10] at H
                 have c10b0 := eq_true c10
                 have c10b1 : decide (x10_1 ≤ (a0.size : Int)) = true := decide_eq_true c10
                 clear c10
                 by_cases c11 : x5_1.length < 8796093022208
                 · rw [if_pos c11] at H
                   have LMc11 := Aside0.mk c11
                   clear c11
                   obtain ⟨y755, hy755⟩ : ∃ y_ : List ByteArray, y_ = (x5_1 ++ [a0.extract (x6_1 : Int).toNat (x10_1 : Int).toNat]) := ⟨_, rfl⟩
                   replace H : (spec_Parts.l0 k1 a0 a1 y755 (wrap64 (x10_1 + 1)) (a0.size : Int) (wrap64 (x10_1 + 1))) = some r := by first | (rw [hy755]; with_reducible exact H) | (have H2_ := (Option.bind_some _ _).symm.trans H; rw [hy755]; with_reducible exact H2_) | (have H2_ := (Option.bind_some _ _).symm.trans H; with_reducible exact H2_) | with_reducible exact H | (rw [hy755]; exact H) | exact H
                   have Ny755 := Aside0.mk hy755
                   clear hy755
                   have H' := Aside0.mk H
                   clear H
                   have p6 : 0 ≤ (x10_1 : Int) := of_decide_eq_true (by first | (with_reducible assumption) | assumption)
                   have q6 : x10_1 < (a0.size : Int) := of_decide_eq_true (by first | (with_reducible assumption) | assumption)
                   have hx6 := bt_at a0 x10_1
                   replace p6 := eq_true p6
                   replace q6 := eq_true q6
                   go_wp2_with (first | ((with_reducible refine gate_builtin (b := .append) (xs := #[.tmp 18, .tmp 23]) rfl ?_); at_builtin; refine Kd.R_append Kd.string (w0 := w) w.heap.size rfl (.tmp 18) (.tmp 23) 42 9 (.string ⟨#[]⟩) 16 rfl Tryz.underlying42 info9 rfl (by decide) (by omega) u5 x5_1 (a0.extract (x6_1 : Int).toNat (x10_1 : Int).toNat) [.string (a0.extract (x6_1 : Int).toNat (x10_1 : Int).toNat)] (fun _ => True) (fun _ => False) rfl rfl ?aP (fun _ hk => hk.elim) ?aF ?aO ?aB ?aS ?aL ?_; (case aP => exact rfl); (case aB => exact (by repeat (first | (with_reducible first | exact HB.out | apply below_alloc | apply pw_below_drewN | apply below_drew1) | exact HB.out))); (case aF => exact (fun _ _ => trivial)); (case aO => exact (by (with_reducible repeat (first | apply Kd.R_alloc | apply Kd.R_drewN | apply Kd.R_drew)); exact HO_5.out)); (case aS => exact (below_size (by repeat (first | (with_reducible first | exact HB.out | apply below_alloc | apply pw_below_drewN | apply below_drew1) | exact HB.out)))); (case aL => have := LMc11.out; omega); intro v756 w12 ho hb hg hat; rw [← Ny755.out] at ho; have n0_ := Aside0.mk (hb); have n1_ := Aside0.mk (ho); clear HB; clear HO_5; have HB := n0_; have HO757 := n1_; clear n0_ n1_; clear ho hb hg hat))
                   go_roundg k1
                   case measure => have := HK1.out; omega
                   case rel => exact ⟨(y755), (wrap64 (x10_1 + 1)), (wrap64 (x10_1 + 1)), (by first | rfl | (simp; done) | (simp [*]; done)), (by first | rfl | (simp; done) | (simp [*]; done)), H', ⟨by have := HK1.out; omega⟩, ⟨by (with_reducible repeat (first | apply Kd.R_alloc | apply Kd.R_drewN | apply Kd.R_drew)); exact HO757.out⟩, ⟨by repeat (first | (with_reducible first | exact HB.out | apply below_alloc | apply pw_below_drewN | apply below_drew1) | exact HB.out)⟩⟩
                 · rw [if_neg c11] at H
                   exact absurd H (by simp)
               · rw [if_neg c10] at H
                 exact absurd H (by simp)
             · rw [if_neg c9] at H
               exact absurd H (by simp)
           · rw [if_neg c8] at H
             exact absurd H (by simp)
         · rw [if_neg c7] at H
           have c7b0 : ((bt a0 x10_1) == a1) = false := beq_eq_false_iff_ne.mpr c7
           have c7b1 : ((bt a0 x10_1) != a1) = true := bne_iff_ne.mpr c7
           have H' := Aside0.mk H
           clear H
           have p6 : 0 ≤ (x10_1 : Int) := of_decide_eq_true (by first | (with_reducible assumption) | assumption)
           have q6 : x10_1 < (a0.size : Int) := of_decide_eq_true (by first | (with_reducible assumption) | assumption)
           have hx6 := bt_at a0 x10_1
           replace p6 := eq_true p6
           replace q6 := eq_true q6
           go_wp2
           go_roundg k1
           case measure => have := HK1.out; omega
           case rel => exact ⟨(x5_1), (x6_1), (wrap64 (x10_1 + 1)), (by first | rfl | (simp; done) | (simp [*]; done)), (by first | rfl | (simp; done) | (simp [*]; done)), H', ⟨by have := HK1.out; omega⟩, ⟨by (with_reducible repeat (first | apply Kd.R_alloc | apply Kd.R_drewN | apply Kd.R_drew)); exact HO_5.out⟩, ⟨by repeat (first | (with_reducible first | exact HB.out | apply below_alloc | apply pw_below_drewN | apply below_drew1) | exact HB.out)⟩⟩
       · rw [if_neg c5] at H
         exact absurd H (by simp)
     · rw [if_neg c4] at H
       exact absurd H (by simp)
   · rw [if_neg c3] at H
     have c3b0 : decide (x10_1 < (a0.size : Int)) = false := decide_eq_false c3
     clear c3
     by_cases c13 : 0 ≤ x6_1
     · rw [if_pos c13] at H
       have c13b0 := eq_true c13
       have c13b1 : decide (0 ≤ x6_1) = true := decide_eq_true c13
       clear c13
       by_cases c14 : x6_1 ≤ (a0.size : Int)
       · rw [if_pos c14] at H
         have c14b0 := eq_true c14
         have c14b1 : decide (x6_1 ≤ (a0.size : Int)) = true := decide_eq_true c14
         clear c14
         by_cases c15 : x5_1.length < 8796093022208
         · rw [if_pos c15] at H
           have LMc15 := Aside0.mk c15
           clear c15
           obtain ⟨y758, hy758⟩ : ∃ y_ : List ByteArray, y_ = (x5_1 ++ [a0.extract (x6_1 : Int).toNat a0.size]) := ⟨_, rfl⟩
           replace H : (some y758) = some r := by first | (rw [hy758]; with_reducible exact H) | (have H2_ := (Option.bind_some _ _).symm.trans H; rw [hy758]; with_reducible exact H2_) | (have H2_ := (Option.bind_some _ _).symm.trans H; with_reducible exact H2_) | with_reducible exact H | (rw [hy758]; exact H) | exact H
           have Ny758 := Aside0.mk hy758
           clear hy758
           obtain rfl := Option.some.inj H
           go_wp2_with (first | ((with_reducible refine gate_builtin (b := .append) (xs := #[.tmp 28, .tmp 32]) rfl ?_); at_builtin; refine Kd.R_append Kd.string (w0 := w) w.heap.size rfl (.tmp 28) (.tmp 32) 42 9 (.string ⟨#[]⟩) 16 rfl Tryz.underlying42 info9 rfl (by decide) (by omega) u5 x5_1 (a0.extract (x6_1 : Int).toNat a0.size) [.string (a0.extract (x6_1 : Int).toNat a0.size)] (fun _ => True) (fun _ => False) rfl rfl ?aP (fun _ hk => hk.elim) ?aF ?aO ?aB ?aS ?aL ?_; (case aP => exact rfl); (case aB => exact (by repeat (first | (with_reducible first | exact HB.out | apply below_alloc | apply pw_below_drewN | apply below_drew1) | exact HB.out))); (case aF => exact (fun _ _ => trivial)); (case aO => exact (by (with_reducible repeat (first | apply Kd.R_alloc | apply Kd.R_drewN | apply Kd.R_drew)); exact HO_5.out)); (case aS => exact (below_size (by repeat (first | (with_reducible first | exact HB.out | apply below_alloc | apply pw_below_drewN | apply below_drew1) | exact HB.out)))); (case aL => have := LMc15.out; omega); intro v759 w16 ho hb hg hat; rw [← Ny758.out] at ho; have n0_ := Aside0.mk (hb); have n1_ := Aside0.mk (ho); clear HB; clear HO_5; have HB := n0_; have HO760 := n1_; clear n0_ n1_; clear ho hb hg hat))
           go_ret
           exact ⟨_, by first | rfl | (simp [errW_none, errW_some] <;> rfl) | (simp [*, errW_none, errW_some] <;> rfl), by (with_reducible repeat (first | apply Kd.R_alloc | apply Kd.R_drewN | apply Kd.R_drew)); exact HO760.out, by repeat (first | (with_reducible first | exact HB.out | apply below_alloc | apply pw_below_drewN | apply below_drew1) | exact HB.out)⟩
         · rw [if_neg c15] at H
           exact absurd H (by simp)
       · rw [if_neg c14] at H
         exact absurd H (by simp)
     · rw [if_neg c13] at H
       exact absurd H (by simp)
def spec_Where.l0 : Nat → ByteArray → Int → Int → Int → Option (Int)
 | 0, _, _, _, _ => none
 | k + 1, x0, x1, x7, x8 => if x8 < x7 then (if 0 ≤ x8 then (if x8 < (x0.size : Int) then (if (bt x0 x8) = x1 then (some x8) else (spec_Where.l0 k x0 x1 x7 (wrap64 (x8 + 1)))) else (none)) else (none)) else (some (-1))
def spec_Where.f (k : Nat) (a0 : ByteArray) (a1 : Int) : Option (Int) := spec_Where.l0 k a0 a1 (a0.size : Int) 0
set_option maxHeartbeats 8000000 in
set_option maxRecDepth 100000 in
theorem spec_Where.calls (k : Nat) (a0 : ByteArray) (a1 : Int) (r : Int) (w : World) (h : spec_Where.f k a0 a1 = some r) :
 Calls Tryz.prog 96 #[.string a0, .int .u8 a1] w fun e w' => e = .returned (.int .i64 r) ∧ Drawn0 w w' := by
 have H : (spec_Where.l0 k a0 a1 (a0.size : Int) 0) = some r := h
 clear h
 have H' := Aside0.mk H
 clear H
 go_enter Tryz.func96, Tryz.ntmps96
 go_wp2
 go_loopg [8] k (fun kq v8 w' => ∃ (x8_1 : Int), v8 = .int .i64 x8_1 ∧ Aside0 (spec_Where.l0 kq a0 a1 (a0.size : Int) x8_1 = some r) ∧ Aside0 (kq ≤ k) ∧ Drawn0 w w')
 case atStart => exact ⟨(0), (by first | rfl | (simp; done) | (simp [*]; done)), H', ⟨Nat.le_refl _⟩, by repeat (first | exact Drawn0.refl _ | apply Drawn0.step)⟩
 case round =>
  clear H'
  try clear p2
  obtain ⟨x8_1, rfl, HA, HK1, ⟨m1, rfl⟩⟩ := hrel
  cases gk with
  | zero => exact absurd HA.out (by simp [spec_Where.l0])
  | succ k1 =>
   have H := HA.out
   clear HA
   simp only [spec_Where.l0] at H
   by_cases c3 : x8_1 < (a0.size : Int)
   · rw [if_pos c3] at H
     have c3b0 : decide (x8_1 < (a0.size : Int)) = true := decide_eq_true c3
     clear c3
     by_cases c4 : 0 ≤ x8_1
     · rw [if_pos c4] at H
       have c4b0 : decide (0 ≤ x8_1) = true := decide_eq_true c4
       clear c4
       by_cases c5 : x8_1 < (a0.size : Int)
       · rw [if_pos c5] at H
         have c5b0 : decide (x8_1 < (a0.size : Int)) = true := decide_eq_true c5
         clear c5
         by_cases c7 : (bt a0 x8_1) = a1
         · rw [if_pos c7] at H
           have c7b0 : ((bt a0 x8_1) == a1) = true := beq_iff_eq.mpr c7
           have c7b1 : ((bt a0 x8_1) != a1) = false := bne_eq_false_iff_eq.mpr c7
           clear c7
           obtain rfl := Option.some.inj H
           have p6 : 0 ≤ (x8_1 : Int) := of_decide_eq_true (by first | (with_reducible assumption) | assumption)
           have q6 : x8_1 < (a0.size : Int) := of_decide_eq_true (by first | (with_reducible assumption) | assumption)
           have hx6 := bt_at a0 x8_1
           replace p6 := eq_true p6
           replace q6 := eq_true q6
           go_wp2
           go_ret
           exact ⟨by first | rfl | (simp; done) | (simp [*]; done) | (simp; cases a0.toList <;> rfl), by repeat (first | exact Drawn0.refl _ | apply Drawn0.step)⟩
         · rw [if_neg c7] at H
           have c7b0 : ((bt a0 x8_1) == a1) = false := beq_eq_false_iff_ne.mpr c7
           have c7b1 : ((bt a0 x8_1) != a1) = true := bne_iff_ne.mpr c7
           have H' := Aside0.mk H
           clear H
           have p6 : 0 ≤ (x8_1 : Int) := of_decide_eq_true (by first | (with_reducible assumption) | assumption)
           have q6 : x8_1 < (a0.size : Int) := of_decide_eq_true (by first | (with_reducible assumption) | assumption)
           have hx6 := bt_at a0 x8_1
           replace p6 := eq_true p6
           replace q6 := eq_true q6
           go_wp2
           go_roundg k1
           case measure => have := HK1.out; omega
           case rel => exact ⟨(wrap64 (x8_1 + 1)), (by first | rfl | (simp; done) | (simp [*]; done)), H', ⟨by have := HK1.out; omega⟩, by repeat (first | exact Drawn0.refl _ | apply Drawn0.step)⟩
       · rw [if_neg c5] at H
         exact absurd H (by simp)
     · rw [if_neg c4] at H
       exact absurd H (by simp)
   · rw [if_neg c3] at H
     have c3b0 : decide (x8_1 < (a0.size : Int)) = false := decide_eq_false c3
     clear c3
     obtain rfl := Option.some.inj H
     go_wp2
     go_ret
     exact ⟨by first | rfl | (simp; done) | (simp [*]; done) | (simp; cases a0.toList <;> rfl), by repeat (first | exact Drawn0.refl _ | apply Drawn0.step)⟩
def spec_hundreds.j0 : Nat → ByteArray → Int → Bool → Option (Int × Bool)
 | 0, _, _, _ => none
 | k + 1, x0, x4, x19 => if x19 = true then (some (0, false)) else (if 0 ≤ x4 then (if x4 ≤ (x0.size : Int) then ((spec_Dec.f k (x0.extract 0 (x4 : Int).toNat)).bind fun bt762 => (if 0 ≤ (wrap64 (x4 + 1)) then (if (wrap64 (x4 + 1)) ≤ (x0.size : Int) then ((spec_Dec.f k (x0.extract ((wrap64 (x4 + 1)) : Int).toNat x0.size)).bind fun bt764 => (if bt762.2 = true then (if bt764.2 = true then (some (IntKind.u64.wrap ((IntKind.u64.wrap (100 * bt762.1)) + bt764.1), decide (bt762.1 < 1099511627776))) else (some (IntKind.u64.wrap ((IntKind.u64.wrap (100 * bt762.1)) + bt764.1), false))) else (some (IntKind.u64.wrap ((IntKind.u64.wrap (100 * bt762.1)) + bt764.1), false)))) else (none)) else (none))) else (none)) else (none))
def spec_hundreds.f (k : Nat) (a0 : ByteArray) : Option (Int × Bool) := (spec_Where.f k a0 46).bind fun t761 => (if t761 < 1 then (spec_hundreds.j0 k a0 t761 true) else (spec_hundreds.j0 k a0 t761 ((a0.size : Int) != (wrap64 (t761 + 3)))))
set_option maxHeartbeats 8000000 in
set_option maxRecDepth 100000 in
theorem spec_hundreds.calls (k : Nat) (a0 : ByteArray) (r1 : Int) (r2 : Bool) (w : World) (h : spec_hundreds.f k a0 = some (r1, r2)) :
 Calls Tryz.prog 34 #[.string a0] w fun e w' => e = .returned (.tuple #[.int .u64 r1, .bool r2]) ∧ Drawn0 w w' := by
 have H : ((spec_Where.f k a0 46).bind fun t761 => (if t761 < 1 then (spec_hundreds.j0 k a0 t761 true) else (spec_hundreds.j0 k a0 t761 ((a0.size : Int) != (wrap64 (t761 + 3)))))) = some (r1, r2) := h
 clear h
 replace H := Option.bind_eq_some_iff.mp H
 obtain ⟨t761, A20, H⟩ := H
 replace H : (if t761 < 1 then (spec_hundreds.j0 k a0 t761 true) else (spec_hundreds.j0 k a0 t761 ((a0.size : Int) != (wrap64 (t761 + 3))))) = some (r1, r2) := H
 have A2 := Aside0.mk A20
 clear A20
 have HC3 := Aside0.mk H
 clear H
 go_enter Tryz.func34, Tryz.ntmps34
 go_upto_region 2 with (first | ((with_reducible refine gate_callee (f := 96) rfl ?_); refine goesL_ (some 10) rfl rfl Tryz.func96 (by kernel_rfl) rfl #[.string a0, .int .u8 46] rfl (by (try simp only [List.map_toArray, List.map_cons, List.map_nil]); first | done | rfl | (simp only [List.length_drop, List.length_take]; rfl)) ?_; (with_reducible refine (spec_Where.calls k a0 46 t761 _ A2.out).mono ?_); rintro e w' ⟨rfl, ⟨nd, rfl⟩⟩; refine ⟨_, rfl, ?_⟩))
 (try simp only [Act.put, List.setIfInBounds_toArray, List.set_cons_zero, List.set_cons_succ])
 go_cut [19] (fun v19 wc => ∃ (kq : Nat) (x19_2 : Bool), v19 = .bool x19_2 ∧ Aside0 (spec_hundreds.j0 kq a0 t761 x19_2 = some (r1, r2)) ∧ Aside0 (kq ≤ k) ∧ Drawn0 w wc)
 case first =>
  have H := HC3.out
  clear HC3
  by_cases c4 : t761 < 1
  · rw [if_pos c4] at H
    have c4b0 : decide (t761 < 1) = true := decide_eq_true c4
    clear c4
    (first | rw [c4b0] | (simp only [i64_w, i32_w]; rw [c4b0]) | skip)
    have H' := Aside0.mk H
    clear H
    go_wp2
    go_meet
    case rel => exact ⟨_, (true), (by first | rfl | (simp; done) | (simp [*]; done)), H', ⟨by first | omega | exact Nat.le_refl _⟩, by repeat (first | exact Drawn0.refl _ | apply Drawn0.step)⟩
  · rw [if_neg c4] at H
    have c4b0 : decide (t761 < 1) = false := decide_eq_false c4
    clear c4
    (first | rw [c4b0] | (simp only [i64_w, i32_w]; rw [c4b0]) | skip)
    have H' := Aside0.mk H
    clear H
    go_wp2
    go_meet
    case rel => exact ⟨_, (((a0.size : Int) != (wrap64 (t761 + 3)))), (by first | rfl | (simp; done) | (simp [*]; done)), H', ⟨by first | omega | exact Nat.le_refl _⟩, by repeat (first | exact Drawn0.refl _ | apply Drawn0.step)⟩
 case rest =>
  clear HC3
  try clear p2
  try clear c3
  try clear c4
  try clear c4b0
  obtain ⟨kq, x19_2, rfl, HA, HJ2, ⟨mc2, rfl⟩⟩ := hcut
  cases kq with
  | zero => exact absurd HA.out (by simp [spec_hundreds.j0])
  | succ kj2 =>
   have H := HA.out
   clear HA
   simp only [spec_hundreds.j0] at H
   by_cases c5 : x19_2 = true
   · subst c5
     have H1 : (some (0, false)) = some (r1, r2) := by rw [if_pos rfl] at H; exact H
     clear H
     have H := H1
     clear H1
     simp only [Option.some.injEq, Prod.mk.injEq] at H
     obtain ⟨rfl, rfl⟩ := H
     go_wp2
     go_ret2
     exact ⟨by first | rfl | (simp; done) | (simp [*]; done) | (simp; cases a0.toList <;> rfl), by repeat (first | exact Drawn0.refl _ | apply Drawn0.step)⟩
   · replace c5 := Bool.eq_false_iff.mpr c5
     subst c5
     have H1 : (if 0 ≤ t761 then (if t761 ≤ (a0.size : Int) then ((spec_Dec.f kj2 (a0.extract 0 (t761 : Int).toNat)).bind fun bt762 => (if 0 ≤ (wrap64 (t761 + 1)) then (if (wrap64 (t761 + 1)) ≤ (a0.size : Int) then ((spec_Dec.f kj2 (a0.extract ((wrap64 (t761 + 1)) : Int).toNat a0.size)).bind fun bt764 => (if bt762.2 = true then (if bt764.2 = true then (some (IntKind.u64.wrap ((IntKind.u64.wrap (100 * bt762.1)) + bt764.1), decide (bt762.1 < 1099511627776))) else (some (IntKind.u64.wrap ((IntKind.u64.wrap (100 * bt762.1)) + bt764.1), false))) else (some (IntKind.u64.wrap ((IntKind.u64.wrap (100 * bt762.1)) + bt764.1), false)))) else (none)) else (none))) else (none)) else (none)) = some (r1, r2) := by rw [if_neg (show ¬ (false = true) by decide)] at H; exact H
     clear H
     have H := H1
     clear H1
     by_cases c6 : 0 ≤ t761
     · rw [if_pos c6] at H
       have c6b0 := eq_true c6
       have c6b1 : decide (0 ≤ t761) = true := decide_eq_true c6
       clear c6
       by_cases c7 : t761 ≤ (a0.size : Int)
       · rw [if_pos c7] at H
         have c7b0 := eq_true c7
         have c7b1 : decide (t761 ≤ (a0.size : Int)) = true := decide_eq_true c7
         clear c7
         replace H := Option.bind_eq_some_iff.mp H
         obtain ⟨⟨t762, t763⟩, A80, H⟩ := H
         replace H : (if 0 ≤ (wrap64 (t761 + 1)) then (if (wrap64 (t761 + 1)) ≤ (a0.size : Int) then ((spec_Dec.f kj2 (a0.extract ((wrap64 (t761 + 1)) : Int).toNat a0.size)).bind fun bt764 => (if t763 = true then (if bt764.2 = true then (some (IntKind.u64.wrap ((IntKind.u64.wrap (100 * t762)) + bt764.1), decide (t762 < 1099511627776))) else (some (IntKind.u64.wrap ((IntKind.u64.wrap (100 * t762)) + bt764.1), false))) else (some (IntKind.u64.wrap ((IntKind.u64.wrap (100 * t762)) + bt764.1), false)))) else (none)) else (none)) = some (r1, r2) := H
         have A8 := Aside0.mk A80
         clear A80
         obtain ⟨ji9, hji9⟩ : ∃ j_ : Int, (wrap64 (t761 + 1)) = j_ := ⟨_, rfl⟩
         replace H : (if 0 ≤ (ji9) then (if (ji9) ≤ (a0.size : Int) then ((spec_Dec.f kj2 (a0.extract ((ji9) : Int).toNat a0.size)).bind fun bt764 => (if t763 = true then (if bt764.2 = true then (some (IntKind.u64.wrap ((IntKind.u64.wrap (100 * t762)) + bt764.1), decide (t762 < 1099511627776))) else (some (IntKind.u64.wrap ((IntKind.u64.wrap (100 * t762)) + bt764.1), false))) else (some (IntKind.u64.wrap ((IntKind.u64.wrap (100 * t762)) + bt764.1), false)))) else (none)) else (none)) = some (r1, r2) := by first | (rw [hji9] at H; exact H) | (simp only [hji9] at H ⊢; exact H)
         (try rw [hji9] at A8)
         have hji9w : (IntKind.i64.wrap (t761 + 1)) = ji9 := (i64_w _).trans hji9
         by_cases c10 : 0 ≤ (ji9)
         · rw [if_pos c10] at H
           have c10b0 := eq_true c10
           have c10b1 : decide (0 ≤ (ji9)) = true := decide_eq_true c10
           clear c10
           by_cases c11 : (ji9) ≤ (a0.size : Int)
           · rw [if_pos c11] at H
             have c11b0 := eq_true c11
             have c11b1 : decide ((ji9) ≤ (a0.size : Int)) = true := decide_eq_true c11
             clear c11
             replace H := Option.bind_eq_some_iff.mp H
             obtain ⟨⟨t764, t765⟩, A120, H⟩ := H
             replace H : (if t763 = true then (if t765 = true then (some (IntKind.u64.wrap ((IntKind.u64.wrap (100 * t762)) + t764), decide (t762 < 1099511627776))) else (some (IntKind.u64.wrap ((IntKind.u64.wrap (100 * t762)) + t764), false))) else (some (IntKind.u64.wrap ((IntKind.u64.wrap (100 * t762)) + t764), false))) = some (r1, r2) := H
             have A12 := Aside0.mk A120
             clear A120
             by_cases c13 : t763 = true
             · subst c13
               have H1 : (if t765 = true then (some (IntKind.u64.wrap ((IntKind.u64.wrap (100 * t762)) + t764), decide (t762 < 1099511627776))) else (some (IntKind.u64.wrap ((IntKind.u64.wrap (100 * t762)) + t764), false))) = some (r1, r2) := by rw [if_pos rfl] at H; exact H
               clear H
               have H := H1
               clear H1
               by_cases c14 : t765 = true
               · subst c14
                 have H1 : (some (IntKind.u64.wrap ((IntKind.u64.wrap (100 * t762)) + t764), decide (t762 < 1099511627776))) = some (r1, r2) := by rw [if_pos rfl] at H; exact H
                 clear H
                 have H := H1
                 clear H1
                 simp only [Option.some.injEq, Prod.mk.injEq] at H
                 obtain ⟨rfl, rfl⟩ := H
                 go_wp2_with (first | ((with_reducible refine gate_callee (f := 97) rfl ?_); refine goesL_ (some 24) rfl rfl Tryz.func97 (by kernel_rfl) rfl #[.string (a0.extract 0 (t761 : Int).toNat)] rfl (by (try simp only [List.map_toArray, List.map_cons, List.map_nil]); first | done | rfl | (simp only [List.length_drop, List.length_take]; rfl)) ?_; (with_reducible refine (spec_Dec.calls kj2 (a0.extract 0 (t761 : Int).toNat) t762 true _ A8.out).mono ?_); rintro e w' ⟨rfl, ⟨nd, rfl⟩⟩; refine ⟨_, rfl, ?_⟩) | ((with_reducible refine gate_callee (f := 97) rfl ?_); refine goesL_ (some 32) rfl rfl Tryz.func97 (by kernel_rfl) rfl #[.string (a0.extract ((ji9) : Int).toNat a0.size)] rfl (by (try simp only [List.map_toArray, List.map_cons, List.map_nil]); first | done | (simp only [hji9]; rfl) | rfl | (simp only [List.length_drop, List.length_take]; rfl)) ?_; (with_reducible refine (spec_Dec.calls kj2 (a0.extract ((ji9) : Int).toNat a0.size) t764 true _ A12.out).mono ?_); rintro e w' ⟨rfl, ⟨nd, rfl⟩⟩; refine ⟨_, rfl, ?_⟩))
                 go_ret2
                 exact ⟨by first | rfl | (simp; done) | (simp only [← hji9] <;> (first | rfl | simp)) | (simp [*]; done), by repeat (first | exact Drawn0.refl _ | apply Drawn0.step)⟩
               · replace c14 := Bool.eq_false_iff.mpr c14
                 subst c14
                 have H1 : (some (IntKind.u64.wrap ((IntKind.u64.wrap (100 * t762)) + t764), false)) = some (r1, r2) := by rw [if_neg (show ¬ (false = true) by decide)] at H; exact H
                 clear H
                 have H := H1
                 clear H1
                 simp only [Option.some.injEq, Prod.mk.injEq] at H
                 obtain ⟨rfl, rfl⟩ := H
                 go_wp2_with (first | ((with_reducible refine gate_callee (f := 97) rfl ?_); refine goesL_ (some 24) rfl rfl Tryz.func97 (by kernel_rfl) rfl #[.string (a0.extract 0 (t761 : Int).toNat)] rfl (by (try simp only [List.map_toArray, List.map_cons, List.map_nil]); first | done | rfl | (simp only [List.length_drop, List.length_take]; rfl)) ?_; (with_reducible refine (spec_Dec.calls kj2 (a0.extract 0 (t761 : Int).toNat) t762 true _ A8.out).mono ?_); rintro e w' ⟨rfl, ⟨nd, rfl⟩⟩; refine ⟨_, rfl, ?_⟩) | ((with_reducible refine gate_callee (f := 97) rfl ?_); refine goesL_ (some 32) rfl rfl Tryz.func97 (by kernel_rfl) rfl #[.string (a0.extract ((ji9) : Int).toNat a0.size)] rfl (by (try simp only [List.map_toArray, List.map_cons, List.map_nil]); first | done | (simp only [hji9]; rfl) | rfl | (simp only [List.length_drop, List.length_take]; rfl)) ?_; (with_reducible refine (spec_Dec.calls kj2 (a0.extract ((ji9) : Int).toNat a0.size) t764 false _ A12.out).mono ?_); rintro e w' ⟨rfl, ⟨nd, rfl⟩⟩; refine ⟨_, rfl, ?_⟩))
                 go_ret2
                 exact ⟨by first | rfl | (simp; done) | (simp only [← hji9] <;> (first | rfl | simp)) | (simp [*]; done), by repeat (first | exact Drawn0.refl _ | apply Drawn0.step)⟩
             · replace c13 := Bool.eq_false_iff.mpr c13
               subst c13
               have H1 : (some (IntKind.u64.wrap ((IntKind.u64.wrap (100 * t762)) + t764), false)) = some (r1, r2) := by rw [if_neg (show ¬ (false = true) by decide)] at H; exact H
               clear H
               have H := H1
               clear H1
               simp only [Option.some.injEq, Prod.mk.injEq] at H
               obtain ⟨rfl, rfl⟩ := H
               go_wp2_with (first | ((with_reducible refine gate_callee (f := 97) rfl ?_); refine goesL_ (some 24) rfl rfl Tryz.func97 (by kernel_rfl) rfl #[.string (a0.extract 0 (t761 : Int).toNat)] rfl (by (try simp only [List.map_toArray, List.map_cons, List.map_nil]); first | done | rfl | (simp only [List.length_drop, List.length_take]; rfl)) ?_; (with_reducible refine (spec_Dec.calls kj2 (a0.extract 0 (t761 : Int).toNat) t762 false _ A8.out).mono ?_); rintro e w' ⟨rfl, ⟨nd, rfl⟩⟩; refine ⟨_, rfl, ?_⟩) | ((with_reducible refine gate_callee (f := 97) rfl ?_); refine goesL_ (some 32) rfl rfl Tryz.func97 (by kernel_rfl) rfl #[.string (a0.extract ((ji9) : Int).toNat a0.size)] rfl (by (try simp only [List.map_toArray, List.map_cons, List.map_nil]); first | done | (simp only [hji9]; rfl) | rfl | (simp only [List.length_drop, List.length_take]; rfl)) ?_; (with_reducible refine (spec_Dec.calls kj2 (a0.extract ((ji9) : Int).toNat a0.size) t764 t765 _ A12.out).mono ?_); rintro e w' ⟨rfl, ⟨nd, rfl⟩⟩; refine ⟨_, rfl, ?_⟩))
               go_ret2
               exact ⟨by first | rfl | (simp; done) | (simp only [← hji9] <;> (first | rfl | simp)) | (simp [*]; done), by repeat (first | exact Drawn0.refl _ | apply Drawn0.step)⟩
           · rw [if_neg c11] at H
             exact absurd H (by simp)
         · rw [if_neg c10] at H
           exact absurd H (by simp)
       · rw [if_neg c7] at H
         exact absurd H (by simp)
     · rw [if_neg c6] at H
       exact absurd H (by simp)
def spec_small.l0 : Nat → Int → List Int → Int → Int → Option (Bool)
 | 0, _, _, _, _ => none
 | k + 1, x0, x7, x8, x9 => if x9 < x8 then (if 0 ≤ x9 then (if x9 < (x7.length : Int) then (if (rd x7 x9) ≥ x0 then (some false) else (spec_small.l0 k x0 x7 x8 (wrap64 (x9 + 1)))) else (none)) else (none)) else (some true)
def spec_small.f (k : Nat) (a0 : Int) (l1 : List Int) : Option (Bool) := spec_small.l0 k a0 l1 (l1.length : Int) 0
set_option maxHeartbeats 8000000 in
set_option maxRecDepth 100000 in
theorem spec_small.calls (k : Nat) (a0 : Int) (A1 : Option Addr) (c1 : Nat) (l1 : List Int) (r : Bool) (w : World) (hr1 : Kd.C (Kd.int .u64) w A1 l1.length l1) (hc1 : l1.length ≤ c1) (h : spec_small.f k a0 l1 = some r) :
 Calls Tryz.prog 101 #[.int .u64 a0, .slice A1 l1.length c1] w fun e w' => e = .returned (.bool r) ∧ Drawn0 w w' := by
 have HR1 := Aside0.mk hr1
 have HC1 := Aside0.mk hc1
 clear hr1 hc1
 have H : (spec_small.l0 k a0 l1 (l1.length : Int) 0) = some r := h
 clear h
 have H' := Aside0.mk H
 clear H
 go_enter Tryz.func101, Tryz.ntmps101
 go_wp2
 go_loopg [9] k (fun kq v9 w' => ∃ (x9_1 : Int), v9 = .int .i64 x9_1 ∧ Aside0 (spec_small.l0 kq a0 l1 (l1.length : Int) x9_1 = some r) ∧ Aside0 (kq ≤ k) ∧ Drawn0 w w')
 case atStart => exact ⟨(0), (by first | rfl | (simp; done) | (simp [*]; done)), H', ⟨Nat.le_refl _⟩, by repeat (first | exact Drawn0.refl _ | apply Drawn0.step)⟩
 case round =>
  clear H'
  try clear c1
  try clear p2
  obtain ⟨x9_1, rfl, HA, HK1, ⟨m1, rfl⟩⟩ := hrel
  cases gk with
  | zero => exact absurd HA.out (by simp [spec_small.l0])
  | succ k1 =>
   have H := HA.out
   clear HA
   simp only [spec_small.l0] at H
   by_cases c3 : x9_1 < (l1.length : Int)
   · rw [if_pos c3] at H
     have c3b0 : decide (x9_1 < (l1.length : Int)) = true := decide_eq_true c3
     clear c3
     by_cases c4 : 0 ≤ x9_1
     · rw [if_pos c4] at H
       have c4b0 : decide (0 ≤ x9_1) = true := decide_eq_true c4
       clear c4
       by_cases c5 : x9_1 < (l1.length : Int)
       · rw [if_pos c5] at H
         have c5b0 : decide (x9_1 < (l1.length : Int)) = true := decide_eq_true c5
         clear c5
         by_cases c6 : (rd l1 x9_1) ≥ a0
         · rw [if_pos c6] at H
           have c6b0 : decide (a0 ≤ (rd l1 x9_1)) = true := decide_eq_true c6
           clear c6
           obtain rfl := Option.some.inj H
           have p766 : 0 ≤ (x9_1 : Int) := of_decide_eq_true (by first | (with_reducible assumption) | assumption)
           have q766 : x9_1 < (l1.length : Int) := of_decide_eq_true (by first | (with_reducible assumption) | assumption)
           obtain ⟨ad766, e766, hx766_0⟩ := Kd.at_int HR1.out x9_1 p766 q766
           cases e766
           replace p766 := eq_true p766
           replace q766 := eq_true q766
           go_wp2
           go_ret
           exact ⟨by first | rfl | (simp; done) | (simp [*]; done) | (simp; cases a0.toList <;> rfl), by repeat (first | exact Drawn0.refl _ | apply Drawn0.step)⟩
         · rw [if_neg c6] at H
           have c6b0 : decide (a0 ≤ (rd l1 x9_1)) = false := decide_eq_false c6
           clear c6
           have H' := Aside0.mk H
           clear H
           have p766 : 0 ≤ (x9_1 : Int) := of_decide_eq_true (by first | (with_reducible assumption) | assumption)
           have q766 : x9_1 < (l1.length : Int) := of_decide_eq_true (by first | (with_reducible assumption) | assumption)
           obtain ⟨ad766, e766, hx766_0⟩ := Kd.at_int HR1.out x9_1 p766 q766
           cases e766
           replace p766 := eq_true p766
           replace q766 := eq_true q766
           go_wp2
           go_roundg k1
           case measure => have := HK1.out; omega
           case rel => exact ⟨(wrap64 (x9_1 + 1)), (by first | rfl | (simp; done) | (simp [*]; done)), H', ⟨by have := HK1.out; omega⟩, by repeat (first | exact Drawn0.refl _ | apply Drawn0.step)⟩
       · rw [if_neg c5] at H
         exact absurd H (by simp)
     · rw [if_neg c4] at H
       exact absurd H (by simp)
   · rw [if_neg c3] at H
     have c3b0 : decide (x9_1 < (l1.length : Int)) = false := decide_eq_false c3
     clear c3
     obtain rfl := Option.some.inj H
     go_wp2
     go_ret
     exact ⟨by first | rfl | (simp; done) | (simp [*]; done) | (simp; cases a0.toList <;> rfl), by repeat (first | exact Drawn0.refl _ | apply Drawn0.step)⟩
def spec_Padded.l0 : Nat → Int → ByteArray → Option (ByteArray)
 | 0, _, _ => none
 | k + 1, x2, x7 => if (x7.size : Int) < x2 then (if 1 + x7.size ≤ 9223372036854775807 then (spec_Padded.l0 k x2 ((⟨#[48]⟩ : ByteArray) ++ x7)) else (none)) else (some x7)
def spec_Padded.f (k : Nat) (a0 : Int) (a1 : Int) (a2 : Int) : Option (ByteArray) := (spec_Digits.f k a0 a1).bind fun t767 => (spec_Padded.l0 k a2 t767)
set_option maxHeartbeats 8000000 in
set_option maxRecDepth 100000 in
theorem spec_Padded.calls (k : Nat) (a0 : Int) (a1 : Int) (a2 : Int) (r : ByteArray) (w : World) (h : spec_Padded.f k a0 a1 a2 = some r) :
 Calls Tryz.prog 131 #[.int .u64 a0, .int .u64 a1, .int .i64 a2] w fun e w' => e = .returned (.string r) ∧ Below w.heap.size w w' := by
 have HB := Aside0.mk (Below.refl w.heap.size w)
 have H : ((spec_Digits.f k a0 a1).bind fun t767 => (spec_Padded.l0 k a2 t767)) = some r := h
 clear h
 replace H := Option.bind_eq_some_iff.mp H
 obtain ⟨t767, A40, H⟩ := H
 replace H : (spec_Padded.l0 k a2 t767) = some r := H
 have A4 := Aside0.mk A40
 clear A40
 have H' := Aside0.mk H
 clear H
 go_enter Tryz.func131, Tryz.ntmps131
 go_wp2_with (first | ((with_reducible refine gate_callee (f := 126) rfl ?_); refine goesL_ (some 10) rfl rfl Tryz.func126 (by kernel_rfl) rfl #[.int .u64 a0, .int .u64 a1] rfl (by (try simp only [List.map_toArray, List.map_cons, List.map_nil]); first | done | rfl | (simp only [List.length_drop, List.length_take]; rfl)) ?_; (with_reducible refine (spec_Digits.calls k a0 a1 t767 _ A4.out).mono ?_); rintro e w5 ⟨rfl, hb⟩; refine ⟨_, rfl, ?_⟩; have n0_ := Aside0.mk (below_step (by repeat (first | (with_reducible first | exact HB.out | apply below_alloc | apply pw_below_drewN | apply below_drew1) | exact HB.out)) hb); clear HB; have HB := n0_; clear n0_; (try clear hb); (try clear hb2); (try clear hk); (try clear hi)))
 go_loopg [7] k (fun kq v7 w' => ∃ (x7_1 : ByteArray), v7 = .string x7_1 ∧ Aside0 (spec_Padded.l0 kq a2 x7_1 = some r) ∧ Aside0 (kq ≤ k) ∧ Aside0 (Below w.heap.size w w'))
 case atStart => exact ⟨(t767), (by first | rfl | (simp; done) | (simp [*]; done)), H', ⟨Nat.le_refl _⟩, ⟨by repeat (first | (with_reducible first | exact HB.out | apply below_alloc | apply pw_below_drewN | apply below_drew1) | exact HB.out)⟩⟩
 case round =>
  clear H'
  try clear c1
  try clear p2
  obtain ⟨x7_1, rfl, HA, HK1, HB⟩ := hrel
  cases gk with
  | zero => exact absurd HA.out (by simp [spec_Padded.l0])
  | succ k1 =>
   have H := HA.out
   clear HA
   simp only [spec_Padded.l0] at H
   by_cases c6 : (x7_1.size : Int) < a2
   · rw [if_pos c6] at H
     have c6b0 : decide ((x7_1.size : Int) < a2) = true := decide_eq_true c6
     clear c6
     by_cases c7 : 1 + x7_1.size ≤ 9223372036854775807
     · rw [if_pos c7] at H
       have c7b0 := eq_true c7
       have c7b1 : decide (1 + x7_1.size ≤ 9223372036854775807) = true := decide_eq_true c7
       try have c7b2 : (9223372036854775807 < 1 + x7_1.size) = False := eq_false (Nat.not_lt.2 c7)
       have H' := Aside0.mk H
       clear H
       go_wp2
       go_roundg k1
       case measure => have := HK1.out; omega
       case rel => exact ⟨((⟨#[48]⟩ : ByteArray) ++ x7_1), (by first | rfl | (simp; done) | (simp [*]; done)), H', ⟨by have := HK1.out; omega⟩, ⟨by repeat (first | (with_reducible first | exact HB.out | apply below_alloc | apply pw_below_drewN | apply below_drew1) | exact HB.out)⟩⟩
     · rw [if_neg c7] at H
       exact absurd H (by simp)
   · rw [if_neg c6] at H
     have c6b0 : decide ((x7_1.size : Int) < a2) = false := decide_eq_false c6
     clear c6
     obtain rfl := Option.some.inj H
     go_wp2
     go_ret
     exact ⟨by first | rfl | (simp [errW_none, errW_some] <;> rfl) | (simp [*, errW_none, errW_some] <;> rfl), by repeat (first | (with_reducible first | exact HB.out | apply below_alloc | apply pw_below_drewN | apply below_drew1) | exact HB.out)⟩
def spec_Hundredths.f (k : Nat) (a0 : Int) : Option (ByteArray) := (spec_Text.f k (IntKind.u64.wrap (Int.tdiv a0 100))).bind fun t768 => (if t768.size + 1 ≤ 9223372036854775807 then ((spec_Padded.f k (Int.tmod a0 100) 10 2).bind fun t769 => (if (t768 ++ (⟨#[46]⟩ : ByteArray)).size + t769.size ≤ 9223372036854775807 then (some ((t768 ++ (⟨#[46]⟩ : ByteArray)) ++ t769)) else (none))) else (none))
set_option maxHeartbeats 8000000 in
set_option maxRecDepth 100000 in
theorem spec_Hundredths.calls (k : Nat) (a0 : Int) (r : ByteArray) (w : World) (h : spec_Hundredths.f k a0 = some r) :
 Calls Tryz.prog 102 #[.int .u64 a0] w fun e w' => e = .returned (.string r) ∧ Below w.heap.size w w' := by
 have HB := Aside0.mk (Below.refl w.heap.size w)
 have H : ((spec_Text.f k (IntKind.u64.wrap (Int.tdiv a0 100))).bind fun t768 => (if t768.size + 1 ≤ 9223372036854775807 then ((spec_Padded.f k (Int.tmod a0 100) 10 2).bind fun t769 => (if (t768 ++ (⟨#[46]⟩ : ByteArray)).size + t769.size ≤ 9223372036854775807 then (some ((t768 ++ (⟨#[46]⟩ : ByteArray)) ++ t769)) else (none))) else (none))) = some r := h
 clear h
 replace H := Option.bind_eq_some_iff.mp H
 obtain ⟨t768, A20, H⟩ := H
 replace H : (if t768.size + 1 ≤ 9223372036854775807 then ((spec_Padded.f k (Int.tmod a0 100) 10 2).bind fun t769 => (if (t768 ++ (⟨#[46]⟩ : ByteArray)).size + t769.size ≤ 9223372036854775807 then (some ((t768 ++ (⟨#[46]⟩ : ByteArray)) ++ t769)) else (none))) else (none)) = some r := H
 have A2 := Aside0.mk A20
 clear A20
 by_cases c3 : t768.size + 1 ≤ 9223372036854775807
 · rw [if_pos c3] at H
   have c3b0 := eq_true c3
   have c3b1 : decide (t768.size + 1 ≤ 9223372036854775807) = true := decide_eq_true c3
   try have c3b2 : (9223372036854775807 < t768.size + 1) = False := eq_false (Nat.not_lt.2 c3)
   replace H := Option.bind_eq_some_iff.mp H
   obtain ⟨t769, A40, H⟩ := H
   replace H : (if (t768 ++ (⟨#[46]⟩ : ByteArray)).size + t769.size ≤ 9223372036854775807 then (some ((t768 ++ (⟨#[46]⟩ : ByteArray)) ++ t769)) else (none)) = some r := H
   have A4 := Aside0.mk A40
   clear A40
   by_cases c5 : (t768 ++ (⟨#[46]⟩ : ByteArray)).size + t769.size ≤ 9223372036854775807
   · rw [if_pos c5] at H
     have c5b0 := eq_true c5
     have c5b1 : decide ((t768 ++ (⟨#[46]⟩ : ByteArray)).size + t769.size ≤ 9223372036854775807) = true := decide_eq_true c5
     try have c5b2 : (9223372036854775807 < (t768 ++ (⟨#[46]⟩ : ByteArray)).size + t769.size) = False := eq_false (Nat.not_lt.2 c5)
     have c5b3 : (9223372036854775807 < t768.size + 1 + t769.size) = False := by have h_ := c5b2; simp only [ByteArray.size_append] at h_; exact h_
     obtain rfl := Option.some.inj H
     go_enter Tryz.func102, Tryz.ntmps102
     go_wp2_with (first | ((with_reducible refine gate_callee (f := 86) rfl ?_); refine goesL_ (some 5) rfl rfl Tryz.func86 (by kernel_rfl) rfl #[.int .u64 (IntKind.u64.wrap (Int.tdiv a0 100))] rfl (by (try simp only [List.map_toArray, List.map_cons, List.map_nil]); first | done | rfl | (simp only [List.length_drop, List.length_take]; rfl)) ?_; (with_reducible refine (spec_Text.calls k (IntKind.u64.wrap (Int.tdiv a0 100)) t768 _ A2.out).mono ?_); rintro e w6 ⟨rfl, hb⟩; refine ⟨_, rfl, ?_⟩; have n0_ := Aside0.mk (below_step (by repeat (first | (with_reducible first | exact HB.out | apply below_alloc | apply pw_below_drewN | apply below_drew1) | exact HB.out)) hb); clear HB; have HB := n0_; clear n0_; (try clear hb); (try clear hb2); (try clear hk); (try clear hi)) | ((with_reducible refine gate_callee (f := 131) rfl ?_); refine goesL_ (some 9) rfl rfl Tryz.func131 (by kernel_rfl) rfl #[.int .u64 (Int.tmod a0 100), .int .u64 10, .int .i64 2] rfl (by (try simp only [List.map_toArray, List.map_cons, List.map_nil]); first | done | rfl | (simp only [List.length_drop, List.length_take]; rfl)) ?_; (with_reducible refine (spec_Padded.calls k (Int.tmod a0 100) 10 2 t769 _ A4.out).mono ?_); rintro e w7 ⟨rfl, hb⟩; refine ⟨_, rfl, ?_⟩; have n0_ := Aside0.mk (below_step (by repeat (first | (with_reducible first | exact HB.out | apply below_alloc | apply pw_below_drewN | apply below_drew1) | exact HB.out)) hb); clear HB; have HB := n0_; clear n0_; (try clear hb); (try clear hb2); (try clear hk); (try clear hi)))
     go_ret
     exact ⟨by first | rfl | (simp [errW_none, errW_some] <;> rfl) | (simp [*, errW_none, errW_some] <;> rfl), by repeat (first | (with_reducible first | exact HB.out | apply below_alloc | apply pw_below_drewN | apply below_drew1) | exact HB.out)⟩
   · rw [if_neg c5] at H
     exact absurd H (by simp)
 · rw [if_neg c3] at H
   exact absurd H (by simp)
end Go.Proofs.YtabfehcpcjcomaaGreatDoor.QA0
namespace Go.Proofs.YtabfehcpcjcomaaGreatDoor.QA0
open Go.RowKit Go.Proofs.YtabfehcpcjcomaaGreatDoorW.PrintWords Go.Proofs.YtabfehcpcjcomaaGreatDoorW.PrintLast Go.Proofs.YtabfehcpcjcomaaGreatDoorW.PrintMore
attribute [local go_sem] max2_int min2_int max_two min_two max_three min_three max_four min_four
set_option linter.unusedVariables false
set_option linter.unusedSimpArgs false
def spec_LoadavgPrint.j0 : Nat → List (S48) → Bool → Option (ByteArray × Int)
 | 0, _, _ => none
 | k + 1, x0, x22 => if x22 = true then (some ((⟨#[]⟩ : ByteArray), 2)) else (if 0 < (x0.length : Int) then (if 0 < (((rd_T48 x0 0).f1).length : Int) then ((spec_Hundredths.f k (rd ((rd_T48 x0 0).f1) 0)).bind fun t776 => (if t776.size + 1 ≤ 9223372036854775807 then (if 1 < (((rd_T48 x0 0).f1).length : Int) then ((spec_Hundredths.f k (rd ((rd_T48 x0 0).f1) 1)).bind fun t778 => (if (t776 ++ (⟨#[32]⟩ : ByteArray)).size + t778.size ≤ 9223372036854775807 then (if ((t776 ++ (⟨#[32]⟩ : ByteArray)) ++ t778).size + 1 ≤ 9223372036854775807 then (if 2 < (((rd_T48 x0 0).f1).length : Int) then ((spec_Hundredths.f k (rd ((rd_T48 x0 0).f1) 2)).bind fun t780 => (if (((t776 ++ (⟨#[32]⟩ : ByteArray)) ++ t778) ++ (⟨#[32]⟩ : ByteArray)).size + t780.size ≤ 9223372036854775807 then (if ((((t776 ++ (⟨#[32]⟩ : ByteArray)) ++ t778) ++ (⟨#[32]⟩ : ByteArray)) ++ t780).size + 1 ≤ 9223372036854775807 then (if 3 < (((rd_T48 x0 0).f1).length : Int) then ((spec_Text.f k (rd ((rd_T48 x0 0).f1) 3)).bind fun t782 => (if (((((t776 ++ (⟨#[32]⟩ : ByteArray)) ++ t778) ++ (⟨#[32]⟩ : ByteArray)) ++ t780) ++ (⟨#[32]⟩ : ByteArray)).size + t782.size ≤ 9223372036854775807 then (if ((((((t776 ++ (⟨#[32]⟩ : ByteArray)) ++ t778) ++ (⟨#[32]⟩ : ByteArray)) ++ t780) ++ (⟨#[32]⟩ : ByteArray)) ++ t782).size + 1 ≤ 9223372036854775807 then (if 4 < (((rd_T48 x0 0).f1).length : Int) then ((spec_Text.f k (rd ((rd_T48 x0 0).f1) 4)).bind fun t784 => (if (((((((t776 ++ (⟨#[32]⟩ : ByteArray)) ++ t778) ++ (⟨#[32]⟩ : ByteArray)) ++ t780) ++ (⟨#[32]⟩ : ByteArray)) ++ t782) ++ (⟨#[47]⟩ : ByteArray)).size + t784.size ≤ 9223372036854775807 then (if ((((((((t776 ++ (⟨#[32]⟩ : ByteArray)) ++ t778) ++ (⟨#[32]⟩ : ByteArray)) ++ t780) ++ (⟨#[32]⟩ : ByteArray)) ++ t782) ++ (⟨#[47]⟩ : ByteArray)) ++ t784).size + 1 ≤ 9223372036854775807 then (if 5 < (((rd_T48 x0 0).f1).length : Int) then ((spec_Text.f k (rd ((rd_T48 x0 0).f1) 5)).bind fun t786 => (if (((((((((t776 ++ (⟨#[32]⟩ : ByteArray)) ++ t778) ++ (⟨#[32]⟩ : ByteArray)) ++ t780) ++ (⟨#[32]⟩ : ByteArray)) ++ t782) ++ (⟨#[47]⟩ : ByteArray)) ++ t784) ++ (⟨#[32]⟩ : ByteArray)).size + t786.size ≤ 9223372036854775807 then (if ((((((((((t776 ++ (⟨#[32]⟩ : ByteArray)) ++ t778) ++ (⟨#[32]⟩ : ByteArray)) ++ t780) ++ (⟨#[32]⟩ : ByteArray)) ++ t782) ++ (⟨#[47]⟩ : ByteArray)) ++ t784) ++ (⟨#[32]⟩ : ByteArray)) ++ t786).size + 1 ≤ 9223372036854775807 then (some (((((((((((t776 ++ (⟨#[32]⟩ : ByteArray)) ++ t778) ++ (⟨#[32]⟩ : ByteArray)) ++ t780) ++ (⟨#[32]⟩ : ByteArray)) ++ t782) ++ (⟨#[47]⟩ : ByteArray)) ++ t784) ++ (⟨#[32]⟩ : ByteArray)) ++ t786) ++ (⟨#[10]⟩ : ByteArray), 1)) else (none)) else (none))) else (none)) else (none)) else (none))) else (none)) else (none)) else (none))) else (none)) else (none)) else (none))) else (none)) else (none)) else (none))) else (none)) else (none))) else (none)) else (none))
def spec_LoadavgPrint.f (k : Nat) (l0 : List (S48)) : Option (ByteArray × Int) := if (l0.length : Int) = 1 then (if 0 < (l0.length : Int) then ((spec_sized.f ((rd_T48 l0 0).f0) ((rd_T48 l0 0).f1) ((rd_T48 l0 0).f2) 6 0).bind fun t771 => (if t771 = true then ((spec_small.f k 1099511627776 ((rd_T48 l0 0).f1)).bind fun t773 => (spec_LoadavgPrint.j0 k l0 (!t773))) else (spec_LoadavgPrint.j0 k l0 true))) else (none)) else (spec_LoadavgPrint.j0 k l0 true)
def spec_LoadavgPrint.T4 : Bool × List (List Nat × List Nat) := (true, [([], []), ([0], [0]), ([1], [1]), ([2], [2]), ([3], [3]), ([], []), ([5], [5]), ([6], [6]), ([7, 3], [7]), ([4, 8], [4, 8]), ([9], [9]), ([], []), ([11], [11]), ([12], [12]), ([13, 8], [13]), ([10, 14], [10, 14]), ([15], [15]), ([], []), ([17], [17]), ([18], [18]), ([19, 14], [19]), ([16, 20], [16, 20]), ([21], [21]), ([], []), ([23], [23]), ([24], [24]), ([25, 20], [25]), ([22, 26], [22, 26]), ([27], [27]), ([], []), ([29], [29]), ([30], [30]), ([31, 26], [31]), ([28, 32], [28, 32]), ([33], [33]), ([34, 32, 0, 1, 2, 3, 4, 5, 6, 7, 8, 9, 10, 11, 12, 13, 14, 15, 16, 17, 18, 19, 20, 21, 22, 23, 24, 25, 26, 27, 28, 29, 30, 31, 32, 33, 34], [34]), ([35, 0, 1, 2, 3, 4, 5, 6, 7, 8, 9, 10, 11, 12, 13, 14, 15, 16, 17, 18, 19, 20, 21, 22, 23, 24, 25, 26, 27, 28, 29, 30, 31, 32, 33, 34, 35], [])])
def spec_LoadavgPrint.B4 : List Nat := [0, 1, 3, 7, 15, 0, 32, 96, 239, 511, 1023, 0, 2048, 6144, 14831, 32767, 65535, 0, 131072, 393216, 948719, 2097151, 4194303, 0, 8388608, 25165824, 60717551, 134217727, 268435455, 0, 536870912, 1610612736, 3885922799, 8589934591, 17179869183, 34359738367, 68719476735]
theorem spec_LoadavgPrint.tab4 : rtab .any (opsOf Tryz.f37 4) = spec_LoadavgPrint.T4 := by kernel_rfl
theorem spec_LoadavgPrint.bits4 : waitsOk spec_LoadavgPrint.T4.2 spec_LoadavgPrint.B4 = true := by kernel_rfl
set_option maxHeartbeats 8000000 in
set_option maxRecDepth 100000 in
theorem spec_LoadavgPrint.calls (k : Nat) (A0 : Option Addr) (c0 : Nat) (l0 : List (S48)) (r1 : ByteArray) (r2 : Int) (w : World) (hr0 : Kd.C k48 w A0 l0.length l0) (hc0 : l0.length ≤ c0) (h : spec_LoadavgPrint.f k l0 = some (r1, r2)) :
 Calls Tryz.prog 37 #[.slice A0 l0.length c0] w fun e w' => e = .returned (.tuple #[.string r1, .int .i64 r2]) ∧ Below w.heap.size w w' := by
 have hu48 := Tryz.underlying48
 have HR0 := Aside0.mk hr0
 have HC0 := Aside0.mk hc0
 clear hr0 hc0
 have HB := Aside0.mk (Below.refl w.heap.size w)
 have H : (if (l0.length : Int) = 1 then (if 0 < (l0.length : Int) then ((spec_sized.f ((rd_T48 l0 0).f0) ((rd_T48 l0 0).f1) ((rd_T48 l0 0).f2) 6 0).bind fun t771 => (if t771 = true then ((spec_small.f k 1099511627776 ((rd_T48 l0 0).f1)).bind fun t773 => (spec_LoadavgPrint.j0 k l0 (!t773))) else (spec_LoadavgPrint.j0 k l0 true))) else (none)) else (spec_LoadavgPrint.j0 k l0 true)) = some (r1, r2) := h
 clear h
 have HC2 := Aside0.mk H
 clear H
 go_enter Tryz.func37, Tryz.ntmps37
 go_upto_region 1 with (fail)
 go_cut [22] (fun v22 wc => ∃ (kq : Nat) (x22_1 : Bool), v22 = .bool x22_1 ∧ Aside0 (spec_LoadavgPrint.j0 kq l0 x22_1 = some (r1, r2)) ∧ Aside0 (kq ≤ k) ∧ Aside0 (Below w.heap.size w wc))
 case first =>
  have H := HC2.out
  clear HC2
  by_cases c3 : (l0.length : Int) = 1
  · rw [if_pos c3] at H
    have c3b0 : ((l0.length : Int) == 1) = true := beq_iff_eq.mpr c3
    have c3b1 : ((l0.length : Int) != 1) = false := bne_eq_false_iff_eq.mpr c3
    clear c3
    (first | rw [c3b0] | (simp only [i64_w, i32_w]; rw [c3b0]) | skip)
    by_cases c4 : 0 < (l0.length : Int)
    · rw [if_pos c4] at H
      have c4b0 : decide (0 < (l0.length : Int)) = true := decide_eq_true c4
      have c4b1 : decide (0 < l0.length) = true := decide_eq_true (by omega)
      clear c4
      replace H := Option.bind_eq_some_iff.mp H
      obtain ⟨t771, A50, H⟩ := H
      replace H : (if t771 = true then ((spec_small.f k 1099511627776 ((rd_T48 l0 0).f1)).bind fun t773 => (spec_LoadavgPrint.j0 k l0 (!t773))) else (spec_LoadavgPrint.j0 k l0 true)) = some (r1, r2) := H
      have A5 := Aside0.mk A50
      clear A50
      by_cases c6 : t771 = true
      · subst c6
        have H1 : ((spec_small.f k 1099511627776 ((rd_T48 l0 0).f1)).bind fun t773 => (spec_LoadavgPrint.j0 k l0 (!t773))) = some (r1, r2) := by rw [if_pos rfl] at H; exact H
        clear H
        have H := H1
        clear H1
        replace H := Option.bind_eq_some_iff.mp H
        obtain ⟨t773, A70, H⟩ := H
        replace H : (spec_LoadavgPrint.j0 k l0 (!t773)) = some (r1, r2) := H
        have A7 := Aside0.mk A70
        clear A70
        have H' := Aside0.mk H
        clear H
        have p770 : 0 ≤ (0 : Int) := (by omega)
        have q770 : 0 < (l0.length : Int) := of_decide_eq_true (by first | (with_reducible assumption) | assumption)
        obtain ⟨ad770, A770_1, c770_1, A770_2, c770_2, e770, hx770_0, hx770_1, hx770_2, hl770_1, hi770_1, hl770_2, hi770_2⟩ := at_T48 HR0.out 0 p770 q770
        cases e770
        have qi770 : (0 < l0.length) = True := eq_true (by omega)
        (try rw [show ((0 : Int)).toNat = 0 from rfl] at hx770_0)
        (try rw [show 0 * 3 = 0 from rfl] at hx770_0)
        (try rw [Addr.add_zero'] at hx770_0)
        (try rw [show ((0 : Int)).toNat = 0 from rfl] at hx770_1)
        (try rw [show 0 * 3 = 0 from rfl] at hx770_1)
        (try rw [Addr.add_zero'] at hx770_1)
        (try rw [show ((0 : Int)).toNat = 0 from rfl] at hx770_2)
        (try rw [show 0 * 3 = 0 from rfl] at hx770_2)
        (try rw [Addr.add_zero'] at hx770_2)
        replace hx770_0 := (HB.out.cell (World.block_lt_of_cell? w _ hx770_0)).trans hx770_0
        replace hx770_1 := (HB.out.cell (World.block_lt_of_cell? w _ hx770_1)).trans hx770_1
        replace hx770_2 := (HB.out.cell (World.block_lt_of_cell? w _ hx770_2)).trans hx770_2
        have HR770_1 := Aside0.mk hi770_1
        have HC770_1 := Aside0.mk hl770_1
        clear hi770_1 hl770_1
        have HR770_2 := Aside0.mk hi770_2
        have HC770_2 := Aside0.mk hl770_2
        clear hi770_2 hl770_2
        replace p770 := eq_true p770
        replace q770 := eq_true q770
        go_wp2_with (first | (go_at_call 100; (with_reducible refine (spec_sized.calls ((rd_T48 l0 0).f0) _ _ ((rd_T48 l0 0).f1) _ _ ((rd_T48 l0 0).f2) 6 0 true _ ?side1 ?side2 ?side3 ?side4 A5.out).mono ?_); (case side1 => repeat (first | exact (Kd.C_below HR770_1.out HB.out) | (with_reducible refine Kd.C_alloc ?_ _) | (with_reducible refine Kd.C_drewN ?_ _) | (with_reducible refine Kd.C_drew ?_))); (case side2 => exact HC770_1.out); (case side3 => repeat (first | exact (Kd.C_below HR770_2.out HB.out) | (with_reducible refine Kd.C_alloc ?_ _) | (with_reducible refine Kd.C_drewN ?_ _) | (with_reducible refine Kd.C_drew ?_))); (case side4 => exact HC770_2.out); rintro e w8 ⟨rfl, hb⟩; have n0_ := Aside0.mk (below_step (by repeat (first | (with_reducible first | exact HB.out | apply below_alloc | apply pw_below_drewN | apply below_drew1) | exact HB.out)) hb); clear HB; have HB := n0_; clear n0_; (try clear hb); (try clear hb2); (try clear hk); (try clear hi); have p772 : 0 ≤ (0 : Int) := (by omega); have q772 : 0 < (l0.length : Int) := of_decide_eq_true (by first | (with_reducible assumption) | assumption); obtain ⟨ad772, A772_1, c772_1, A772_2, c772_2, e772, hx772_0, hx772_1, hx772_2, hl772_1, hi772_1, hl772_2, hi772_2⟩ := at_T48 HR0.out 0 p772 q772; obtain rfl : ad770 = ad772 := (by injection e772); have qi772 : (0 < l0.length) = True := eq_true (by omega); (try rw [show ((0 : Int)).toNat = 0 from rfl] at hx772_0); (try rw [show 0 * 3 = 0 from rfl] at hx772_0); (try rw [Addr.add_zero'] at hx772_0); (try rw [show ((0 : Int)).toNat = 0 from rfl] at hx772_1); (try rw [show 0 * 3 = 0 from rfl] at hx772_1); (try rw [Addr.add_zero'] at hx772_1); (try rw [show ((0 : Int)).toNat = 0 from rfl] at hx772_2); (try rw [show 0 * 3 = 0 from rfl] at hx772_2); (try rw [Addr.add_zero'] at hx772_2); replace hx772_0 := (HB.out.cell (World.block_lt_of_cell? w _ hx772_0)).trans hx772_0; replace hx772_1 := (HB.out.cell (World.block_lt_of_cell? w _ hx772_1)).trans hx772_1; replace hx772_2 := (HB.out.cell (World.block_lt_of_cell? w _ hx772_2)).trans hx772_2; have HR772_1 := Aside0.mk hi772_1; have HC772_1 := Aside0.mk hl772_1; clear hi772_1 hl772_1; have HR772_2 := Aside0.mk hi772_2; have HC772_2 := Aside0.mk hl772_2; clear hi772_2 hl772_2; replace p772 := eq_true p772; replace q772 := eq_true q772) | (go_at_call 101; (with_reducible refine (spec_small.calls k 1099511627776 _ _ ((rd_T48 l0 0).f1) t773 _ ?side1 ?side2 A7.out).mono ?_); (case side1 => repeat (first | exact (Kd.C_below HR772_1.out HB.out) | (with_reducible refine Kd.C_alloc ?_ _) | (with_reducible refine Kd.C_drewN ?_ _) | (with_reducible refine Kd.C_drew ?_))); (case side2 => exact HC772_1.out); rintro e w' ⟨rfl, ⟨nd, rfl⟩⟩))
        go_meet
        case rel => exact ⟨_, (!t773), (by first | rfl | (simp; done) | (simp [*]; done)), H', ⟨by first | omega | exact Nat.le_refl _⟩, ⟨by repeat (first | (with_reducible first | exact HB.out | apply below_alloc | apply pw_below_drewN | apply below_drew1) | exact HB.out)⟩⟩
      · replace c6 := Bool.eq_false_iff.mpr c6
        subst c6
        have H1 : (spec_LoadavgPrint.j0 k l0 true) = some (r1, r2) := by rw [if_neg (show ¬ (false = true) by decide)] at H; exact H
        clear H
        have H := H1
        clear H1
        have H' := Aside0.mk H
        clear H
        have p770 : 0 ≤ (0 : Int) := (by omega)
        have q770 : 0 < (l0.length : Int) := of_decide_eq_true (by first | (with_reducible assumption) | assumption)
        obtain ⟨ad770, A770_1, c770_1, A770_2, c770_2, e770, hx770_0, hx770_1, hx770_2, hl770_1, hi770_1, hl770_2, hi770_2⟩ := at_T48 HR0.out 0 p770 q770
        cases e770
        have qi770 : (0 < l0.length) = True := eq_true (by omega)
        (try rw [show ((0 : Int)).toNat = 0 from rfl] at hx770_0)
        (try rw [show 0 * 3 = 0 from rfl] at hx770_0)
        (try rw [Addr.add_zero'] at hx770_0)
        (try rw [show ((0 : Int)).toNat = 0 from rfl] at hx770_1)
        (try rw [show 0 * 3 = 0 from rfl] at hx770_1)
        (try rw [Addr.add_zero'] at hx770_1)
        (try rw [show ((0 : Int)).toNat = 0 from rfl] at hx770_2)
        (try rw [show 0 * 3 = 0 from rfl] at hx770_2)
        (try rw [Addr.add_zero'] at hx770_2)
        replace hx770_0 := (HB.out.cell (World.block_lt_of_cell? w _ hx770_0)).trans hx770_0
        replace hx770_1 := (HB.out.cell (World.block_lt_of_cell? w _ hx770_1)).trans hx770_1
        replace hx770_2 := (HB.out.cell (World.block_lt_of_cell? w _ hx770_2)).trans hx770_2
        have HR770_1 := Aside0.mk hi770_1
        have HC770_1 := Aside0.mk hl770_1
        clear hi770_1 hl770_1
        have HR770_2 := Aside0.mk hi770_2
        have HC770_2 := Aside0.mk hl770_2
        clear hi770_2 hl770_2
        replace p770 := eq_true p770
        replace q770 := eq_true q770
        go_wp2_with (first | (go_at_call 100; (with_reducible refine (spec_sized.calls ((rd_T48 l0 0).f0) _ _ ((rd_T48 l0 0).f1) _ _ ((rd_T48 l0 0).f2) 6 0 false _ ?side1 ?side2 ?side3 ?side4 A5.out).mono ?_); (case side1 => repeat (first | exact (Kd.C_below HR770_1.out HB.out) | (with_reducible refine Kd.C_alloc ?_ _) | (with_reducible refine Kd.C_drewN ?_ _) | (with_reducible refine Kd.C_drew ?_))); (case side2 => exact HC770_1.out); (case side3 => repeat (first | exact (Kd.C_below HR770_2.out HB.out) | (with_reducible refine Kd.C_alloc ?_ _) | (with_reducible refine Kd.C_drewN ?_ _) | (with_reducible refine Kd.C_drew ?_))); (case side4 => exact HC770_2.out); rintro e w9 ⟨rfl, hb⟩; have n0_ := Aside0.mk (below_step (by repeat (first | (with_reducible first | exact HB.out | apply below_alloc | apply pw_below_drewN | apply below_drew1) | exact HB.out)) hb); clear HB; have HB := n0_; clear n0_; (try clear hb); (try clear hb2); (try clear hk); (try clear hi)))
        go_meet
        case rel => exact ⟨_, (true), (by first | rfl | (simp; done) | (simp [*]; done)), H', ⟨by first | omega | exact Nat.le_refl _⟩, ⟨by repeat (first | (with_reducible first | exact HB.out | apply below_alloc | apply pw_below_drewN | apply below_drew1) | exact HB.out)⟩⟩
    · rw [if_neg c4] at H
      exact absurd H (by simp)
  · rw [if_neg c3] at H
    have c3b0 : ((l0.length : Int) == 1) = false := beq_eq_false_iff_ne.mpr c3
    have c3b1 : ((l0.length : Int) != 1) = true := bne_iff_ne.mpr c3
    (first | rw [c3b0] | (simp only [i64_w, i32_w]; rw [c3b0]) | skip)
    have H' := Aside0.mk H
    clear H
    go_wp2
    go_meet
    case rel => exact ⟨_, (true), (by first | rfl | (simp; done) | (simp [*]; done)), H', ⟨by first | omega | exact Nat.le_refl _⟩, ⟨by repeat (first | (with_reducible first | exact HB.out | apply below_alloc | apply pw_below_drewN | apply below_drew1) | exact HB.out)⟩⟩
 case rest =>
  clear HC2
  try clear p2
  try clear c3
  try clear c3b0
  try clear c3b1
  try clear c4
  try clear c4b0
  try clear c4b1
  try clear c6
  try clear c7
  try clear p7
  try clear q7
  try clear hx7
  try clear qi7
  try clear hx770_0
  try clear hx770_1
  try clear hx770_2
  try clear hx772_0
  try clear hx772_1
  try clear hx772_2
  try clear p770
  try clear p772
  try clear q770
  try clear q772
  obtain ⟨kq, x22_1, rfl, HA, HJ1, HB⟩ := hcut
  cases kq with
  | zero => exact absurd HA.out (by simp [spec_LoadavgPrint.j0])
  | succ kj1 =>
   have H := HA.out
   clear HA
   simp only [spec_LoadavgPrint.j0] at H
   by_cases c10 : x22_1 = true
   · subst c10
     have H1 : (some ((⟨#[]⟩ : ByteArray), 2)) = some (r1, r2) := by rw [if_pos rfl] at H; exact H
     clear H
     have H := H1
     clear H1
     simp only [Option.some.injEq, Prod.mk.injEq] at H
     obtain ⟨rfl, rfl⟩ := H
     go_wp2
     go_ret2
     exact ⟨by first | rfl | (simp [errW_none, errW_some] <;> rfl) | (simp [*, errW_none, errW_some] <;> rfl), by repeat (first | (with_reducible first | exact HB.out | apply below_alloc | apply pw_below_drewN | apply below_drew1) | exact HB.out)⟩
   · replace c10 := Bool.eq_false_iff.mpr c10
     subst c10
     have H1 : (if 0 < (l0.length : Int) then (if 0 < (((rd_T48 l0 0).f1).length : Int) then ((spec_Hundredths.f kj1 (rd ((rd_T48 l0 0).f1) 0)).bind fun t776 => (if t776.size + 1 ≤ 9223372036854775807 then (if 1 < (((rd_T48 l0 0).f1).length : Int) then ((spec_Hundredths.f kj1 (rd ((rd_T48 l0 0).f1) 1)).bind fun t778 => (if (t776 ++ (⟨#[32]⟩ : ByteArray)).size + t778.size ≤ 9223372036854775807 then (if ((t776 ++ (⟨#[32]⟩ : ByteArray)) ++ t778).size + 1 ≤ 9223372036854775807 then (if 2 < (((rd_T48 l0 0).f1).length : Int) then ((spec_Hundredths.f kj1 (rd ((rd_T48 l0 0).f1) 2)).bind fun t780 => (if (((t776 ++ (⟨#[32]⟩ : ByteArray)) ++ t778) ++ (⟨#[32]⟩ : ByteArray)).size + t780.size ≤ 9223372036854775807 then (if ((((t776 ++ (⟨#[32]⟩ : ByteArray)) ++ t778) ++ (⟨#[32]⟩ : ByteArray)) ++ t780).size + 1 ≤ 9223372036854775807 then (if 3 < (((rd_T48 l0 0).f1).length : Int) then ((spec_Text.f kj1 (rd ((rd_T48 l0 0).f1) 3)).bind fun t782 => (if (((((t776 ++ (⟨#[32]⟩ : ByteArray)) ++ t778) ++ (⟨#[32]⟩ : ByteArray)) ++ t780) ++ (⟨#[32]⟩ : ByteArray)).size + t782.size ≤ 9223372036854775807 then (if ((((((t776 ++ (⟨#[32]⟩ : ByteArray)) ++ t778) ++ (⟨#[32]⟩ : ByteArray)) ++ t780) ++ (⟨#[32]⟩ : ByteArray)) ++ t782).size + 1 ≤ 9223372036854775807 then (if 4 < (((rd_T48 l0 0).f1).length : Int) then ((spec_Text.f kj1 (rd ((rd_T48 l0 0).f1) 4)).bind fun t784 => (if (((((((t776 ++ (⟨#[32]⟩ : ByteArray)) ++ t778) ++ (⟨#[32]⟩ : ByteArray)) ++ t780) ++ (⟨#[32]⟩ : ByteArray)) ++ t782) ++ (⟨#[47]⟩ : ByteArray)).size + t784.size ≤ 9223372036854775807 then (if ((((((((t776 ++ (⟨#[32]⟩ : ByteArray)) ++ t778) ++ (⟨#[32]⟩ : ByteArray)) ++ t780) ++ (⟨#[32]⟩ : ByteArray)) ++ t782) ++ (⟨#[47]⟩ : ByteArray)) ++ t784).size + 1 ≤ 9223372036854775807 then (if 5 < (((rd_T48 l0 0).f1).length : Int) then ((spec_Text.f kj1 (rd ((rd_T48 l0 0).f1) 5)).bind fun t786 => (if (((((((((t776 ++ (⟨#[32]⟩ : ByteArray)) ++ t778) ++ (⟨#[32]⟩ : ByteArray)) ++ t780) ++ (⟨#[32]⟩ : ByteArray)) ++ t782) ++ (⟨#[47]⟩ : ByteArray)) ++ t784) ++ (⟨#[32]⟩ : ByteArray)).size + t786.size ≤ 9223372036854775807 then (if ((((((((((t776 ++ (⟨#[32]⟩ : ByteArray)) ++ t778) ++ (⟨#[32]⟩ : ByteArray)) ++ t780) ++ (⟨#[32]⟩ : ByteArray)) ++ t782) ++ (⟨#[47]⟩ : ByteArray)) ++ t784) ++ (⟨#[32]⟩ : ByteArray)) ++ t786).size + 1 ≤ 9223372036854775807 then (some (((((((((((t776 ++ (⟨#[32]⟩ : ByteArray)) ++ t778) ++ (⟨#[32]⟩ : ByteArray)) ++ t780) ++ (⟨#[32]⟩ : ByteArray)) ++ t782) ++ (⟨#[47]⟩ : ByteArray)) ++ t784) ++ (⟨#[32]⟩ : ByteArray)) ++ t786) ++ (⟨#[10]⟩ : ByteArray), 1)) else (none)) else (none))) else (none)) else (none)) else (none))) else (none)) else (none)) else (none))) else (none)) else (none)) else (none))) else (none)) else (none)) else (none))) else (none)) else (none))) else (none)) else (none)) = some (r1, r2) := by rw [if_neg (show ¬ (false = true) by decide)] at H; exact H
     clear H
     have H := H1
     clear H1
     by_cases c11 : 0 < (l0.length : Int)
     · rw [if_pos c11] at H
       have c11b0 : decide (0 < (l0.length : Int)) = true := decide_eq_true c11
       have c11b1 : decide (0 < l0.length) = true := decide_eq_true (by omega)
       clear c11
       by_cases c12 : 0 < (((rd_T48 l0 0).f1).length : Int)
       · rw [if_pos c12] at H
         have c12b0 : decide (0 < (((rd_T48 l0 0).f1).length : Int)) = true := decide_eq_true c12
         have c12b1 : decide (0 < ((rd_T48 l0 0).f1).length) = true := decide_eq_true (by omega)
         clear c12
         replace H := Option.bind_eq_some_iff.mp H
         obtain ⟨t776, A130, H⟩ := H
         replace H : (if t776.size + 1 ≤ 9223372036854775807 then (if 1 < (((rd_T48 l0 0).f1).length : Int) then ((spec_Hundredths.f kj1 (rd ((rd_T48 l0 0).f1) 1)).bind fun t778 => (if (t776 ++ (⟨#[32]⟩ : ByteArray)).size + t778.size ≤ 9223372036854775807 then (if ((t776 ++ (⟨#[32]⟩ : ByteArray)) ++ t778).size + 1 ≤ 9223372036854775807 then (if 2 < (((rd_T48 l0 0).f1).length : Int) then ((spec_Hundredths.f kj1 (rd ((rd_T48 l0 0).f1) 2)).bind fun t780 => (if (((t776 ++ (⟨#[32]⟩ : ByteArray)) ++ t778) ++ (⟨#[32]⟩ : ByteArray)).size + t780.size ≤ 9223372036854775807 then (if ((((t776 ++ (⟨#[32]⟩ : ByteArray)) ++ t778) ++ (⟨#[32]⟩ : ByteArray)) ++ t780).size + 1 ≤ 9223372036854775807 then (if 3 < (((rd_T48 l0 0).f1).length : Int) then ((spec_Text.f kj1 (rd ((rd_T48 l0 0).f1) 3)).bind fun t782 => (if (((((t776 ++ (⟨#[32]⟩ : ByteArray)) ++ t778) ++ (⟨#[32]⟩ : ByteArray)) ++ t780) ++ (⟨#[32]⟩ : ByteArray)).size + t782.size ≤ 9223372036854775807 then (if ((((((t776 ++ (⟨#[32]⟩ : ByteArray)) ++ t778) ++ (⟨#[32]⟩ : ByteArray)) ++ t780) ++ (⟨#[32]⟩ : ByteArray)) ++ t782).size + 1 ≤ 9223372036854775807 then (if 4 < (((rd_T48 l0 0).f1).length : Int) then ((spec_Text.f kj1 (rd ((rd_T48 l0 0).f1) 4)).bind fun t784 => (if (((((((t776 ++ (⟨#[32]⟩ : ByteArray)) ++ t778) ++ (⟨#[32]⟩ : ByteArray)) ++ t780) ++ (⟨#[32]⟩ : ByteArray)) ++ t782) ++ (⟨#[47]⟩ : ByteArray)).size + t784.size ≤ 9223372036854775807 then (if ((((((((t776 ++ (⟨#[32]⟩ : ByteArray)) ++ t778) ++ (⟨#[32]⟩ : ByteArray)) ++ t780) ++ (⟨#[32]⟩ : ByteArray)) ++ t782) ++ (⟨#[47]⟩ : ByteArray)) ++ t784).size + 1 ≤ 9223372036854775807 then (if 5 < (((rd_T48 l0 0).f1).length : Int) then ((spec_Text.f kj1 (rd ((rd_T48 l0 0).f1) 5)).bind fun t786 => (if (((((((((t776 ++ (⟨#[32]⟩ : ByteArray)) ++ t778) ++ (⟨#[32]⟩ : ByteArray)) ++ t780) ++ (⟨#[32]⟩ : ByteArray)) ++ t782) ++ (⟨#[47]⟩ : ByteArray)) ++ t784) ++ (⟨#[32]⟩ : ByteArray)).size + t786.size ≤ 9223372036854775807 then (if ((((((((((t776 ++ (⟨#[32]⟩ : ByteArray)) ++ t778) ++ (⟨#[32]⟩ : ByteArray)) ++ t780) ++ (⟨#[32]⟩ : ByteArray)) ++ t782) ++ (⟨#[47]⟩ : ByteArray)) ++ t784) ++ (⟨#[32]⟩ : ByteArray)) ++ t786).size + 1 ≤ 9223372036854775807 then (some (((((((((((t776 ++ (⟨#[32]⟩ : ByteArray)) ++ t778) ++ (⟨#[32]⟩ : ByteArray)) ++ t780) ++ (⟨#[32]⟩ : ByteArray)) ++ t782) ++ (⟨#[47]⟩ : ByteArray)) ++ t784) ++ (⟨#[32]⟩ : ByteArray)) ++ t786) ++ (⟨#[10]⟩ : ByteArray), 1)) else (none)) else (none))) else (none)) else (none)) else (none))) else (none)) else (none)) else (none))) else (none)) else (none)) else (none))) else (none)) else (none)) else (none))) else (none)) else (none)) = some (r1, r2) := H
         have A13 := Aside0.mk A130
         clear A130
         by_cases c14 : t776.size + 1 ≤ 9223372036854775807
         · rw [if_pos c14] at H
           have c14b0 := eq_true c14
           have c14b1 : decide (t776.size + 1 ≤ 9223372036854775807) = true := decide_eq_true c14
           try have c14b2 : (9223372036854775807 < t776.size + 1) = False := eq_false (Nat.not_lt.2 c14)
           by_cases c15 : 1 < (((rd_T48 l0 0).f1).length : Int)
           · rw [if_pos c15] at H
             have c15b0 : decide (1 < (((rd_T48 l0 0).f1).length : Int)) = true := decide_eq_true c15
             have c15b1 : decide (1 < ((rd_T48 l0 0).f1).length) = true := decide_eq_true (by omega)
             clear c15
             replace H := Option.bind_eq_some_iff.mp H
             obtain ⟨t778, A160, H⟩ := H
             replace H : (if (t776 ++ (⟨#[32]⟩ : ByteArray)).size + t778.size ≤ 9223372036854775807 then (if ((t776 ++ (⟨#[32]⟩ : ByteArray)) ++ t778).size + 1 ≤ 9223372036854775807 then (if 2 < (((rd_T48 l0 0).f1).length : Int) then ((spec_Hundredths.f kj1 (rd ((rd_T48 l0 0).f1) 2)).bind fun t780 => (if (((t776 ++ (⟨#[32]⟩ : ByteArray)) ++ t778) ++ (⟨#[32]⟩ : ByteArray)).size + t780.size ≤ 9223372036854775807 then (if ((((t776 ++ (⟨#[32]⟩ : ByteArray)) ++ t778) ++ (⟨#[32]⟩ : ByteArray)) ++ t780).size + 1 ≤ 9223372036854775807 then (if 3 < (((rd_T48 l0 0).f1).length : Int) then ((spec_Text.f kj1 (rd ((rd_T48 l0 0).f1) 3)).bind fun t782 => (if (((((t776 ++ (⟨#[32]⟩ : ByteArray)) ++ t778) ++ (⟨#[32]⟩ : ByteArray)) ++ t780) ++ (⟨#[32]⟩ : ByteArray)).size + t782.size ≤ 9223372036854775807 then (if ((((((t776 ++ (⟨#[32]⟩ : ByteArray)) ++ t778) ++ (⟨#[32]⟩ : ByteArray)) ++ t780) ++ (⟨#[32]⟩ : ByteArray)) ++ t782).size + 1 ≤ 9223372036854775807 then (if 4 < (((rd_T48 l0 0).f1).length : Int) then ((spec_Text.f kj1 (rd ((rd_T48 l0 0).f1) 4)).bind fun t784 => (if (((((((t776 ++ (⟨#[32]⟩ : ByteArray)) ++ t778) ++ (⟨#[32]⟩ : ByteArray)) ++ t780) ++ (⟨#[32]⟩ : ByteArray)) ++ t782) ++ (⟨#[47]⟩ : ByteArray)).size + t784.size ≤ 9223372036854775807 then (if ((((((((t776 ++ (⟨#[32]⟩ : ByteArray)) ++ t778) ++ (⟨#[32]⟩ : ByteArray)) ++ t780) ++ (⟨#[32]⟩ : ByteArray)) ++ t782) ++ (⟨#[47]⟩ : ByteArray)) ++ t784).size + 1 ≤ 9223372036854775807 then (if 5 < (((rd_T48 l0 0).f1).length : Int) then ((spec_Text.f kj1 (rd ((rd_T48 l0 0).f1) 5)).bind fun t786 => (if (((((((((t776 ++ (⟨#[32]⟩ : ByteArray)) ++ t778) ++ (⟨#[32]⟩ : ByteArray)) ++ t780) ++ (⟨#[32]⟩ : ByteArray)) ++ t782) ++ (⟨#[47]⟩ : ByteArray)) ++ t784) ++ (⟨#[32]⟩ : ByteArray)).size + t786.size ≤ 9223372036854775807 then (if ((((((((((t776 ++ (⟨#[32]⟩ : ByteArray)) ++ t778) ++ (⟨#[32]⟩ : ByteArray)) ++ t780) ++ (⟨#[32]⟩ : ByteArray)) ++ t782) ++ (⟨#[47]⟩ : ByteArray)) ++ t784) ++ (⟨#[32]⟩ : ByteArray)) ++ t786).size + 1 ≤ 9223372036854775807 then (some (((((((((((t776 ++ (⟨#[32]⟩ : ByteArray)) ++ t778) ++ (⟨#[32]⟩ : ByteArray)) ++ t780) ++ (⟨#[32]⟩ : ByteArray)) ++ t782) ++ (⟨#[47]⟩ : ByteArray)) ++ t784) ++ (⟨#[32]⟩ : ByteArray)) ++ t786) ++ (⟨#[10]⟩ : ByteArray), 1)) else (none)) else (none))) else (none)) else (none)) else (none))) else (none)) else (none)) else (none))) else (none)) else (none)) else (none))) else (none)) else (none)) else (none)) = some (r1, r2) := H
             have A16 := Aside0.mk A160
             clear A160
             by_cases c17 : (t776 ++ (⟨#[32]⟩ : ByteArray)).size + t778.size ≤ 9223372036854775807
             · rw [if_pos c17] at H
               have c17b0 := eq_true c17
               have c17b1 : decide ((t776 ++ (⟨#[32]⟩ : ByteArray)).size + t778.size ≤ 9223372036854775807) = true := decide_eq_true c17
               try have c17b2 : (9223372036854775807 < (t776 ++ (⟨#[32]⟩ : ByteArray)).size + t778.size) = False := eq_false (Nat.not_lt.2 c17)
               have c17b3 : (9223372036854775807 < t776.size + 1 + t778.size) = False := by have h_ := c17b2; simp only [ByteArray.size_append] at h_; exact h_
               by_cases c18 : ((t776 ++ (⟨#[32]⟩ : ByteArray)) ++ t778).size + 1 ≤ 9223372036854775807
               · rw [if_pos c18] at H
                 have c18b0 := eq_true c18
                 have c18b1 : decide (((t776 ++ (⟨#[32]⟩ : ByteArray)) ++ t778).size + 1 ≤ 9223372036854775807) = true := decide_eq_true c18
                 try have c18b2 : (9223372036854775807 < ((t776 ++ (⟨#[32]⟩ : ByteArray)) ++ t778).size + 1) = False := eq_false (Nat.not_lt.2 c18)
                 have c18b3 : (9223372036854775807 < t776.size + 1 + t778.size + 1) = False := by have h_ := c18b2; simp only [ByteArray.size_append] at h_; exact h_
                 by_cases c19 : 2 < (((rd_T48 l0 0).f1).length : Int)
                 · rw [if_pos c19] at H
                   have c19b0 : decide (2 < (((rd_T48 l0 0).f1).length : Int)) = true := decide_eq_true c19
                   have c19b1 : decide (2 < ((rd_T48 l0 0).f1).length) = true := decide_eq_true (by omega)
                   clear c19
                   replace H := Option.bind_eq_some_iff.mp H
                   obtain ⟨t780, A200, H⟩ := H
                   replace H : (if (((t776 ++ (⟨#[32]⟩ : ByteArray)) ++ t778) ++ (⟨#[32]⟩ : ByteArray)).size + t780.size ≤ 9223372036854775807 then (if ((((t776 ++ (⟨#[32]⟩ : ByteArray)) ++ t778) ++ (⟨#[32]⟩ : ByteArray)) ++ t780).size + 1 ≤ 9223372036854775807 then (if 3 < (((rd_T48 l0 0).f1).length : Int) then ((spec_Text.f kj1 (rd ((rd_T48 l0 0).f1) 3)).bind fun t782 => (if (((((t776 ++ (⟨#[32]⟩ : ByteArray)) ++ t778) ++ (⟨#[32]⟩ : ByteArray)) ++ t780) ++ (⟨#[32]⟩ : ByteArray)).size + t782.size ≤ 9223372036854775807 then (if ((((((t776 ++ (⟨#[32]⟩ : ByteArray)) ++ t778) ++ (⟨#[32]⟩ : ByteArray)) ++ t780) ++ (⟨#[32]⟩ : ByteArray)) ++ t782).size + 1 ≤ 9223372036854775807 then (if 4 < (((rd_T48 l0 0).f1).length : Int) then ((spec_Text.f kj1 (rd ((rd_T48 l0 0).f1) 4)).bind fun t784 => (if (((((((t776 ++ (⟨#[32]⟩ : ByteArray)) ++ t778) ++ (⟨#[32]⟩ : ByteArray)) ++ t780) ++ (⟨#[32]⟩ : ByteArray)) ++ t782) ++ (⟨#[47]⟩ : ByteArray)).size + t784.size ≤ 9223372036854775807 then (if ((((((((t776 ++ (⟨#[32]⟩ : ByteArray)) ++ t778) ++ (⟨#[32]⟩ : ByteArray)) ++ t780) ++ (⟨#[32]⟩ : ByteArray)) ++ t782) ++ (⟨#[47]⟩ : ByteArray)) ++ t784).size + 1 ≤ 9223372036854775807 then (if 5 < (((rd_T48 l0 0).f1).length : Int) then ((spec_Text.f kj1 (rd ((rd_T48 l0 0).f1) 5)).bind fun t786 => (if (((((((((t776 ++ (⟨#[32]⟩ : ByteArray)) ++ t778) ++ (⟨#[32]⟩ : ByteArray)) ++ t780) ++ (⟨#[32]⟩ : ByteArray)) ++ t782) ++ (⟨#[47]⟩ : ByteArray)) ++ t784) ++ (⟨#[32]⟩ : ByteArray)).size + t786.size ≤ 9223372036854775807 then (if ((((((((((t776 ++ (⟨#[32]⟩ : ByteArray)) ++ t778) ++ (⟨#[32]⟩ : ByteArray)) ++ t780) ++ (⟨#[32]⟩ : ByteArray)) ++ t782) ++ (⟨#[47]⟩ : ByteArray)) ++ t784) ++ (⟨#[32]⟩ : ByteArray)) ++ t786).size + 1 ≤ 9223372036854775807 then (some (((((((((((t776 ++ (⟨#[32]⟩ : ByteArray)) ++ t778) ++ (⟨#[32]⟩ : ByteArray)) ++ t780) ++ (⟨#[32]⟩ : ByteArray)) ++ t782) ++ (⟨#[47]⟩ : ByteArray)) ++ t784) ++ (⟨#[32]⟩ : ByteArray)) ++ t786) ++ (⟨#[10]⟩ : ByteArray), 1)) else (none)) else (none))) else (none)) else (none)) else (none))) else (none)) else (none)) else (none))) else (none)) else (none)) else (none)) = some (r1, r2) := H
                   have A20 := Aside0.mk A200
                   clear A200
                   by_cases c21 : (((t776 ++ (⟨#[32]⟩ : ByteArray)) ++ t778) ++ (⟨#[32]⟩ : ByteArray)).size + t780.size ≤ 9223372036854775807
                   · rw [if_pos c21] at H
                     have c21b0 := eq_true c21
                     have c21b1 : decide ((((t776 ++ (⟨#[32]⟩ : ByteArray)) ++ t778) ++ (⟨#[32]⟩ : ByteArray)).size + t780.size ≤ 9223372036854775807) = true := decide_eq_true c21
                     try have c21b2 : (9223372036854775807 < (((t776 ++ (⟨#[32]⟩ : ByteArray)) ++ t778) ++ (⟨#[32]⟩ : ByteArray)).size + t780.size) = False := eq_false (Nat.not_lt.2 c21)
                     have c21b3 : (9223372036854775807 < t776.size + 1 + t778.size + 1 + t780.size) = False := by have h_ := c21b2; simp only [ByteArray.size_append] at h_; exact h_
                     by_cases c22 : ((((t776 ++ (⟨#[32]⟩ : ByteArray)) ++ t778) ++ (⟨#[32]⟩ : ByteArray)) ++ t780).size + 1 ≤ 9223372036854775807
                     · rw [if_pos c22] at H
                       have c22b0 := eq_true c22
                       have c22b1 : decide (((((t776 ++ (⟨#[32]⟩ : ByteArray)) ++ t778) ++ (⟨#[32]⟩ : ByteArray)) ++ t780).size + 1 ≤ 9223372036854775807) = true := decide_eq_true c22
                       try have c22b2 : (9223372036854775807 < ((((t776 ++ (⟨#[32]⟩ : ByteArray)) ++ t778) ++ (⟨#[32]⟩ : ByteArray)) ++ t780).size + 1) = False := eq_false (Nat.not_lt.2 c22)
                       have c22b3 : (9223372036854775807 < t776.size + 1 + t778.size + 1 + t780.size + 1) = False := by have h_ := c22b2; simp only [ByteArray.size_append] at h_; exact h_
                       by_cases c23 : 3 < (((rd_T48 l0 0).f1).length : Int)
                       · rw [if_pos c23] at H
                         have c23b0 : decide (3 < (((rd_T48 l0 0).f1).length : Int)) = true := decide_eq_true c23
                         have c23b1 : decide (3 < ((rd_T48 l0 0).f1).length) = true := decide_eq_true (by omega)
                         clear c23
                         replace H := Option.bind_eq_some_iff.mp H
                         obtain ⟨t782, A240, H⟩ := H
                         replace H : (if (((((t776 ++ (⟨#[32]⟩ : ByteArray)) ++ t778) ++ (⟨#[32]⟩ : ByteArray)) ++ t780) ++ (⟨#[32]⟩ : ByteArray)).size + t782.size ≤ 9223372036854775807 then (if ((((((t776 ++ (⟨#[32]⟩ : ByteArray)) ++ t778) ++ (⟨#[32]⟩ : ByteArray)) ++ t780) ++ (⟨#[32]⟩ : ByteArray)) ++ t782).size + 1 ≤ 9223372036854775807 then (if 4 < (((rd_T48 l0 0).f1).length : Int) then ((spec_Text.f kj1 (rd ((rd_T48 l0 0).f1) 4)).bind fun t784 => (if (((((((t776 ++ (⟨#[32]⟩ : ByteArray)) ++ t778) ++ (⟨#[32]⟩ : ByteArray)) ++ t780) ++ (⟨#[32]⟩ : ByteArray)) ++ t782) ++ (⟨#[47]⟩ : ByteArray)).size + t784.size ≤ 9223372036854775807 then (if ((((((((t776 ++ (⟨#[32]⟩ : ByteArray)) ++ t778) ++ (⟨#[32]⟩ : ByteArray)) ++ t780) ++ (⟨#[32]⟩ : ByteArray)) ++ t782) ++ (⟨#[47]⟩ : ByteArray)) ++ t784).size + 1 ≤ 9223372036854775807 then (if 5 < (((rd_T48 l0 0).f1).length : Int) then ((spec_Text.f kj1 (rd ((rd_T48 l0 0).f1) 5)).bind fun t786 => (if (((((((((t776 ++ (⟨#[32]⟩ : ByteArray)) ++ t778) ++ (⟨#[32]⟩ : ByteArray)) ++ t780) ++ (⟨#[32]⟩ : ByteArray)) ++ t782) ++ (⟨#[47]⟩ : ByteArray)) ++ t784) ++ (⟨#[32]⟩ : ByteArray)).size + t786.size ≤ 9223372036854775807 then (if ((((((((((t776 ++ (⟨#[32]⟩ : ByteArray)) ++ t778) ++ (⟨#[32]⟩ : ByteArray)) ++ t780) ++ (⟨#[32]⟩ : ByteArray)) ++ t782) ++ (⟨#[47]⟩ : ByteArray)) ++ t784) ++ (⟨#[32]⟩ : ByteArray)) ++ t786).size + 1 ≤ 9223372036854775807 then (some (((((((((((t776 ++ (⟨#[32]⟩ : ByteArray)) ++ t778) ++ (⟨#[32]⟩ : ByteArray)) ++ t780) ++ (⟨#[32]⟩ : ByteArray)) ++ t782) ++ (⟨#[47]⟩ : ByteArray)) ++ t784) ++ (⟨#[32]⟩ : ByteArray)) ++ t786) ++ (⟨#[10]⟩ : ByteArray), 1)) else (none)) else (none))) else (none)) else (none)) else (none))) else (none)) else (none)) else (none)) = some (r1, r2) := H
                         have A24 := Aside0.mk A240
                         clear A240
                         by_cases c25 : (((((t776 ++ (⟨#[32]⟩ : ByteArray)) ++ t778) ++ (⟨#[32]⟩ : ByteArray)) ++ t780) ++ (⟨#[32]⟩ : ByteArray)).size + t782.size ≤ 9223372036854775807
                         · rw [if_pos c25] at H
                           have c25b0 := eq_true c25
                           have c25b1 : decide ((((((t776 ++ (⟨#[32]⟩ : ByteArray)) ++ t778) ++ (⟨#[32]⟩ : ByteArray)) ++ t780) ++ (⟨#[32]⟩ : ByteArray)).size + t782.size ≤ 9223372036854775807) = true := decide_eq_true c25
                           try have c25b2 : (9223372036854775807 < (((((t776 ++ (⟨#[32]⟩ : ByteArray)) ++ t778) ++ (⟨#[32]⟩ : ByteArray)) ++ t780) ++ (⟨#[32]⟩ : ByteArray)).size + t782.size) = False := eq_false (Nat.not_lt.2 c25)
                           have c25b3 : (9223372036854775807 < t776.size + 1 + t778.size + 1 + t780.size + 1 + t782.size) = False := by have h_ := c25b2; simp only [ByteArray.size_append] at h_; exact h_
                           by_cases c26 : ((((((t776 ++ (⟨#[32]⟩ : ByteArray)) ++ t778) ++ (⟨#[32]⟩ : ByteArray)) ++ t780) ++ (⟨#[32]⟩ : ByteArray)) ++ t782).size + 1 ≤ 9223372036854775807
                           · rw [if_pos c26] at H
                             have c26b0 := eq_true c26
                             have c26b1 : decide (((((((t776 ++ (⟨#[32]⟩ : ByteArray)) ++ t778) ++ (⟨#[32]⟩ : ByteArray)) ++ t780) ++ (⟨#[32]⟩ : ByteArray)) ++ t782).size + 1 ≤ 9223372036854775807) = true := decide_eq_true c26
                             try have c26b2 : (9223372036854775807 < ((((((t776 ++ (⟨#[32]⟩ : ByteArray)) ++ t778) ++ (⟨#[32]⟩ : ByteArray)) ++ t780) ++ (⟨#[32]⟩ : ByteArray)) ++ t782).size + 1) = False := eq_false (Nat.not_lt.2 c26)
                             have c26b3 : (9223372036854775807 < t776.size + 1 + t778.size + 1 + t780.size + 1 + t782.size + 1) = False := by have h_ := c26b2; simp only [ByteArray.size_append] at h_; exact h_
                             by_cases c27 : 4 < (((rd_T48 l0 0).f1).length : Int)
                             · rw [if_pos c27] at H
                               have c27b0 : decide (4 < (((rd_T48 l0 0).f1).length : Int)) = true := decide_eq_true c27
                               have c27b1 : decide (4 < ((rd_T48 l0 0).f1).length) = true := decide_eq_true (by omega)
                               clear c27
                               replace H := Option.bind_eq_some_iff.mp H
                               obtain ⟨t784, A280, H⟩ := H
                               replace H : (if (((((((t776 ++ (⟨#[32]⟩ : ByteArray)) ++ t778) ++ (⟨#[32]⟩ : ByteArray)) ++ t780) ++ (⟨#[32]⟩ : ByteArray)) ++ t782) ++ (⟨#[47]⟩ : ByteArray)).size + t784.size ≤ 9223372036854775807 then (if ((((((((t776 ++ (⟨#[32]⟩ : ByteArray)) ++ t778) ++ (⟨#[32]⟩ : ByteArray)) ++ t780) ++ (⟨#[32]⟩ : ByteArray)) ++ t782) ++ (⟨#[47]⟩ : ByteArray)) ++ t784).size + 1 ≤ 9223372036854775807 then (if 5 < (((rd_T48 l0 0).f1).length : Int) then ((spec_Text.f kj1 (rd ((rd_T48 l0 0).f1) 5)).bind fun t786 => (if (((((((((t776 ++ (⟨#[32]⟩ : ByteArray)) ++ t778) ++ (⟨#[32]⟩ : ByteArray)) ++ t780) ++ (⟨#[32]⟩ : ByteArray)) ++ t782) ++ (⟨#[47]⟩ : ByteArray)) ++ t784) ++ (⟨#[32]⟩ : ByteArray)).size + t786.size ≤ 9223372036854775807 then (if ((((((((((t776 ++ (⟨#[32]⟩ : ByteArray)) ++ t778) ++ (⟨#[32]⟩ : ByteArray)) ++ t780) ++ (⟨#[32]⟩ : ByteArray)) ++ t782) ++ (⟨#[47]⟩ : ByteArray)) ++ t784) ++ (⟨#[32]⟩ : ByteArray)) ++ t786).size + 1 ≤ 9223372036854775807 then (some (((((((((((t776 ++ (⟨#[32]⟩ : ByteArray)) ++ t778) ++ (⟨#[32]⟩ : ByteArray)) ++ t780) ++ (⟨#[32]⟩ : ByteArray)) ++ t782) ++ (⟨#[47]⟩ : ByteArray)) ++ t784) ++ (⟨#[32]⟩ : ByteArray)) ++ t786) ++ (⟨#[10]⟩ : ByteArray), 1)) else (none)) else (none))) else (none)) else (none)) else (none)) = some (r1, r2) := H
                               have A28 := Aside0.mk A280
                               clear A280
                               by_cases c29 : (((((((t776 ++ (⟨#[32]⟩ : ByteArray)) ++ t778) ++ (⟨#[32]⟩ : ByteArray)) ++ t780) ++ (⟨#[32]⟩ : ByteArray)) ++ t782) ++ (⟨#[47]⟩ : ByteArray)).size + t784.size ≤ 9223372036854775807
                               · rw [if_pos c29] at H
                                 have c29b0 := eq_true c29
                                 have c29b1 : decide ((((((((t776 ++ (⟨#[32]⟩ : ByteArray)) ++ t778) ++ (⟨#[32]⟩ : ByteArray)) ++ t780) ++ (⟨#[32]⟩ : ByteArray)) ++ t782) ++ (⟨#[47]⟩ : ByteArray)).size + t784.size ≤ 9223372036854775807) = true := decide_eq_true c29
                                 try have c29b2 : (9223372036854775807 < (((((((t776 ++ (⟨#[32]⟩ : ByteArray)) ++ t778) ++ (⟨#[32]⟩ : ByteArray)) ++ t780) ++ (⟨#[32]⟩ : ByteArray)) ++ t782) ++ (⟨#[47]⟩ : ByteArray)).size + t784.size) = False := eq_false (Nat.not_lt.2 c29)
                                 have c29b3 : (9223372036854775807 < t776.size + 1 + t778.size + 1 + t780.size + 1 + t782.size + 1 + t784.size) = False := by have h_ := c29b2; simp only [ByteArray.size_append] at h_; exact h_
                                 by_cases c30 : ((((((((t776 ++ (⟨#[32]⟩ : ByteArray)) ++ t778) ++ (⟨#[32]⟩ : ByteArray)) ++ t780) ++ (⟨#[32]⟩ : ByteArray)) ++ t782) ++ (⟨#[47]⟩ : ByteArray)) ++ t784).size + 1 ≤ 9223372036854775807
                                 · rw [if_pos c30] at H
                                   have c30b0 := eq_true c30
                                   have c30b1 : decide (((((((((t776 ++ (⟨#[32]⟩ : ByteArray)) ++ t778) ++ (⟨#[32]⟩ : ByteArray)) ++ t780) ++ (⟨#[32]⟩ : ByteArray)) ++ t782) ++ (⟨#[47]⟩ : ByteArray)) ++ t784).size + 1 ≤ 9223372036854775807) = true := decide_eq_true c30
                                   try have c30b2 : (9223372036854775807 < ((((((((t776 ++ (⟨#[32]⟩ : ByteArray)) ++ t778) ++ (⟨#[32]⟩ : ByteArray)) ++ t780) ++ (⟨#[32]⟩ : ByteArray)) ++ t782) ++ (⟨#[47]⟩ : ByteArray)) ++ t784).size + 1) = False := eq_false (Nat.not_lt.2 c30)
                                   have c30b3 : (9223372036854775807 < t776.size + 1 + t778.size + 1 + t780.size + 1 + t782.size + 1 + t784.size + 1) = False := by have h_ := c30b2; simp only [ByteArray.size_append] at h_; exact h_
                                   by_cases c31 : 5 < (((rd_T48 l0 0).f1).length : Int)
                                   · rw [if_pos c31] at H
                                     have c31b0 : decide (5 < (((rd_T48 l0 0).f1).length : Int)) = true := decide_eq_true c31
                                     have c31b1 : decide (5 < ((rd_T48 l0 0).f1).length) = true := decide_eq_true (by omega)
                                     clear c31
                                     replace H := Option.bind_eq_some_iff.mp H
                                     obtain ⟨t786, A320, H⟩ := H
                                     replace H : (if (((((((((t776 ++ (⟨#[32]⟩ : ByteArray)) ++ t778) ++ (⟨#[32]⟩ : ByteArray)) ++ t780) ++ (⟨#[32]⟩ : ByteArray)) ++ t782) ++ (⟨#[47]⟩ : ByteArray)) ++ t784) ++ (⟨#[32]⟩ : ByteArray)).size + t786.size ≤ 9223372036854775807 then (if ((((((((((t776 ++ (⟨#[32]⟩ : ByteArray)) ++ t778) ++ (⟨#[32]⟩ : ByteArray)) ++ t780) ++ (⟨#[32]⟩ : ByteArray)) ++ t782) ++ (⟨#[47]⟩ : ByteArray)) ++ t784) ++ (⟨#[32]⟩ : ByteArray)) ++ t786).size + 1 ≤ 9223372036854775807 then (some (((((((((((t776 ++ (⟨#[32]⟩ : ByteArray)) ++ t778) ++ (⟨#[32]⟩ : ByteArray)) ++ t780) ++ (⟨#[32]⟩ : ByteArray)) ++ t782) ++ (⟨#[47]⟩ : ByteArray)) ++ t784) ++ (⟨#[32]⟩ : ByteArray)) ++ t786) ++ (⟨#[10]⟩ : ByteArray), 1)) else (none)) else (none)) = some (r1, r2) := H
                                     have A32 := Aside0.mk A320
                                     clear A320
                                     by_cases c33 : (((((((((t776 ++ (⟨#[32]⟩ : ByteArray)) ++ t778) ++ (⟨#[32]⟩ : ByteArray)) ++ t780) ++ (⟨#[32]⟩ : ByteArray)) ++ t782) ++ (⟨#[47]⟩ : ByteArray)) ++ t784) ++ (⟨#[32]⟩ : ByteArray)).size + t786.size ≤ 9223372036854775807
                                     · rw [if_pos c33] at H
                                       have c33b0 := eq_true c33
                                       have c33b1 : decide ((((((((((t776 ++ (⟨#[32]⟩ : ByteArray)) ++ t778) ++ (⟨#[32]⟩ : ByteArray)) ++ t780) ++ (⟨#[32]⟩ : ByteArray)) ++ t782) ++ (⟨#[47]⟩ : ByteArray)) ++ t784) ++ (⟨#[32]⟩ : ByteArray)).size + t786.size ≤ 9223372036854775807) = true := decide_eq_true c33
                                       try have c33b2 : (9223372036854775807 < (((((((((t776 ++ (⟨#[32]⟩ : ByteArray)) ++ t778) ++ (⟨#[32]⟩ : ByteArray)) ++ t780) ++ (⟨#[32]⟩ : ByteArray)) ++ t782) ++ (⟨#[47]⟩ : ByteArray)) ++ t784) ++ (⟨#[32]⟩ : ByteArray)).size + t786.size) = False := eq_false (Nat.not_lt.2 c33)
                                       have c33b3 : (9223372036854775807 < t776.size + 1 + t778.size + 1 + t780.size + 1 + t782.size + 1 + t784.size + 1 + t786.size) = False := by have h_ := c33b2; simp only [ByteArray.size_append] at h_; exact h_
                                       by_cases c34 : ((((((((((t776 ++ (⟨#[32]⟩ : ByteArray)) ++ t778) ++ (⟨#[32]⟩ : ByteArray)) ++ t780) ++ (⟨#[32]⟩ : ByteArray)) ++ t782) ++ (⟨#[47]⟩ : ByteArray)) ++ t784) ++ (⟨#[32]⟩ : ByteArray)) ++ t786).size + 1 ≤ 9223372036854775807
                                       · rw [if_pos c34] at H
                                         have c34b0 := eq_true c34
                                         have c34b1 : decide (((((((((((t776 ++ (⟨#[32]⟩ : ByteArray)) ++ t778) ++ (⟨#[32]⟩ : ByteArray)) ++ t780) ++ (⟨#[32]⟩ : ByteArray)) ++ t782) ++ (⟨#[47]⟩ : ByteArray)) ++ t784) ++ (⟨#[32]⟩ : ByteArray)) ++ t786).size + 1 ≤ 9223372036854775807) = true := decide_eq_true c34
                                         try have c34b2 : (9223372036854775807 < ((((((((((t776 ++ (⟨#[32]⟩ : ByteArray)) ++ t778) ++ (⟨#[32]⟩ : ByteArray)) ++ t780) ++ (⟨#[32]⟩ : ByteArray)) ++ t782) ++ (⟨#[47]⟩ : ByteArray)) ++ t784) ++ (⟨#[32]⟩ : ByteArray)) ++ t786).size + 1) = False := eq_false (Nat.not_lt.2 c34)
                                         have c34b3 : (9223372036854775807 < t776.size + 1 + t778.size + 1 + t780.size + 1 + t782.size + 1 + t784.size + 1 + t786.size + 1) = False := by have h_ := c34b2; simp only [ByteArray.size_append] at h_; exact h_
                                         simp only [Option.some.injEq, Prod.mk.injEq] at H
                                         obtain ⟨rfl, rfl⟩ := H
                                         have p774 : 0 ≤ (0 : Int) := (by omega)
                                         have q774 : 0 < (l0.length : Int) := of_decide_eq_true (by first | (with_reducible assumption) | assumption)
                                         obtain ⟨ad774, A774_1, c774_1, A774_2, c774_2, e774, hx774_0, hx774_1, hx774_2, hl774_1, hi774_1, hl774_2, hi774_2⟩ := at_T48 HR0.out 0 p774 q774
                                         cases e774
                                         have qi774 : (0 < l0.length) = True := eq_true (by omega)
                                         (try rw [show ((0 : Int)).toNat = 0 from rfl] at hx774_0)
                                         (try rw [show 0 * 3 = 0 from rfl] at hx774_0)
                                         (try rw [Addr.add_zero'] at hx774_0)
                                         (try rw [show ((0 : Int)).toNat = 0 from rfl] at hx774_1)
                                         (try rw [show 0 * 3 = 0 from rfl] at hx774_1)
                                         (try rw [Addr.add_zero'] at hx774_1)
                                         (try rw [show ((0 : Int)).toNat = 0 from rfl] at hx774_2)
                                         (try rw [show 0 * 3 = 0 from rfl] at hx774_2)
                                         (try rw [Addr.add_zero'] at hx774_2)
                                         replace hx774_0 := (HB.out.cell (World.block_lt_of_cell? w _ hx774_0)).trans hx774_0
                                         replace hx774_1 := (HB.out.cell (World.block_lt_of_cell? w _ hx774_1)).trans hx774_1
                                         replace hx774_2 := (HB.out.cell (World.block_lt_of_cell? w _ hx774_2)).trans hx774_2
                                         have HR774_1 := Aside0.mk hi774_1
                                         have HC774_1 := Aside0.mk hl774_1
                                         clear hi774_1 hl774_1
                                         have HR774_2 := Aside0.mk hi774_2
                                         have HC774_2 := Aside0.mk hl774_2
                                         clear hi774_2 hl774_2
                                         replace p774 := eq_true p774
                                         replace q774 := eq_true q774
                                         try go_wp2
                                         have n0_ := Aside0.mk (below_drew1 HB.out)
                                         clear HB
                                         have HB := n0_
                                         clear n0_
                                         have p775 : 0 ≤ (0 : Int) := (by omega)
                                         have q775 : 0 < (((rd_T48 l0 0).f1).length : Int) := of_decide_eq_true (by first | (with_reducible assumption) | assumption)
                                         obtain ⟨ad775, e775, hx775_0⟩ := Kd.at_int HR774_1.out 0 p775 q775
                                         have hw775_0 := hx775_0
                                         (try rw [show ((0 : Int)).toNat = 0 from rfl] at hw775_0)
                                         (try rw [show 0 * 1 = 0 from rfl] at hw775_0)
                                         (try rw [Addr.add_zero'] at hw775_0)
                                         cases e775
                                         have qi775 : (0 < ((rd_T48 l0 0).f1).length) = True := eq_true (by omega)
                                         (try rw [show ((0 : Int)).toNat = 0 from rfl] at hx775_0)
                                         (try rw [Addr.add_zero'] at hx775_0)
                                         replace hx775_0 := (HB.out.cell (World.block_lt_of_cell? w _ hx775_0)).trans hx775_0
                                         replace p775 := eq_true p775
                                         replace q775 := eq_true q775
                                         have p777 : 0 ≤ (1 : Int) := (by omega)
                                         have q777 : 1 < (((rd_T48 l0 0).f1).length : Int) := of_decide_eq_true (by first | (with_reducible assumption) | assumption)
                                         obtain ⟨ad777, e777, hx777_0⟩ := Kd.at_int HR774_1.out 1 p777 q777
                                         have hw777_0 := hx777_0
                                         (try rw [show ((1 : Int)).toNat = 1 from rfl] at hw777_0)
                                         (try rw [show 1 * 1 = 1 from rfl] at hw777_0)
                                         (try simp only [Nat.reduceMul, Nat.reduceEqDiff, Go.Addr.add, ↓reduceIte] at hw777_0)
                                         obtain rfl : ad775 = ad777 := (by injection e777)
                                         (try simp only [show (1 : Int).toNat = 1 from rfl, Nat.reduceMul, Nat.reduceEqDiff, Go.Addr.add, ↓reduceIte] at hx777_0)
                                         have qi777 : (1 < ((rd_T48 l0 0).f1).length) = True := eq_true (by omega)
                                         (try rw [show ((1 : Int)).toNat = 1 from rfl] at hx777_0)
                                         replace hx777_0 := (HB.out.cell (World.block_lt_of_cell? w _ hx777_0)).trans hx777_0
                                         replace p777 := eq_true p777
                                         replace q777 := eq_true q777
                                         have p779 : 0 ≤ (2 : Int) := (by omega)
                                         have q779 : 2 < (((rd_T48 l0 0).f1).length : Int) := of_decide_eq_true (by first | (with_reducible assumption) | assumption)
                                         obtain ⟨ad779, e779, hx779_0⟩ := Kd.at_int HR774_1.out 2 p779 q779
                                         have hw779_0 := hx779_0
                                         (try rw [show ((2 : Int)).toNat = 2 from rfl] at hw779_0)
                                         (try rw [show 2 * 1 = 2 from rfl] at hw779_0)
                                         (try simp only [Nat.reduceMul, Nat.reduceEqDiff, Go.Addr.add, ↓reduceIte] at hw779_0)
                                         obtain rfl : ad775 = ad779 := (by injection e779)
                                         (try simp only [show (2 : Int).toNat = 2 from rfl, Nat.reduceMul, Nat.reduceEqDiff, Go.Addr.add, ↓reduceIte] at hx779_0)
                                         have qi779 : (2 < ((rd_T48 l0 0).f1).length) = True := eq_true (by omega)
                                         (try rw [show ((2 : Int)).toNat = 2 from rfl] at hx779_0)
                                         replace hx779_0 := (HB.out.cell (World.block_lt_of_cell? w _ hx779_0)).trans hx779_0
                                         replace p779 := eq_true p779
                                         replace q779 := eq_true q779
                                         have p781 : 0 ≤ (3 : Int) := (by omega)
                                         have q781 : 3 < (((rd_T48 l0 0).f1).length : Int) := of_decide_eq_true (by first | (with_reducible assumption) | assumption)
                                         obtain ⟨ad781, e781, hx781_0⟩ := Kd.at_int HR774_1.out 3 p781 q781
                                         have hw781_0 := hx781_0
                                         (try rw [show ((3 : Int)).toNat = 3 from rfl] at hw781_0)
                                         (try rw [show 3 * 1 = 3 from rfl] at hw781_0)
                                         (try simp only [Nat.reduceMul, Nat.reduceEqDiff, Go.Addr.add, ↓reduceIte] at hw781_0)
                                         obtain rfl : ad775 = ad781 := (by injection e781)
                                         (try simp only [show (3 : Int).toNat = 3 from rfl, Nat.reduceMul, Nat.reduceEqDiff, Go.Addr.add, ↓reduceIte] at hx781_0)
                                         have qi781 : (3 < ((rd_T48 l0 0).f1).length) = True := eq_true (by omega)
                                         (try rw [show ((3 : Int)).toNat = 3 from rfl] at hx781_0)
                                         replace hx781_0 := (HB.out.cell (World.block_lt_of_cell? w _ hx781_0)).trans hx781_0
                                         replace p781 := eq_true p781
                                         replace q781 := eq_true q781
                                         have p783 : 0 ≤ (4 : Int) := (by omega)
                                         have q783 : 4 < (((rd_T48 l0 0).f1).length : Int) := of_decide_eq_true (by first | (with_reducible assumption) | assumption)
                                         obtain ⟨ad783, e783, hx783_0⟩ := Kd.at_int HR774_1.out 4 p783 q783
                                         have hw783_0 := hx783_0
                                         (try rw [show ((4 : Int)).toNat = 4 from rfl] at hw783_0)
                                         (try rw [show 4 * 1 = 4 from rfl] at hw783_0)
                                         (try simp only [Nat.reduceMul, Nat.reduceEqDiff, Go.Addr.add, ↓reduceIte] at hw783_0)
                                         obtain rfl : ad775 = ad783 := (by injection e783)
                                         (try simp only [show (4 : Int).toNat = 4 from rfl, Nat.reduceMul, Nat.reduceEqDiff, Go.Addr.add, ↓reduceIte] at hx783_0)
                                         have qi783 : (4 < ((rd_T48 l0 0).f1).length) = True := eq_true (by omega)
                                         (try rw [show ((4 : Int)).toNat = 4 from rfl] at hx783_0)
                                         replace hx783_0 := (HB.out.cell (World.block_lt_of_cell? w _ hx783_0)).trans hx783_0
                                         replace p783 := eq_true p783
                                         replace q783 := eq_true q783
                                         have p785 : 0 ≤ (5 : Int) := (by omega)
                                         have q785 : 5 < (((rd_T48 l0 0).f1).length : Int) := of_decide_eq_true (by first | (with_reducible assumption) | assumption)
                                         obtain ⟨ad785, e785, hx785_0⟩ := Kd.at_int HR774_1.out 5 p785 q785
                                         have hw785_0 := hx785_0
                                         (try rw [show ((5 : Int)).toNat = 5 from rfl] at hw785_0)
                                         (try rw [show 5 * 1 = 5 from rfl] at hw785_0)
                                         (try simp only [Nat.reduceMul, Nat.reduceEqDiff, Go.Addr.add, ↓reduceIte] at hw785_0)
                                         obtain rfl : ad775 = ad785 := (by injection e785)
                                         (try simp only [show (5 : Int).toNat = 5 from rfl, Nat.reduceMul, Nat.reduceEqDiff, Go.Addr.add, ↓reduceIte] at hx785_0)
                                         have qi785 : (5 < ((rd_T48 l0 0).f1).length) = True := eq_true (by omega)
                                         (try rw [show ((5 : Int)).toNat = 5 from rfl] at hx785_0)
                                         replace hx785_0 := (HB.out.cell (World.block_lt_of_cell? w _ hx785_0)).trans hx785_0
                                         replace p785 := eq_true p785
                                         replace q785 := eq_true q785
                                         refine start_ (n := 37) (S := fun w' => w'.cell? ad775 = some (.int .u64 (rd ((rd_T48 l0 0).f1) 0)) ∧ w'.cell? ⟨ad775.block, ad775.off + 1, none⟩ = some (.int .u64 (rd ((rd_T48 l0 0).f1) 1)) ∧ w'.cell? ⟨ad775.block, ad775.off + 2, none⟩ = some (.int .u64 (rd ((rd_T48 l0 0).f1) 2)) ∧ w'.cell? ⟨ad775.block, ad775.off + 3, none⟩ = some (.int .u64 (rd ((rd_T48 l0 0).f1) 3)) ∧ w'.cell? ⟨ad775.block, ad775.off + 4, none⟩ = some (.int .u64 (rd ((rd_T48 l0 0).f1) 4)) ∧ w'.cell? ⟨ad775.block, ad775.off + 5, none⟩ = some (.int .u64 (rd ((rd_T48 l0 0).f1) 5))) (ds := []) #[false, false, false, false, false, false, false, false, false, false, false, false, false, false, false, false, false, false, false, false, false, false, false, false, false, false, false, false, false, false, false, false, false, false, false, false, false] (by kernel_rfl) rfl rfl ⟨((HB.out.cell (World.block_lt_of_cell? w _ hw775_0)).trans hw775_0), ((HB.out.cell (World.block_lt_of_cell? w _ hw777_0)).trans hw777_0), ((HB.out.cell (World.block_lt_of_cell? w _ hw779_0)).trans hw779_0), ((HB.out.cell (World.block_lt_of_cell? w _ hw781_0)).trans hw781_0), ((HB.out.cell (World.block_lt_of_cell? w _ hw783_0)).trans hw783_0), ((HB.out.cell (World.block_lt_of_cell? w _ hw785_0)).trans hw785_0)⟩ (fun hHeld => ?_); refine with_tabW spec_LoadavgPrint.tab4 spec_LoadavgPrint.bits4 (fun HT_ HW_ => ?_)
                                         generalize wc.drew = w35 at HB hx775_0 hx777_0 hx779_0 hx781_0 hx783_0 hx785_0 hHeld ⊢
                                         refine pure_ (i := 0) (N := some 27) (v := ?_) (a' := ?_) #[true, false, false, false, false, false, false, false, false, false, false, false, false, false, false, false, false, false, false, false, false, false, false, false, false, false, false, false, false, false, false, false, false, false, false, false, false] rfl rfl (any_of HT_.out (by kernel_rfl)) (fun _ _ _ h => h) (Or.inl ⟨by rfl, ?_⟩) ?_ ?_
                                         rotate_left
                                         · intro w'
                                           go_simp
                                           with_reducible rfl
                                         rotate_left
                                         · simp only [Act.put, List.setIfInBounds_toArray, List.set_cons_zero, List.set_cons_succ, i64_w, i32_w]
                                           rfl
                                         refine pure_ (i := 1) (N := some 28) (v := ?_) (a' := ?_) #[true, true, false, false, false, false, false, false, false, false, false, false, false, false, false, false, false, false, false, false, false, false, false, false, false, false, false, false, false, false, false, false, false, false, false, false, false] rfl rfl (any_of HT_.out (by kernel_rfl)) (fun _ _ _ h => h) (Or.inl ⟨by rfl, ?_⟩) ?_ ?_
                                         rotate_left
                                         · intro w'
                                           go_simp
                                           with_reducible rfl
                                         rotate_left
                                         · simp only [Act.put, List.setIfInBounds_toArray, List.set_cons_zero, List.set_cons_succ, i64_w, i32_w]
                                           rfl
                                         refine pure_ (i := 5) (N := some 32) (v := ?_) (a' := ?_) #[true, true, false, false, false, true, false, false, false, false, false, false, false, false, false, false, false, false, false, false, false, false, false, false, false, false, false, false, false, false, false, false, false, false, false, false, false] rfl rfl (any_of HT_.out (by kernel_rfl)) (fun _ _ _ h => h) (Or.inl ⟨by rfl, ?_⟩) ?_ ?_
                                         rotate_left
                                         · intro w'
                                           go_simp
                                           with_reducible rfl
                                         rotate_left
                                         · simp only [Act.put, List.setIfInBounds_toArray, List.set_cons_zero, List.set_cons_succ, i64_w, i32_w]
                                           rfl
                                         refine pure_ (i := 6) (N := some 33) (v := ?_) (a' := ?_) #[true, true, false, false, false, true, true, false, false, false, false, false, false, false, false, false, false, false, false, false, false, false, false, false, false, false, false, false, false, false, false, false, false, false, false, false, false] rfl rfl (any_of HT_.out (by kernel_rfl)) (fun _ _ _ h => h) (Or.inl ⟨by rfl, ?_⟩) ?_ ?_
                                         rotate_left
                                         · intro w'
                                           go_simp
                                           with_reducible rfl
                                         rotate_left
                                         · simp only [Act.put, List.setIfInBounds_toArray, List.set_cons_zero, List.set_cons_succ, i64_w, i32_w]
                                           rfl
                                         refine pure_ (i := 11) (N := some 38) (v := ?_) (a' := ?_) #[true, true, false, false, false, true, true, false, false, false, false, true, false, false, false, false, false, false, false, false, false, false, false, false, false, false, false, false, false, false, false, false, false, false, false, false, false] rfl rfl (any_of HT_.out (by kernel_rfl)) (fun _ _ _ h => h) (Or.inl ⟨by rfl, ?_⟩) ?_ ?_
                                         rotate_left
                                         · intro w'
                                           go_simp
                                           with_reducible rfl
                                         rotate_left
                                         · simp only [Act.put, List.setIfInBounds_toArray, List.set_cons_zero, List.set_cons_succ, i64_w, i32_w]
                                           rfl
                                         refine pure_ (i := 12) (N := some 39) (v := ?_) (a' := ?_) #[true, true, false, false, false, true, true, false, false, false, false, true, true, false, false, false, false, false, false, false, false, false, false, false, false, false, false, false, false, false, false, false, false, false, false, false, false] rfl rfl (any_of HT_.out (by kernel_rfl)) (fun _ _ _ h => h) (Or.inl ⟨by rfl, ?_⟩) ?_ ?_
                                         rotate_left
                                         · intro w'
                                           go_simp
                                           with_reducible rfl
                                         rotate_left
                                         · simp only [Act.put, List.setIfInBounds_toArray, List.set_cons_zero, List.set_cons_succ, i64_w, i32_w]
                                           rfl
                                         refine pure_ (i := 17) (N := some 44) (v := ?_) (a' := ?_) #[true, true, false, false, false, true, true, false, false, false, false, true, true, false, false, false, false, true, false, false, false, false, false, false, false, false, false, false, false, false, false, false, false, false, false, false, false] rfl rfl (any_of HT_.out (by kernel_rfl)) (fun _ _ _ h => h) (Or.inl ⟨by rfl, ?_⟩) ?_ ?_
                                         rotate_left
                                         · intro w'
                                           go_simp
                                           with_reducible rfl
                                         rotate_left
                                         · simp only [Act.put, List.setIfInBounds_toArray, List.set_cons_zero, List.set_cons_succ, i64_w, i32_w]
                                           rfl
                                         refine pure_ (i := 18) (N := some 45) (v := ?_) (a' := ?_) #[true, true, false, false, false, true, true, false, false, false, false, true, true, false, false, false, false, true, true, false, false, false, false, false, false, false, false, false, false, false, false, false, false, false, false, false, false] rfl rfl (any_of HT_.out (by kernel_rfl)) (fun _ _ _ h => h) (Or.inl ⟨by rfl, ?_⟩) ?_ ?_
                                         rotate_left
                                         · intro w'
                                           go_simp
                                           with_reducible rfl
                                         rotate_left
                                         · simp only [Act.put, List.setIfInBounds_toArray, List.set_cons_zero, List.set_cons_succ, i64_w, i32_w]
                                           rfl
                                         refine pure_ (i := 23) (N := some 50) (v := ?_) (a' := ?_) #[true, true, false, false, false, true, true, false, false, false, false, true, true, false, false, false, false, true, true, false, false, false, false, true, false, false, false, false, false, false, false, false, false, false, false, false, false] rfl rfl (any_of HT_.out (by kernel_rfl)) (fun _ _ _ h => h) (Or.inl ⟨by rfl, ?_⟩) ?_ ?_
                                         rotate_left
                                         · intro w'
                                           go_simp
                                           with_reducible rfl
                                         rotate_left
                                         · simp only [Act.put, List.setIfInBounds_toArray, List.set_cons_zero, List.set_cons_succ, i64_w, i32_w]
                                           rfl
                                         refine pure_ (i := 24) (N := some 51) (v := ?_) (a' := ?_) #[true, true, false, false, false, true, true, false, false, false, false, true, true, false, false, false, false, true, true, false, false, false, false, true, true, false, false, false, false, false, false, false, false, false, false, false, false] rfl rfl (any_of HT_.out (by kernel_rfl)) (fun _ _ _ h => h) (Or.inl ⟨by rfl, ?_⟩) ?_ ?_
                                         rotate_left
                                         · intro w'
                                           go_simp
                                           with_reducible rfl
                                         rotate_left
                                         · simp only [Act.put, List.setIfInBounds_toArray, List.set_cons_zero, List.set_cons_succ, i64_w, i32_w]
                                           rfl
                                         refine pure_ (i := 29) (N := some 56) (v := ?_) (a' := ?_) #[true, true, false, false, false, true, true, false, false, false, false, true, true, false, false, false, false, true, true, false, false, false, false, true, true, false, false, false, false, true, false, false, false, false, false, false, false] rfl rfl (any_of HT_.out (by kernel_rfl)) (fun _ _ _ h => h) (Or.inl ⟨by rfl, ?_⟩) ?_ ?_
                                         rotate_left
                                         · intro w'
                                           go_simp
                                           with_reducible rfl
                                         rotate_left
                                         · simp only [Act.put, List.setIfInBounds_toArray, List.set_cons_zero, List.set_cons_succ, i64_w, i32_w]
                                           rfl
                                         refine pure_ (i := 30) (N := some 57) (v := ?_) (a' := ?_) #[true, true, false, false, false, true, true, false, false, false, false, true, true, false, false, false, false, true, true, false, false, false, false, true, true, false, false, false, false, true, true, false, false, false, false, false, false] rfl rfl (any_of HT_.out (by kernel_rfl)) (fun _ _ _ h => h) (Or.inl ⟨by rfl, ?_⟩) ?_ ?_
                                         rotate_left
                                         · intro w'
                                           go_simp
                                           with_reducible rfl
                                         rotate_left
                                         · simp only [Act.put, List.setIfInBounds_toArray, List.set_cons_zero, List.set_cons_succ, i64_w, i32_w]
                                           rfl
                                         refine take_ (i := 2) (N := some 29) (v := ?_) (a' := ?_) #[true, true, true, false, false, true, true, false, false, false, false, true, true, false, false, false, false, true, true, false, false, false, false, true, true, false, false, false, false, true, true, false, false, false, false, false, false] rfl rfl (take_ofW HT_.out HW_.out (by kernel_rfl)) (fun _ _ _ h => h) (Or.inl ⟨by rfl, ?_⟩) hHeld ?_ ?_
                                         rotate_left
                                         · rintro w' ⟨s0, s1, s2, s3, s4, s5⟩
                                           go_simp
                                           with_reducible rfl
                                         rotate_left
                                         · simp only [Act.put, List.setIfInBounds_toArray, List.set_cons_zero, List.set_cons_succ, i64_w, i32_w]
                                           rfl
                                         refine take_ (i := 7) (N := some 34) (v := ?_) (a' := ?_) #[true, true, true, false, false, true, true, true, false, false, false, true, true, false, false, false, false, true, true, false, false, false, false, true, true, false, false, false, false, true, true, false, false, false, false, false, false] rfl rfl (take_ofW HT_.out HW_.out (by kernel_rfl)) (fun _ _ _ h => h) (Or.inl ⟨by rfl, ?_⟩) hHeld ?_ ?_
                                         rotate_left
                                         · rintro w' ⟨s0, s1, s2, s3, s4, s5⟩
                                           go_simp
                                           with_reducible rfl
                                         rotate_left
                                         · simp only [Act.put, List.setIfInBounds_toArray, List.set_cons_zero, List.set_cons_succ, i64_w, i32_w]
                                           rfl
                                         refine take_ (i := 13) (N := some 40) (v := ?_) (a' := ?_) #[true, true, true, false, false, true, true, true, false, false, false, true, true, true, false, false, false, true, true, false, false, false, false, true, true, false, false, false, false, true, true, false, false, false, false, false, false] rfl rfl (take_ofW HT_.out HW_.out (by kernel_rfl)) (fun _ _ _ h => h) (Or.inl ⟨by rfl, ?_⟩) hHeld ?_ ?_
                                         rotate_left
                                         · rintro w' ⟨s0, s1, s2, s3, s4, s5⟩
                                           go_simp
                                           with_reducible rfl
                                         rotate_left
                                         · simp only [Act.put, List.setIfInBounds_toArray, List.set_cons_zero, List.set_cons_succ, i64_w, i32_w]
                                           rfl
                                         refine take_ (i := 19) (N := some 46) (v := ?_) (a' := ?_) #[true, true, true, false, false, true, true, true, false, false, false, true, true, true, false, false, false, true, true, true, false, false, false, true, true, false, false, false, false, true, true, false, false, false, false, false, false] rfl rfl (take_ofW HT_.out HW_.out (by kernel_rfl)) (fun _ _ _ h => h) (Or.inl ⟨by rfl, ?_⟩) hHeld ?_ ?_
                                         rotate_left
                                         · rintro w' ⟨s0, s1, s2, s3, s4, s5⟩
                                           go_simp
                                           with_reducible rfl
                                         rotate_left
                                         · simp only [Act.put, List.setIfInBounds_toArray, List.set_cons_zero, List.set_cons_succ, i64_w, i32_w]
                                           rfl
                                         refine take_ (i := 25) (N := some 52) (v := ?_) (a' := ?_) #[true, true, true, false, false, true, true, true, false, false, false, true, true, true, false, false, false, true, true, true, false, false, false, true, true, true, false, false, false, true, true, false, false, false, false, false, false] rfl rfl (take_ofW HT_.out HW_.out (by kernel_rfl)) (fun _ _ _ h => h) (Or.inl ⟨by rfl, ?_⟩) hHeld ?_ ?_
                                         rotate_left
                                         · rintro w' ⟨s0, s1, s2, s3, s4, s5⟩
                                           go_simp
                                           with_reducible rfl
                                         rotate_left
                                         · simp only [Act.put, List.setIfInBounds_toArray, List.set_cons_zero, List.set_cons_succ, i64_w, i32_w]
                                           rfl
                                         refine take_ (i := 31) (N := some 58) (v := ?_) (a' := ?_) #[true, true, true, false, false, true, true, true, false, false, false, true, true, true, false, false, false, true, true, true, false, false, false, true, true, true, false, false, false, true, true, true, false, false, false, false, false] rfl rfl (take_ofW HT_.out HW_.out (by kernel_rfl)) (fun _ _ _ h => h) (Or.inl ⟨by rfl, ?_⟩) hHeld ?_ ?_
                                         rotate_left
                                         · rintro w' ⟨s0, s1, s2, s3, s4, s5⟩
                                           go_simp
                                           with_reducible rfl
                                         rotate_left
                                         · simp only [Act.put, List.setIfInBounds_toArray, List.set_cons_zero, List.set_cons_succ, i64_w, i32_w]
                                           rfl
                                         refine one_ (i := 3) (N := some 30) #[true, true, true, true, false, true, true, true, false, false, false, true, true, true, false, false, false, true, true, true, false, false, false, true, true, true, false, false, false, true, true, true, false, false, false, false, false] rfl rfl (one_of HT_.out (by kernel_rfl)) (by decide) (fun K hK => ?_)
                                         refine goes_ Tryz.func102 (by kernel_rfl) rfl #[.int .u64 (rd ((rd_T48 l0 0).f1) 0)] (by rfl) rfl rfl (by (try simp only [List.map_toArray, List.map_cons, List.map_nil]); first | done | rfl | (simp only [List.length_drop, List.length_take]; rfl)) ?_
                                         with_reducible refine (spec_Hundredths.calls kj1 (rd ((rd_T48 l0 0).f1) 0) t776 _ A13.out).mono ?_
                                         rintro e w36 ⟨rfl, hb⟩
                                         refine ⟨_, rfl, ?_⟩
                                         have n0_ := Aside0.mk (below_step (by repeat (first | (with_reducible first | exact HB.out | apply below_alloc | apply pw_below_drewN | apply below_drew1) | exact HB.out)) hb)
                                         clear HB
                                         have HB := n0_
                                         clear n0_
                                         (try clear hb)
                                         (try clear hb2)
                                         (try clear hk)
                                         (try clear hi)
                                         refine hK.out _ _ ⟨((HB.out.cell (World.block_lt_of_cell? w _ hw775_0)).trans hw775_0), ((HB.out.cell (World.block_lt_of_cell? w _ hw777_0)).trans hw777_0), ((HB.out.cell (World.block_lt_of_cell? w _ hw779_0)).trans hw779_0), ((HB.out.cell (World.block_lt_of_cell? w _ hw781_0)).trans hw781_0), ((HB.out.cell (World.block_lt_of_cell? w _ hw783_0)).trans hw783_0), ((HB.out.cell (World.block_lt_of_cell? w _ hw785_0)).trans hw785_0)⟩ (fun hHeld => ?_)
                                         clear hK K
                                         refine norm_ (a' := ?_) ?_ ?_
                                         rotate_left
                                         · show Act.put _ (some 30) _ = _
                                           simp only [Act.put, List.setIfInBounds_toArray, List.set_cons_zero, List.set_cons_succ, i64_w, i32_w]
                                           rfl
                                         refine pure_ (i := 4) (N := some 31) (v := ?_) (a' := ?_) #[true, true, true, true, true, true, true, true, false, false, false, true, true, true, false, false, false, true, true, true, false, false, false, true, true, true, false, false, false, true, true, true, false, false, false, false, false] rfl rfl (any_of HT_.out (by kernel_rfl)) (fun _ _ _ h => h) (Or.inl ⟨by rfl, ?_⟩) ?_ ?_
                                         rotate_left
                                         · intro w'
                                           go_simp
                                           with_reducible rfl
                                         rotate_left
                                         · simp only [Act.put, List.setIfInBounds_toArray, List.set_cons_zero, List.set_cons_succ, i64_w, i32_w]
                                           rfl
                                         refine one_ (i := 8) (N := some 35) #[true, true, true, true, true, true, true, true, true, false, false, true, true, true, false, false, false, true, true, true, false, false, false, true, true, true, false, false, false, true, true, true, false, false, false, false, false] rfl rfl (one_of HT_.out (by kernel_rfl)) (by decide) (fun K hK => ?_)
                                         refine goes_ Tryz.func102 (by kernel_rfl) rfl #[.int .u64 (rd ((rd_T48 l0 0).f1) 1)] (by rfl) rfl rfl (by (try simp only [List.map_toArray, List.map_cons, List.map_nil]); first | done | rfl | (simp only [List.length_drop, List.length_take]; rfl)) ?_
                                         with_reducible refine (spec_Hundredths.calls kj1 (rd ((rd_T48 l0 0).f1) 1) t778 _ A16.out).mono ?_
                                         rintro e w37 ⟨rfl, hb⟩
                                         refine ⟨_, rfl, ?_⟩
                                         have n0_ := Aside0.mk (below_step (by repeat (first | (with_reducible first | exact HB.out | apply below_alloc | apply pw_below_drewN | apply below_drew1) | exact HB.out)) hb)
                                         clear HB
                                         have HB := n0_
                                         clear n0_
                                         (try clear hb)
                                         (try clear hb2)
                                         (try clear hk)
                                         (try clear hi)
                                         refine hK.out _ _ ⟨((HB.out.cell (World.block_lt_of_cell? w _ hw775_0)).trans hw775_0), ((HB.out.cell (World.block_lt_of_cell? w _ hw777_0)).trans hw777_0), ((HB.out.cell (World.block_lt_of_cell? w _ hw779_0)).trans hw779_0), ((HB.out.cell (World.block_lt_of_cell? w _ hw781_0)).trans hw781_0), ((HB.out.cell (World.block_lt_of_cell? w _ hw783_0)).trans hw783_0), ((HB.out.cell (World.block_lt_of_cell? w _ hw785_0)).trans hw785_0)⟩ (fun hHeld => ?_)
                                         clear hK K
                                         refine norm_ (a' := ?_) ?_ ?_
                                         rotate_left
                                         · show Act.put _ (some 35) _ = _
                                           simp only [Act.put, List.setIfInBounds_toArray, List.set_cons_zero, List.set_cons_succ, i64_w, i32_w]
                                           rfl
                                         refine pure_ (i := 9) (N := some 36) (v := ?_) (a' := ?_) #[true, true, true, true, true, true, true, true, true, true, false, true, true, true, false, false, false, true, true, true, false, false, false, true, true, true, false, false, false, true, true, true, false, false, false, false, false] rfl rfl (any_of HT_.out (by kernel_rfl)) (fun _ _ _ h => h) (Or.inl ⟨by rfl, ?_⟩) ?_ ?_
                                         rotate_left
                                         · intro w'
                                           go_simp
                                           with_reducible rfl
                                         rotate_left
                                         · simp only [Act.put, List.setIfInBounds_toArray, List.set_cons_zero, List.set_cons_succ, i64_w, i32_w]
                                           rfl
                                         refine pure_ (i := 10) (N := some 37) (v := ?_) (a' := ?_) #[true, true, true, true, true, true, true, true, true, true, true, true, true, true, false, false, false, true, true, true, false, false, false, true, true, true, false, false, false, true, true, true, false, false, false, false, false] rfl rfl (any_of HT_.out (by kernel_rfl)) (fun _ _ _ h => h) (Or.inl ⟨by rfl, ?_⟩) ?_ ?_
                                         rotate_left
                                         · intro w'
                                           go_simp
                                           with_reducible rfl
                                         rotate_left
                                         · simp only [Act.put, List.setIfInBounds_toArray, List.set_cons_zero, List.set_cons_succ, i64_w, i32_w]
                                           rfl
                                         refine one_ (i := 14) (N := some 41) #[true, true, true, true, true, true, true, true, true, true, true, true, true, true, true, false, false, true, true, true, false, false, false, true, true, true, false, false, false, true, true, true, false, false, false, false, false] rfl rfl (one_of HT_.out (by kernel_rfl)) (by decide) (fun K hK => ?_)
                                         refine goes_ Tryz.func102 (by kernel_rfl) rfl #[.int .u64 (rd ((rd_T48 l0 0).f1) 2)] (by rfl) rfl rfl (by (try simp only [List.map_toArray, List.map_cons, List.map_nil]); first | done | rfl | (simp only [List.length_drop, List.length_take]; rfl)) ?_
                                         with_reducible refine (spec_Hundredths.calls kj1 (rd ((rd_T48 l0 0).f1) 2) t780 _ A20.out).mono ?_
                                         rintro e w38 ⟨rfl, hb⟩
                                         refine ⟨_, rfl, ?_⟩
                                         have n0_ := Aside0.mk (below_step (by repeat (first | (with_reducible first | exact HB.out | apply below_alloc | apply pw_below_drewN | apply below_drew1) | exact HB.out)) hb)
                                         clear HB
                                         have HB := n0_
                                         clear n0_
                                         (try clear hb)
                                         (try clear hb2)
                                         (try clear hk)
                                         (try clear hi)
                                         refine hK.out _ _ ⟨((HB.out.cell (World.block_lt_of_cell? w _ hw775_0)).trans hw775_0), ((HB.out.cell (World.block_lt_of_cell? w _ hw777_0)).trans hw777_0), ((HB.out.cell (World.block_lt_of_cell? w _ hw779_0)).trans hw779_0), ((HB.out.cell (World.block_lt_of_cell? w _ hw781_0)).trans hw781_0), ((HB.out.cell (World.block_lt_of_cell? w _ hw783_0)).trans hw783_0), ((HB.out.cell (World.block_lt_of_cell? w _ hw785_0)).trans hw785_0)⟩ (fun hHeld => ?_)
                                         clear hK K
                                         refine norm_ (a' := ?_) ?_ ?_
                                         rotate_left
                                         · show Act.put _ (some 41) _ = _
                                           simp only [Act.put, List.setIfInBounds_toArray, List.set_cons_zero, List.set_cons_succ, i64_w, i32_w]
                                           rfl
                                         refine pure_ (i := 15) (N := some 42) (v := ?_) (a' := ?_) #[true, true, true, true, true, true, true, true, true, true, true, true, true, true, true, true, false, true, true, true, false, false, false, true, true, true, false, false, false, true, true, true, false, false, false, false, false] rfl rfl (any_of HT_.out (by kernel_rfl)) (fun _ _ _ h => h) (Or.inl ⟨by rfl, ?_⟩) ?_ ?_
                                         rotate_left
                                         · intro w'
                                           go_simp
                                           with_reducible rfl
                                         rotate_left
                                         · simp only [Act.put, List.setIfInBounds_toArray, List.set_cons_zero, List.set_cons_succ, i64_w, i32_w]
                                           rfl
                                         refine pure_ (i := 16) (N := some 43) (v := ?_) (a' := ?_) #[true, true, true, true, true, true, true, true, true, true, true, true, true, true, true, true, true, true, true, true, false, false, false, true, true, true, false, false, false, true, true, true, false, false, false, false, false] rfl rfl (any_of HT_.out (by kernel_rfl)) (fun _ _ _ h => h) (Or.inl ⟨by rfl, ?_⟩) ?_ ?_
                                         rotate_left
                                         · intro w'
                                           go_simp
                                           with_reducible rfl
                                         rotate_left
                                         · simp only [Act.put, List.setIfInBounds_toArray, List.set_cons_zero, List.set_cons_succ, i64_w, i32_w]
                                           rfl
                                         refine one_ (i := 20) (N := some 47) #[true, true, true, true, true, true, true, true, true, true, true, true, true, true, true, true, true, true, true, true, true, false, false, true, true, true, false, false, false, true, true, true, false, false, false, false, false] rfl rfl (one_of HT_.out (by kernel_rfl)) (by decide) (fun K hK => ?_)
                                         refine goes_ Tryz.func86 (by kernel_rfl) rfl #[.int .u64 (rd ((rd_T48 l0 0).f1) 3)] (by rfl) rfl rfl (by (try simp only [List.map_toArray, List.map_cons, List.map_nil]); first | done | rfl | (simp only [List.length_drop, List.length_take]; rfl)) ?_
                                         with_reducible refine (spec_Text.calls kj1 (rd ((rd_T48 l0 0).f1) 3) t782 _ A24.out).mono ?_
                                         rintro e w39 ⟨rfl, hb⟩
                                         refine ⟨_, rfl, ?_⟩
                                         have n0_ := Aside0.mk (below_step (by repeat (first | (with_reducible first | exact HB.out | apply below_alloc | apply pw_below_drewN | apply below_drew1) | exact HB.out)) hb)
                                         clear HB
                                         have HB := n0_
                                         clear n0_
                                         (try clear hb)
                                         (try clear hb2)
                                         (try clear hk)
                                         (try clear hi)
                                         refine hK.out _ _ ⟨((HB.out.cell (World.block_lt_of_cell? w _ hw775_0)).trans hw775_0), ((HB.out.cell (World.block_lt_of_cell? w _ hw777_0)).trans hw777_0), ((HB.out.cell (World.block_lt_of_cell? w _ hw779_0)).trans hw779_0), ((HB.out.cell (World.block_lt_of_cell? w _ hw781_0)).trans hw781_0), ((HB.out.cell (World.block_lt_of_cell? w _ hw783_0)).trans hw783_0), ((HB.out.cell (World.block_lt_of_cell? w _ hw785_0)).trans hw785_0)⟩ (fun hHeld => ?_)
                                         clear hK K
                                         refine norm_ (a' := ?_) ?_ ?_
                                         rotate_left
                                         · show Act.put _ (some 47) _ = _
                                           simp only [Act.put, List.setIfInBounds_toArray, List.set_cons_zero, List.set_cons_succ, i64_w, i32_w]
                                           rfl
                                         refine pure_ (i := 21) (N := some 48) (v := ?_) (a' := ?_) #[true, true, true, true, true, true, true, true, true, true, true, true, true, true, true, true, true, true, true, true, true, true, false, true, true, true, false, false, false, true, true, true, false, false, false, false, false] rfl rfl (any_of HT_.out (by kernel_rfl)) (fun _ _ _ h => h) (Or.inl ⟨by rfl, ?_⟩) ?_ ?_
                                         rotate_left
                                         · intro w'
                                           go_simp
                                           with_reducible rfl
                                         rotate_left
                                         · simp only [Act.put, List.setIfInBounds_toArray, List.set_cons_zero, List.set_cons_succ, i64_w, i32_w]
                                           rfl
                                         refine pure_ (i := 22) (N := some 49) (v := ?_) (a' := ?_) #[true, true, true, true, true, true, true, true, true, true, true, true, true, true, true, true, true, true, true, true, true, true, true, true, true, true, false, false, false, true, true, true, false, false, false, false, false] rfl rfl (any_of HT_.out (by kernel_rfl)) (fun _ _ _ h => h) (Or.inl ⟨by rfl, ?_⟩) ?_ ?_
                                         rotate_left
                                         · intro w'
                                           go_simp
                                           with_reducible rfl
                                         rotate_left
                                         · simp only [Act.put, List.setIfInBounds_toArray, List.set_cons_zero, List.set_cons_succ, i64_w, i32_w]
                                           rfl
                                         refine one_ (i := 26) (N := some 53) #[true, true, true, true, true, true, true, true, true, true, true, true, true, true, true, true, true, true, true, true, true, true, true, true, true, true, true, false, false, true, true, true, false, false, false, false, false] rfl rfl (one_of HT_.out (by kernel_rfl)) (by decide) (fun K hK => ?_)
                                         refine goes_ Tryz.func86 (by kernel_rfl) rfl #[.int .u64 (rd ((rd_T48 l0 0).f1) 4)] (by rfl) rfl rfl (by (try simp only [List.map_toArray, List.map_cons, List.map_nil]); first | done | rfl | (simp only [List.length_drop, List.length_take]; rfl)) ?_
                                         with_reducible refine (spec_Text.calls kj1 (rd ((rd_T48 l0 0).f1) 4) t784 _ A28.out).mono ?_
                                         rintro e w40 ⟨rfl, hb⟩
                                         refine ⟨_, rfl, ?_⟩
                                         have n0_ := Aside0.mk (below_step (by repeat (first | (with_reducible first | exact HB.out | apply below_alloc | apply pw_below_drewN | apply below_drew1) | exact HB.out)) hb)
                                         clear HB
                                         have HB := n0_
                                         clear n0_
                                         (try clear hb)
                                         (try clear hb2)
                                         (try clear hk)
                                         (try clear hi)
                                         refine hK.out _ _ ⟨((HB.out.cell (World.block_lt_of_cell? w _ hw775_0)).trans hw775_0), ((HB.out.cell (World.block_lt_of_cell? w _ hw777_0)).trans hw777_0), ((HB.out.cell (World.block_lt_of_cell? w _ hw779_0)).trans hw779_0), ((HB.out.cell (World.block_lt_of_cell? w _ hw781_0)).trans hw781_0), ((HB.out.cell (World.block_lt_of_cell? w _ hw783_0)).trans hw783_0), ((HB.out.cell (World.block_lt_of_cell? w _ hw785_0)).trans hw785_0)⟩ (fun hHeld => ?_)
                                         clear hK K
                                         refine norm_ (a' := ?_) ?_ ?_
                                         rotate_left
                                         · show Act.put _ (some 53) _ = _
                                           simp only [Act.put, List.setIfInBounds_toArray, List.set_cons_zero, List.set_cons_succ, i64_w, i32_w]
                                           rfl
                                         refine pure_ (i := 27) (N := some 54) (v := ?_) (a' := ?_) #[true, true, true, true, true, true, true, true, true, true, true, true, true, true, true, true, true, true, true, true, true, true, true, true, true, true, true, true, false, true, true, true, false, false, false, false, false] rfl rfl (any_of HT_.out (by kernel_rfl)) (fun _ _ _ h => h) (Or.inl ⟨by rfl, ?_⟩) ?_ ?_
                                         rotate_left
                                         · intro w'
                                           go_simp
                                           with_reducible rfl
                                         rotate_left
                                         · simp only [Act.put, List.setIfInBounds_toArray, List.set_cons_zero, List.set_cons_succ, i64_w, i32_w]
                                           rfl
                                         refine pure_ (i := 28) (N := some 55) (v := ?_) (a' := ?_) #[true, true, true, true, true, true, true, true, true, true, true, true, true, true, true, true, true, true, true, true, true, true, true, true, true, true, true, true, true, true, true, true, false, false, false, false, false] rfl rfl (any_of HT_.out (by kernel_rfl)) (fun _ _ _ h => h) (Or.inl ⟨by rfl, ?_⟩) ?_ ?_
                                         rotate_left
                                         · intro w'
                                           go_simp
                                           with_reducible rfl
                                         rotate_left
                                         · simp only [Act.put, List.setIfInBounds_toArray, List.set_cons_zero, List.set_cons_succ, i64_w, i32_w]
                                           rfl
                                         refine one_ (i := 32) (N := some 59) #[true, true, true, true, true, true, true, true, true, true, true, true, true, true, true, true, true, true, true, true, true, true, true, true, true, true, true, true, true, true, true, true, true, false, false, false, false] rfl rfl (one_of HT_.out (by kernel_rfl)) (by decide) (fun K hK => ?_)
                                         refine goes_ Tryz.func86 (by kernel_rfl) rfl #[.int .u64 (rd ((rd_T48 l0 0).f1) 5)] (by rfl) rfl rfl (by (try simp only [List.map_toArray, List.map_cons, List.map_nil]); first | done | rfl | (simp only [List.length_drop, List.length_take]; rfl)) ?_
                                         with_reducible refine (spec_Text.calls kj1 (rd ((rd_T48 l0 0).f1) 5) t786 _ A32.out).mono ?_
                                         rintro e w41 ⟨rfl, hb⟩
                                         refine ⟨_, rfl, ?_⟩
                                         have n0_ := Aside0.mk (below_step (by repeat (first | (with_reducible first | exact HB.out | apply below_alloc | apply pw_below_drewN | apply below_drew1) | exact HB.out)) hb)
                                         clear HB
                                         have HB := n0_
                                         clear n0_
                                         (try clear hb)
                                         (try clear hb2)
                                         (try clear hk)
                                         (try clear hi)
                                         refine hK.out _ _ ⟨((HB.out.cell (World.block_lt_of_cell? w _ hw775_0)).trans hw775_0), ((HB.out.cell (World.block_lt_of_cell? w _ hw777_0)).trans hw777_0), ((HB.out.cell (World.block_lt_of_cell? w _ hw779_0)).trans hw779_0), ((HB.out.cell (World.block_lt_of_cell? w _ hw781_0)).trans hw781_0), ((HB.out.cell (World.block_lt_of_cell? w _ hw783_0)).trans hw783_0), ((HB.out.cell (World.block_lt_of_cell? w _ hw785_0)).trans hw785_0)⟩ (fun hHeld => ?_)
                                         clear hK K
                                         refine norm_ (a' := ?_) ?_ ?_
                                         rotate_left
                                         · show Act.put _ (some 59) _ = _
                                           simp only [Act.put, List.setIfInBounds_toArray, List.set_cons_zero, List.set_cons_succ, i64_w, i32_w]
                                           rfl
                                         refine pure_ (i := 33) (N := some 60) (v := ?_) (a' := ?_) #[true, true, true, true, true, true, true, true, true, true, true, true, true, true, true, true, true, true, true, true, true, true, true, true, true, true, true, true, true, true, true, true, true, true, false, false, false] rfl rfl (any_of HT_.out (by kernel_rfl)) (fun _ _ _ h => h) (Or.inl ⟨by rfl, ?_⟩) ?_ ?_
                                         rotate_left
                                         · intro w'
                                           go_simp
                                           with_reducible rfl
                                         rotate_left
                                         · simp only [Act.put, List.setIfInBounds_toArray, List.set_cons_zero, List.set_cons_succ, i64_w, i32_w]
                                           rfl
                                         refine pure_ (i := 34) (N := some 61) (v := ?_) (a' := ?_) #[true, true, true, true, true, true, true, true, true, true, true, true, true, true, true, true, true, true, true, true, true, true, true, true, true, true, true, true, true, true, true, true, true, true, true, false, false] rfl rfl (any_of HT_.out (by kernel_rfl)) (fun _ _ _ h => h) (Or.inl ⟨by rfl, ?_⟩) ?_ ?_
                                         rotate_left
                                         · intro w'
                                           go_simp
                                           with_reducible rfl
                                         rotate_left
                                         · simp only [Act.put, List.setIfInBounds_toArray, List.set_cons_zero, List.set_cons_succ, i64_w, i32_w]
                                           rfl
                                         refine pure_ (i := 35) (N := some 2) (v := ?_) (a' := ?_) #[true, true, true, true, true, true, true, true, true, true, true, true, true, true, true, true, true, true, true, true, true, true, true, true, true, true, true, true, true, true, true, true, true, true, true, true, false] rfl rfl (any_of HT_.out (by kernel_rfl)) (fun _ _ _ h => h) (Or.inl ⟨by rfl, ?_⟩) ?_ ?_
                                         rotate_left
                                         · intro w'
                                           go_simp
                                           with_reducible rfl
                                         rotate_left
                                         · simp only [Act.put, List.setIfInBounds_toArray, List.set_cons_zero, List.set_cons_succ, i64_w, i32_w]
                                           rfl
                                         refine pure_ (i := 36) (N := some 3) (v := ?_) (a' := ?_) #[true, true, true, true, true, true, true, true, true, true, true, true, true, true, true, true, true, true, true, true, true, true, true, true, true, true, true, true, true, true, true, true, true, true, true, true, true] rfl rfl (any_of HT_.out (by kernel_rfl)) (fun _ _ _ h => h) (Or.inl ⟨by rfl, ?_⟩) ?_ ?_
                                         rotate_left
                                         · intro w'
                                           go_simp
                                           with_reducible rfl
                                         rotate_left
                                         · simp only [Act.put, List.setIfInBounds_toArray, List.set_cons_zero, List.set_cons_succ, i64_w, i32_w]
                                           rfl
                                         refine done_ (done_of HT_.out (by kernel_rfl)) ?_
                                         try go_wp2
                                         go_ret2
                                         exact ⟨by first | rfl | (simp [errW_none, errW_some] <;> rfl) | (simp [*, errW_none, errW_some] <;> rfl), by repeat (first | (with_reducible first | exact HB.out | apply below_alloc | apply pw_below_drewN | apply below_drew1) | exact HB.out)⟩
                                       · rw [if_neg c34] at H
                                         exact absurd H (by simp)
                                     · rw [if_neg c33] at H
                                       exact absurd H (by simp)
                                   · rw [if_neg c31] at H
                                     exact absurd H (by simp)
                                 · rw [if_neg c30] at H
                                   exact absurd H (by simp)
                               · rw [if_neg c29] at H
                                 exact absurd H (by simp)
                             · rw [if_neg c27] at H
                               exact absurd H (by simp)
                           · rw [if_neg c26] at H
                             exact absurd H (by simp)
                         · rw [if_neg c25] at H
                           exact absurd H (by simp)
                       · rw [if_neg c23] at H
                         exact absurd H (by simp)
                     · rw [if_neg c22] at H
                       exact absurd H (by simp)
                   · rw [if_neg c21] at H
                     exact absurd H (by simp)
                 · rw [if_neg c19] at H
                   exact absurd H (by simp)
               · rw [if_neg c18] at H
                 exact absurd H (by simp)
             · rw [if_neg c17] at H
               exact absurd H (by simp)
           · rw [if_neg c15] at H
             exact absurd H (by simp)
         · rw [if_neg c14] at H
           exact absurd H (by simp)
       · rw [if_neg c12] at H
         exact absurd H (by simp)
     · rw [if_neg c11] at H
       exact absurd H (by simp)
end Go.Proofs.YtabfehcpcjcomaaGreatDoor.QA0
namespace Go.Proofs.YtabfehcpcjcomaaGreatDoor.QA0
open Go.RowKit Go.Proofs.YtabfehcpcjcomaaGreatDoorW.PrintWords Go.Proofs.YtabfehcpcjcomaaGreatDoorW.PrintLast Go.Proofs.YtabfehcpcjcomaaGreatDoorW.PrintMore
attribute [local go_sem] max2_int min2_int max_two min_two max_three min_three max_four min_four
set_option linter.unusedVariables false
set_option linter.unusedSimpArgs false
def spec_meant_37.j0 : Nat → ByteArray → List (S48) → Bool → Bool → Option ((List (S48)) × Bool × Int)
 | 0, _, _, _, _ => none
 | k + 1, x0, x1, x4, x21 => if x21 = true then (some (([] : List (S48)), false, 2)) else ((spec_LoadavgPrint.f k x1).bind fun bt788 => (if bt788.2 = 1 then (if bt788.1.toList = x0.toList then (some (x1, true, 1)) else (if x4 = true then ((spec_loose.f k bt788.1 x0).bind fun t790 => (if t790 = true then ((spec_leads.f k x0).bind fun t791 => (if t791 = true then (some (x1, true, 1)) else (some (([] : List (S48)), false, 2)))) else (some (([] : List (S48)), false, 2)))) else (some (([] : List (S48)), false, 2)))) else (some (([] : List (S48)), false, 2))))
def spec_meant_37.f (k : Nat) (a0 : ByteArray) (l1 : List (S48)) (a2 : Bool) (a3 : Unit) (a4 : Bool) : Option ((List (S48)) × Bool × Int) := if a2 = true then ((spec_Plain.f k a0).bind fun t787 => (spec_meant_37.j0 k a0 l1 a4 (!t787))) else (spec_meant_37.j0 k a0 l1 a4 true)
set_option maxHeartbeats 8000000 in
set_option maxRecDepth 100000 in
theorem spec_meant_37.calls (k : Nat) (a0 : ByteArray) (P1_ : Nat → Prop) (A1 : Option Addr) (c1 : Nat) (l1 : List (S48)) (a2 : Bool) (a3 : Unit) (a4 : Bool) (r1 : List (S48)) (r2 : Bool) (r3 : Int) (w : World) (hs1 : Kd.V k48 48 w w.heap.size (fun k_ => P1_ k_) (.slice A1 l1.length c1) l1) (h : spec_meant_37.f k a0 l1 a2 a3 a4 = some (r1, r2, r3)) :
 Calls Tryz.prog 36 #[.string a0, .slice A1 l1.length c1, .bool a2, .func (.func 37) #[] #[], .bool a4] w fun e w' => ∃ v0_ : Value, e = .returned (.tuple #[v0_, .bool r2, .int .i64 r3]) ∧ Kd.V k48 48 w' w.heap.size (fun k_ => (P1_ k_ ∨ w.heap.size ≤ k_)) v0_ r1 ∧ Below w.heap.size w w' := by
 have HO1 := Aside0.mk (show Kd.V k48 48 w w.heap.size (fun k_ => (P1_ k_ ∨ w.heap.size ≤ k_)) (.slice A1 l1.length c1) l1 from Kd.V_mono hs1 (fun k_ hk => .inl hk))
 have HB := Aside0.mk (Below.refl w.heap.size w)
 have H : (if a2 = true then ((spec_Plain.f k a0).bind fun t787 => (spec_meant_37.j0 k a0 l1 a4 (!t787))) else (spec_meant_37.j0 k a0 l1 a4 true)) = some (r1, r2, r3) := h
 clear h
 have HC6 := Aside0.mk H
 clear H
 go_enter Tryz.func36, Tryz.ntmps36
 go_upto_region 1 with (fail)
 go_cut [21] (fun v21 wc => ∃ (kq : Nat) (x21_5 : Bool), v21 = .bool x21_5 ∧ Aside0 (spec_meant_37.j0 kq a0 l1 a4 x21_5 = some (r1, r2, r3)) ∧ Aside0 (kq ≤ k) ∧ Aside0 (Kd.V k48 48 wc w.heap.size (fun k_ => (P1_ k_ ∨ w.heap.size ≤ k_)) (.slice A1 l1.length c1) l1) ∧ Aside0 (Below w.heap.size w wc))
 case first =>
  have H := HC6.out
  clear HC6
  by_cases c7 : a2 = true
  · subst c7
    have H1 : ((spec_Plain.f k a0).bind fun t787 => (spec_meant_37.j0 k a0 l1 a4 (!t787))) = some (r1, r2, r3) := by rw [if_pos rfl] at H; exact H
    clear H
    have H := H1
    clear H1
    replace H := Option.bind_eq_some_iff.mp H
    obtain ⟨t787, A80, H⟩ := H
    replace H : (spec_meant_37.j0 k a0 l1 a4 (!t787)) = some (r1, r2, r3) := H
    have A8 := Aside0.mk A80
    clear A80
    have H' := Aside0.mk H
    clear H
    go_wp2_with (first | (go_at_call 66; (with_reducible refine (spec_Plain.calls k a0 t787 _ A8.out).mono ?_); rintro e w' ⟨rfl, ⟨nd, rfl⟩⟩))
    go_meet
    case rel => exact ⟨_, (!t787), (by first | rfl | (simp; done) | (simp [*]; done)), H', ⟨by first | omega | exact Nat.le_refl _⟩, ⟨by (with_reducible repeat (first | apply Kd.V_alloc | apply Kd.V_drewN | apply Kd.V_drew)); exact HO1.out⟩, ⟨by repeat (first | (with_reducible first | exact HB.out | apply below_alloc | apply pw_below_drewN | apply below_drew1) | exact HB.out)⟩⟩
  · replace c7 := Bool.eq_false_iff.mpr c7
    subst c7
    have H1 : (spec_meant_37.j0 k a0 l1 a4 true) = some (r1, r2, r3) := by rw [if_neg (show ¬ (false = true) by decide)] at H; exact H
    clear H
    have H := H1
    clear H1
    have H' := Aside0.mk H
    clear H
    go_wp2
    go_meet
    case rel => exact ⟨_, (true), (by first | rfl | (simp; done) | (simp [*]; done)), H', ⟨by first | omega | exact Nat.le_refl _⟩, ⟨by (with_reducible repeat (first | apply Kd.V_alloc | apply Kd.V_drewN | apply Kd.V_drew)); exact HO1.out⟩, ⟨by repeat (first | (with_reducible first | exact HB.out | apply below_alloc | apply pw_below_drewN | apply below_drew1) | exact HB.out)⟩⟩
 case rest =>
  clear HC6
  try clear c1
  try clear p2
  try clear c7
  obtain ⟨kq, x21_5, rfl, HA, HJ5, HO_1, HB⟩ := hcut
  cases kq with
  | zero => exact absurd HA.out (by simp [spec_meant_37.j0])
  | succ kj5 =>
   have H := HA.out
   clear HA
   simp only [spec_meant_37.j0] at H
   by_cases c9 : x21_5 = true
   · subst c9
     have H1 : (some (([] : List (S48)), false, 2)) = some (r1, r2, r3) := by rw [if_pos rfl] at H; exact H
     clear H
     have H := H1
     clear H1
     simp only [Option.some.injEq, Prod.mk.injEq] at H
     obtain ⟨rfl, rfl, rfl⟩ := H
     go_wp2
     go_ret3
     exact ⟨_, by first | rfl | (simp [errW_none, errW_some] <;> rfl) | (simp [*, errW_none, errW_some] <;> rfl), (by first | exact Kd.V_nil _ _ _ _ _ | exact Kd.V_mono (Kd.S_V (by first | exact Kd.S_nil _ _ _ _ _ | exact Kd.N_nil _ _ _ _ _ | exact Kd.V_nil _ _ _ _ _ | exact Kd.Q_nil _ _ _ _ _ | exact Kd.R_nil _ _ _ _ _)) (fun k_ hk => by first | exact ⟨(.inr (hk.1)), hk.2⟩ | exact (.inr (hk)))), by repeat (first | (with_reducible first | exact HB.out | apply below_alloc | apply pw_below_drewN | apply below_drew1) | exact HB.out)⟩
   · replace c9 := Bool.eq_false_iff.mpr c9
     subst c9
     have H1 : ((spec_LoadavgPrint.f kj5 l1).bind fun bt788 => (if bt788.2 = 1 then (if bt788.1.toList = a0.toList then (some (l1, true, 1)) else (if a4 = true then ((spec_loose.f kj5 bt788.1 a0).bind fun t790 => (if t790 = true then ((spec_leads.f kj5 a0).bind fun t791 => (if t791 = true then (some (l1, true, 1)) else (some (([] : List (S48)), false, 2)))) else (some (([] : List (S48)), false, 2)))) else (some (([] : List (S48)), false, 2)))) else (some (([] : List (S48)), false, 2)))) = some (r1, r2, r3) := by rw [if_neg (show ¬ (false = true) by decide)] at H; exact H
     clear H
     have H := H1
     clear H1
     replace H := Option.bind_eq_some_iff.mp H
     obtain ⟨⟨t788, t789⟩, A100, H⟩ := H
     replace H : (if t789 = 1 then (if t788.toList = a0.toList then (some (l1, true, 1)) else (if a4 = true then ((spec_loose.f kj5 t788 a0).bind fun t790 => (if t790 = true then ((spec_leads.f kj5 a0).bind fun t791 => (if t791 = true then (some (l1, true, 1)) else (some (([] : List (S48)), false, 2)))) else (some (([] : List (S48)), false, 2)))) else (some (([] : List (S48)), false, 2)))) else (some (([] : List (S48)), false, 2))) = some (r1, r2, r3) := H
     have A10 := Aside0.mk A100
     clear A100
     by_cases c11 : t789 = 1
     · rw [if_pos c11] at H
       have c11b0 : (t789 == 1) = true := beq_iff_eq.mpr c11
       have c11b1 : (t789 != 1) = false := bne_eq_false_iff_eq.mpr c11
       clear c11
       by_cases c12 : t788.toList = a0.toList
       · rw [if_pos c12] at H
         have c12b0 : (t788.toList == a0.toList) = true := beq_iff_eq.mpr c12
         have c12b1 : (t788.toList != a0.toList) = false := bne_eq_false_iff_eq.mpr c12
         clear c12
         simp only [Option.some.injEq, Prod.mk.injEq] at H
         obtain ⟨rfl, rfl, rfl⟩ := H
         go_wp2_with (first | (go_at_call 37; (with_reducible refine (spec_LoadavgPrint.calls kj5 _ _ l1 t788 t789 _ ?side1 ?side2 A10.out).mono ?_); (case side1 => repeat (first | exact (Kd.V_reads' HO_1.out).2.2 | (with_reducible refine Kd.C_alloc ?_ _) | (with_reducible refine Kd.C_drewN ?_ _) | (with_reducible refine Kd.C_drew ?_))); (case side2 => exact (Kd.V_reads' HO_1.out).2.1); rintro e w13 ⟨rfl, hb⟩; have n0_ := Aside0.mk (Kd.V_below (by (with_reducible repeat (first | apply Kd.V_alloc | apply Kd.V_drewN | apply Kd.V_drew)); exact HO_1.out) hb); have n1_ := Aside0.mk (below_step (by repeat (first | (with_reducible first | exact HB.out | apply below_alloc | apply pw_below_drewN | apply below_drew1) | exact HB.out)) hb); clear HO_1; clear HB; have HO_1 := n0_; have HB := n1_; clear n0_ n1_; (try clear hb); (try clear hb2); (try clear hk); (try clear hi)))
         go_ret3
         exact ⟨_, by first | rfl | (simp [errW_none, errW_some] <;> rfl) | (simp [*, errW_none, errW_some] <;> rfl), by (with_reducible repeat (first | apply Kd.V_alloc | apply Kd.V_drewN | apply Kd.V_drew)); exact HO_1.out, by repeat (first | (with_reducible first | exact HB.out | apply below_alloc | apply pw_below_drewN | apply below_drew1) | exact HB.out)⟩
       · rw [if_neg c12] at H
         have c12b0 : (t788.toList == a0.toList) = false := beq_eq_false_iff_ne.mpr c12
         have c12b1 : (t788.toList != a0.toList) = true := bne_iff_ne.mpr c12
         by_cases c14 : a4 = true
         · subst c14
           have H1 : ((spec_loose.f kj5 t788 a0).bind fun t790 => (if t790 = true then ((spec_leads.f kj5 a0).bind fun t791 => (if t791 = true then (some (l1, true, 1)) else (some (([] : List (S48)), false, 2)))) else (some (([] : List (S48)), false, 2)))) = some (r1, r2, r3) := by rw [if_pos rfl] at H; exact H
           clear H
           have H := H1
           clear H1
           replace H := Option.bind_eq_some_iff.mp H
           obtain ⟨t790, A150, H⟩ := H
           replace H : (if t790 = true then ((spec_leads.f kj5 a0).bind fun t791 => (if t791 = true then (some (l1, true, 1)) else (some (([] : List (S48)), false, 2)))) else (some (([] : List (S48)), false, 2))) = some (r1, r2, r3) := H
           have A15 := Aside0.mk A150
           clear A150
           by_cases c16 : t790 = true
           · subst c16
             have H1 : ((spec_leads.f kj5 a0).bind fun t791 => (if t791 = true then (some (l1, true, 1)) else (some (([] : List (S48)), false, 2)))) = some (r1, r2, r3) := by rw [if_pos rfl] at H; exact H
             clear H
             have H := H1
             clear H1
             replace H := Option.bind_eq_some_iff.mp H
             obtain ⟨t791, A170, H⟩ := H
             replace H : (if t791 = true then (some (l1, true, 1)) else (some (([] : List (S48)), false, 2))) = some (r1, r2, r3) := H
             have A17 := Aside0.mk A170
             clear A170
             by_cases c18 : t791 = true
             · subst c18
               have H1 : (some (l1, true, 1)) = some (r1, r2, r3) := by rw [if_pos rfl] at H; exact H
               clear H
               have H := H1
               clear H1
               simp only [Option.some.injEq, Prod.mk.injEq] at H
               obtain ⟨rfl, rfl, rfl⟩ := H
               go_wp2_with (first | (go_at_call 37; (with_reducible refine (spec_LoadavgPrint.calls kj5 _ _ l1 t788 t789 _ ?side1 ?side2 A10.out).mono ?_); (case side1 => repeat (first | exact (Kd.V_reads' HO_1.out).2.2 | (with_reducible refine Kd.C_alloc ?_ _) | (with_reducible refine Kd.C_drewN ?_ _) | (with_reducible refine Kd.C_drew ?_))); (case side2 => exact (Kd.V_reads' HO_1.out).2.1); rintro e w19 ⟨rfl, hb⟩; have n0_ := Aside0.mk (Kd.V_below (by (with_reducible repeat (first | apply Kd.V_alloc | apply Kd.V_drewN | apply Kd.V_drew)); exact HO_1.out) hb); have n1_ := Aside0.mk (below_step (by repeat (first | (with_reducible first | exact HB.out | apply below_alloc | apply pw_below_drewN | apply below_drew1) | exact HB.out)) hb); clear HO_1; clear HB; have HO_1 := n0_; have HB := n1_; clear n0_ n1_; (try clear hb); (try clear hb2); (try clear hk); (try clear hi)) | (go_at_call 98; (with_reducible refine (spec_loose.calls kj5 t788 a0 true _ A15.out).mono ?_); rintro e w20 ⟨rfl, hb⟩; have n0_ := Aside0.mk (Kd.V_below (by (with_reducible repeat (first | apply Kd.V_alloc | apply Kd.V_drewN | apply Kd.V_drew)); exact HO_1.out) hb); have n1_ := Aside0.mk (below_step (by repeat (first | (with_reducible first | exact HB.out | apply below_alloc | apply pw_below_drewN | apply below_drew1) | exact HB.out)) hb); clear HO_1; clear HB; have HO_1 := n0_; have HB := n1_; clear n0_ n1_; (try clear hb); (try clear hb2); (try clear hk); (try clear hi)) | (go_at_call 99; (with_reducible refine (spec_leads.calls kj5 a0 true _ A17.out).mono ?_); rintro e w21 ⟨rfl, hb⟩; have n0_ := Aside0.mk (Kd.V_below (by (with_reducible repeat (first | apply Kd.V_alloc | apply Kd.V_drewN | apply Kd.V_drew)); exact HO_1.out) hb); have n1_ := Aside0.mk (below_step (by repeat (first | (with_reducible first | exact HB.out | apply below_alloc | apply pw_below_drewN | apply below_drew1) | exact HB.out)) hb); clear HO_1; clear HB; have HO_1 := n0_; have HB := n1_; clear n0_ n1_; (try clear hb); (try clear hb2); (try clear hk); (try clear hi)))
               go_ret3
               exact ⟨_, by first | rfl | (simp [errW_none, errW_some] <;> rfl) | (simp [*, errW_none, errW_some] <;> rfl), by (with_reducible repeat (first | apply Kd.V_alloc | apply Kd.V_drewN | apply Kd.V_drew)); exact HO_1.out, by repeat (first | (with_reducible first | exact HB.out | apply below_alloc | apply pw_below_drewN | apply below_drew1) | exact HB.out)⟩
             · replace c18 := Bool.eq_false_iff.mpr c18
               subst c18
               have H1 : (some (([] : List (S48)), false, 2)) = some (r1, r2, r3) := by rw [if_neg (show ¬ (false = true) by decide)] at H; exact H
               clear H
               have H := H1
               clear H1
               simp only [Option.some.injEq, Prod.mk.injEq] at H
               obtain ⟨rfl, rfl, rfl⟩ := H
               go_wp2_with (first | (go_at_call 37; (with_reducible refine (spec_LoadavgPrint.calls kj5 _ _ l1 t788 t789 _ ?side1 ?side2 A10.out).mono ?_); (case side1 => repeat (first | exact (Kd.V_reads' HO_1.out).2.2 | (with_reducible refine Kd.C_alloc ?_ _) | (with_reducible refine Kd.C_drewN ?_ _) | (with_reducible refine Kd.C_drew ?_))); (case side2 => exact (Kd.V_reads' HO_1.out).2.1); rintro e w22 ⟨rfl, hb⟩; have n0_ := Aside0.mk (Kd.V_below (by (with_reducible repeat (first | apply Kd.V_alloc | apply Kd.V_drewN | apply Kd.V_drew)); exact HO_1.out) hb); have n1_ := Aside0.mk (below_step (by repeat (first | (with_reducible first | exact HB.out | apply below_alloc | apply pw_below_drewN | apply below_drew1) | exact HB.out)) hb); clear HO_1; clear HB; have HO_1 := n0_; have HB := n1_; clear n0_ n1_; (try clear hb); (try clear hb2); (try clear hk); (try clear hi)) | (go_at_call 98; (with_reducible refine (spec_loose.calls kj5 t788 a0 true _ A15.out).mono ?_); rintro e w23 ⟨rfl, hb⟩; have n0_ := Aside0.mk (Kd.V_below (by (with_reducible repeat (first | apply Kd.V_alloc | apply Kd.V_drewN | apply Kd.V_drew)); exact HO_1.out) hb); have n1_ := Aside0.mk (below_step (by repeat (first | (with_reducible first | exact HB.out | apply below_alloc | apply pw_below_drewN | apply below_drew1) | exact HB.out)) hb); clear HO_1; clear HB; have HO_1 := n0_; have HB := n1_; clear n0_ n1_; (try clear hb); (try clear hb2); (try clear hk); (try clear hi)) | (go_at_call 99; (with_reducible refine (spec_leads.calls kj5 a0 false _ A17.out).mono ?_); rintro e w24 ⟨rfl, hb⟩; have n0_ := Aside0.mk (Kd.V_below (by (with_reducible repeat (first | apply Kd.V_alloc | apply Kd.V_drewN | apply Kd.V_drew)); exact HO_1.out) hb); have n1_ := Aside0.mk (below_step (by repeat (first | (with_reducible first | exact HB.out | apply below_alloc | apply pw_below_drewN | apply below_drew1) | exact HB.out)) hb); clear HO_1; clear HB; have HO_1 := n0_; have HB := n1_; clear n0_ n1_; (try clear hb); (try clear hb2); (try clear hk); (try clear hi)))
               go_ret3
               exact ⟨_, by first | rfl | (simp [errW_none, errW_some] <;> rfl) | (simp [*, errW_none, errW_some] <;> rfl), (by first | exact Kd.V_nil _ _ _ _ _ | exact Kd.V_mono (Kd.S_V (by first | exact Kd.S_nil _ _ _ _ _ | exact Kd.N_nil _ _ _ _ _ | exact Kd.V_nil _ _ _ _ _ | exact Kd.Q_nil _ _ _ _ _ | exact Kd.R_nil _ _ _ _ _)) (fun k_ hk => by first | exact ⟨(.inr (hk.1)), hk.2⟩ | exact (.inr (hk)))), by repeat (first | (with_reducible first | exact HB.out | apply below_alloc | apply pw_below_drewN | apply below_drew1) | exact HB.out)⟩
           · replace c16 := Bool.eq_false_iff.mpr c16
             subst c16
             have H1 : (some (([] : List (S48)), false, 2)) = some (r1, r2, r3) := by rw [if_neg (show ¬ (false = true) by decide)] at H; exact H
             clear H
             have H := H1
             clear H1
             simp only [Option.some.injEq, Prod.mk.injEq] at H
             obtain ⟨rfl, rfl, rfl⟩ := H
             go_wp2_with (first | (go_at_call 37; (with_reducible refine (spec_LoadavgPrint.calls kj5 _ _ l1 t788 t789 _ ?side1 ?side2 A10.out).mono ?_); (case side1 => repeat (first | exact (Kd.V_reads' HO_1.out).2.2 | (with_reducible refine Kd.C_alloc ?_ _) | (with_reducible refine Kd.C_drewN ?_ _) | (with_reducible refine Kd.C_drew ?_))); (case side2 => exact (Kd.V_reads' HO_1.out).2.1); rintro e w25 ⟨rfl, hb⟩; have n0_ := Aside0.mk (Kd.V_below (by (with_reducible repeat (first | apply Kd.V_alloc | apply Kd.V_drewN | apply Kd.V_drew)); exact HO_1.out) hb); have n1_ := Aside0.mk (below_step (by repeat (first | (with_reducible first | exact HB.out | apply below_alloc | apply pw_below_drewN | apply below_drew1) | exact HB.out)) hb); clear HO_1; clear HB; have HO_1 := n0_; have HB := n1_; clear n0_ n1_; (try clear hb); (try clear hb2); (try clear hk); (try clear hi)) | (go_at_call 98; (with_reducible refine (spec_loose.calls kj5 t788 a0 false _ A15.out).mono ?_); rintro e w26 ⟨rfl, hb⟩; have n0_ := Aside0.mk (Kd.V_below (by (with_reducible repeat (first | apply Kd.V_alloc | apply Kd.V_drewN | apply Kd.V_drew)); exact HO_1.out) hb); have n1_ := Aside0.mk (below_step (by repeat (first | (with_reducible first | exact HB.out | apply below_alloc | apply pw_below_drewN | apply below_drew1) | exact HB.out)) hb); clear HO_1; clear HB; have HO_1 := n0_; have HB := n1_; clear n0_ n1_; (try clear hb); (try clear hb2); (try clear hk); (try clear hi)))
             go_ret3
             exact ⟨_, by first | rfl | (simp [errW_none, errW_some] <;> rfl) | (simp [*, errW_none, errW_some] <;> rfl), (by first | exact Kd.V_nil _ _ _ _ _ | exact Kd.V_mono (Kd.S_V (by first | exact Kd.S_nil _ _ _ _ _ | exact Kd.N_nil _ _ _ _ _ | exact Kd.V_nil _ _ _ _ _ | exact Kd.Q_nil _ _ _ _ _ | exact Kd.R_nil _ _ _ _ _)) (fun k_ hk => by first | exact ⟨(.inr (hk.1)), hk.2⟩ | exact (.inr (hk)))), by repeat (first | (with_reducible first | exact HB.out | apply below_alloc | apply pw_below_drewN | apply below_drew1) | exact HB.out)⟩
         · replace c14 := Bool.eq_false_iff.mpr c14
           subst c14
           have H1 : (some (([] : List (S48)), false, 2)) = some (r1, r2, r3) := by rw [if_neg (show ¬ (false = true) by decide)] at H; exact H
           clear H
           have H := H1
           clear H1
           simp only [Option.some.injEq, Prod.mk.injEq] at H
           obtain ⟨rfl, rfl, rfl⟩ := H
           go_wp2_with (first | (go_at_call 37; (with_reducible refine (spec_LoadavgPrint.calls kj5 _ _ l1 t788 t789 _ ?side1 ?side2 A10.out).mono ?_); (case side1 => repeat (first | exact (Kd.V_reads' HO_1.out).2.2 | (with_reducible refine Kd.C_alloc ?_ _) | (with_reducible refine Kd.C_drewN ?_ _) | (with_reducible refine Kd.C_drew ?_))); (case side2 => exact (Kd.V_reads' HO_1.out).2.1); rintro e w27 ⟨rfl, hb⟩; have n0_ := Aside0.mk (Kd.V_below (by (with_reducible repeat (first | apply Kd.V_alloc | apply Kd.V_drewN | apply Kd.V_drew)); exact HO_1.out) hb); have n1_ := Aside0.mk (below_step (by repeat (first | (with_reducible first | exact HB.out | apply below_alloc | apply pw_below_drewN | apply below_drew1) | exact HB.out)) hb); clear HO_1; clear HB; have HO_1 := n0_; have HB := n1_; clear n0_ n1_; (try clear hb); (try clear hb2); (try clear hk); (try clear hi)))
           go_ret3
           exact ⟨_, by first | rfl | (simp [errW_none, errW_some] <;> rfl) | (simp [*, errW_none, errW_some] <;> rfl), (by first | exact Kd.V_nil _ _ _ _ _ | exact Kd.V_mono (Kd.S_V (by first | exact Kd.S_nil _ _ _ _ _ | exact Kd.N_nil _ _ _ _ _ | exact Kd.V_nil _ _ _ _ _ | exact Kd.Q_nil _ _ _ _ _ | exact Kd.R_nil _ _ _ _ _)) (fun k_ hk => by first | exact ⟨(.inr (hk.1)), hk.2⟩ | exact (.inr (hk)))), by repeat (first | (with_reducible first | exact HB.out | apply below_alloc | apply pw_below_drewN | apply below_drew1) | exact HB.out)⟩
     · rw [if_neg c11] at H
       have c11b0 : (t789 == 1) = false := beq_eq_false_iff_ne.mpr c11
       have c11b1 : (t789 != 1) = true := bne_iff_ne.mpr c11
       simp only [Option.some.injEq, Prod.mk.injEq] at H
       obtain ⟨rfl, rfl, rfl⟩ := H
       go_wp2_with (first | (go_at_call 37; (with_reducible refine (spec_LoadavgPrint.calls kj5 _ _ l1 t788 t789 _ ?side1 ?side2 A10.out).mono ?_); (case side1 => repeat (first | exact (Kd.V_reads' HO_1.out).2.2 | (with_reducible refine Kd.C_alloc ?_ _) | (with_reducible refine Kd.C_drewN ?_ _) | (with_reducible refine Kd.C_drew ?_))); (case side2 => exact (Kd.V_reads' HO_1.out).2.1); rintro e w28 ⟨rfl, hb⟩; have n0_ := Aside0.mk (Kd.V_below (by (with_reducible repeat (first | apply Kd.V_alloc | apply Kd.V_drewN | apply Kd.V_drew)); exact HO_1.out) hb); have n1_ := Aside0.mk (below_step (by repeat (first | (with_reducible first | exact HB.out | apply below_alloc | apply pw_below_drewN | apply below_drew1) | exact HB.out)) hb); clear HO_1; clear HB; have HO_1 := n0_; have HB := n1_; clear n0_ n1_; (try clear hb); (try clear hb2); (try clear hk); (try clear hi)))
       go_ret3
       exact ⟨_, by first | rfl | (simp [errW_none, errW_some] <;> rfl) | (simp [*, errW_none, errW_some] <;> rfl), (by first | exact Kd.V_nil _ _ _ _ _ | exact Kd.V_mono (Kd.S_V (by first | exact Kd.S_nil _ _ _ _ _ | exact Kd.N_nil _ _ _ _ _ | exact Kd.V_nil _ _ _ _ _ | exact Kd.Q_nil _ _ _ _ _ | exact Kd.R_nil _ _ _ _ _)) (fun k_ hk => by first | exact ⟨(.inr (hk.1)), hk.2⟩ | exact (.inr (hk)))), by repeat (first | (with_reducible first | exact HB.out | apply below_alloc | apply pw_below_drewN | apply below_drew1) | exact HB.out)⟩
end Go.Proofs.YtabfehcpcjcomaaGreatDoor.QA0
