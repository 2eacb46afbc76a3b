/- The texts QM0x7, QM0x8, QM0x9, QM0x10, without what the claims do not use, laid together by a program of this session (wip/tools/bundle.py). Conditions: those of each theorem. -/
import Derived.Test.YtcpldcndhijecaaDoorZc7
import Derived.Test.YtcpldcndhijecaaDoorZc9
namespace Go.Proofs.YtcpldcndhijecaaDoor.QM0
open Go.RowKit Go.Proofs.YtcpldcndhijecaaDoorW.PrintWords Go.Proofs.YtcpldcndhijecaaDoorW.PrintLast Go.Proofs.YtcpldcndhijecaaDoorW.PrintMore
attribute [local go_sem] max2_int min2_int max_two min_two max_three min_three max_four min_four
set_option linter.unusedVariables false
set_option linter.unusedSimpArgs false
attribute [local go_sem high] eqA44
def laws_printed.f (k : Nat) (l0 : List (S44)) : Option (ByteArray × Bool) := if (l0.length : Int) > 200 then (some ((⟨#[]⟩ : ByteArray), false)) else ((laws_mountsTo.f k l0).bind fun t163 => ((spec_MountsPrint.f k t163).bind fun bt166 => (if bt166.2 = 1 then (some (bt166.1, decide ((bt166.1.size : Int) ≤ 60000))) else (some (bt166.1, false)))))
set_option maxHeartbeats 8000000 in
set_option maxRecDepth 100000 in
theorem laws_printed.calls (k : Nat) (A0 : Option Addr) (c0 : Nat) (l0 : List (S44)) (r1 : ByteArray) (r2 : Bool) (w : World) (hr0 : Kd.C k44 w A0 l0.length l0) (hc0 : l0.length ≤ c0) (h : laws_printed.f k l0 = some (r1, r2)) :
 Calls Tryd.prog 8 #[.slice A0 l0.length c0] w fun e w' => e = .returned (.tuple #[.string r1, .bool r2]) ∧ Below w.heap.size w w' := by
 have HR0 := Aside0.mk hr0
 have HC0 := Aside0.mk hc0
 clear hr0 hc0
 have HB := Aside0.mk (Below.refl w.heap.size w)
 have H : (if (l0.length : Int) > 200 then (some ((⟨#[]⟩ : ByteArray), false)) else ((laws_mountsTo.f k l0).bind fun t163 => ((spec_MountsPrint.f k t163).bind fun bt166 => (if bt166.2 = 1 then (some (bt166.1, decide ((bt166.1.size : Int) ≤ 60000))) else (some (bt166.1, false)))))) = some (r1, r2) := h
 clear h
 by_cases c2 : (l0.length : Int) > 200
 · rw [if_pos c2] at H
   have c2b0 : decide (200 < (l0.length : Int)) = true := decide_eq_true c2
   have c2b1 : decide (200 < l0.length) = true := decide_eq_true (by omega)
   clear c2
   simp only [Option.some.injEq, Prod.mk.injEq] at H
   obtain ⟨rfl, rfl⟩ := H
   go_enter Tryd.func8, Tryd.ntmps8
   go_wp2
   go_ret2
   exact ⟨by first | rfl | (simp [errW_none, errW_some] <;> rfl) | (simp [*, errW_none, errW_some] <;> rfl), by repeat (first | (with_reducible first | exact HB.out | apply below_alloc | apply pw_below_drewN | apply below_drew1) | exact HB.out)⟩
 · rw [if_neg c2] at H
   have c2b0 : decide (200 < (l0.length : Int)) = false := decide_eq_false c2
   have c2b1 : decide (200 < l0.length) = false := decide_eq_false (by omega)
   clear c2
   replace H := Option.bind_eq_some_iff.mp H
   obtain ⟨t163, A30, H⟩ := H
   replace H : ((spec_MountsPrint.f k t163).bind fun bt166 => (if bt166.2 = 1 then (some (bt166.1, decide ((bt166.1.size : Int) ≤ 60000))) else (some (bt166.1, false)))) = some (r1, r2) := H
   have A3 := Aside0.mk A30
   clear A30
   replace H := Option.bind_eq_some_iff.mp H
   obtain ⟨⟨t166, t167⟩, A40, H⟩ := H
   replace H : (if t167 = 1 then (some (t166, decide ((t166.size : Int) ≤ 60000))) else (some (t166, false))) = some (r1, r2) := H
   have A4 := Aside0.mk A40
   clear A40
   by_cases c5 : t167 = 1
   · rw [if_pos c5] at H
     have c5b0 : (t167 == 1) = true := beq_iff_eq.mpr c5
     have c5b1 : (t167 != 1) = false := bne_eq_false_iff_eq.mpr c5
     clear c5
     simp only [Option.some.injEq, Prod.mk.injEq] at H
     obtain ⟨rfl, rfl⟩ := H
     go_enter Tryd.func8, Tryd.ntmps8
     go_wp2_with (first | ((with_reducible refine gate_callee (f := 15) rfl ?_); refine goesL_ (some 11) rfl rfl Tryd.func15 (by kernel_rfl) rfl #[.slice A0 l0.length c0] rfl (by (try simp only [List.map_toArray, List.map_cons, List.map_nil]); first | done | rfl | (simp only [List.length_drop, List.length_take]; rfl)) ?_; (with_reducible refine (laws_mountsTo.calls k _ _ l0 t163 _ ?side1 ?side2 A3.out).mono ?_); (case side1 => repeat (first | exact HR0.out | (with_reducible refine Kd.C_alloc ?_ _) | (with_reducible refine Kd.C_drewN ?_ _) | (with_reducible refine Kd.C_drew ?_))); (case side2 => exact HC0.out); rintro e w6 ⟨v164, rfl, ho0, hb⟩; refine ⟨_, rfl, ?_⟩; have n0_ := Aside0.mk (Kd.R_lower ho0 (below_size (by repeat (first | (with_reducible first | exact HB.out | apply below_alloc | apply pw_below_drewN | apply below_drew1) | exact HB.out)))); have n1_ := Aside0.mk (below_step (by repeat (first | (with_reducible first | exact HB.out | apply below_alloc | apply pw_below_drewN | apply below_drew1) | exact HB.out)) hb); clear HB; have HO165 := n0_; have HB := n1_; clear n0_ n1_; (try clear hb); (try clear hb2); (try clear hk); (try clear hi); (try clear ho0); obtain ⟨Ao7, co7, eo7⟩ := Kd.R_slice HO165.out; subst eo7) | ((with_reducible refine gate_callee (f := 20) rfl ?_); refine goesL_ (some 12) rfl rfl Tryd.func20 (by kernel_rfl) rfl #[.slice Ao7 t163.length co7] rfl (by (try simp only [List.map_toArray, List.map_cons, List.map_nil]); first | done | rfl | (simp only [List.length_drop, List.length_take]; rfl)) ?_; (with_reducible refine (spec_MountsPrint.calls k _ _ t163 t166 t167 _ ?side1 ?side2 A4.out).mono ?_); (case side1 => repeat (first | exact (Kd.R_reads' HO165.out).2.2 | (with_reducible refine Kd.C_alloc ?_ _) | (with_reducible refine Kd.C_drewN ?_ _) | (with_reducible refine Kd.C_drew ?_))); (case side2 => exact (Kd.R_reads' HO165.out).2.1); rintro e w8 ⟨rfl, hb⟩; refine ⟨_, rfl, ?_⟩; have n0_ := Aside0.mk (Kd.R_below (by (with_reducible repeat (first | apply Kd.R_alloc | apply Kd.R_drewN | apply Kd.R_drew)); exact HO165.out) hb); have n1_ := Aside0.mk (below_step (by repeat (first | (with_reducible first | exact HB.out | apply below_alloc | apply pw_below_drewN | apply below_drew1) | exact HB.out)) hb); clear HO165; clear HB; have HO165 := n0_; have HB := n1_; clear n0_ n1_; (try clear hb); (try clear hb2); (try clear hk); (try clear hi)))
     go_ret2
     exact ⟨by first | rfl | (simp [errW_none, errW_some] <;> rfl) | (simp [*, errW_none, errW_some] <;> rfl), by repeat (first | (with_reducible first | exact HB.out | apply below_alloc | apply pw_below_drewN | apply below_drew1) | exact HB.out)⟩
   · rw [if_neg c5] at H
     have c5b0 : (t167 == 1) = false := beq_eq_false_iff_ne.mpr c5
     have c5b1 : (t167 != 1) = true := bne_iff_ne.mpr c5
     simp only [Option.some.injEq, Prod.mk.injEq] at H
     obtain ⟨rfl, rfl⟩ := H
     go_enter Tryd.func8, Tryd.ntmps8
     go_wp2_with (first | ((with_reducible refine gate_callee (f := 15) rfl ?_); refine goesL_ (some 11) rfl rfl Tryd.func15 (by kernel_rfl) rfl #[.slice A0 l0.length c0] rfl (by (try simp only [List.map_toArray, List.map_cons, List.map_nil]); first | done | rfl | (simp only [List.length_drop, List.length_take]; rfl)) ?_; (with_reducible refine (laws_mountsTo.calls k _ _ l0 t163 _ ?side1 ?side2 A3.out).mono ?_); (case side1 => repeat (first | exact HR0.out | (with_reducible refine Kd.C_alloc ?_ _) | (with_reducible refine Kd.C_drewN ?_ _) | (with_reducible refine Kd.C_drew ?_))); (case side2 => exact HC0.out); rintro e w9 ⟨v164, rfl, ho0, hb⟩; refine ⟨_, rfl, ?_⟩; have n0_ := Aside0.mk (Kd.R_lower ho0 (below_size (by repeat (first | (with_reducible first | exact HB.out | apply below_alloc | apply pw_below_drewN | apply below_drew1) | exact HB.out)))); have n1_ := Aside0.mk (below_step (by repeat (first | (with_reducible first | exact HB.out | apply below_alloc | apply pw_below_drewN | apply below_drew1) | exact HB.out)) hb); clear HB; have HO165 := n0_; have HB := n1_; clear n0_ n1_; (try clear hb); (try clear hb2); (try clear hk); (try clear hi); (try clear ho0); obtain ⟨Ao10, co10, eo10⟩ := Kd.R_slice HO165.out; subst eo10) | ((with_reducible refine gate_callee (f := 20) rfl ?_); refine goesL_ (some 12) rfl rfl Tryd.func20 (by kernel_rfl) rfl #[.slice Ao10 t163.length co10] rfl (by (try simp only [List.map_toArray, List.map_cons, List.map_nil]); first | done | rfl | (simp only [List.length_drop, List.length_take]; rfl)) ?_; (with_reducible refine (spec_MountsPrint.calls k _ _ t163 t166 t167 _ ?side1 ?side2 A4.out).mono ?_); (case side1 => repeat (first | exact (Kd.R_reads' HO165.out).2.2 | (with_reducible refine Kd.C_alloc ?_ _) | (with_reducible refine Kd.C_drewN ?_ _) | (with_reducible refine Kd.C_drew ?_))); (case side2 => exact (Kd.R_reads' HO165.out).2.1); rintro e w11 ⟨rfl, hb⟩; refine ⟨_, rfl, ?_⟩; have n0_ := Aside0.mk (Kd.R_below (by (with_reducible repeat (first | apply Kd.R_alloc | apply Kd.R_drewN | apply Kd.R_drew)); exact HO165.out) hb); have n1_ := Aside0.mk (below_step (by repeat (first | (with_reducible first | exact HB.out | apply below_alloc | apply pw_below_drewN | apply below_drew1) | exact HB.out)) hb); clear HO165; clear HB; have HO165 := n0_; have HB := n1_; clear n0_ n1_; (try clear hb); (try clear hb2); (try clear hk); (try clear hi)))
     go_ret2
     exact ⟨by first | rfl | (simp [errW_none, errW_some] <;> rfl) | (simp [*, errW_none, errW_some] <;> rfl), by repeat (first | (with_reducible first | exact HB.out | apply below_alloc | apply pw_below_drewN | apply below_drew1) | exact HB.out)⟩
def impl_Mounts.of (m : QT0.Inf) : S44 := ⟨m.f0, m.f1, m.f2, m.f3, m.f4, m.f5, m.f6, m.f7, m.f8, m.f9, m.f10⟩
theorem impl_Mounts.R_of {w : World} {base : Nat} {ok : Nat → Prop} {v : Value} {r : List QT0.Inf} (h : Kd.R QT0.kInf 44 w base ok v r) : Kd.R k44 44 w base ok v (r.map impl_Mounts.of) := by
 obtain ⟨h0, inner, ho, hr⟩ := h
 refine ⟨h0, inner, by rw [List.length_map]; exact ho, by rw [List.length_map]; exact hr.1, fun j p hj => ?_⟩
 rw [List.getElem?_map] at hj
 cases hq : r[j]? with
 | none => rw [hq] at hj; simp at hj
 | some m =>
  rw [hq] at hj
  obtain rfl := Option.some.inj hj
  exact hr.2 j m hq
def impl_Mounts.f (a0 : ByteArray) (a1_0 : Int) (l1_1 : List ByteArray) : Option (List S44 × Int) := (QT0.mountsF a0 a1_0 l1_1).map fun r => (r.map impl_Mounts.of, 0)
theorem impl_Mounts.calls (a0 : ByteArray) (a1_0 : Int) (A1_1 : Option Addr) (c1_1 : Nat) (l1_1 : List ByteArray) (r1 : List S44) (r2 : Int) (w : World) (hr1_1 : Kd.C Kd.string w A1_1 l1_1.length l1_1) (hc1_1 : l1_1.length ≤ c1_1) (h : impl_Mounts.f a0 a1_0 l1_1 = some (r1, r2)) :
 Calls Tryd.prog 9 #[.string a0, .agg #[.int .i64 a1_0, .slice A1_1 l1_1.length c1_1]] w fun e w' => ∃ v0_ : Value, e = .returned (.tuple #[v0_, .int .i64 r2]) ∧ Kd.R k44 44 w' w.heap.size (fun _ => True) v0_ r1 ∧ Below w.heap.size w w' := by
 unfold impl_Mounts.f at h
 obtain ⟨r, hr, h⟩ := Option.map_eq_some_iff.mp h
 simp only [Prod.mk.injEq] at h
 obtain ⟨rfl, rfl⟩ := h
 exact (QT0.mounts_calls a0 a1_0 A1_1 c1_1 l1_1 r w hr1_1 hr).mono fun e w' ⟨v, he, hR, hB⟩ => ⟨v, he, impl_Mounts.R_of hR, hB⟩
def laws_all.f  : Option (Int × List ByteArray) := some (0, ([] : List ByteArray))
set_option maxHeartbeats 8000000 in
set_option maxRecDepth 100000 in
theorem laws_all.calls  (r1 : Int) (r2 : List ByteArray) (w : World) (h : laws_all.f  = some (r1, r2)) :
 Calls Tryd.prog 10 #[] w fun e w' => ∃ v1_ : Value, e = .returned (.agg #[.int .i64 r1, v1_]) ∧ Kd.R Kd.string 9 w' w.heap.size (fun _ => True) v1_ r2 ∧ Below w.heap.size w w' := by
 have hu30 := Tryd.underlying30
 have HB := Aside0.mk (Below.refl w.heap.size w)
 have H : (some (0, ([] : List ByteArray))) = some (r1, r2) := h
 clear h
 simp only [Option.some.injEq, Prod.mk.injEq] at H
 obtain ⟨rfl, rfl⟩ := H
 go_enter Tryd.func10, Tryd.ntmps10
 go_wp2_with (first | ((with_reducible refine gate_dst (N := 0) rfl ?_); refine box_event ?hg (N := 0) ?hd (cs := #[.int .i64 0, .slice none 0 0]) (t := 30) ?hr ?_; (case hd => rfl); (case hg => rfl); (case hr => first | (go_simp; done) | (go_simp; rfl)); intro gb168 hg w1 hbox hb; have n0_ := Aside0.mk (below_step (by repeat (first | (with_reducible first | exact HB.out | apply below_alloc | apply pw_below_drewN | apply below_drew1) | exact HB.out)) hb); have n1_ := Aside0.mk (hbox); have n2_ := Aside0.mk ((by rw [hg]; exact (below_size (by repeat (first | (with_reducible first | exact HB.out | apply below_alloc | apply pw_below_drewN | apply below_drew1) | exact HB.out))) : w.heap.size ≤ gb168)); have n3_ := Aside0.mk ((by rw [hg]; exact (below_size (by repeat (first | (with_reducible first | exact HB.out | apply below_alloc | apply pw_below_drewN | apply below_drew1) | exact HB.out))) : w.heap.size ≤ gb168)); clear HB; have HB := n0_; have BK168 := n1_; have GW168 := n2_; have GE168 := n3_; clear n0_ n1_ n2_ n3_; clear hb hbox hg; have hcz2_0 : w1.cell? ⟨gb168, 0, none⟩ = some (.int .i64 0) := (blk_cell BK168.out 0).trans rfl; have hcz2_1 : w1.cell? ⟨gb168, 1, none⟩ = some (.slice none 0 0) := (blk_cell BK168.out 1).trans rfl; have hfz2_0 := blk_frozen BK168.out 0; have hfz2_1 := blk_frozen BK168.out 1))
 refine bodyPost_ret (results_cell_row rfl _ _ gb168 30 #[.int .i64 0, .slice none 0 0] (0, 0) _ rfl (by (with_reducible repeat (first | refine blk_drewN ?_ _ | refine blk_drew ?_ | refine blk_alloc ?_ _)); refine blk_put (cs := #[.int .i64 0, .slice none 0 0]) ?_ 1 _ rfl; (with_reducible repeat (first | refine blk_drewN ?_ _ | refine blk_drew ?_ | refine blk_alloc ?_ _)); refine blk_put (cs := #[.int .i64 0, .slice none 0 0]) ?_ 0 _ rfl; (with_reducible repeat (first | refine blk_drewN ?_ _ | refine blk_drew ?_ | refine blk_alloc ?_ _)); exact BK168.out) Tryd.underlying30 rfl (by kernel_rfl)) rfl ?_
 exact ⟨_, by first | rfl | (simp [errW_none, errW_some] <;> rfl) | (simp [*, errW_none, errW_some] <;> rfl), by first | exact Kd.R_nil _ _ _ _ _ | exact Kd.N_nil _ _ _ _ _ | exact Kd.V_nil _ _ _ _ _ | exact Kd.Q_nil _ _ _ _ _ | exact Kd.S_nil _ _ _ _ _, by repeat (first | (with_reducible first | exact HB.out | apply below_alloc | apply pw_below_drewN | apply below_drew1 | refine below_set ?_ GE168.out) | exact HB.out)⟩
def laws_sameMounts.l0 : Nat → List (S44) → List (S44) → Int → Int → Option (Bool)
 | 0, _, _, _, _ => none
 | k + 1, x0, x1, x12, x13 => if x13 < x12 then (if 0 ≤ x13 then (if x13 < (x0.length : Int) then (if x13 < (x1.length : Int) then (if (!(((rd_T44 x0 x13).f0) == ((rd_T44 x1 x13).f0)) || (!(((rd_T44 x0 x13).f1) == ((rd_T44 x1 x13).f1)) || (!(((rd_T44 x0 x13).f2) == ((rd_T44 x1 x13).f2)) || (!(((rd_T44 x0 x13).f3) == ((rd_T44 x1 x13).f3)) || (!((((rd_T44 x0 x13).f4).toList) == (((rd_T44 x1 x13).f4).toList)) || (!((((rd_T44 x0 x13).f5).toList) == (((rd_T44 x1 x13).f5).toList)) || (!((((rd_T44 x0 x13).f6).toList) == (((rd_T44 x1 x13).f6).toList)) || (!((((rd_T44 x0 x13).f7).toList) == (((rd_T44 x1 x13).f7).toList)) || (!((((rd_T44 x0 x13).f8).toList) == (((rd_T44 x1 x13).f8).toList)) || (!((((rd_T44 x0 x13).f9).toList) == (((rd_T44 x1 x13).f9).toList)) || (!((((rd_T44 x0 x13).f10).toList) == (((rd_T44 x1 x13).f10).toList))))))))))))) = true then (some false) else (laws_sameMounts.l0 k x0 x1 x12 (wrap64 (x13 + 1)))) else (none)) else (none)) else (none)) else (some true)
def laws_sameMounts.f (k : Nat) (l0 : List (S44)) (l1 : List (S44)) : Option (Bool) := if (l0.length : Int) = (l1.length : Int) then (laws_sameMounts.l0 k l0 l1 (l0.length : Int) 0) else (some false)
set_option maxHeartbeats 8000000 in
set_option maxRecDepth 100000 in
theorem laws_sameMounts.calls (k : Nat) (A0 : Option Addr) (c0 : Nat) (l0 : List (S44)) (A1 : Option Addr) (c1 : Nat) (l1 : List (S44)) (r : Bool) (w : World) (hr0 : Kd.C k44 w A0 l0.length l0) (hc0 : l0.length ≤ c0) (hr1 : Kd.C k44 w A1 l1.length l1) (hc1 : l1.length ≤ c1) (h : laws_sameMounts.f k l0 l1 = some r) :
 Calls Tryd.prog 11 #[.slice A0 l0.length c0, .slice A1 l1.length c1] w fun e w' => e = .returned (.bool r) ∧ Drawn0 w w' := by
 have hu44 := Tryd.underlying44
 have HR0 := Aside0.mk hr0
 have HC0 := Aside0.mk hc0
 clear hr0 hc0
 have HR1 := Aside0.mk hr1
 have HC1 := Aside0.mk hc1
 clear hr1 hc1
 have H : (if (l0.length : Int) = (l1.length : Int) then (laws_sameMounts.l0 k l0 l1 (l0.length : Int) 0) else (some false)) = some r := h
 clear h
 by_cases c3 : (l0.length : Int) = (l1.length : Int)
 · rw [if_pos c3] at H
   have c3b0 : ((l0.length : Int) == (l1.length : Int)) = true := beq_iff_eq.mpr c3
   have c3b1 : ((l0.length : Int) != (l1.length : Int)) = false := bne_eq_false_iff_eq.mpr c3
   have c3b2 : (l0.length == l1.length) = true := by first | simpa using c3 | (simp at c3 ⊢; omega)
   clear c3
   have H' := Aside0.mk H
   clear H
   go_enter Tryd.func11, Tryd.ntmps11
   go_wp2
   repeat (go_quiet (fail); try go_wp2)
   go_loopg [13] k (fun kq v13 w' => ∃ (x13_1 : Int), v13 = .int .i64 x13_1 ∧ Aside0 (laws_sameMounts.l0 kq l0 l1 (l0.length : Int) x13_1 = some r) ∧ Aside0 (kq ≤ k) ∧ Drawn0 w w')
   case atStart => exact ⟨(0), (by first | rfl | (simp; done) | (simp [*]; done)), H', ⟨Nat.le_refl _⟩, by repeat (first | exact Drawn0.refl _ | apply Drawn0.step)⟩
   case round =>
    clear H'
    try clear c1
    try clear p2
    try clear c3
    try clear c3b0
    try clear c3b1
    try clear c3b2
    obtain ⟨x13_1, rfl, HA, HK1, ⟨m1, rfl⟩⟩ := hrel
    cases gk with
    | zero => exact absurd HA.out (by simp [laws_sameMounts.l0])
    | succ k1 =>
     have H := HA.out
     clear HA
     simp only [laws_sameMounts.l0] at H
     by_cases c4 : x13_1 < (l0.length : Int)
     · rw [if_pos c4] at H
       have c4b0 : decide (x13_1 < (l0.length : Int)) = true := decide_eq_true c4
       clear c4
       by_cases c5 : 0 ≤ x13_1
       · rw [if_pos c5] at H
         have c5b0 : decide (0 ≤ x13_1) = true := decide_eq_true c5
         clear c5
         by_cases c6 : x13_1 < (l0.length : Int)
         · rw [if_pos c6] at H
           have c6b0 : decide (x13_1 < (l0.length : Int)) = true := decide_eq_true c6
           clear c6
           by_cases c7 : x13_1 < (l1.length : Int)
           · rw [if_pos c7] at H
             have c7b0 : decide (x13_1 < (l1.length : Int)) = true := decide_eq_true c7
             clear c7
             by_cases c8 : (!(((rd_T44 l0 x13_1).f0) == ((rd_T44 l1 x13_1).f0)) || (!(((rd_T44 l0 x13_1).f1) == ((rd_T44 l1 x13_1).f1)) || (!(((rd_T44 l0 x13_1).f2) == ((rd_T44 l1 x13_1).f2)) || (!(((rd_T44 l0 x13_1).f3) == ((rd_T44 l1 x13_1).f3)) || (!((((rd_T44 l0 x13_1).f4).toList) == (((rd_T44 l1 x13_1).f4).toList)) || (!((((rd_T44 l0 x13_1).f5).toList) == (((rd_T44 l1 x13_1).f5).toList)) || (!((((rd_T44 l0 x13_1).f6).toList) == (((rd_T44 l1 x13_1).f6).toList)) || (!((((rd_T44 l0 x13_1).f7).toList) == (((rd_T44 l1 x13_1).f7).toList)) || (!((((rd_T44 l0 x13_1).f8).toList) == (((rd_T44 l1 x13_1).f8).toList)) || (!((((rd_T44 l0 x13_1).f9).toList) == (((rd_T44 l1 x13_1).f9).toList)) || (!((((rd_T44 l0 x13_1).f10).toList) == (((rd_T44 l1 x13_1).f10).toList))))))))))))) = true
             · rw [if_pos c8] at H
               have c8b0 : (!(((rd_T44 l0 x13_1).f0) == ((rd_T44 l1 x13_1).f0)) || (!(((rd_T44 l0 x13_1).f1) == ((rd_T44 l1 x13_1).f1)) || (!(((rd_T44 l0 x13_1).f2) == ((rd_T44 l1 x13_1).f2)) || (!(((rd_T44 l0 x13_1).f3) == ((rd_T44 l1 x13_1).f3)) || (!((((rd_T44 l0 x13_1).f4).toList) == (((rd_T44 l1 x13_1).f4).toList)) || (!((((rd_T44 l0 x13_1).f5).toList) == (((rd_T44 l1 x13_1).f5).toList)) || (!((((rd_T44 l0 x13_1).f6).toList) == (((rd_T44 l1 x13_1).f6).toList)) || (!((((rd_T44 l0 x13_1).f7).toList) == (((rd_T44 l1 x13_1).f7).toList)) || (!((((rd_T44 l0 x13_1).f8).toList) == (((rd_T44 l1 x13_1).f8).toList)) || (!((((rd_T44 l0 x13_1).f9).toList) == (((rd_T44 l1 x13_1).f9).toList)) || (!((((rd_T44 l0 x13_1).f10).toList) == (((rd_T44 l1 x13_1).f10).toList))))))))))))) = true := c8
               clear c8
               obtain rfl := Option.some.inj H
               have p169 : 0 ≤ (x13_1 : Int) := of_decide_eq_true (by first | (with_reducible assumption) | assumption)
               have q169 : x13_1 < (l0.length : Int) := of_decide_eq_true (by first | (with_reducible assumption) | assumption)
               obtain ⟨ad169, e169, hx169_0, hx169_1, hx169_2, hx169_3, hx169_4, hx169_5, hx169_6, hx169_7, hx169_8, hx169_9, hx169_10⟩ := at_T44 HR0.out x13_1 p169 q169
               cases e169
               replace p169 := eq_true p169
               replace q169 := eq_true q169
               have p170 : 0 ≤ (x13_1 : Int) := of_decide_eq_true (by first | (with_reducible assumption) | assumption)
               have q170 : x13_1 < (l1.length : Int) := of_decide_eq_true (by first | (with_reducible assumption) | assumption)
               obtain ⟨ad170, e170, hx170_0, hx170_1, hx170_2, hx170_3, hx170_4, hx170_5, hx170_6, hx170_7, hx170_8, hx170_9, hx170_10⟩ := at_T44 HR1.out x13_1 p170 q170
               cases e170
               replace p170 := eq_true p170
               replace q170 := eq_true q170
               go_wp2
               repeat (go_quiet (fail); try go_wp2)
               go_ret
               exact ⟨by first | rfl | (simp; done) | (simp [*]; done), by repeat (first | exact Drawn0.refl _ | apply Drawn0.step)⟩
             · rw [if_neg c8] at H
               have c8b0 : (!(((rd_T44 l0 x13_1).f0) == ((rd_T44 l1 x13_1).f0)) || (!(((rd_T44 l0 x13_1).f1) == ((rd_T44 l1 x13_1).f1)) || (!(((rd_T44 l0 x13_1).f2) == ((rd_T44 l1 x13_1).f2)) || (!(((rd_T44 l0 x13_1).f3) == ((rd_T44 l1 x13_1).f3)) || (!((((rd_T44 l0 x13_1).f4).toList) == (((rd_T44 l1 x13_1).f4).toList)) || (!((((rd_T44 l0 x13_1).f5).toList) == (((rd_T44 l1 x13_1).f5).toList)) || (!((((rd_T44 l0 x13_1).f6).toList) == (((rd_T44 l1 x13_1).f6).toList)) || (!((((rd_T44 l0 x13_1).f7).toList) == (((rd_T44 l1 x13_1).f7).toList)) || (!((((rd_T44 l0 x13_1).f8).toList) == (((rd_T44 l1 x13_1).f8).toList)) || (!((((rd_T44 l0 x13_1).f9).toList) == (((rd_T44 l1 x13_1).f9).toList)) || (!((((rd_T44 l0 x13_1).f10).toList) == (((rd_T44 l1 x13_1).f10).toList))))))))))))) = false := by simpa using c8
               clear c8
               have H' := Aside0.mk H
               clear H
               have p169 : 0 ≤ (x13_1 : Int) := of_decide_eq_true (by first | (with_reducible assumption) | assumption)
               have q169 : x13_1 < (l0.length : Int) := of_decide_eq_true (by first | (with_reducible assumption) | assumption)
               obtain ⟨ad169, e169, hx169_0, hx169_1, hx169_2, hx169_3, hx169_4, hx169_5, hx169_6, hx169_7, hx169_8, hx169_9, hx169_10⟩ := at_T44 HR0.out x13_1 p169 q169
               cases e169
               replace p169 := eq_true p169
               replace q169 := eq_true q169
               have p170 : 0 ≤ (x13_1 : Int) := of_decide_eq_true (by first | (with_reducible assumption) | assumption)
               have q170 : x13_1 < (l1.length : Int) := of_decide_eq_true (by first | (with_reducible assumption) | assumption)
               obtain ⟨ad170, e170, hx170_0, hx170_1, hx170_2, hx170_3, hx170_4, hx170_5, hx170_6, hx170_7, hx170_8, hx170_9, hx170_10⟩ := at_T44 HR1.out x13_1 p170 q170
               cases e170
               replace p170 := eq_true p170
               replace q170 := eq_true q170
               go_wp2
               repeat (go_quiet (fail); try go_wp2)
               go_roundg k1
               case measure => have := HK1.out; omega
               case rel => exact ⟨(wrap64 (x13_1 + 1)), (by first | rfl | (simp; done) | (simp [*]; done)), H', ⟨by have := HK1.out; omega⟩, by repeat (first | exact Drawn0.refl _ | apply Drawn0.step)⟩
           · rw [if_neg c7] at H
             exact absurd H (by simp)
         · rw [if_neg c6] at H
           exact absurd H (by simp)
       · rw [if_neg c5] at H
         exact absurd H (by simp)
     · rw [if_neg c4] at H
       have c4b0 : decide (x13_1 < (l0.length : Int)) = false := decide_eq_false c4
       clear c4
       obtain rfl := Option.some.inj H
       go_wp2
       repeat (go_quiet (fail); try go_wp2)
       go_ret
       exact ⟨by first | rfl | (simp; done) | (simp [*]; done), by repeat (first | exact Drawn0.refl _ | apply Drawn0.step)⟩
 · rw [if_neg c3] at H
   have c3b0 : ((l0.length : Int) == (l1.length : Int)) = false := beq_eq_false_iff_ne.mpr c3
   have c3b1 : ((l0.length : Int) != (l1.length : Int)) = true := bne_iff_ne.mpr c3
   have c3b2 : (l0.length == l1.length) = false := by first | simpa using c3 | (simp at c3 ⊢; omega)
   obtain rfl := Option.some.inj H
   go_enter Tryd.func11, Tryd.ntmps11
   go_wp2
   repeat (go_quiet (fail); try go_wp2)
   go_ret
   exact ⟨by first | rfl | (simp; done) | (simp [*]; done), by repeat (first | exact Drawn0.refl _ | apply Drawn0.step)⟩
def laws_mounts.f  : Option (Bool) := (laws_all.f).bind fun bt171 => ((impl_Mounts.f (⟨#[51, 54, 32, 51, 53, 32, 57, 56, 58, 48, 32, 47, 109, 110, 116, 49, 32, 47, 109, 110, 116, 50, 32, 114, 119, 44, 110, 111, 97, 116, 105, 109, 101, 32, 109, 97, 115, 116, 101, 114, 58, 49, 32, 45, 32, 101, 120, 116, 51, 32, 47, 100, 101, 118, 47, 114, 111, 111, 116, 32, 114, 119, 44, 101, 114, 114, 111, 114, 115, 61, 99, 111, 110, 116, 105, 110, 117, 101, 10]⟩ : ByteArray) bt171.1 bt171.2).bind fun bt175 => (if bt175.2 = 0 then (if (bt175.1.length : Int) = 1 then (if 0 < (bt175.1.length : Int) then (some (((rd_T44 bt175.1 0).f0) == 36 && (((rd_T44 bt175.1 0).f1) == 35 && (((rd_T44 bt175.1 0).f2) == 98 && (((rd_T44 bt175.1 0).f3) == 0 && ((((rd_T44 bt175.1 0).f4).toList) == ([47, 109, 110, 116, 49] : List UInt8) && ((((rd_T44 bt175.1 0).f5).toList) == ([47, 109, 110, 116, 50] : List UInt8) && ((((rd_T44 bt175.1 0).f6).toList) == ([114, 119, 44, 110, 111, 97, 116, 105, 109, 101] : List UInt8) && ((((rd_T44 bt175.1 0).f7).toList) == ([109, 97, 115, 116, 101, 114, 58, 49] : List UInt8) && ((((rd_T44 bt175.1 0).f8).toList) == ([101, 120, 116, 51] : List UInt8) && ((((rd_T44 bt175.1 0).f9).toList) == ([47, 100, 101, 118, 47, 114, 111, 111, 116] : List UInt8) && ((((rd_T44 bt175.1 0).f10).toList) == ([114, 119, 44, 101, 114, 114, 111, 114, 115, 61, 99, 111, 110, 116, 105, 110, 117, 101] : List UInt8))))))))))))) else (none)) else (some false)) else (some false)))
set_option maxHeartbeats 8000000 in
set_option maxRecDepth 100000 in
theorem laws_mounts.calls  (r : Bool) (w : World) (h : laws_mounts.f  = some r) :
 Calls Tryd.prog 12 #[] w fun e w' => e = .returned (.bool r) ∧ Below w.heap.size w w' := by
 have hu44 := Tryd.underlying44
 have HB := Aside0.mk (Below.refl w.heap.size w)
 have H : ((laws_all.f).bind fun bt171 => ((impl_Mounts.f (⟨#[51, 54, 32, 51, 53, 32, 57, 56, 58, 48, 32, 47, 109, 110, 116, 49, 32, 47, 109, 110, 116, 50, 32, 114, 119, 44, 110, 111, 97, 116, 105, 109, 101, 32, 109, 97, 115, 116, 101, 114, 58, 49, 32, 45, 32, 101, 120, 116, 51, 32, 47, 100, 101, 118, 47, 114, 111, 111, 116, 32, 114, 119, 44, 101, 114, 114, 111, 114, 115, 61, 99, 111, 110, 116, 105, 110, 117, 101, 10]⟩ : ByteArray) bt171.1 bt171.2).bind fun bt175 => (if bt175.2 = 0 then (if (bt175.1.length : Int) = 1 then (if 0 < (bt175.1.length : Int) then (some (((rd_T44 bt175.1 0).f0) == 36 && (((rd_T44 bt175.1 0).f1) == 35 && (((rd_T44 bt175.1 0).f2) == 98 && (((rd_T44 bt175.1 0).f3) == 0 && ((((rd_T44 bt175.1 0).f4).toList) == ([47, 109, 110, 116, 49] : List UInt8) && ((((rd_T44 bt175.1 0).f5).toList) == ([47, 109, 110, 116, 50] : List UInt8) && ((((rd_T44 bt175.1 0).f6).toList) == ([114, 119, 44, 110, 111, 97, 116, 105, 109, 101] : List UInt8) && ((((rd_T44 bt175.1 0).f7).toList) == ([109, 97, 115, 116, 101, 114, 58, 49] : List UInt8) && ((((rd_T44 bt175.1 0).f8).toList) == ([101, 120, 116, 51] : List UInt8) && ((((rd_T44 bt175.1 0).f9).toList) == ([47, 100, 101, 118, 47, 114, 111, 111, 116] : List UInt8) && ((((rd_T44 bt175.1 0).f10).toList) == ([114, 119, 44, 101, 114, 114, 111, 114, 115, 61, 99, 111, 110, 116, 105, 110, 117, 101] : List UInt8))))))))))))) else (none)) else (some false)) else (some false)))) = some r := h
 clear h
 replace H := Option.bind_eq_some_iff.mp H
 obtain ⟨⟨t171, t172⟩, A10, H⟩ := H
 replace H : ((impl_Mounts.f (⟨#[51, 54, 32, 51, 53, 32, 57, 56, 58, 48, 32, 47, 109, 110, 116, 49, 32, 47, 109, 110, 116, 50, 32, 114, 119, 44, 110, 111, 97, 116, 105, 109, 101, 32, 109, 97, 115, 116, 101, 114, 58, 49, 32, 45, 32, 101, 120, 116, 51, 32, 47, 100, 101, 118, 47, 114, 111, 111, 116, 32, 114, 119, 44, 101, 114, 114, 111, 114, 115, 61, 99, 111, 110, 116, 105, 110, 117, 101, 10]⟩ : ByteArray) t171 t172).bind fun bt175 => (if bt175.2 = 0 then (if (bt175.1.length : Int) = 1 then (if 0 < (bt175.1.length : Int) then (some (((rd_T44 bt175.1 0).f0) == 36 && (((rd_T44 bt175.1 0).f1) == 35 && (((rd_T44 bt175.1 0).f2) == 98 && (((rd_T44 bt175.1 0).f3) == 0 && ((((rd_T44 bt175.1 0).f4).toList) == ([47, 109, 110, 116, 49] : List UInt8) && ((((rd_T44 bt175.1 0).f5).toList) == ([47, 109, 110, 116, 50] : List UInt8) && ((((rd_T44 bt175.1 0).f6).toList) == ([114, 119, 44, 110, 111, 97, 116, 105, 109, 101] : List UInt8) && ((((rd_T44 bt175.1 0).f7).toList) == ([109, 97, 115, 116, 101, 114, 58, 49] : List UInt8) && ((((rd_T44 bt175.1 0).f8).toList) == ([101, 120, 116, 51] : List UInt8) && ((((rd_T44 bt175.1 0).f9).toList) == ([47, 100, 101, 118, 47, 114, 111, 111, 116] : List UInt8) && ((((rd_T44 bt175.1 0).f10).toList) == ([114, 119, 44, 101, 114, 114, 111, 114, 115, 61, 99, 111, 110, 116, 105, 110, 117, 101] : List UInt8))))))))))))) else (none)) else (some false)) else (some false))) = some r := H
 have A1 := Aside0.mk A10
 clear A10
 replace H := Option.bind_eq_some_iff.mp H
 obtain ⟨⟨t175, t178⟩, A20, H⟩ := H
 replace H : (if t178 = 0 then (if (t175.length : Int) = 1 then (if 0 < (t175.length : Int) then (some (((rd_T44 t175 0).f0) == 36 && (((rd_T44 t175 0).f1) == 35 && (((rd_T44 t175 0).f2) == 98 && (((rd_T44 t175 0).f3) == 0 && ((((rd_T44 t175 0).f4).toList) == ([47, 109, 110, 116, 49] : List UInt8) && ((((rd_T44 t175 0).f5).toList) == ([47, 109, 110, 116, 50] : List UInt8) && ((((rd_T44 t175 0).f6).toList) == ([114, 119, 44, 110, 111, 97, 116, 105, 109, 101] : List UInt8) && ((((rd_T44 t175 0).f7).toList) == ([109, 97, 115, 116, 101, 114, 58, 49] : List UInt8) && ((((rd_T44 t175 0).f8).toList) == ([101, 120, 116, 51] : List UInt8) && ((((rd_T44 t175 0).f9).toList) == ([47, 100, 101, 118, 47, 114, 111, 111, 116] : List UInt8) && ((((rd_T44 t175 0).f10).toList) == ([114, 119, 44, 101, 114, 114, 111, 114, 115, 61, 99, 111, 110, 116, 105, 110, 117, 101] : List UInt8))))))))))))) else (none)) else (some false)) else (some false)) = some r := H
 have A2 := Aside0.mk A20
 clear A20
 by_cases c3 : t178 = 0
 · rw [if_pos c3] at H
   have c3b0 : (t178 == 0) = true := beq_iff_eq.mpr c3
   have c3b1 : (t178 != 0) = false := bne_eq_false_iff_eq.mpr c3
   clear c3
   by_cases c4 : (t175.length : Int) = 1
   · rw [if_pos c4] at H
     have c4b0 : ((t175.length : Int) == 1) = true := beq_iff_eq.mpr c4
     have c4b1 : ((t175.length : Int) != 1) = false := bne_eq_false_iff_eq.mpr c4
     clear c4
     by_cases c5 : 0 < (t175.length : Int)
     · rw [if_pos c5] at H
       have c5b0 : decide (0 < (t175.length : Int)) = true := decide_eq_true c5
       have c5b1 : decide (0 < t175.length) = true := decide_eq_true (by omega)
       clear c5
       obtain rfl := Option.some.inj H
       go_enter Tryd.func12, Tryd.ntmps12
       go_wp2_with (first | ((with_reducible refine gate_callee (f := 10) rfl ?_); refine goesL_ (some 4) rfl rfl Tryd.func10 (by kernel_rfl) rfl #[] rfl (by (try simp only [List.map_toArray, List.map_cons, List.map_nil]); first | done | rfl | (simp only [List.length_drop, List.length_take]; rfl)) ?_; (with_reducible refine (laws_all.calls  t171 t172 _ A1.out).mono ?_); rintro e w6 ⟨v173, rfl, ho0, hb⟩; refine ⟨_, rfl, ?_⟩; have n0_ := Aside0.mk (Kd.R_lower ho0 (below_size (by repeat (first | (with_reducible first | exact HB.out | apply below_alloc | apply pw_below_drewN | apply below_drew1) | exact HB.out)))); have n1_ := Aside0.mk (below_step (by repeat (first | (with_reducible first | exact HB.out | apply below_alloc | apply pw_below_drewN | apply below_drew1) | exact HB.out)) hb); clear HB; have HO174 := n0_; have HB := n1_; clear n0_ n1_; (try clear hb); (try clear hb2); (try clear hk); (try clear hi); (try clear ho0); obtain ⟨Ao7, co7, eo7⟩ := Kd.R_slice HO174.out; subst eo7) | ((with_reducible refine gate_callee (f := 9) rfl ?_); refine goesL_ (some 5) rfl rfl Tryd.func9 (by kernel_rfl) rfl #[.string (⟨#[51, 54, 32, 51, 53, 32, 57, 56, 58, 48, 32, 47, 109, 110, 116, 49, 32, 47, 109, 110, 116, 50, 32, 114, 119, 44, 110, 111, 97, 116, 105, 109, 101, 32, 109, 97, 115, 116, 101, 114, 58, 49, 32, 45, 32, 101, 120, 116, 51, 32, 47, 100, 101, 118, 47, 114, 111, 111, 116, 32, 114, 119, 44, 101, 114, 114, 111, 114, 115, 61, 99, 111, 110, 116, 105, 110, 117, 101, 10]⟩ : ByteArray), .agg #[.int .i64 t171, .slice Ao7 t172.length co7]] rfl (by (try simp only [List.map_toArray, List.map_cons, List.map_nil]); first | done | rfl | (simp only [List.length_drop, List.length_take]; rfl)) ?_; (with_reducible refine (impl_Mounts.calls (⟨#[51, 54, 32, 51, 53, 32, 57, 56, 58, 48, 32, 47, 109, 110, 116, 49, 32, 47, 109, 110, 116, 50, 32, 114, 119, 44, 110, 111, 97, 116, 105, 109, 101, 32, 109, 97, 115, 116, 101, 114, 58, 49, 32, 45, 32, 101, 120, 116, 51, 32, 47, 100, 101, 118, 47, 114, 111, 111, 116, 32, 114, 119, 44, 101, 114, 114, 111, 114, 115, 61, 99, 111, 110, 116, 105, 110, 117, 101, 10]⟩ : ByteArray) t171 _ _ t172 t175 t178 _ ?side1 ?side2 A2.out).mono ?_); (case side1 => repeat (first | exact (Kd.R_reads' HO174.out).2.2 | (with_reducible refine Kd.C_alloc ?_ _) | (with_reducible refine Kd.C_drewN ?_ _) | (with_reducible refine Kd.C_drew ?_))); (case side2 => exact (Kd.R_reads' HO174.out).2.1); rintro e w8 ⟨v176, rfl, ho0, hb⟩; refine ⟨_, rfl, ?_⟩; have n0_ := Aside0.mk (Kd.R_below (by (with_reducible repeat (first | apply Kd.R_alloc | apply Kd.R_drewN | apply Kd.R_drew)); exact HO174.out) hb); have n1_ := Aside0.mk (Kd.R_lower ho0 (below_size (by repeat (first | (with_reducible first | exact HB.out | apply below_alloc | apply pw_below_drewN | apply below_drew1) | exact HB.out)))); have n2_ := Aside0.mk (below_step (by repeat (first | (with_reducible first | exact HB.out | apply below_alloc | apply pw_below_drewN | apply below_drew1) | exact HB.out)) hb); clear HO174; clear HB; have HO174 := n0_; have HO177 := n1_; have HB := n2_; clear n0_ n1_ n2_; (try clear hb); (try clear hb2); (try clear hk); (try clear hi); (try clear ho0); obtain ⟨Ao9, co9, eo9⟩ := Kd.R_slice HO177.out; subst eo9; have p179 : 0 ≤ (0 : Int) := (by omega); have q179 : 0 < (t175.length : Int) := of_decide_eq_true (by first | (with_reducible assumption) | assumption); obtain ⟨ad179, e179, hx179_0, hx179_1, hx179_2, hx179_3, hx179_4, hx179_5, hx179_6, hx179_7, hx179_8, hx179_9, hx179_10⟩ := at_T44 (Kd.R_reads' HO177.out).2.2 0 p179 q179; cases e179; have qi179 : (0 < t175.length) = True := eq_true (by omega); (try rw [show ((0 : Int)).toNat = 0 from rfl] at hx179_0); (try rw [show 0 * 11 = 0 from rfl] at hx179_0); (try rw [Addr.add_zero'] at hx179_0); (try rw [show ((0 : Int)).toNat = 0 from rfl] at hx179_1); (try rw [show 0 * 11 = 0 from rfl] at hx179_1); (try rw [Addr.add_zero'] at hx179_1); (try rw [show ((0 : Int)).toNat = 0 from rfl] at hx179_2); (try rw [show 0 * 11 = 0 from rfl] at hx179_2); (try rw [Addr.add_zero'] at hx179_2); (try rw [show ((0 : Int)).toNat = 0 from rfl] at hx179_3); (try rw [show 0 * 11 = 0 from rfl] at hx179_3); (try rw [Addr.add_zero'] at hx179_3); (try rw [show ((0 : Int)).toNat = 0 from rfl] at hx179_4); (try rw [show 0 * 11 = 0 from rfl] at hx179_4); (try rw [Addr.add_zero'] at hx179_4); (try rw [show ((0 : Int)).toNat = 0 from rfl] at hx179_5); (try rw [show 0 * 11 = 0 from rfl] at hx179_5); (try rw [Addr.add_zero'] at hx179_5); (try rw [show ((0 : Int)).toNat = 0 from rfl] at hx179_6); (try rw [show 0 * 11 = 0 from rfl] at hx179_6); (try rw [Addr.add_zero'] at hx179_6); (try rw [show ((0 : Int)).toNat = 0 from rfl] at hx179_7); (try rw [show 0 * 11 = 0 from rfl] at hx179_7); (try rw [Addr.add_zero'] at hx179_7); (try rw [show ((0 : Int)).toNat = 0 from rfl] at hx179_8); (try rw [show 0 * 11 = 0 from rfl] at hx179_8); (try rw [Addr.add_zero'] at hx179_8); (try rw [show ((0 : Int)).toNat = 0 from rfl] at hx179_9); (try rw [show 0 * 11 = 0 from rfl] at hx179_9); (try rw [Addr.add_zero'] at hx179_9); (try rw [show ((0 : Int)).toNat = 0 from rfl] at hx179_10); (try rw [show 0 * 11 = 0 from rfl] at hx179_10); (try rw [Addr.add_zero'] at hx179_10); replace p179 := eq_true p179; replace q179 := eq_true q179))
       go_ret
       exact ⟨by first | rfl | (simp [errW_none, errW_some] <;> rfl) | (simp [*, errW_none, errW_some] <;> rfl), by repeat (first | (with_reducible first | exact HB.out | apply below_alloc | apply pw_below_drewN | apply below_drew1) | exact HB.out)⟩
     · rw [if_neg c5] at H
       exact absurd H (by simp)
   · rw [if_neg c4] at H
     have c4b0 : ((t175.length : Int) == 1) = false := beq_eq_false_iff_ne.mpr c4
     have c4b1 : ((t175.length : Int) != 1) = true := bne_iff_ne.mpr c4
     obtain rfl := Option.some.inj H
     go_enter Tryd.func12, Tryd.ntmps12
     go_wp2_with (first | ((with_reducible refine gate_callee (f := 10) rfl ?_); refine goesL_ (some 4) rfl rfl Tryd.func10 (by kernel_rfl) rfl #[] rfl (by (try simp only [List.map_toArray, List.map_cons, List.map_nil]); first | done | rfl | (simp only [List.length_drop, List.length_take]; rfl)) ?_; (with_reducible refine (laws_all.calls  t171 t172 _ A1.out).mono ?_); rintro e w10 ⟨v173, rfl, ho0, hb⟩; refine ⟨_, rfl, ?_⟩; have n0_ := Aside0.mk (Kd.R_lower ho0 (below_size (by repeat (first | (with_reducible first | exact HB.out | apply below_alloc | apply pw_below_drewN | apply below_drew1) | exact HB.out)))); have n1_ := Aside0.mk (below_step (by repeat (first | (with_reducible first | exact HB.out | apply below_alloc | apply pw_below_drewN | apply below_drew1) | exact HB.out)) hb); clear HB; have HO174 := n0_; have HB := n1_; clear n0_ n1_; (try clear hb); (try clear hb2); (try clear hk); (try clear hi); (try clear ho0); obtain ⟨Ao11, co11, eo11⟩ := Kd.R_slice HO174.out; subst eo11) | ((with_reducible refine gate_callee (f := 9) rfl ?_); refine goesL_ (some 5) rfl rfl Tryd.func9 (by kernel_rfl) rfl #[.string (⟨#[51, 54, 32, 51, 53, 32, 57, 56, 58, 48, 32, 47, 109, 110, 116, 49, 32, 47, 109, 110, 116, 50, 32, 114, 119, 44, 110, 111, 97, 116, 105, 109, 101, 32, 109, 97, 115, 116, 101, 114, 58, 49, 32, 45, 32, 101, 120, 116, 51, 32, 47, 100, 101, 118, 47, 114, 111, 111, 116, 32, 114, 119, 44, 101, 114, 114, 111, 114, 115, 61, 99, 111, 110, 116, 105, 110, 117, 101, 10]⟩ : ByteArray), .agg #[.int .i64 t171, .slice Ao11 t172.length co11]] rfl (by (try simp only [List.map_toArray, List.map_cons, List.map_nil]); first | done | rfl | (simp only [List.length_drop, List.length_take]; rfl)) ?_; (with_reducible refine (impl_Mounts.calls (⟨#[51, 54, 32, 51, 53, 32, 57, 56, 58, 48, 32, 47, 109, 110, 116, 49, 32, 47, 109, 110, 116, 50, 32, 114, 119, 44, 110, 111, 97, 116, 105, 109, 101, 32, 109, 97, 115, 116, 101, 114, 58, 49, 32, 45, 32, 101, 120, 116, 51, 32, 47, 100, 101, 118, 47, 114, 111, 111, 116, 32, 114, 119, 44, 101, 114, 114, 111, 114, 115, 61, 99, 111, 110, 116, 105, 110, 117, 101, 10]⟩ : ByteArray) t171 _ _ t172 t175 t178 _ ?side1 ?side2 A2.out).mono ?_); (case side1 => repeat (first | exact (Kd.R_reads' HO174.out).2.2 | (with_reducible refine Kd.C_alloc ?_ _) | (with_reducible refine Kd.C_drewN ?_ _) | (with_reducible refine Kd.C_drew ?_))); (case side2 => exact (Kd.R_reads' HO174.out).2.1); rintro e w12 ⟨v176, rfl, ho0, hb⟩; refine ⟨_, rfl, ?_⟩; have n0_ := Aside0.mk (Kd.R_below (by (with_reducible repeat (first | apply Kd.R_alloc | apply Kd.R_drewN | apply Kd.R_drew)); exact HO174.out) hb); have n1_ := Aside0.mk (Kd.R_lower ho0 (below_size (by repeat (first | (with_reducible first | exact HB.out | apply below_alloc | apply pw_below_drewN | apply below_drew1) | exact HB.out)))); have n2_ := Aside0.mk (below_step (by repeat (first | (with_reducible first | exact HB.out | apply below_alloc | apply pw_below_drewN | apply below_drew1) | exact HB.out)) hb); clear HO174; clear HB; have HO174 := n0_; have HO177 := n1_; have HB := n2_; clear n0_ n1_ n2_; (try clear hb); (try clear hb2); (try clear hk); (try clear hi); (try clear ho0); obtain ⟨Ao13, co13, eo13⟩ := Kd.R_slice HO177.out; subst eo13))
     go_ret
     exact ⟨by first | rfl | (simp [errW_none, errW_some] <;> rfl) | (simp [*, errW_none, errW_some] <;> rfl), by repeat (first | (with_reducible first | exact HB.out | apply below_alloc | apply pw_below_drewN | apply below_drew1) | exact HB.out)⟩
 · rw [if_neg c3] at H
   have c3b0 : (t178 == 0) = false := beq_eq_false_iff_ne.mpr c3
   have c3b1 : (t178 != 0) = true := bne_iff_ne.mpr c3
   obtain rfl := Option.some.inj H
   go_enter Tryd.func12, Tryd.ntmps12
   go_wp2_with (first | ((with_reducible refine gate_callee (f := 10) rfl ?_); refine goesL_ (some 4) rfl rfl Tryd.func10 (by kernel_rfl) rfl #[] rfl (by (try simp only [List.map_toArray, List.map_cons, List.map_nil]); first | done | rfl | (simp only [List.length_drop, List.length_take]; rfl)) ?_; (with_reducible refine (laws_all.calls  t171 t172 _ A1.out).mono ?_); rintro e w14 ⟨v173, rfl, ho0, hb⟩; refine ⟨_, rfl, ?_⟩; have n0_ := Aside0.mk (Kd.R_lower ho0 (below_size (by repeat (first | (with_reducible first | exact HB.out | apply below_alloc | apply pw_below_drewN | apply below_drew1) | exact HB.out)))); have n1_ := Aside0.mk (below_step (by repeat (first | (with_reducible first | exact HB.out | apply below_alloc | apply pw_below_drewN | apply below_drew1) | exact HB.out)) hb); clear HB; have HO174 := n0_; have HB := n1_; clear n0_ n1_; (try clear hb); (try clear hb2); (try clear hk); (try clear hi); (try clear ho0); obtain ⟨Ao15, co15, eo15⟩ := Kd.R_slice HO174.out; subst eo15) | ((with_reducible refine gate_callee (f := 9) rfl ?_); refine goesL_ (some 5) rfl rfl Tryd.func9 (by kernel_rfl) rfl #[.string (⟨#[51, 54, 32, 51, 53, 32, 57, 56, 58, 48, 32, 47, 109, 110, 116, 49, 32, 47, 109, 110, 116, 50, 32, 114, 119, 44, 110, 111, 97, 116, 105, 109, 101, 32, 109, 97, 115, 116, 101, 114, 58, 49, 32, 45, 32, 101, 120, 116, 51, 32, 47, 100, 101, 118, 47, 114, 111, 111, 116, 32, 114, 119, 44, 101, 114, 114, 111, 114, 115, 61, 99, 111, 110, 116, 105, 110, 117, 101, 10]⟩ : ByteArray), .agg #[.int .i64 t171, .slice Ao15 t172.length co15]] rfl (by (try simp only [List.map_toArray, List.map_cons, List.map_nil]); first | done | rfl | (simp only [List.length_drop, List.length_take]; rfl)) ?_; (with_reducible refine (impl_Mounts.calls (⟨#[51, 54, 32, 51, 53, 32, 57, 56, 58, 48, 32, 47, 109, 110, 116, 49, 32, 47, 109, 110, 116, 50, 32, 114, 119, 44, 110, 111, 97, 116, 105, 109, 101, 32, 109, 97, 115, 116, 101, 114, 58, 49, 32, 45, 32, 101, 120, 116, 51, 32, 47, 100, 101, 118, 47, 114, 111, 111, 116, 32, 114, 119, 44, 101, 114, 114, 111, 114, 115, 61, 99, 111, 110, 116, 105, 110, 117, 101, 10]⟩ : ByteArray) t171 _ _ t172 t175 t178 _ ?side1 ?side2 A2.out).mono ?_); (case side1 => repeat (first | exact (Kd.R_reads' HO174.out).2.2 | (with_reducible refine Kd.C_alloc ?_ _) | (with_reducible refine Kd.C_drewN ?_ _) | (with_reducible refine Kd.C_drew ?_))); (case side2 => exact (Kd.R_reads' HO174.out).2.1); rintro e w16 ⟨v176, rfl, ho0, hb⟩; refine ⟨_, rfl, ?_⟩; have n0_ := Aside0.mk (Kd.R_below (by (with_reducible repeat (first | apply Kd.R_alloc | apply Kd.R_drewN | apply Kd.R_drew)); exact HO174.out) hb); have n1_ := Aside0.mk (Kd.R_lower ho0 (below_size (by repeat (first | (with_reducible first | exact HB.out | apply below_alloc | apply pw_below_drewN | apply below_drew1) | exact HB.out)))); have n2_ := Aside0.mk (below_step (by repeat (first | (with_reducible first | exact HB.out | apply below_alloc | apply pw_below_drewN | apply below_drew1) | exact HB.out)) hb); clear HO174; clear HB; have HO174 := n0_; have HO177 := n1_; have HB := n2_; clear n0_ n1_ n2_; (try clear hb); (try clear hb2); (try clear hk); (try clear hi); (try clear ho0)))
   go_ret
   exact ⟨by first | rfl | (simp [errW_none, errW_some] <;> rfl) | (simp [*, errW_none, errW_some] <;> rfl), by repeat (first | (with_reducible first | exact HB.out | apply below_alloc | apply pw_below_drewN | apply below_drew1) | exact HB.out)⟩
def laws_zzFits4.l0 : Nat → List ByteArray → Int → Int → Option (Bool)
 | 0, _, _, _ => none
 | k + 1, x8, x9, x10 => if x10 < x9 then (if 0 ≤ x10 then (if x10 < (x8.length : Int) then (if ((rdOf ByteArray.empty x8 x10).size : Int) > 2147483647 then (some false) else (laws_zzFits4.l0 k x8 x9 (wrap64 (x10 + 1)))) else (none)) else (none)) else (some true)
def laws_zzFits4.f (k : Nat) (l0 : List ByteArray) : Option (Bool) := if (l0.length : Int) > 2147483647 then (some false) else (laws_zzFits4.l0 k l0 (l0.length : Int) 0)
set_option maxHeartbeats 8000000 in
set_option maxRecDepth 100000 in
theorem laws_zzFits4.calls (k : Nat) (A0 : Option Addr) (c0 : Nat) (l0 : List ByteArray) (r : Bool) (w : World) (hr0 : Kd.C Kd.string w A0 l0.length l0) (hc0 : l0.length ≤ c0) (h : laws_zzFits4.f k l0 = some r) :
 Calls Tryd.prog 27 #[.slice A0 l0.length c0] w fun e w' => e = .returned (.bool r) ∧ Drawn0 w w' := by
 have HR0 := Aside0.mk hr0
 have HC0 := Aside0.mk hc0
 clear hr0 hc0
 have H : (if (l0.length : Int) > 2147483647 then (some false) else (laws_zzFits4.l0 k l0 (l0.length : Int) 0)) = some r := h
 clear h
 by_cases c2 : (l0.length : Int) > 2147483647
 · rw [if_pos c2] at H
   have c2b0 : decide (2147483647 < (l0.length : Int)) = true := decide_eq_true c2
   have c2b1 : decide (2147483647 < l0.length) = true := decide_eq_true (by omega)
   clear c2
   obtain rfl := Option.some.inj H
   go_enter Tryd.func27, Tryd.ntmps27
   go_wp2
   go_ret
   exact ⟨by first | rfl | (simp; done) | (simp [*]; done), by repeat (first | exact Drawn0.refl _ | apply Drawn0.step)⟩
 · rw [if_neg c2] at H
   have c2b0 : decide (2147483647 < (l0.length : Int)) = false := decide_eq_false c2
   have c2b1 : decide (2147483647 < l0.length) = false := decide_eq_false (by omega)
   clear c2
   have H' := Aside0.mk H
   clear H
   go_enter Tryd.func27, Tryd.ntmps27
   go_wp2
   go_loopg [10] k (fun kq v10 w' => ∃ (x10_1 : Int), v10 = .int .i64 x10_1 ∧ Aside0 (laws_zzFits4.l0 kq l0 (l0.length : Int) x10_1 = some r) ∧ Aside0 (kq ≤ k) ∧ Drawn0 w w')
   case atStart => exact ⟨(0), (by first | rfl | (simp; done) | (simp [*]; done)), H', ⟨Nat.le_refl _⟩, by repeat (first | exact Drawn0.refl _ | apply Drawn0.step)⟩
   case round =>
    clear H'
    try clear c2
    try clear c2b0
    try clear c2b1
    try clear p2
    obtain ⟨x10_1, rfl, HA, HK1, ⟨m1, rfl⟩⟩ := hrel
    cases gk with
    | zero => exact absurd HA.out (by simp [laws_zzFits4.l0])
    | succ k1 =>
     have H := HA.out
     clear HA
     simp only [laws_zzFits4.l0] at H
     by_cases c3 : x10_1 < (l0.length : Int)
     · rw [if_pos c3] at H
       have c3b0 : decide (x10_1 < (l0.length : Int)) = true := decide_eq_true c3
       clear c3
       by_cases c4 : 0 ≤ x10_1
       · rw [if_pos c4] at H
         have c4b0 : decide (0 ≤ x10_1) = true := decide_eq_true c4
         clear c4
         by_cases c5 : x10_1 < (l0.length : Int)
         · rw [if_pos c5] at H
           have c5b0 : decide (x10_1 < (l0.length : Int)) = true := decide_eq_true c5
           clear c5
           by_cases c6 : ((rdOf ByteArray.empty l0 x10_1).size : Int) > 2147483647
           · rw [if_pos c6] at H
             have c6b0 : decide (2147483647 < ((rdOf ByteArray.empty l0 x10_1).size : Int)) = true := decide_eq_true c6
             have c6b1 : decide (2147483647 < (rdOf ByteArray.empty l0 x10_1).size) = true := decide_eq_true (by omega)
             clear c6
             obtain rfl := Option.some.inj H
             have p193 : 0 ≤ (x10_1 : Int) := of_decide_eq_true (by first | (with_reducible assumption) | assumption)
             have q193 : x10_1 < (l0.length : Int) := of_decide_eq_true (by first | (with_reducible assumption) | assumption)
             obtain ⟨ad193, e193, hx193_0⟩ := Kd.at_string HR0.out x10_1 p193 q193
             cases e193
             replace p193 := eq_true p193
             replace q193 := eq_true q193
             go_wp2
             go_ret
             exact ⟨by first | rfl | (simp; done) | (simp [*]; done), by repeat (first | exact Drawn0.refl _ | apply Drawn0.step)⟩
           · rw [if_neg c6] at H
             have c6b0 : decide (2147483647 < ((rdOf ByteArray.empty l0 x10_1).size : Int)) = false := decide_eq_false c6
             have c6b1 : decide (2147483647 < (rdOf ByteArray.empty l0 x10_1).size) = false := decide_eq_false (by omega)
             clear c6
             have H' := Aside0.mk H
             clear H
             have p193 : 0 ≤ (x10_1 : Int) := of_decide_eq_true (by first | (with_reducible assumption) | assumption)
             have q193 : x10_1 < (l0.length : Int) := of_decide_eq_true (by first | (with_reducible assumption) | assumption)
             obtain ⟨ad193, e193, hx193_0⟩ := Kd.at_string HR0.out x10_1 p193 q193
             cases e193
             replace p193 := eq_true p193
             replace q193 := eq_true q193
             go_wp2
             go_roundg k1
             case measure => have := HK1.out; omega
             case rel => exact ⟨(wrap64 (x10_1 + 1)), (by first | rfl | (simp; done) | (simp [*]; done)), H', ⟨by have := HK1.out; omega⟩, by repeat (first | exact Drawn0.refl _ | apply Drawn0.step)⟩
         · rw [if_neg c5] at H
           exact absurd H (by simp)
       · rw [if_neg c4] at H
         exact absurd H (by simp)
     · rw [if_neg c3] at H
       have c3b0 : decide (x10_1 < (l0.length : Int)) = false := decide_eq_false c3
       clear c3
       obtain rfl := Option.some.inj H
       go_wp2
       go_ret
       exact ⟨by first | rfl | (simp; done) | (simp [*]; done), by repeat (first | exact Drawn0.refl _ | apply Drawn0.step)⟩
def laws_zzFits3.f (k : Nat) (a0_0 : Int) (l0_1 : List ByteArray) : Option (Bool) := (laws_zzFits4.f k l0_1).bind fun t195 => (if t195 = true then (some true) else (some false))
set_option maxHeartbeats 8000000 in
set_option maxRecDepth 100000 in
theorem laws_zzFits3.calls (k : Nat) (a0_0 : Int) (A0_1 : Option Addr) (c0_1 : Nat) (l0_1 : List ByteArray) (r : Bool) (w : World) (hr0_1 : Kd.C Kd.string w A0_1 l0_1.length l0_1) (hc0_1 : l0_1.length ≤ c0_1) (h : laws_zzFits3.f k a0_0 l0_1 = some r) :
 Calls Tryd.prog 13 #[.agg #[.int .i64 a0_0, .slice A0_1 l0_1.length c0_1]] w fun e w' => e = .returned (.bool r) ∧ Below w.heap.size w w' := by
 have hu30 := Tryd.underlying30
 have HR0_1 := Aside0.mk hr0_1
 have HC0_1 := Aside0.mk hc0_1
 clear hr0_1 hc0_1
 have HB := Aside0.mk (Below.refl w.heap.size w)
 have H : ((laws_zzFits4.f k l0_1).bind fun t195 => (if t195 = true then (some true) else (some false))) = some r := h
 clear h
 replace H := Option.bind_eq_some_iff.mp H
 obtain ⟨t195, A20, H⟩ := H
 replace H : (if t195 = true then (some true) else (some false)) = some r := H
 have A2 := Aside0.mk A20
 clear A20
 by_cases c3 : t195 = true
 · subst c3
   have H1 : (some true) = some r := by rw [if_pos rfl] at H; exact H
   clear H
   have H := H1
   clear H1
   obtain rfl := Option.some.inj H
   go_enter Tryd.func13, Tryd.ntmps13
   go_wp2_with (first | ((with_reducible refine gate_dst (N := 1) rfl ?_); refine box_event ?hg (N := 1) ?hd (cs := #[.int .i64 a0_0, .slice A0_1 l0_1.length c0_1]) (t := 30) ?hr ?_; (case hd => rfl); (case hg => rfl); (case hr => first | (go_simp; done) | (go_simp; rfl)); intro gb194 hg w4 hbox hb; have n0_ := Aside0.mk (below_step (by repeat (first | (with_reducible first | exact HB.out | apply below_alloc | apply pw_below_drewN | apply below_drew1) | exact HB.out)) hb); have n1_ := Aside0.mk (hbox); have n2_ := Aside0.mk ((by rw [hg]; exact (below_size (by repeat (first | (with_reducible first | exact HB.out | apply below_alloc | apply pw_below_drewN | apply below_drew1) | exact HB.out))) : w.heap.size ≤ gb194)); have n3_ := Aside0.mk ((by rw [hg]; exact (below_size (by repeat (first | (with_reducible first | exact HB.out | apply below_alloc | apply pw_below_drewN | apply below_drew1) | exact HB.out))) : w.heap.size ≤ gb194)); clear HB; have HB := n0_; have BK194 := n1_; have GW194 := n2_; have GE194 := n3_; clear n0_ n1_ n2_ n3_; clear hb hbox hg; have hcz5_0 : w4.cell? ⟨gb194, 0, none⟩ = some (.int .i64 a0_0) := (blk_cell BK194.out 0).trans rfl; have hcz5_1 : w4.cell? ⟨gb194, 1, none⟩ = some (.slice A0_1 l0_1.length c0_1) := (blk_cell BK194.out 1).trans rfl; have hfz5_0 := blk_frozen BK194.out 0; have hfz5_1 := blk_frozen BK194.out 1) | ((with_reducible refine gate_callee (f := 27) rfl ?_); refine goesL_ (some 5) rfl rfl Tryd.func27 (by kernel_rfl) rfl #[.slice A0_1 l0_1.length c0_1] rfl (by (try simp only [List.map_toArray, List.map_cons, List.map_nil]); first | done | rfl | (simp only [List.length_drop, List.length_take]; rfl)) ?_; (with_reducible refine (laws_zzFits4.calls k _ _ l0_1 true _ ?side1 ?side2 A2.out).mono ?_); (case side1 => repeat (first | exact (Kd.C_below HR0_1.out HB.out) | (with_reducible refine Kd.C_alloc ?_ _) | (with_reducible refine Kd.C_drewN ?_ _) | (with_reducible refine Kd.C_drew ?_))); (case side2 => exact HC0_1.out); rintro e w' ⟨rfl, ⟨nd, rfl⟩⟩; refine ⟨_, rfl, ?_⟩))
   go_ret
   exact ⟨by first | rfl | (simp [errW_none, errW_some] <;> rfl) | (simp [*, errW_none, errW_some] <;> rfl), by repeat (first | (with_reducible first | exact HB.out | apply below_alloc | apply pw_below_drewN | apply below_drew1 | refine below_set ?_ GE194.out) | exact HB.out)⟩
 · replace c3 := Bool.eq_false_iff.mpr c3
   subst c3
   have H1 : (some false) = some r := by rw [if_neg (show ¬ (false = true) by decide)] at H; exact H
   clear H
   have H := H1
   clear H1
   obtain rfl := Option.some.inj H
   go_enter Tryd.func13, Tryd.ntmps13
   go_wp2_with (first | ((with_reducible refine gate_dst (N := 1) rfl ?_); refine box_event ?hg (N := 1) ?hd (cs := #[.int .i64 a0_0, .slice A0_1 l0_1.length c0_1]) (t := 30) ?hr ?_; (case hd => rfl); (case hg => rfl); (case hr => first | (go_simp; done) | (go_simp; rfl)); intro gb194 hg w6 hbox hb; have n0_ := Aside0.mk (below_step (by repeat (first | (with_reducible first | exact HB.out | apply below_alloc | apply pw_below_drewN | apply below_drew1) | exact HB.out)) hb); have n1_ := Aside0.mk (hbox); have n2_ := Aside0.mk ((by rw [hg]; exact (below_size (by repeat (first | (with_reducible first | exact HB.out | apply below_alloc | apply pw_below_drewN | apply below_drew1) | exact HB.out))) : w.heap.size ≤ gb194)); have n3_ := Aside0.mk ((by rw [hg]; exact (below_size (by repeat (first | (with_reducible first | exact HB.out | apply below_alloc | apply pw_below_drewN | apply below_drew1) | exact HB.out))) : w.heap.size ≤ gb194)); clear HB; have HB := n0_; have BK194 := n1_; have GW194 := n2_; have GE194 := n3_; clear n0_ n1_ n2_ n3_; clear hb hbox hg; have hcz7_0 : w6.cell? ⟨gb194, 0, none⟩ = some (.int .i64 a0_0) := (blk_cell BK194.out 0).trans rfl; have hcz7_1 : w6.cell? ⟨gb194, 1, none⟩ = some (.slice A0_1 l0_1.length c0_1) := (blk_cell BK194.out 1).trans rfl; have hfz7_0 := blk_frozen BK194.out 0; have hfz7_1 := blk_frozen BK194.out 1) | ((with_reducible refine gate_callee (f := 27) rfl ?_); refine goesL_ (some 5) rfl rfl Tryd.func27 (by kernel_rfl) rfl #[.slice A0_1 l0_1.length c0_1] rfl (by (try simp only [List.map_toArray, List.map_cons, List.map_nil]); first | done | rfl | (simp only [List.length_drop, List.length_take]; rfl)) ?_; (with_reducible refine (laws_zzFits4.calls k _ _ l0_1 false _ ?side1 ?side2 A2.out).mono ?_); (case side1 => repeat (first | exact (Kd.C_below HR0_1.out HB.out) | (with_reducible refine Kd.C_alloc ?_ _) | (with_reducible refine Kd.C_drewN ?_ _) | (with_reducible refine Kd.C_drew ?_))); (case side2 => exact HC0_1.out); rintro e w' ⟨rfl, ⟨nd, rfl⟩⟩; refine ⟨_, rfl, ?_⟩))
   go_ret
   exact ⟨by first | rfl | (simp [errW_none, errW_some] <;> rfl) | (simp [*, errW_none, errW_some] <;> rfl), by repeat (first | (with_reducible first | exact HB.out | apply below_alloc | apply pw_below_drewN | apply below_drew1 | refine below_set ?_ GE194.out) | exact HB.out)⟩
end Go.Proofs.YtcpldcndhijecaaDoor.QM0
namespace Go.Proofs.YtcpldcndhijecaaDoor.QM0
open Go.RowKit Go.Proofs.YtcpldcndhijecaaDoorW.PrintWords Go.Proofs.YtcpldcndhijecaaDoorW.PrintLast Go.Proofs.YtcpldcndhijecaaDoorW.PrintMore
attribute [local go_sem] max2_int min2_int max_two min_two max_three min_three max_four min_four
set_option linter.unusedVariables false
set_option linter.unusedSimpArgs false
mutual
def spec_cleanPath.j0 : Nat → ByteArray → Bool → Option (Bool)
 | 0, _, _ => none
 | k + 1, x0, x21 => if x21 = true then (some false) else (spec_cleanPath.l0 k x0 (⟨#[]⟩ : ByteArray) 1)
def spec_cleanPath.l0 : Nat → ByteArray → ByteArray → Int → Option (Bool)
 | 0, _, _, _ => none
 | k + 1, x0, x3, x4 => if x4 ≤ (x0.size : Int) then (if x4 < (x0.size : Int) then (if 0 ≤ x4 then (spec_cleanPath.j2 k x0 x3 x4 ((bt x0 x4) != 47)) else (none)) else (spec_cleanPath.j2 k x0 x3 x4 false)) else (some true)
def spec_cleanPath.j2 : Nat → ByteArray → ByteArray → Int → Bool → Option (Bool)
 | 0, _, _, _, _ => none
 | k + 1, x0, x3, x4, x37 => if x37 = true then (if 0 ≤ x4 then (if x4 ≤ (wrap64 (x4 + 1)) then (if (wrap64 (x4 + 1)) ≤ (x0.size : Int) then (if x3.size + (x0.extract (x4 : Int).toNat ((wrap64 (x4 + 1)) : Int).toNat).size ≤ 9223372036854775807 then (spec_cleanPath.l0 k x0 (x3 ++ (x0.extract (x4 : Int).toNat ((wrap64 (x4 + 1)) : Int).toNat)) (wrap64 (x4 + 1))) else (none)) else (none)) else (none)) else (none)) else (if x3.toList = ([] : List UInt8) then (some false) else (if x3.toList = ([46] : List UInt8) then (some false) else (if x3.toList = ([46, 46] : List UInt8) then (some false) else (spec_cleanPath.l0 k x0 (⟨#[]⟩ : ByteArray) (wrap64 (x4 + 1))))))
end
def spec_cleanPath.f (k : Nat) (a0 : ByteArray) : Option (Bool) := if a0.toList = ([47] : List UInt8) then (some true) else (if a0.toList = ([] : List UInt8) then (spec_cleanPath.j0 k a0 true) else (if 0 < (a0.size : Int) then (if (bt a0 0) = 47 then (if 0 ≤ (wrap64 ((a0.size : Int) - 1)) then (if (wrap64 ((a0.size : Int) - 1)) < (a0.size : Int) then (spec_cleanPath.j0 k a0 ((bt a0 (wrap64 ((a0.size : Int) - 1))) == 47)) else (none)) else (none)) else (spec_cleanPath.j0 k a0 true)) else (none)))
set_option maxHeartbeats 8000000 in
set_option maxRecDepth 100000 in
theorem spec_cleanPath.calls (k : Nat) (a0 : ByteArray) (r : Bool) (w : World) (h : spec_cleanPath.f k a0 = some r) :
 Calls Tryd.prog 49 #[.string a0] w fun e w' => e = .returned (.bool r) ∧ Drawn0 w w' := by
 have H : (if a0.toList = ([47] : List UInt8) then (some true) else (if a0.toList = ([] : List UInt8) then (spec_cleanPath.j0 k a0 true) else (if 0 < (a0.size : Int) then (if (bt a0 0) = 47 then (if 0 ≤ (wrap64 ((a0.size : Int) - 1)) then (if (wrap64 ((a0.size : Int) - 1)) < (a0.size : Int) then (spec_cleanPath.j0 k a0 ((bt a0 (wrap64 ((a0.size : Int) - 1))) == 47)) else (none)) else (none)) else (spec_cleanPath.j0 k a0 true)) else (none)))) = some r := h
 clear h
 by_cases c2 : a0.toList = ([47] : List UInt8)
 · rw [if_pos c2] at H
   have c2b0 : (a0.toList == ([47] : List UInt8)) = true := beq_iff_eq.mpr c2
   have c2b1 : (a0.toList != ([47] : List UInt8)) = false := bne_eq_false_iff_eq.mpr c2
   clear c2
   obtain rfl := Option.some.inj H
   go_enter Tryd.func49, Tryd.ntmps49
   go_wp2
   go_ret
   exact ⟨by first | rfl | (simp; done) | (simp [*]; done), by repeat (first | exact Drawn0.refl _ | apply Drawn0.step)⟩
 · rw [if_neg c2] at H
   have c2b0 : (a0.toList == ([47] : List UInt8)) = false := beq_eq_false_iff_ne.mpr c2
   have c2b1 : (a0.toList != ([47] : List UInt8)) = true := bne_iff_ne.mpr c2
   have HC3 := Aside0.mk H
   clear H
   go_enter Tryd.func49, Tryd.ntmps49
   go_upto_region 3 with (fail)
   go_cut [21] (fun v21 wc => ∃ (kq : Nat) (x21_2 : Bool), v21 = .bool x21_2 ∧ Aside0 (spec_cleanPath.j0 kq a0 x21_2 = some r) ∧ Aside0 (kq ≤ k) ∧ Drawn0 w wc)
   case first =>
    have H := HC3.out
    clear HC3
    by_cases c4 : a0.toList = ([] : List UInt8)
    · rw [if_pos c4] at H
      have c4b0 : (a0.toList == ([] : List UInt8)) = true := beq_iff_eq.mpr c4
      have c4b1 : (a0.toList != ([] : List UInt8)) = false := bne_eq_false_iff_eq.mpr c4
      clear c4
      (first | rw [c4b0] | (simp only [i64_w, i32_w]; rw [c4b0]) | skip)
      have H' := Aside0.mk H
      clear H
      go_wp2
      go_meet
      case rel => exact ⟨_, (true), (by first | rfl | (simp; done) | (simp [*]; done)), H', ⟨by first | omega | exact Nat.le_refl _⟩, by repeat (first | exact Drawn0.refl _ | apply Drawn0.step)⟩
    · rw [if_neg c4] at H
      have c4b0 : (a0.toList == ([] : List UInt8)) = false := beq_eq_false_iff_ne.mpr c4
      have c4b1 : (a0.toList != ([] : List UInt8)) = true := bne_iff_ne.mpr c4
      (first | rw [c4b0] | (simp only [i64_w, i32_w]; rw [c4b0]) | skip)
      by_cases c5 : 0 < (a0.size : Int)
      · rw [if_pos c5] at H
        have c5b0 : decide (0 < (a0.size : Int)) = true := decide_eq_true c5
        have c5b1 : decide (0 < a0.size) = true := decide_eq_true (by omega)
        clear c5
        by_cases c7 : (bt a0 0) = 47
        · rw [if_pos c7] at H
          have c7b0 : ((bt a0 0) == 47) = true := beq_iff_eq.mpr c7
          have c7b1 : ((bt a0 0) != 47) = false := bne_eq_false_iff_eq.mpr c7
          clear c7
          obtain ⟨ji8, hji8⟩ : ∃ j_ : Int, (wrap64 ((a0.size : Int) - 1)) = j_ := ⟨_, rfl⟩
          replace H : (if 0 ≤ (ji8) then (if (ji8) < (a0.size : Int) then (spec_cleanPath.j0 k a0 ((bt a0 (ji8)) == 47)) else (none)) else (none)) = some r := by first | (rw [hji8] at H; exact H) | (simp only [hji8] at H ⊢; exact H)
          have hji8w : (IntKind.i64.wrap ((a0.size : Int) - 1)) = ji8 := (i64_w _).trans hji8
          by_cases c9 : 0 ≤ (ji8)
          · rw [if_pos c9] at H
            have c9b0 : decide (0 ≤ (ji8)) = true := decide_eq_true c9
            clear c9
            by_cases c10 : (ji8) < (a0.size : Int)
            · rw [if_pos c10] at H
              have c10b0 : decide ((ji8) < (a0.size : Int)) = true := decide_eq_true c10
              clear c10
              have H' := Aside0.mk H
              clear H
              have p6 : 0 ≤ (0 : Int) := (by omega)
              have q6 : 0 < a0.size := (by have : (0 : Int) < (a0.size : Int) := of_decide_eq_true (by first | (with_reducible assumption) | assumption); omega)
              have hx6 : ∀ h : 0 < a0.size, ((a0[0]'h).toNat : Int) = bt a0 0 := bt_at a0 0
              clear p6
              have qi6 : (0 < (a0.size : Int)) = True := eq_true (of_decide_eq_true (by first | (with_reducible assumption) | assumption))
              replace q6 := eq_true q6
              have p11 : 0 ≤ ((ji8) : Int) := of_decide_eq_true (by first | (with_reducible assumption) | assumption)
              have q11 : (ji8) < (a0.size : Int) := of_decide_eq_true (by first | (with_reducible assumption) | assumption)
              have hx11 := bt_at a0 (ji8)
              replace p11 := eq_true p11
              replace q11 := eq_true q11
              go_wp2
              go_meet
              case rel => exact ⟨_, (((bt a0 (ji8)) == 47)), (by first | rfl | (simp; done) | (simp only [← hji8] <;> (first | rfl | simp)) | (simp [*]; done)), H', ⟨by first | omega | exact Nat.le_refl _⟩, by repeat (first | exact Drawn0.refl _ | apply Drawn0.step)⟩
            · rw [if_neg c10] at H
              exact absurd H (by simp)
          · rw [if_neg c9] at H
            exact absurd H (by simp)
        · rw [if_neg c7] at H
          have c7b0 : ((bt a0 0) == 47) = false := beq_eq_false_iff_ne.mpr c7
          have c7b1 : ((bt a0 0) != 47) = true := bne_iff_ne.mpr c7
          have H' := Aside0.mk H
          clear H
          have p6 : 0 ≤ (0 : Int) := (by omega)
          have q6 : 0 < a0.size := (by have : (0 : Int) < (a0.size : Int) := of_decide_eq_true (by first | (with_reducible assumption) | assumption); omega)
          have hx6 : ∀ h : 0 < a0.size, ((a0[0]'h).toNat : Int) = bt a0 0 := bt_at a0 0
          clear p6
          have qi6 : (0 < (a0.size : Int)) = True := eq_true (of_decide_eq_true (by first | (with_reducible assumption) | assumption))
          replace q6 := eq_true q6
          go_wp2
          go_meet
          case rel => exact ⟨_, (true), (by first | rfl | (simp; done) | (simp [*]; done)), H', ⟨by first | omega | exact Nat.le_refl _⟩, by repeat (first | exact Drawn0.refl _ | apply Drawn0.step)⟩
      · rw [if_neg c5] at H
        exact absurd H (by simp)
   case rest =>
    clear HC3
    try clear c1
    try clear p1
    try clear q1
    try clear hx1
    try clear c2
    try clear c2b0
    try clear c2b1
    try clear p2
    try clear c4
    try clear c4b0
    try clear c4b1
    try clear c5
    try clear c5b0
    try clear c5b1
    try clear p6
    try clear q6
    try clear hx6
    try clear qi6
    try clear c7
    try clear c7b0
    try clear c7b1
    try clear c9
    try clear c9b0
    try clear c10
    try clear c10b0
    try clear p11
    try clear q11
    try clear hx11
    try clear p11
    try clear p6
    try clear q11
    try clear q6
    obtain ⟨kq, x21_2, rfl, HA, HJ2, ⟨mc2, rfl⟩⟩ := hcut
    cases kq with
    | zero => exact absurd HA.out (by simp [spec_cleanPath.j0])
    | succ kj2 =>
     have H := HA.out
     clear HA
     simp only [spec_cleanPath.j0] at H
     by_cases c12 : x21_2 = true
     · subst c12
       have H1 : (some false) = some r := by rw [if_pos rfl] at H; exact H
       clear H
       have H := H1
       clear H1
       obtain rfl := Option.some.inj H
       go_wp2
       go_ret
       exact ⟨by first | rfl | (simp; done) | (simp [*]; done), by repeat (first | exact Drawn0.refl _ | apply Drawn0.step)⟩
     · replace c12 := Bool.eq_false_iff.mpr c12
       subst c12
       have H1 : (spec_cleanPath.l0 kj2 a0 (⟨#[]⟩ : ByteArray) 1) = some r := by rw [if_neg (show ¬ (false = true) by decide)] at H; exact H
       clear H
       have H := H1
       clear H1
       have H' := Aside0.mk H
       clear H
       go_wp2
       go_loopg [3, 4] kj2 (fun kq v3 v4 w' => ∃ (x3_2 : ByteArray) (x4_2 : Int), v3 = .string x3_2 ∧ v4 = .int .i64 x4_2 ∧ Aside0 (spec_cleanPath.l0 kq a0 x3_2 x4_2 = some r) ∧ Aside0 (kq ≤ kj2) ∧ Drawn0 w w')
       case atStart => exact ⟨((⟨#[]⟩ : ByteArray)), (1), (by first | rfl | (simp; done) | (simp [*]; done)), (by first | rfl | (simp; done) | (simp [*]; done)), H', ⟨Nat.le_refl _⟩, by repeat (first | exact Drawn0.refl _ | apply Drawn0.step)⟩
       case round =>
        clear H'
        try clear c1
        try clear p1
        try clear q1
        try clear hx1
        try clear c2
        try clear c2b0
        try clear c2b1
        try clear p2
        try clear c4
        try clear c4b0
        try clear c4b1
        try clear c5
        try clear c5b0
        try clear c5b1
        try clear p6
        try clear q6
        try clear hx6
        try clear qi6
        try clear c7
        try clear c7b0
        try clear c7b1
        try clear c9
        try clear c9b0
        try clear c10
        try clear c10b0
        try clear p11
        try clear q11
        try clear hx11
        try clear c12
        try clear p1
        try clear p11
        try clear p2
        try clear p6
        try clear q1
        try clear q11
        try clear q6
        obtain ⟨x3_2, x4_2, rfl, rfl, HA, HK2, ⟨m2, rfl⟩⟩ := hrel
        cases gk with
        | zero => exact absurd HA.out (by simp [spec_cleanPath.l0])
        | succ k2 =>
         have H := HA.out
         clear HA
         simp only [spec_cleanPath.l0] at H
         by_cases c13 : x4_2 ≤ (a0.size : Int)
         · rw [if_pos c13] at H
           have c13b0 : decide (x4_2 ≤ (a0.size : Int)) = true := decide_eq_true c13
           clear c13
           have HC14 := Aside0.mk H
           clear H
           go_upto_region 9 with (fail)
           go_cut [37] (fun v37 wc => ∃ (kq : Nat) (x37_13 : Bool), v37 = .bool x37_13 ∧ Aside0 (spec_cleanPath.j2 kq a0 x3_2 x4_2 x37_13 = some r) ∧ Aside0 (kq ≤ k2) ∧ Drawn0 w wc)
           case first =>
            have H := HC14.out
            clear HC14
            by_cases c15 : x4_2 < (a0.size : Int)
            · rw [if_pos c15] at H
              have c15b0 : decide (x4_2 < (a0.size : Int)) = true := decide_eq_true c15
              clear c15
              (first | rw [c15b0] | (simp only [i64_w, i32_w]; rw [c15b0]) | skip)
              by_cases c16 : 0 ≤ x4_2
              · rw [if_pos c16] at H
                have c16b0 : decide (0 ≤ x4_2) = true := decide_eq_true c16
                clear c16
                have H' := Aside0.mk H
                clear H
                have p17 : 0 ≤ (x4_2 : Int) := of_decide_eq_true (by first | (with_reducible assumption) | assumption)
                have q17 : x4_2 < (a0.size : Int) := of_decide_eq_true (by first | (with_reducible assumption) | assumption)
                have hx17 := bt_at a0 x4_2
                replace p17 := eq_true p17
                replace q17 := eq_true q17
                go_wp2
                go_meet
                case rel => exact ⟨_, (((bt a0 x4_2) != 47)), (by first | rfl | (simp; done) | (simp [*]; done)), H', ⟨by have := HJ2.out; have := HK2.out; first | omega | exact Nat.le_refl _⟩, by repeat (first | exact Drawn0.refl _ | apply Drawn0.step)⟩
              · rw [if_neg c16] at H
                exact absurd H (by simp)
            · rw [if_neg c15] at H
              have c15b0 : decide (x4_2 < (a0.size : Int)) = false := decide_eq_false c15
              clear c15
              (first | rw [c15b0] | (simp only [i64_w, i32_w]; rw [c15b0]) | skip)
              have H' := Aside0.mk H
              clear H
              go_wp2
              go_meet
              case rel => exact ⟨_, (false), (by first | rfl | (simp; done) | (simp [*]; done)), H', ⟨by have := HJ2.out; have := HK2.out; first | omega | exact Nat.le_refl _⟩, by repeat (first | exact Drawn0.refl _ | apply Drawn0.step)⟩
           case rest =>
            clear HC14
            try clear c1
            try clear p1
            try clear q1
            try clear hx1
            try clear c2
            try clear c2b0
            try clear c2b1
            try clear p2
            try clear c4
            try clear c4b0
            try clear c4b1
            try clear c5
            try clear c5b0
            try clear c5b1
            try clear p6
            try clear q6
            try clear hx6
            try clear qi6
            try clear c7
            try clear c7b0
            try clear c7b1
            try clear c9
            try clear c9b0
            try clear c10
            try clear c10b0
            try clear p11
            try clear q11
            try clear hx11
            try clear c12
            try clear c13
            try clear c13b0
            try clear c15
            try clear c15b0
            try clear c16
            try clear c16b0
            try clear p17
            try clear q17
            try clear hx17
            try clear p1
            try clear p11
            try clear p17
            try clear p2
            try clear p6
            try clear q1
            try clear q11
            try clear q17
            try clear q6
            obtain ⟨kq, x37_13, rfl, HA, HJ13, ⟨mc13, rfl⟩⟩ := hcut
            cases kq with
            | zero => exact absurd HA.out (by simp [spec_cleanPath.j2])
            | succ kj13 =>
             have H := HA.out
             clear HA
             simp only [spec_cleanPath.j2] at H
             by_cases c18 : x37_13 = true
             · subst c18
               have H1 : (if 0 ≤ x4_2 then (if x4_2 ≤ (wrap64 (x4_2 + 1)) then (if (wrap64 (x4_2 + 1)) ≤ (a0.size : Int) then (if x3_2.size + (a0.extract (x4_2 : Int).toNat ((wrap64 (x4_2 + 1)) : Int).toNat).size ≤ 9223372036854775807 then (spec_cleanPath.l0 kj13 a0 (x3_2 ++ (a0.extract (x4_2 : Int).toNat ((wrap64 (x4_2 + 1)) : Int).toNat)) (wrap64 (x4_2 + 1))) else (none)) else (none)) else (none)) else (none)) = some r := by rw [if_pos rfl] at H; exact H
               clear H
               have H := H1
               clear H1
               by_cases c19 : 0 ≤ x4_2
               · rw [if_pos c19] at H
                 have c19b0 := eq_true c19
                 have c19b1 : decide (0 ≤ x4_2) = true := decide_eq_true c19
                 clear c19
                 by_cases c20 : x4_2 ≤ (wrap64 (x4_2 + 1))
                 · rw [if_pos c20] at H
                   have c20b0 := eq_true c20
                   have c20b1 : decide (x4_2 ≤ (wrap64 (x4_2 + 1))) = true := decide_eq_true c20
                   by_cases c21 : (wrap64 (x4_2 + 1)) ≤ (a0.size : Int)
                   · rw [if_pos c21] at H
                     have c21b0 := eq_true c21
                     have c21b1 : decide ((wrap64 (x4_2 + 1)) ≤ (a0.size : Int)) = true := decide_eq_true c21
                     by_cases c22 : x3_2.size + (a0.extract (x4_2 : Int).toNat ((wrap64 (x4_2 + 1)) : Int).toNat).size ≤ 9223372036854775807
                     · rw [if_pos c22] at H
                       have c22b0 := eq_true c22
                       have c22b1 : decide (x3_2.size + (a0.extract (x4_2 : Int).toNat ((wrap64 (x4_2 + 1)) : Int).toNat).size ≤ 9223372036854775807) = true := decide_eq_true c22
                       try have c22b2 : (9223372036854775807 < x3_2.size + (a0.extract (x4_2 : Int).toNat ((wrap64 (x4_2 + 1)) : Int).toNat).size) = False := eq_false (Nat.not_lt.2 c22)
                       have H' := Aside0.mk H
                       clear H
                       go_wp2
                       go_roundg kj13
                       case measure => have := HJ2.out; have := HK2.out; have := HJ13.out; omega
                       case rel => exact ⟨(x3_2 ++ (a0.extract (x4_2 : Int).toNat ((wrap64 (x4_2 + 1)) : Int).toNat)), (wrap64 (x4_2 + 1)), (by first | rfl | (simp; done) | (simp [*]; done)), (by first | rfl | (simp; done) | (simp [*]; done)), H', ⟨by have := HJ2.out; have := HK2.out; have := HJ13.out; omega⟩, by repeat (first | exact Drawn0.refl _ | apply Drawn0.step)⟩
                     · rw [if_neg c22] at H
                       exact absurd H (by simp)
                   · rw [if_neg c21] at H
                     exact absurd H (by simp)
                 · rw [if_neg c20] at H
                   exact absurd H (by simp)
               · rw [if_neg c19] at H
                 exact absurd H (by simp)
             · replace c18 := Bool.eq_false_iff.mpr c18
               subst c18
               have H1 : (if x3_2.toList = ([] : List UInt8) then (some false) else (if x3_2.toList = ([46] : List UInt8) then (some false) else (if x3_2.toList = ([46, 46] : List UInt8) then (some false) else (spec_cleanPath.l0 kj13 a0 (⟨#[]⟩ : ByteArray) (wrap64 (x4_2 + 1)))))) = some r := by rw [if_neg (show ¬ (false = true) by decide)] at H; exact H
               clear H
               have H := H1
               clear H1
               by_cases c23 : x3_2.toList = ([] : List UInt8)
               · rw [if_pos c23] at H
                 have c23b0 : (x3_2.toList == ([] : List UInt8)) = true := beq_iff_eq.mpr c23
                 have c23b1 : (x3_2.toList != ([] : List UInt8)) = false := bne_eq_false_iff_eq.mpr c23
                 clear c23
                 obtain rfl := Option.some.inj H
                 go_wp2
                 go_ret
                 exact ⟨by first | rfl | (simp; done) | (simp [*]; done), by repeat (first | exact Drawn0.refl _ | apply Drawn0.step)⟩
               · rw [if_neg c23] at H
                 have c23b0 : (x3_2.toList == ([] : List UInt8)) = false := beq_eq_false_iff_ne.mpr c23
                 have c23b1 : (x3_2.toList != ([] : List UInt8)) = true := bne_iff_ne.mpr c23
                 by_cases c24 : x3_2.toList = ([46] : List UInt8)
                 · rw [if_pos c24] at H
                   have c24b0 : (x3_2.toList == ([46] : List UInt8)) = true := beq_iff_eq.mpr c24
                   have c24b1 : (x3_2.toList != ([46] : List UInt8)) = false := bne_eq_false_iff_eq.mpr c24
                   clear c24
                   obtain rfl := Option.some.inj H
                   go_wp2
                   go_ret
                   exact ⟨by first | rfl | (simp; done) | (simp [*]; done), by repeat (first | exact Drawn0.refl _ | apply Drawn0.step)⟩
                 · rw [if_neg c24] at H
                   have c24b0 : (x3_2.toList == ([46] : List UInt8)) = false := beq_eq_false_iff_ne.mpr c24
                   have c24b1 : (x3_2.toList != ([46] : List UInt8)) = true := bne_iff_ne.mpr c24
                   by_cases c25 : x3_2.toList = ([46, 46] : List UInt8)
                   · rw [if_pos c25] at H
                     have c25b0 : (x3_2.toList == ([46, 46] : List UInt8)) = true := beq_iff_eq.mpr c25
                     have c25b1 : (x3_2.toList != ([46, 46] : List UInt8)) = false := bne_eq_false_iff_eq.mpr c25
                     clear c25
                     obtain rfl := Option.some.inj H
                     go_wp2
                     go_ret
                     exact ⟨by first | rfl | (simp; done) | (simp [*]; done), by repeat (first | exact Drawn0.refl _ | apply Drawn0.step)⟩
                   · rw [if_neg c25] at H
                     have c25b0 : (x3_2.toList == ([46, 46] : List UInt8)) = false := beq_eq_false_iff_ne.mpr c25
                     have c25b1 : (x3_2.toList != ([46, 46] : List UInt8)) = true := bne_iff_ne.mpr c25
                     have H' := Aside0.mk H
                     clear H
                     go_wp2
                     go_roundg kj13
                     case measure => have := HJ2.out; have := HK2.out; have := HJ13.out; omega
                     case rel => exact ⟨((⟨#[]⟩ : ByteArray)), (wrap64 (x4_2 + 1)), (by first | rfl | (simp; done) | (simp [*]; done)), (by first | rfl | (simp; done) | (simp [*]; done)), H', ⟨by have := HJ2.out; have := HK2.out; have := HJ13.out; omega⟩, by repeat (first | exact Drawn0.refl _ | apply Drawn0.step)⟩
         · rw [if_neg c13] at H
           have c13b0 : decide (x4_2 ≤ (a0.size : Int)) = false := decide_eq_false c13
           clear c13
           obtain rfl := Option.some.inj H
           go_wp2
           go_ret
           exact ⟨by first | rfl | (simp; done) | (simp [*]; done), by repeat (first | exact Drawn0.refl _ | apply Drawn0.step)⟩
def spec_below.f (a0 : ByteArray) (a1 : ByteArray) : Option (Bool) := if a1.toList = ([47] : List UInt8) then (some (a0.toList != ([47] : List UInt8))) else (if (a0.size : Int) > (a1.size : Int) then (if 0 ≤ (a1.size : Int) then (if (a1.size : Int) ≤ (a0.size : Int) then (if (a0.extract 0 ((a1.size : Int) : Int).toNat).toList = a1.toList then (if (a1.size : Int) < (a0.size : Int) then (some ((bt a0 (a1.size : Int)) == 47)) else (none)) else (some false)) else (none)) else (none)) else (some false))
set_option maxHeartbeats 8000000 in
set_option maxRecDepth 100000 in
theorem spec_below.calls (a0 : ByteArray) (a1 : ByteArray) (r : Bool) (w : World) (h : spec_below.f a0 a1 = some r) :
 Calls Tryd.prog 50 #[.string a0, .string a1] w fun e w' => e = .returned (.bool r) ∧ Drawn0 w w' := by
 have H : (if a1.toList = ([47] : List UInt8) then (some (a0.toList != ([47] : List UInt8))) else (if (a0.size : Int) > (a1.size : Int) then (if 0 ≤ (a1.size : Int) then (if (a1.size : Int) ≤ (a0.size : Int) then (if (a0.extract 0 ((a1.size : Int) : Int).toNat).toList = a1.toList then (if (a1.size : Int) < (a0.size : Int) then (some ((bt a0 (a1.size : Int)) == 47)) else (none)) else (some false)) else (none)) else (none)) else (some false))) = some r := h
 clear h
 by_cases c3 : a1.toList = ([47] : List UInt8)
 · rw [if_pos c3] at H
   have c3b0 : (a1.toList == ([47] : List UInt8)) = true := beq_iff_eq.mpr c3
   have c3b1 : (a1.toList != ([47] : List UInt8)) = false := bne_eq_false_iff_eq.mpr c3
   clear c3
   obtain rfl := Option.some.inj H
   go_enter Tryd.func50, Tryd.ntmps50
   go_wp2
   go_ret
   exact ⟨by first | rfl | (simp; done) | (simp [*]; done), by repeat (first | exact Drawn0.refl _ | apply Drawn0.step)⟩
 · rw [if_neg c3] at H
   have c3b0 : (a1.toList == ([47] : List UInt8)) = false := beq_eq_false_iff_ne.mpr c3
   have c3b1 : (a1.toList != ([47] : List UInt8)) = true := bne_iff_ne.mpr c3
   by_cases c4 : (a0.size : Int) > (a1.size : Int)
   · rw [if_pos c4] at H
     have c4b0 : decide ((a1.size : Int) < (a0.size : Int)) = true := decide_eq_true c4
     have c4b1 : decide (a1.size < a0.size) = true := decide_eq_true (Int.ofNat_lt.mp c4)
     clear c4
     by_cases c5 : 0 ≤ (a1.size : Int)
     · rw [if_pos c5] at H
       have c5b0 := eq_true c5
       have c5b1 : decide (0 ≤ (a1.size : Int)) = true := decide_eq_true c5
       clear c5
       by_cases c6 : (a1.size : Int) ≤ (a0.size : Int)
       · rw [if_pos c6] at H
         have c6b0 := eq_true c6
         have c6b1 : decide ((a1.size : Int) ≤ (a0.size : Int)) = true := decide_eq_true c6
         clear c6
         by_cases c7 : (a0.extract 0 ((a1.size : Int) : Int).toNat).toList = a1.toList
         · rw [if_pos c7] at H
           have c7b0 : ((a0.extract 0 a1.size).toList == a1.toList) = true := beq_iff_eq.mpr c7
           have c7b1 : ((a0.extract 0 a1.size).toList != a1.toList) = false := bne_eq_false_iff_eq.mpr c7
           clear c7
           by_cases c8 : (a1.size : Int) < (a0.size : Int)
           · rw [if_pos c8] at H
             have c8b0 : decide ((a1.size : Int) < (a0.size : Int)) = true := decide_eq_true c8
             have c8b1 : decide (a1.size < a0.size) = true := decide_eq_true (Int.ofNat_lt.mp c8)
             clear c8
             obtain rfl := Option.some.inj H
             have p9 : 0 ≤ ((a1.size : Int) : Int) := of_decide_eq_true (by first | (with_reducible assumption) | assumption)
             have q9 : (a1.size : Int) < (a0.size : Int) := of_decide_eq_true (by first | (with_reducible assumption) | assumption)
             have hx9 : ∀ h : a1.size < a0.size, ((a0[a1.size]'h).toNat : Int) = bt a0 (a1.size : Int) := bt_at a0 (a1.size : Int)
             replace p9 := eq_true p9
             replace q9 := eq_true q9
             go_enter Tryd.func50, Tryd.ntmps50
             go_wp2
             go_ret
             exact ⟨by first | rfl | (simp; done) | (simp [*]; done), by repeat (first | exact Drawn0.refl _ | apply Drawn0.step)⟩
           · rw [if_neg c8] at H
             exact absurd H (by simp)
         · rw [if_neg c7] at H
           have c7b0 : ((a0.extract 0 a1.size).toList == a1.toList) = false := beq_eq_false_iff_ne.mpr c7
           have c7b1 : ((a0.extract 0 a1.size).toList != a1.toList) = true := bne_iff_ne.mpr c7
           obtain rfl := Option.some.inj H
           go_enter Tryd.func50, Tryd.ntmps50
           go_wp2
           go_ret
           exact ⟨by first | rfl | (simp; done) | (simp [*]; done), by repeat (first | exact Drawn0.refl _ | apply Drawn0.step)⟩
       · rw [if_neg c6] at H
         exact absurd H (by simp)
     · rw [if_neg c5] at H
       exact absurd H (by simp)
   · rw [if_neg c4] at H
     have c4b0 : decide ((a1.size : Int) < (a0.size : Int)) = false := decide_eq_false c4
     have c4b1 : decide (a1.size < a0.size) = false := decide_eq_false (fun h => c4 (Int.ofNat_lt.mpr h))
     clear c4
     obtain rfl := Option.some.inj H
     go_enter Tryd.func50, Tryd.ntmps50
     go_wp2
     go_ret
     exact ⟨by first | rfl | (simp; done) | (simp [*]; done), by repeat (first | exact Drawn0.refl _ | apply Drawn0.step)⟩
end Go.Proofs.YtcpldcndhijecaaDoor.QM0
namespace Go.Proofs.YtcpldcndhijecaaDoor.QM0
open Go.RowKit Go.Proofs.YtcpldcndhijecaaDoorW.PrintWords Go.Proofs.YtcpldcndhijecaaDoorW.PrintLast Go.Proofs.YtcpldcndhijecaaDoorW.PrintMore
attribute [local go_sem] max2_int min2_int max_two min_two max_three min_three max_four min_four
set_option linter.unusedVariables false
set_option linter.unusedSimpArgs false
mutual
def spec_Keeps.l0 : Nat → List ByteArray → Int → Int → Int → Int → Int → Int → ByteArray → ByteArray → ByteArray → ByteArray → ByteArray → ByteArray → ByteArray → Option (Bool × Bool × Int)
 | 0, _, _, _, _, _, _, _, _, _, _, _, _, _, _ => none
 | k + 1, x17, x18, x19, x198000, x198001, x198002, x198003, x198004, x198005, x198006, x198007, x198008, x198009, x198010 => if x19 < x18 then (if 0 ≤ x19 then (if x19 < (x17.length : Int) then (if (rdOf ByteArray.empty x17 x19).toList = x198008.toList then (some (false, false, 1)) else (spec_Keeps.l0 k x17 x18 (wrap64 (x19 + 1)) x198000 x198001 x198002 x198003 x198004 x198005 x198006 x198007 x198008 x198009 x198010)) else (none)) else (none)) else (some (true, false, 1))
def spec_Keeps.j1 : Nat → Bool → Int → List ByteArray → Int → Int → Int → Int → ByteArray → ByteArray → ByteArray → ByteArray → ByteArray → ByteArray → ByteArray → Option (Bool × Bool × Int)
 | 0, _, _, _, _, _, _, _, _, _, _, _, _, _, _ => none
 | k + 1, x45, x197000, x197001, x198000, x198001, x198002, x198003, x198004, x198005, x198006, x198007, x198008, x198009, x198010 => if x45 = true then (some (false, false, 2)) else (if 0 < (x197001.length : Int) then (if x197000 = 2 then (if (rdOf ByteArray.empty x197001 0).toList = x198005.toList then (some (false, false, 1)) else ((spec_below.f (rdOf ByteArray.empty x197001 0) x198005).bind fun t203 => (some (!t203, false, 1)))) else (if x197000 = 3 then (if (rdOf ByteArray.empty x197001 0).toList = x198005.toList then (some (false, false, 1)) else ((spec_below.f x198005 (rdOf ByteArray.empty x197001 0)).bind fun t204 => (some (!t204, false, 1)))) else (if x197000 = 4 then (some (((rdOf ByteArray.empty x197001 0).toList != x198005.toList), ((rdOf ByteArray.empty x197001 0).toList == x198005.toList), 1)) else (some (false, false, 2))))) else (none))
end
def spec_Keeps.f (k : Nat) (a0_0 : Int) (l0_1 : List ByteArray) (a1_0 : Int) (a1_1 : Int) (a1_2 : Int) (a1_3 : Int) (a1_4 : ByteArray) (a1_5 : ByteArray) (a1_6 : ByteArray) (a1_7 : ByteArray) (a1_8 : ByteArray) (a1_9 : ByteArray) (a1_10 : ByteArray) : Option (Bool × Bool × Int) := if a0_0 = 0 then (some (false, false, 1)) else (if a0_0 = 1 then (spec_Keeps.l0 k l0_1 (l0_1.length : Int) 0 a1_0 a1_1 a1_2 a1_3 a1_4 a1_5 a1_6 a1_7 a1_8 a1_9 a1_10) else (if (l0_1.length : Int) = 1 then (if 0 < (l0_1.length : Int) then ((spec_cleanPath.f k (rdOf ByteArray.empty l0_1 0)).bind fun t200 => (if t200 = true then ((spec_cleanPath.f k a1_5).bind fun t201 => (spec_Keeps.j1 k (!t201) a0_0 l0_1 a1_0 a1_1 a1_2 a1_3 a1_4 a1_5 a1_6 a1_7 a1_8 a1_9 a1_10)) else (spec_Keeps.j1 k true a0_0 l0_1 a1_0 a1_1 a1_2 a1_3 a1_4 a1_5 a1_6 a1_7 a1_8 a1_9 a1_10))) else (none)) else (spec_Keeps.j1 k true a0_0 l0_1 a1_0 a1_1 a1_2 a1_3 a1_4 a1_5 a1_6 a1_7 a1_8 a1_9 a1_10)))
set_option maxHeartbeats 8000000 in
set_option maxRecDepth 100000 in
theorem spec_Keeps.calls (k : Nat) (a0_0 : Int) (A0_1 : Option Addr) (c0_1 : Nat) (l0_1 : List ByteArray) (a1_0 : Int) (a1_1 : Int) (a1_2 : Int) (a1_3 : Int) (a1_4 : ByteArray) (a1_5 : ByteArray) (a1_6 : ByteArray) (a1_7 : ByteArray) (a1_8 : ByteArray) (a1_9 : ByteArray) (a1_10 : ByteArray) (r1 : Bool) (r2 : Bool) (r3 : Int) (w : World) (hr0_1 : Kd.C Kd.string w A0_1 l0_1.length l0_1) (hc0_1 : l0_1.length ≤ c0_1) (h : spec_Keeps.f k a0_0 l0_1 a1_0 a1_1 a1_2 a1_3 a1_4 a1_5 a1_6 a1_7 a1_8 a1_9 a1_10 = some (r1, r2, r3)) :
 Calls Tryd.prog 28 #[.agg #[.int .i64 a0_0, .slice A0_1 l0_1.length c0_1], .agg #[.int .i64 a1_0, .int .i64 a1_1, .int .i64 a1_2, .int .i64 a1_3, .string a1_4, .string a1_5, .string a1_6, .string a1_7, .string a1_8, .string a1_9, .string a1_10]] w fun e w' => e = .returned (.tuple #[.bool r1, .bool r2, .int .i64 r3]) ∧ Below w.heap.size w w' := by
 have hu38 := Tryd.underlying38
 have hu63 := Tryd.underlying63
 have HR0_1 := Aside0.mk hr0_1
 have HC0_1 := Aside0.mk hc0_1
 clear hr0_1 hc0_1
 have HB := Aside0.mk (Below.refl w.heap.size w)
 have H : (if a0_0 = 0 then (some (false, false, 1)) else (if a0_0 = 1 then (spec_Keeps.l0 k l0_1 (l0_1.length : Int) 0 a1_0 a1_1 a1_2 a1_3 a1_4 a1_5 a1_6 a1_7 a1_8 a1_9 a1_10) else (if (l0_1.length : Int) = 1 then (if 0 < (l0_1.length : Int) then ((spec_cleanPath.f k (rdOf ByteArray.empty l0_1 0)).bind fun t200 => (if t200 = true then ((spec_cleanPath.f k a1_5).bind fun t201 => (spec_Keeps.j1 k (!t201) a0_0 l0_1 a1_0 a1_1 a1_2 a1_3 a1_4 a1_5 a1_6 a1_7 a1_8 a1_9 a1_10)) else (spec_Keeps.j1 k true a0_0 l0_1 a1_0 a1_1 a1_2 a1_3 a1_4 a1_5 a1_6 a1_7 a1_8 a1_9 a1_10))) else (none)) else (spec_Keeps.j1 k true a0_0 l0_1 a1_0 a1_1 a1_2 a1_3 a1_4 a1_5 a1_6 a1_7 a1_8 a1_9 a1_10)))) = some (r1, r2, r3) := h
 clear h
 by_cases c3 : a0_0 = 0
 · rw [if_pos c3] at H
   have c3b0 : (a0_0 == 0) = true := beq_iff_eq.mpr c3
   have c3b1 : (a0_0 != 0) = false := bne_eq_false_iff_eq.mpr c3
   clear c3
   simp only [Option.some.injEq, Prod.mk.injEq] at H
   obtain ⟨rfl, rfl, rfl⟩ := H
   go_enter Tryd.func28, Tryd.ntmps28
   go_wp2_with (first | ((with_reducible refine gate_dst (N := 2) rfl ?_); refine box_event ?hg (N := 2) ?hd (cs := #[.int .i64 a0_0, .slice A0_1 l0_1.length c0_1]) (t := 38) ?hr ?_; (case hd => rfl); (case hg => rfl); (case hr => first | (go_simp; done) | (go_simp; rfl)); intro gb196 hg w4 hbox hb; have n0_ := Aside0.mk (below_step (by repeat (first | (with_reducible first | exact HB.out | apply below_alloc | apply pw_below_drewN | apply below_drew1) | exact HB.out)) hb); have n1_ := Aside0.mk (hbox); have n2_ := Aside0.mk ((by rw [hg]; exact (below_size (by repeat (first | (with_reducible first | exact HB.out | apply below_alloc | apply pw_below_drewN | apply below_drew1) | exact HB.out))) : w.heap.size ≤ gb196)); have n3_ := Aside0.mk ((by rw [hg]; exact (below_size (by repeat (first | (with_reducible first | exact HB.out | apply below_alloc | apply pw_below_drewN | apply below_drew1) | exact HB.out))) : w.heap.size ≤ gb196)); clear HB; have HB := n0_; have BK196 := n1_; have GW196 := n2_; have GE196 := n3_; clear n0_ n1_ n2_ n3_; clear hb hbox hg) | ((with_reducible refine gate_dst (N := 3) rfl ?_); refine box_event ?hg (N := 3) ?hd (cs := #[.int .i64 a1_0, .int .i64 a1_1, .int .i64 a1_2, .int .i64 a1_3, .string a1_4, .string a1_5, .string a1_6, .string a1_7, .string a1_8, .string a1_9, .string a1_10]) (t := 63) ?hr ?_; (case hd => rfl); (case hg => rfl); (case hr => first | (go_simp; done) | (go_simp; rfl)); intro gb197 hg w5 hbox hb; have n0_ := Aside0.mk (blk_below (g := gb196) (o := .cells #[.int .i64 a0_0, .slice A0_1 l0_1.length c0_1] 38 (0, 0)) (by (with_reducible repeat (first | refine blk_drewN ?_ _ | refine blk_drew ?_ | refine blk_alloc ?_ _)); exact BK196.out) hb); have n1_ := Aside0.mk (below_step (by repeat (first | (with_reducible first | exact HB.out | apply below_alloc | apply pw_below_drewN | apply below_drew1 | refine below_set ?_ GE196.out) | exact HB.out)) hb); have n2_ := Aside0.mk (hbox); have n3_ := Aside0.mk ((by rw [hg]; exact (below_size (by repeat (first | (with_reducible first | exact HB.out | apply below_alloc | apply pw_below_drewN | apply below_drew1 | refine below_set ?_ GE196.out) | exact HB.out))) : w.heap.size ≤ gb197)); have n4_ := Aside0.mk ((by rw [hg]; exact (below_size (by repeat (first | (with_reducible first | exact HB.out | apply below_alloc | apply pw_below_drewN | apply below_drew1 | refine below_set ?_ GE196.out) | exact HB.out))) : w.heap.size ≤ gb197)); have n5_ := Aside0.mk ((by rw [hg]; exact Nat.ne_of_lt (blk_lt (g := gb196) (o := .cells #[.int .i64 a0_0, .slice A0_1 l0_1.length c0_1] 38 (0, 0)) (by (with_reducible repeat (first | refine blk_drewN ?_ _ | refine blk_drew ?_ | refine blk_alloc ?_ _)); exact BK196.out)) : gb196 ≠ gb197)); have n6_ := Aside0.mk ((by rw [hg]; exact Nat.ne_of_gt (blk_lt (g := gb196) (o := .cells #[.int .i64 a0_0, .slice A0_1 l0_1.length c0_1] 38 (0, 0)) (by (with_reducible repeat (first | refine blk_drewN ?_ _ | refine blk_drew ?_ | refine blk_alloc ?_ _)); exact BK196.out)) : gb197 ≠ gb196)); clear BK196; clear HB; have BK196 := n0_; have HB := n1_; have BK197 := n2_; have GW197 := n3_; have GE197 := n4_; have NB196_197 := n5_; have NB197_196 := n6_; clear n0_ n1_ n2_ n3_ n4_ n5_ n6_; clear hb hbox hg; have hnb6 := NB196_197.out; have hnc6 := NB197_196.out; have hcz7_0 : w5.cell? ⟨gb196, 0, none⟩ = some (.int .i64 a0_0) := (blk_cell BK196.out 0).trans rfl; have hcz7_1 : w5.cell? ⟨gb196, 1, none⟩ = some (.slice A0_1 l0_1.length c0_1) := (blk_cell BK196.out 1).trans rfl; have hfz7_0 := blk_frozen BK196.out 0; have hfz7_1 := blk_frozen BK196.out 1))
   repeat (go_quiet (first | ((with_reducible refine gate_dst (N := 2) rfl ?_); refine box_event ?hg (N := 2) ?hd (cs := #[.int .i64 a0_0, .slice A0_1 l0_1.length c0_1]) (t := 38) ?hr ?_; (case hd => rfl); (case hg => rfl); (case hr => first | (go_simp; done) | (go_simp; rfl)); intro gb196 hg w4 hbox hb; have n0_ := Aside0.mk (below_step (by repeat (first | (with_reducible first | exact HB.out | apply below_alloc | apply pw_below_drewN | apply below_drew1) | exact HB.out)) hb); have n1_ := Aside0.mk (hbox); have n2_ := Aside0.mk ((by rw [hg]; exact (below_size (by repeat (first | (with_reducible first | exact HB.out | apply below_alloc | apply pw_below_drewN | apply below_drew1) | exact HB.out))) : w.heap.size ≤ gb196)); have n3_ := Aside0.mk ((by rw [hg]; exact (below_size (by repeat (first | (with_reducible first | exact HB.out | apply below_alloc | apply pw_below_drewN | apply below_drew1) | exact HB.out))) : w.heap.size ≤ gb196)); clear HB; have HB := n0_; have BK196 := n1_; have GW196 := n2_; have GE196 := n3_; clear n0_ n1_ n2_ n3_; clear hb hbox hg) | ((with_reducible refine gate_dst (N := 3) rfl ?_); refine box_event ?hg (N := 3) ?hd (cs := #[.int .i64 a1_0, .int .i64 a1_1, .int .i64 a1_2, .int .i64 a1_3, .string a1_4, .string a1_5, .string a1_6, .string a1_7, .string a1_8, .string a1_9, .string a1_10]) (t := 63) ?hr ?_; (case hd => rfl); (case hg => rfl); (case hr => first | (go_simp; done) | (go_simp; rfl)); intro gb197 hg w5 hbox hb; have n0_ := Aside0.mk (blk_below (g := gb196) (o := .cells #[.int .i64 a0_0, .slice A0_1 l0_1.length c0_1] 38 (0, 0)) (by (with_reducible repeat (first | refine blk_drewN ?_ _ | refine blk_drew ?_ | refine blk_alloc ?_ _)); exact BK196.out) hb); have n1_ := Aside0.mk (below_step (by repeat (first | (with_reducible first | exact HB.out | apply below_alloc | apply pw_below_drewN | apply below_drew1 | refine below_set ?_ GE196.out) | exact HB.out)) hb); have n2_ := Aside0.mk (hbox); have n3_ := Aside0.mk ((by rw [hg]; exact (below_size (by repeat (first | (with_reducible first | exact HB.out | apply below_alloc | apply pw_below_drewN | apply below_drew1 | refine below_set ?_ GE196.out) | exact HB.out))) : w.heap.size ≤ gb197)); have n4_ := Aside0.mk ((by rw [hg]; exact (below_size (by repeat (first | (with_reducible first | exact HB.out | apply below_alloc | apply pw_below_drewN | apply below_drew1 | refine below_set ?_ GE196.out) | exact HB.out))) : w.heap.size ≤ gb197)); have n5_ := Aside0.mk ((by rw [hg]; exact Nat.ne_of_lt (blk_lt (g := gb196) (o := .cells #[.int .i64 a0_0, .slice A0_1 l0_1.length c0_1] 38 (0, 0)) (by (with_reducible repeat (first | refine blk_drewN ?_ _ | refine blk_drew ?_ | refine blk_alloc ?_ _)); exact BK196.out)) : gb196 ≠ gb197)); have n6_ := Aside0.mk ((by rw [hg]; exact Nat.ne_of_gt (blk_lt (g := gb196) (o := .cells #[.int .i64 a0_0, .slice A0_1 l0_1.length c0_1] 38 (0, 0)) (by (with_reducible repeat (first | refine blk_drewN ?_ _ | refine blk_drew ?_ | refine blk_alloc ?_ _)); exact BK196.out)) : gb197 ≠ gb196)); clear BK196; clear HB; have BK196 := n0_; have HB := n1_; have BK197 := n2_; have GW197 := n3_; have GE197 := n4_; have NB196_197 := n5_; have NB197_196 := n6_; clear n0_ n1_ n2_ n3_ n4_ n5_ n6_; clear hb hbox hg; have hnb6 := NB196_197.out; have hnc6 := NB197_196.out; have hcz7_0 : w5.cell? ⟨gb196, 0, none⟩ = some (.int .i64 a0_0) := (blk_cell BK196.out 0).trans rfl; have hcz7_1 : w5.cell? ⟨gb196, 1, none⟩ = some (.slice A0_1 l0_1.length c0_1) := (blk_cell BK196.out 1).trans rfl; have hfz7_0 := blk_frozen BK196.out 0; have hfz7_1 := blk_frozen BK196.out 1)); try go_wp2_with (first | ((with_reducible refine gate_dst (N := 2) rfl ?_); refine box_event ?hg (N := 2) ?hd (cs := #[.int .i64 a0_0, .slice A0_1 l0_1.length c0_1]) (t := 38) ?hr ?_; (case hd => rfl); (case hg => rfl); (case hr => first | (go_simp; done) | (go_simp; rfl)); intro gb196 hg w4 hbox hb; have n0_ := Aside0.mk (below_step (by repeat (first | (with_reducible first | exact HB.out | apply below_alloc | apply pw_below_drewN | apply below_drew1) | exact HB.out)) hb); have n1_ := Aside0.mk (hbox); have n2_ := Aside0.mk ((by rw [hg]; exact (below_size (by repeat (first | (with_reducible first | exact HB.out | apply below_alloc | apply pw_below_drewN | apply below_drew1) | exact HB.out))) : w.heap.size ≤ gb196)); have n3_ := Aside0.mk ((by rw [hg]; exact (below_size (by repeat (first | (with_reducible first | exact HB.out | apply below_alloc | apply pw_below_drewN | apply below_drew1) | exact HB.out))) : w.heap.size ≤ gb196)); clear HB; have HB := n0_; have BK196 := n1_; have GW196 := n2_; have GE196 := n3_; clear n0_ n1_ n2_ n3_; clear hb hbox hg) | ((with_reducible refine gate_dst (N := 3) rfl ?_); refine box_event ?hg (N := 3) ?hd (cs := #[.int .i64 a1_0, .int .i64 a1_1, .int .i64 a1_2, .int .i64 a1_3, .string a1_4, .string a1_5, .string a1_6, .string a1_7, .string a1_8, .string a1_9, .string a1_10]) (t := 63) ?hr ?_; (case hd => rfl); (case hg => rfl); (case hr => first | (go_simp; done) | (go_simp; rfl)); intro gb197 hg w5 hbox hb; have n0_ := Aside0.mk (blk_below (g := gb196) (o := .cells #[.int .i64 a0_0, .slice A0_1 l0_1.length c0_1] 38 (0, 0)) (by (with_reducible repeat (first | refine blk_drewN ?_ _ | refine blk_drew ?_ | refine blk_alloc ?_ _)); exact BK196.out) hb); have n1_ := Aside0.mk (below_step (by repeat (first | (with_reducible first | exact HB.out | apply below_alloc | apply pw_below_drewN | apply below_drew1 | refine below_set ?_ GE196.out) | exact HB.out)) hb); have n2_ := Aside0.mk (hbox); have n3_ := Aside0.mk ((by rw [hg]; exact (below_size (by repeat (first | (with_reducible first | exact HB.out | apply below_alloc | apply pw_below_drewN | apply below_drew1 | refine below_set ?_ GE196.out) | exact HB.out))) : w.heap.size ≤ gb197)); have n4_ := Aside0.mk ((by rw [hg]; exact (below_size (by repeat (first | (with_reducible first | exact HB.out | apply below_alloc | apply pw_below_drewN | apply below_drew1 | refine below_set ?_ GE196.out) | exact HB.out))) : w.heap.size ≤ gb197)); have n5_ := Aside0.mk ((by rw [hg]; exact Nat.ne_of_lt (blk_lt (g := gb196) (o := .cells #[.int .i64 a0_0, .slice A0_1 l0_1.length c0_1] 38 (0, 0)) (by (with_reducible repeat (first | refine blk_drewN ?_ _ | refine blk_drew ?_ | refine blk_alloc ?_ _)); exact BK196.out)) : gb196 ≠ gb197)); have n6_ := Aside0.mk ((by rw [hg]; exact Nat.ne_of_gt (blk_lt (g := gb196) (o := .cells #[.int .i64 a0_0, .slice A0_1 l0_1.length c0_1] 38 (0, 0)) (by (with_reducible repeat (first | refine blk_drewN ?_ _ | refine blk_drew ?_ | refine blk_alloc ?_ _)); exact BK196.out)) : gb197 ≠ gb196)); clear BK196; clear HB; have BK196 := n0_; have HB := n1_; have BK197 := n2_; have GW197 := n3_; have GE197 := n4_; have NB196_197 := n5_; have NB197_196 := n6_; clear n0_ n1_ n2_ n3_ n4_ n5_ n6_; clear hb hbox hg; have hnb6 := NB196_197.out; have hnc6 := NB197_196.out; have hcz7_0 : w5.cell? ⟨gb196, 0, none⟩ = some (.int .i64 a0_0) := (blk_cell BK196.out 0).trans rfl; have hcz7_1 : w5.cell? ⟨gb196, 1, none⟩ = some (.slice A0_1 l0_1.length c0_1) := (blk_cell BK196.out 1).trans rfl; have hfz7_0 := blk_frozen BK196.out 0; have hfz7_1 := blk_frozen BK196.out 1)))
   go_ret3
   exact ⟨by first | rfl | (simp [errW_none, errW_some] <;> rfl) | (simp [*, errW_none, errW_some] <;> rfl), by repeat (first | (with_reducible first | exact HB.out | apply below_alloc | apply pw_below_drewN | apply below_drew1 | refine below_set ?_ GE196.out | refine below_set ?_ GE197.out) | exact HB.out)⟩
 · rw [if_neg c3] at H
   have c3b0 : (a0_0 == 0) = false := beq_eq_false_iff_ne.mpr c3
   have c3b1 : (a0_0 != 0) = true := bne_iff_ne.mpr c3
   by_cases c8 : a0_0 = 1
   · rw [if_pos c8] at H
     have c8b0 : (a0_0 == 1) = true := beq_iff_eq.mpr c8
     have c8b1 : (a0_0 != 1) = false := bne_eq_false_iff_eq.mpr c8
     clear c8
     have H' := Aside0.mk H
     clear H
     go_enter Tryd.func28, Tryd.ntmps28
     go_wp2_with (first | ((with_reducible refine gate_dst (N := 2) rfl ?_); refine box_event ?hg (N := 2) ?hd (cs := #[.int .i64 a0_0, .slice A0_1 l0_1.length c0_1]) (t := 38) ?hr ?_; (case hd => rfl); (case hg => rfl); (case hr => first | (go_simp; done) | (go_simp; rfl)); intro gb196 hg w9 hbox hb; have n0_ := Aside0.mk (below_step (by repeat (first | (with_reducible first | exact HB.out | apply below_alloc | apply pw_below_drewN | apply below_drew1) | exact HB.out)) hb); have n1_ := Aside0.mk (hbox); have n2_ := Aside0.mk ((by rw [hg]; exact (below_size (by repeat (first | (with_reducible first | exact HB.out | apply below_alloc | apply pw_below_drewN | apply below_drew1) | exact HB.out))) : w.heap.size ≤ gb196)); have n3_ := Aside0.mk ((by rw [hg]; exact (below_size (by repeat (first | (with_reducible first | exact HB.out | apply below_alloc | apply pw_below_drewN | apply below_drew1) | exact HB.out))) : w.heap.size ≤ gb196)); clear HB; have HB := n0_; have BK196 := n1_; have GW196 := n2_; have GE196 := n3_; clear n0_ n1_ n2_ n3_; clear hb hbox hg) | ((with_reducible refine gate_dst (N := 3) rfl ?_); refine box_event ?hg (N := 3) ?hd (cs := #[.int .i64 a1_0, .int .i64 a1_1, .int .i64 a1_2, .int .i64 a1_3, .string a1_4, .string a1_5, .string a1_6, .string a1_7, .string a1_8, .string a1_9, .string a1_10]) (t := 63) ?hr ?_; (case hd => rfl); (case hg => rfl); (case hr => first | (go_simp; done) | (go_simp; rfl)); intro gb197 hg w10 hbox hb; have n0_ := Aside0.mk (blk_below (g := gb196) (o := .cells #[.int .i64 a0_0, .slice A0_1 l0_1.length c0_1] 38 (0, 0)) (by (with_reducible repeat (first | refine blk_drewN ?_ _ | refine blk_drew ?_ | refine blk_alloc ?_ _)); exact BK196.out) hb); have n1_ := Aside0.mk (below_step (by repeat (first | (with_reducible first | exact HB.out | apply below_alloc | apply pw_below_drewN | apply below_drew1 | refine below_set ?_ GE196.out) | exact HB.out)) hb); have n2_ := Aside0.mk (hbox); have n3_ := Aside0.mk ((by rw [hg]; exact (below_size (by repeat (first | (with_reducible first | exact HB.out | apply below_alloc | apply pw_below_drewN | apply below_drew1 | refine below_set ?_ GE196.out) | exact HB.out))) : w.heap.size ≤ gb197)); have n4_ := Aside0.mk ((by rw [hg]; exact (below_size (by repeat (first | (with_reducible first | exact HB.out | apply below_alloc | apply pw_below_drewN | apply below_drew1 | refine below_set ?_ GE196.out) | exact HB.out))) : w.heap.size ≤ gb197)); have n5_ := Aside0.mk ((by rw [hg]; exact Nat.ne_of_lt (blk_lt (g := gb196) (o := .cells #[.int .i64 a0_0, .slice A0_1 l0_1.length c0_1] 38 (0, 0)) (by (with_reducible repeat (first | refine blk_drewN ?_ _ | refine blk_drew ?_ | refine blk_alloc ?_ _)); exact BK196.out)) : gb196 ≠ gb197)); have n6_ := Aside0.mk ((by rw [hg]; exact Nat.ne_of_gt (blk_lt (g := gb196) (o := .cells #[.int .i64 a0_0, .slice A0_1 l0_1.length c0_1] 38 (0, 0)) (by (with_reducible repeat (first | refine blk_drewN ?_ _ | refine blk_drew ?_ | refine blk_alloc ?_ _)); exact BK196.out)) : gb197 ≠ gb196)); clear BK196; clear HB; have BK196 := n0_; have HB := n1_; have BK197 := n2_; have GW197 := n3_; have GE197 := n4_; have NB196_197 := n5_; have NB197_196 := n6_; clear n0_ n1_ n2_ n3_ n4_ n5_ n6_; clear hb hbox hg; have hnb11 := NB196_197.out; have hnc11 := NB197_196.out; have hcz12_0 : w10.cell? ⟨gb196, 0, none⟩ = some (.int .i64 a0_0) := (blk_cell BK196.out 0).trans rfl; have hcz12_1 : w10.cell? ⟨gb196, 1, none⟩ = some (.slice A0_1 l0_1.length c0_1) := (blk_cell BK196.out 1).trans rfl; have hfz12_0 := blk_frozen BK196.out 0; have hfz12_1 := blk_frozen BK196.out 1))
     repeat (go_quiet (first | ((with_reducible refine gate_dst (N := 2) rfl ?_); refine box_event ?hg (N := 2) ?hd (cs := #[.int .i64 a0_0, .slice A0_1 l0_1.length c0_1]) (t := 38) ?hr ?_; (case hd => rfl); (case hg => rfl); (case hr => first | (go_simp; done) | (go_simp; rfl)); intro gb196 hg w9 hbox hb; have n0_ := Aside0.mk (below_step (by repeat (first | (with_reducible first | exact HB.out | apply below_alloc | apply pw_below_drewN | apply below_drew1) | exact HB.out)) hb); have n1_ := Aside0.mk (hbox); have n2_ := Aside0.mk ((by rw [hg]; exact (below_size (by repeat (first | (with_reducible first | exact HB.out | apply below_alloc | apply pw_below_drewN | apply below_drew1) | exact HB.out))) : w.heap.size ≤ gb196)); have n3_ := Aside0.mk ((by rw [hg]; exact (below_size (by repeat (first | (with_reducible first | exact HB.out | apply below_alloc | apply pw_below_drewN | apply below_drew1) | exact HB.out))) : w.heap.size ≤ gb196)); clear HB; have HB := n0_; have BK196 := n1_; have GW196 := n2_; have GE196 := n3_; clear n0_ n1_ n2_ n3_; clear hb hbox hg) | ((with_reducible refine gate_dst (N := 3) rfl ?_); refine box_event ?hg (N := 3) ?hd (cs := #[.int .i64 a1_0, .int .i64 a1_1, .int .i64 a1_2, .int .i64 a1_3, .string a1_4, .string a1_5, .string a1_6, .string a1_7, .string a1_8, .string a1_9, .string a1_10]) (t := 63) ?hr ?_; (case hd => rfl); (case hg => rfl); (case hr => first | (go_simp; done) | (go_simp; rfl)); intro gb197 hg w10 hbox hb; have n0_ := Aside0.mk (blk_below (g := gb196) (o := .cells #[.int .i64 a0_0, .slice A0_1 l0_1.length c0_1] 38 (0, 0)) (by (with_reducible repeat (first | refine blk_drewN ?_ _ | refine blk_drew ?_ | refine blk_alloc ?_ _)); exact BK196.out) hb); have n1_ := Aside0.mk (below_step (by repeat (first | (with_reducible first | exact HB.out | apply below_alloc | apply pw_below_drewN | apply below_drew1 | refine below_set ?_ GE196.out) | exact HB.out)) hb); have n2_ := Aside0.mk (hbox); have n3_ := Aside0.mk ((by rw [hg]; exact (below_size (by repeat (first | (with_reducible first | exact HB.out | apply below_alloc | apply pw_below_drewN | apply below_drew1 | refine below_set ?_ GE196.out) | exact HB.out))) : w.heap.size ≤ gb197)); have n4_ := Aside0.mk ((by rw [hg]; exact (below_size (by repeat (first | (with_reducible first | exact HB.out | apply below_alloc | apply pw_below_drewN | apply below_drew1 | refine below_set ?_ GE196.out) | exact HB.out))) : w.heap.size ≤ gb197)); have n5_ := Aside0.mk ((by rw [hg]; exact Nat.ne_of_lt (blk_lt (g := gb196) (o := .cells #[.int .i64 a0_0, .slice A0_1 l0_1.length c0_1] 38 (0, 0)) (by (with_reducible repeat (first | refine blk_drewN ?_ _ | refine blk_drew ?_ | refine blk_alloc ?_ _)); exact BK196.out)) : gb196 ≠ gb197)); have n6_ := Aside0.mk ((by rw [hg]; exact Nat.ne_of_gt (blk_lt (g := gb196) (o := .cells #[.int .i64 a0_0, .slice A0_1 l0_1.length c0_1] 38 (0, 0)) (by (with_reducible repeat (first | refine blk_drewN ?_ _ | refine blk_drew ?_ | refine blk_alloc ?_ _)); exact BK196.out)) : gb197 ≠ gb196)); clear BK196; clear HB; have BK196 := n0_; have HB := n1_; have BK197 := n2_; have GW197 := n3_; have GE197 := n4_; have NB196_197 := n5_; have NB197_196 := n6_; clear n0_ n1_ n2_ n3_ n4_ n5_ n6_; clear hb hbox hg; have hnb11 := NB196_197.out; have hnc11 := NB197_196.out; have hcz12_0 : w10.cell? ⟨gb196, 0, none⟩ = some (.int .i64 a0_0) := (blk_cell BK196.out 0).trans rfl; have hcz12_1 : w10.cell? ⟨gb196, 1, none⟩ = some (.slice A0_1 l0_1.length c0_1) := (blk_cell BK196.out 1).trans rfl; have hfz12_0 := blk_frozen BK196.out 0; have hfz12_1 := blk_frozen BK196.out 1)); try go_wp2_with (first | ((with_reducible refine gate_dst (N := 2) rfl ?_); refine box_event ?hg (N := 2) ?hd (cs := #[.int .i64 a0_0, .slice A0_1 l0_1.length c0_1]) (t := 38) ?hr ?_; (case hd => rfl); (case hg => rfl); (case hr => first | (go_simp; done) | (go_simp; rfl)); intro gb196 hg w9 hbox hb; have n0_ := Aside0.mk (below_step (by repeat (first | (with_reducible first | exact HB.out | apply below_alloc | apply pw_below_drewN | apply below_drew1) | exact HB.out)) hb); have n1_ := Aside0.mk (hbox); have n2_ := Aside0.mk ((by rw [hg]; exact (below_size (by repeat (first | (with_reducible first | exact HB.out | apply below_alloc | apply pw_below_drewN | apply below_drew1) | exact HB.out))) : w.heap.size ≤ gb196)); have n3_ := Aside0.mk ((by rw [hg]; exact (below_size (by repeat (first | (with_reducible first | exact HB.out | apply below_alloc | apply pw_below_drewN | apply below_drew1) | exact HB.out))) : w.heap.size ≤ gb196)); clear HB; have HB := n0_; have BK196 := n1_; have GW196 := n2_; have GE196 := n3_; clear n0_ n1_ n2_ n3_; clear hb hbox hg) | ((with_reducible refine gate_dst (N := 3) rfl ?_); refine box_event ?hg (N := 3) ?hd (cs := #[.int .i64 a1_0, .int .i64 a1_1, .int .i64 a1_2, .int .i64 a1_3, .string a1_4, .string a1_5, .string a1_6, .string a1_7, .string a1_8, .string a1_9, .string a1_10]) (t := 63) ?hr ?_; (case hd => rfl); (case hg => rfl); (case hr => first | (go_simp; done) | (go_simp; rfl)); intro gb197 hg w10 hbox hb; have n0_ := Aside0.mk (blk_below (g := gb196) (o := .cells #[.int .i64 a0_0, .slice A0_1 l0_1.length c0_1] 38 (0, 0)) (by (with_reducible repeat (first | refine blk_drewN ?_ _ | refine blk_drew ?_ | refine blk_alloc ?_ _)); exact BK196.out) hb); have n1_ := Aside0.mk (below_step (by repeat (first | (with_reducible first | exact HB.out | apply below_alloc | apply pw_below_drewN | apply below_drew1 | refine below_set ?_ GE196.out) | exact HB.out)) hb); have n2_ := Aside0.mk (hbox); have n3_ := Aside0.mk ((by rw [hg]; exact (below_size (by repeat (first | (with_reducible first | exact HB.out | apply below_alloc | apply pw_below_drewN | apply below_drew1 | refine below_set ?_ GE196.out) | exact HB.out))) : w.heap.size ≤ gb197)); have n4_ := Aside0.mk ((by rw [hg]; exact (below_size (by repeat (first | (with_reducible first | exact HB.out | apply below_alloc | apply pw_below_drewN | apply below_drew1 | refine below_set ?_ GE196.out) | exact HB.out))) : w.heap.size ≤ gb197)); have n5_ := Aside0.mk ((by rw [hg]; exact Nat.ne_of_lt (blk_lt (g := gb196) (o := .cells #[.int .i64 a0_0, .slice A0_1 l0_1.length c0_1] 38 (0, 0)) (by (with_reducible repeat (first | refine blk_drewN ?_ _ | refine blk_drew ?_ | refine blk_alloc ?_ _)); exact BK196.out)) : gb196 ≠ gb197)); have n6_ := Aside0.mk ((by rw [hg]; exact Nat.ne_of_gt (blk_lt (g := gb196) (o := .cells #[.int .i64 a0_0, .slice A0_1 l0_1.length c0_1] 38 (0, 0)) (by (with_reducible repeat (first | refine blk_drewN ?_ _ | refine blk_drew ?_ | refine blk_alloc ?_ _)); exact BK196.out)) : gb197 ≠ gb196)); clear BK196; clear HB; have BK196 := n0_; have HB := n1_; have BK197 := n2_; have GW197 := n3_; have GE197 := n4_; have NB196_197 := n5_; have NB197_196 := n6_; clear n0_ n1_ n2_ n3_ n4_ n5_ n6_; clear hb hbox hg; have hnb11 := NB196_197.out; have hnc11 := NB197_196.out; have hcz12_0 : w10.cell? ⟨gb196, 0, none⟩ = some (.int .i64 a0_0) := (blk_cell BK196.out 0).trans rfl; have hcz12_1 : w10.cell? ⟨gb196, 1, none⟩ = some (.slice A0_1 l0_1.length c0_1) := (blk_cell BK196.out 1).trans rfl; have hfz12_0 := blk_frozen BK196.out 0; have hfz12_1 := blk_frozen BK196.out 1)))
     go_loopg [19] k (fun kq v19 w' => ∃ (x19_1 : Int), v19 = .int .i64 x19_1 ∧ Aside0 (spec_Keeps.l0 kq l0_1 (l0_1.length : Int) x19_1 a1_0 a1_1 a1_2 a1_3 a1_4 a1_5 a1_6 a1_7 a1_8 a1_9 a1_10 = some (r1, r2, r3)) ∧ Aside0 (kq ≤ k) ∧ Aside0 (w'.heap[gb196]? = some (.cells #[.int .i64 a0_0, (.slice A0_1 l0_1.length c0_1)] 38 (0, 0))) ∧ Aside0 (w'.heap[gb197]? = some (.cells #[.int .i64 a1_0, .int .i64 a1_1, .int .i64 a1_2, .int .i64 a1_3, .string a1_4, .string a1_5, .string a1_6, .string a1_7, .string a1_8, .string a1_9, .string a1_10] 63 (0, 0))) ∧ Aside0 (Below w.heap.size w w'))
     case atStart => exact ⟨(0), (by first | rfl | (simp; done) | (simp [*]; done)), H', ⟨Nat.le_refl _⟩, ⟨by (with_reducible repeat (first | refine blk_drewN ?_ _ | refine blk_drew ?_ | refine blk_alloc ?_ _)); exact BK196.out⟩, ⟨by (with_reducible repeat (first | refine blk_drewN ?_ _ | refine blk_drew ?_ | refine blk_alloc ?_ _)); exact BK197.out⟩, ⟨by repeat (first | (with_reducible first | exact HB.out | apply below_alloc | apply pw_below_drewN | apply below_drew1 | refine below_set ?_ GE196.out | refine below_set ?_ GE197.out) | exact HB.out)⟩⟩
     case round =>
      clear H'
      try clear c1
      try clear c2
      try clear p2
      try clear c3
      try clear c3b0
      try clear c3b1
      try clear c6
      try clear c8
      try clear c8b0
      try clear c8b1
      try clear c11
      try clear hcz12_0
      try clear hcz12_1
      try clear hcz7_0
      try clear hcz7_1
      try clear hfz12_0
      try clear hfz12_1
      try clear hfz7_0
      try clear hfz7_1
      obtain ⟨x19_1, rfl, HA, HK1, BK196, BK197, HB⟩ := hrel
      cases gk with
      | zero => exact absurd HA.out (by simp [spec_Keeps.l0])
      | succ k1 =>
       have H := HA.out
       clear HA
       simp only [spec_Keeps.l0] at H
       by_cases c13 : x19_1 < (l0_1.length : Int)
       · rw [if_pos c13] at H
         have c13b0 : decide (x19_1 < (l0_1.length : Int)) = true := decide_eq_true c13
         clear c13
         by_cases c14 : 0 ≤ x19_1
         · rw [if_pos c14] at H
           have c14b0 : decide (0 ≤ x19_1) = true := decide_eq_true c14
           clear c14
           by_cases c15 : x19_1 < (l0_1.length : Int)
           · rw [if_pos c15] at H
             have c15b0 : decide (x19_1 < (l0_1.length : Int)) = true := decide_eq_true c15
             clear c15
             by_cases c16 : (rdOf ByteArray.empty l0_1 x19_1).toList = a1_8.toList
             · rw [if_pos c16] at H
               have c16b0 : ((rdOf ByteArray.empty l0_1 x19_1).toList == a1_8.toList) = true := beq_iff_eq.mpr c16
               have c16b1 : ((rdOf ByteArray.empty l0_1 x19_1).toList != a1_8.toList) = false := bne_eq_false_iff_eq.mpr c16
               clear c16
               simp only [Option.some.injEq, Prod.mk.injEq] at H
               obtain ⟨rfl, rfl, rfl⟩ := H
               have p198 : 0 ≤ (x19_1 : Int) := of_decide_eq_true (by first | (with_reducible assumption) | assumption)
               have q198 : x19_1 < (l0_1.length : Int) := of_decide_eq_true (by first | (with_reducible assumption) | assumption)
               obtain ⟨ad198, e198, hx198_0⟩ := Kd.at_string HR0_1.out x19_1 p198 q198
               cases e198
               replace hx198_0 := (HB.out.cell (World.block_lt_of_cell? w _ hx198_0)).trans hx198_0
               replace p198 := eq_true p198
               replace q198 := eq_true q198
               have hnb17 := NB197_196.out
               have hnc17 := NB196_197.out
               have hcz18_0 : wr.cell? ⟨gb197, 0, none⟩ = some (.int .i64 a1_0) := (blk_cell BK197.out 0).trans rfl
               have hcz18_1 : wr.cell? ⟨gb197, 1, none⟩ = some (.int .i64 a1_1) := (blk_cell BK197.out 1).trans rfl
               have hcz18_2 : wr.cell? ⟨gb197, 2, none⟩ = some (.int .i64 a1_2) := (blk_cell BK197.out 2).trans rfl
               have hcz18_3 : wr.cell? ⟨gb197, 3, none⟩ = some (.int .i64 a1_3) := (blk_cell BK197.out 3).trans rfl
               have hcz18_4 : wr.cell? ⟨gb197, 4, none⟩ = some (.string a1_4) := (blk_cell BK197.out 4).trans rfl
               have hcz18_5 : wr.cell? ⟨gb197, 5, none⟩ = some (.string a1_5) := (blk_cell BK197.out 5).trans rfl
               have hcz18_6 : wr.cell? ⟨gb197, 6, none⟩ = some (.string a1_6) := (blk_cell BK197.out 6).trans rfl
               have hcz18_7 : wr.cell? ⟨gb197, 7, none⟩ = some (.string a1_7) := (blk_cell BK197.out 7).trans rfl
               have hcz18_8 : wr.cell? ⟨gb197, 8, none⟩ = some (.string a1_8) := (blk_cell BK197.out 8).trans rfl
               have hcz18_9 : wr.cell? ⟨gb197, 9, none⟩ = some (.string a1_9) := (blk_cell BK197.out 9).trans rfl
               have hcz18_10 : wr.cell? ⟨gb197, 10, none⟩ = some (.string a1_10) := (blk_cell BK197.out 10).trans rfl
               have hfz18_0 := blk_frozen BK197.out 0
               have hfz18_1 := blk_frozen BK197.out 1
               have hfz18_2 := blk_frozen BK197.out 2
               have hfz18_3 := blk_frozen BK197.out 3
               have hfz18_4 := blk_frozen BK197.out 4
               have hfz18_5 := blk_frozen BK197.out 5
               have hfz18_6 := blk_frozen BK197.out 6
               have hfz18_7 := blk_frozen BK197.out 7
               have hfz18_8 := blk_frozen BK197.out 8
               have hfz18_9 := blk_frozen BK197.out 9
               have hfz18_10 := blk_frozen BK197.out 10
               go_wp2
               repeat (go_quiet (fail); try go_wp2)
               go_ret3
               exact ⟨by first | rfl | (simp [errW_none, errW_some] <;> rfl) | (simp [*, errW_none, errW_some] <;> rfl), by repeat (first | (with_reducible first | exact HB.out | apply below_alloc | apply pw_below_drewN | apply below_drew1 | refine below_set ?_ GE196.out | refine below_set ?_ GE197.out) | exact HB.out)⟩
             · rw [if_neg c16] at H
               have c16b0 : ((rdOf ByteArray.empty l0_1 x19_1).toList == a1_8.toList) = false := beq_eq_false_iff_ne.mpr c16
               have c16b1 : ((rdOf ByteArray.empty l0_1 x19_1).toList != a1_8.toList) = true := bne_iff_ne.mpr c16
               have H' := Aside0.mk H
               clear H
               have p198 : 0 ≤ (x19_1 : Int) := of_decide_eq_true (by first | (with_reducible assumption) | assumption)
               have q198 : x19_1 < (l0_1.length : Int) := of_decide_eq_true (by first | (with_reducible assumption) | assumption)
               obtain ⟨ad198, e198, hx198_0⟩ := Kd.at_string HR0_1.out x19_1 p198 q198
               cases e198
               replace hx198_0 := (HB.out.cell (World.block_lt_of_cell? w _ hx198_0)).trans hx198_0
               replace p198 := eq_true p198
               replace q198 := eq_true q198
               have hnb19 := NB197_196.out
               have hnc19 := NB196_197.out
               have hcz20_0 : wr.cell? ⟨gb197, 0, none⟩ = some (.int .i64 a1_0) := (blk_cell BK197.out 0).trans rfl
               have hcz20_1 : wr.cell? ⟨gb197, 1, none⟩ = some (.int .i64 a1_1) := (blk_cell BK197.out 1).trans rfl
               have hcz20_2 : wr.cell? ⟨gb197, 2, none⟩ = some (.int .i64 a1_2) := (blk_cell BK197.out 2).trans rfl
               have hcz20_3 : wr.cell? ⟨gb197, 3, none⟩ = some (.int .i64 a1_3) := (blk_cell BK197.out 3).trans rfl
               have hcz20_4 : wr.cell? ⟨gb197, 4, none⟩ = some (.string a1_4) := (blk_cell BK197.out 4).trans rfl
               have hcz20_5 : wr.cell? ⟨gb197, 5, none⟩ = some (.string a1_5) := (blk_cell BK197.out 5).trans rfl
               have hcz20_6 : wr.cell? ⟨gb197, 6, none⟩ = some (.string a1_6) := (blk_cell BK197.out 6).trans rfl
               have hcz20_7 : wr.cell? ⟨gb197, 7, none⟩ = some (.string a1_7) := (blk_cell BK197.out 7).trans rfl
               have hcz20_8 : wr.cell? ⟨gb197, 8, none⟩ = some (.string a1_8) := (blk_cell BK197.out 8).trans rfl
               have hcz20_9 : wr.cell? ⟨gb197, 9, none⟩ = some (.string a1_9) := (blk_cell BK197.out 9).trans rfl
               have hcz20_10 : wr.cell? ⟨gb197, 10, none⟩ = some (.string a1_10) := (blk_cell BK197.out 10).trans rfl
               have hfz20_0 := blk_frozen BK197.out 0
               have hfz20_1 := blk_frozen BK197.out 1
               have hfz20_2 := blk_frozen BK197.out 2
               have hfz20_3 := blk_frozen BK197.out 3
               have hfz20_4 := blk_frozen BK197.out 4
               have hfz20_5 := blk_frozen BK197.out 5
               have hfz20_6 := blk_frozen BK197.out 6
               have hfz20_7 := blk_frozen BK197.out 7
               have hfz20_8 := blk_frozen BK197.out 8
               have hfz20_9 := blk_frozen BK197.out 9
               have hfz20_10 := blk_frozen BK197.out 10
               go_wp2
               repeat (go_quiet (fail); try go_wp2)
               go_roundg k1
               case measure => have := HK1.out; omega
               case rel => exact ⟨(wrap64 (x19_1 + 1)), (by first | rfl | (simp; done) | (simp [*]; done)), H', ⟨by have := HK1.out; omega⟩, ⟨by (with_reducible repeat (first | refine blk_drewN ?_ _ | refine blk_drew ?_ | refine blk_alloc ?_ _)); exact BK196.out⟩, ⟨by (with_reducible repeat (first | refine blk_drewN ?_ _ | refine blk_drew ?_ | refine blk_alloc ?_ _)); exact BK197.out⟩, ⟨by repeat (first | (with_reducible first | exact HB.out | apply below_alloc | apply pw_below_drewN | apply below_drew1 | refine below_set ?_ GE196.out | refine below_set ?_ GE197.out) | exact HB.out)⟩⟩
           · rw [if_neg c15] at H
             exact absurd H (by simp)
         · rw [if_neg c14] at H
           exact absurd H (by simp)
       · rw [if_neg c13] at H
         have c13b0 : decide (x19_1 < (l0_1.length : Int)) = false := decide_eq_false c13
         clear c13
         simp only [Option.some.injEq, Prod.mk.injEq] at H
         obtain ⟨rfl, rfl, rfl⟩ := H
         go_wp2
         repeat (go_quiet (fail); try go_wp2)
         go_ret3
         exact ⟨by first | rfl | (simp [errW_none, errW_some] <;> rfl) | (simp [*, errW_none, errW_some] <;> rfl), by repeat (first | (with_reducible first | exact HB.out | apply below_alloc | apply pw_below_drewN | apply below_drew1 | refine below_set ?_ GE196.out | refine below_set ?_ GE197.out) | exact HB.out)⟩
   · rw [if_neg c8] at H
     have c8b0 : (a0_0 == 1) = false := beq_eq_false_iff_ne.mpr c8
     have c8b1 : (a0_0 != 1) = true := bne_iff_ne.mpr c8
     have HC21 := Aside0.mk H
     clear H
     go_enter Tryd.func28, Tryd.ntmps28
     go_upto_region 12 with (first | ((with_reducible refine gate_dst (N := 2) rfl ?_); refine box_event ?hg (N := 2) ?hd (cs := #[.int .i64 a0_0, .slice A0_1 l0_1.length c0_1]) (t := 38) ?hr ?_; (case hd => rfl); (case hg => rfl); (case hr => first | (go_simp; done) | (go_simp; rfl)); intro gb196 hg w22 hbox hb; have n0_ := Aside0.mk (below_step (by repeat (first | (with_reducible first | exact HB.out | apply below_alloc | apply pw_below_drewN | apply below_drew1) | exact HB.out)) hb); have n1_ := Aside0.mk (hbox); have n2_ := Aside0.mk ((by rw [hg]; exact (below_size (by repeat (first | (with_reducible first | exact HB.out | apply below_alloc | apply pw_below_drewN | apply below_drew1) | exact HB.out))) : w.heap.size ≤ gb196)); have n3_ := Aside0.mk ((by rw [hg]; exact (below_size (by repeat (first | (with_reducible first | exact HB.out | apply below_alloc | apply pw_below_drewN | apply below_drew1) | exact HB.out))) : w.heap.size ≤ gb196)); clear HB; have HB := n0_; have BK196 := n1_; have GW196 := n2_; have GE196 := n3_; clear n0_ n1_ n2_ n3_; clear hb hbox hg) | ((with_reducible refine gate_dst (N := 3) rfl ?_); refine box_event ?hg (N := 3) ?hd (cs := #[.int .i64 a1_0, .int .i64 a1_1, .int .i64 a1_2, .int .i64 a1_3, .string a1_4, .string a1_5, .string a1_6, .string a1_7, .string a1_8, .string a1_9, .string a1_10]) (t := 63) ?hr ?_; (case hd => rfl); (case hg => rfl); (case hr => first | (go_simp; done) | (go_simp; rfl)); intro gb197 hg w23 hbox hb; have n0_ := Aside0.mk (blk_below (g := gb196) (o := .cells #[.int .i64 a0_0, .slice A0_1 l0_1.length c0_1] 38 (0, 0)) (by (with_reducible repeat (first | refine blk_drewN ?_ _ | refine blk_drew ?_ | refine blk_alloc ?_ _)); exact BK196.out) hb); have n1_ := Aside0.mk (below_step (by repeat (first | (with_reducible first | exact HB.out | apply below_alloc | apply pw_below_drewN | apply below_drew1 | refine below_set ?_ GE196.out) | exact HB.out)) hb); have n2_ := Aside0.mk (hbox); have n3_ := Aside0.mk ((by rw [hg]; exact (below_size (by repeat (first | (with_reducible first | exact HB.out | apply below_alloc | apply pw_below_drewN | apply below_drew1 | refine below_set ?_ GE196.out) | exact HB.out))) : w.heap.size ≤ gb197)); have n4_ := Aside0.mk ((by rw [hg]; exact (below_size (by repeat (first | (with_reducible first | exact HB.out | apply below_alloc | apply pw_below_drewN | apply below_drew1 | refine below_set ?_ GE196.out) | exact HB.out))) : w.heap.size ≤ gb197)); have n5_ := Aside0.mk ((by rw [hg]; exact Nat.ne_of_lt (blk_lt (g := gb196) (o := .cells #[.int .i64 a0_0, .slice A0_1 l0_1.length c0_1] 38 (0, 0)) (by (with_reducible repeat (first | refine blk_drewN ?_ _ | refine blk_drew ?_ | refine blk_alloc ?_ _)); exact BK196.out)) : gb196 ≠ gb197)); have n6_ := Aside0.mk ((by rw [hg]; exact Nat.ne_of_gt (blk_lt (g := gb196) (o := .cells #[.int .i64 a0_0, .slice A0_1 l0_1.length c0_1] 38 (0, 0)) (by (with_reducible repeat (first | refine blk_drewN ?_ _ | refine blk_drew ?_ | refine blk_alloc ?_ _)); exact BK196.out)) : gb197 ≠ gb196)); clear BK196; clear HB; have BK196 := n0_; have HB := n1_; have BK197 := n2_; have GW197 := n3_; have GE197 := n4_; have NB196_197 := n5_; have NB197_196 := n6_; clear n0_ n1_ n2_ n3_ n4_ n5_ n6_; clear hb hbox hg; have hnb24 := NB196_197.out; have hnc24 := NB197_196.out; have hcz25_0 : w23.cell? ⟨gb196, 0, none⟩ = some (.int .i64 a0_0) := (blk_cell BK196.out 0).trans rfl; have hcz25_1 : w23.cell? ⟨gb196, 1, none⟩ = some (.slice A0_1 l0_1.length c0_1) := (blk_cell BK196.out 1).trans rfl; have hfz25_0 := blk_frozen BK196.out 0; have hfz25_1 := blk_frozen BK196.out 1))
     repeat (go_quiet (first | ((with_reducible refine gate_dst (N := 2) rfl ?_); refine box_event ?hg (N := 2) ?hd (cs := #[.int .i64 a0_0, .slice A0_1 l0_1.length c0_1]) (t := 38) ?hr ?_; (case hd => rfl); (case hg => rfl); (case hr => first | (go_simp; done) | (go_simp; rfl)); intro gb196 hg w22 hbox hb; have n0_ := Aside0.mk (below_step (by repeat (first | (with_reducible first | exact HB.out | apply below_alloc | apply pw_below_drewN | apply below_drew1) | exact HB.out)) hb); have n1_ := Aside0.mk (hbox); have n2_ := Aside0.mk ((by rw [hg]; exact (below_size (by repeat (first | (with_reducible first | exact HB.out | apply below_alloc | apply pw_below_drewN | apply below_drew1) | exact HB.out))) : w.heap.size ≤ gb196)); have n3_ := Aside0.mk ((by rw [hg]; exact (below_size (by repeat (first | (with_reducible first | exact HB.out | apply below_alloc | apply pw_below_drewN | apply below_drew1) | exact HB.out))) : w.heap.size ≤ gb196)); clear HB; have HB := n0_; have BK196 := n1_; have GW196 := n2_; have GE196 := n3_; clear n0_ n1_ n2_ n3_; clear hb hbox hg) | ((with_reducible refine gate_dst (N := 3) rfl ?_); refine box_event ?hg (N := 3) ?hd (cs := #[.int .i64 a1_0, .int .i64 a1_1, .int .i64 a1_2, .int .i64 a1_3, .string a1_4, .string a1_5, .string a1_6, .string a1_7, .string a1_8, .string a1_9, .string a1_10]) (t := 63) ?hr ?_; (case hd => rfl); (case hg => rfl); (case hr => first | (go_simp; done) | (go_simp; rfl)); intro gb197 hg w23 hbox hb; have n0_ := Aside0.mk (blk_below (g := gb196) (o := .cells #[.int .i64 a0_0, .slice A0_1 l0_1.length c0_1] 38 (0, 0)) (by (with_reducible repeat (first | refine blk_drewN ?_ _ | refine blk_drew ?_ | refine blk_alloc ?_ _)); exact BK196.out) hb); have n1_ := Aside0.mk (below_step (by repeat (first | (with_reducible first | exact HB.out | apply below_alloc | apply pw_below_drewN | apply below_drew1 | refine below_set ?_ GE196.out) | exact HB.out)) hb); have n2_ := Aside0.mk (hbox); have n3_ := Aside0.mk ((by rw [hg]; exact (below_size (by repeat (first | (with_reducible first | exact HB.out | apply below_alloc | apply pw_below_drewN | apply below_drew1 | refine below_set ?_ GE196.out) | exact HB.out))) : w.heap.size ≤ gb197)); have n4_ := Aside0.mk ((by rw [hg]; exact (below_size (by repeat (first | (with_reducible first | exact HB.out | apply below_alloc | apply pw_below_drewN | apply below_drew1 | refine below_set ?_ GE196.out) | exact HB.out))) : w.heap.size ≤ gb197)); have n5_ := Aside0.mk ((by rw [hg]; exact Nat.ne_of_lt (blk_lt (g := gb196) (o := .cells #[.int .i64 a0_0, .slice A0_1 l0_1.length c0_1] 38 (0, 0)) (by (with_reducible repeat (first | refine blk_drewN ?_ _ | refine blk_drew ?_ | refine blk_alloc ?_ _)); exact BK196.out)) : gb196 ≠ gb197)); have n6_ := Aside0.mk ((by rw [hg]; exact Nat.ne_of_gt (blk_lt (g := gb196) (o := .cells #[.int .i64 a0_0, .slice A0_1 l0_1.length c0_1] 38 (0, 0)) (by (with_reducible repeat (first | refine blk_drewN ?_ _ | refine blk_drew ?_ | refine blk_alloc ?_ _)); exact BK196.out)) : gb197 ≠ gb196)); clear BK196; clear HB; have BK196 := n0_; have HB := n1_; have BK197 := n2_; have GW197 := n3_; have GE197 := n4_; have NB196_197 := n5_; have NB197_196 := n6_; clear n0_ n1_ n2_ n3_ n4_ n5_ n6_; clear hb hbox hg; have hnb24 := NB196_197.out; have hnc24 := NB197_196.out; have hcz25_0 : w23.cell? ⟨gb196, 0, none⟩ = some (.int .i64 a0_0) := (blk_cell BK196.out 0).trans rfl; have hcz25_1 : w23.cell? ⟨gb196, 1, none⟩ = some (.slice A0_1 l0_1.length c0_1) := (blk_cell BK196.out 1).trans rfl; have hfz25_0 := blk_frozen BK196.out 0; have hfz25_1 := blk_frozen BK196.out 1)); go_upto_region 12 with (first | ((with_reducible refine gate_dst (N := 2) rfl ?_); refine box_event ?hg (N := 2) ?hd (cs := #[.int .i64 a0_0, .slice A0_1 l0_1.length c0_1]) (t := 38) ?hr ?_; (case hd => rfl); (case hg => rfl); (case hr => first | (go_simp; done) | (go_simp; rfl)); intro gb196 hg w22 hbox hb; have n0_ := Aside0.mk (below_step (by repeat (first | (with_reducible first | exact HB.out | apply below_alloc | apply pw_below_drewN | apply below_drew1) | exact HB.out)) hb); have n1_ := Aside0.mk (hbox); have n2_ := Aside0.mk ((by rw [hg]; exact (below_size (by repeat (first | (with_reducible first | exact HB.out | apply below_alloc | apply pw_below_drewN | apply below_drew1) | exact HB.out))) : w.heap.size ≤ gb196)); have n3_ := Aside0.mk ((by rw [hg]; exact (below_size (by repeat (first | (with_reducible first | exact HB.out | apply below_alloc | apply pw_below_drewN | apply below_drew1) | exact HB.out))) : w.heap.size ≤ gb196)); clear HB; have HB := n0_; have BK196 := n1_; have GW196 := n2_; have GE196 := n3_; clear n0_ n1_ n2_ n3_; clear hb hbox hg) | ((with_reducible refine gate_dst (N := 3) rfl ?_); refine box_event ?hg (N := 3) ?hd (cs := #[.int .i64 a1_0, .int .i64 a1_1, .int .i64 a1_2, .int .i64 a1_3, .string a1_4, .string a1_5, .string a1_6, .string a1_7, .string a1_8, .string a1_9, .string a1_10]) (t := 63) ?hr ?_; (case hd => rfl); (case hg => rfl); (case hr => first | (go_simp; done) | (go_simp; rfl)); intro gb197 hg w23 hbox hb; have n0_ := Aside0.mk (blk_below (g := gb196) (o := .cells #[.int .i64 a0_0, .slice A0_1 l0_1.length c0_1] 38 (0, 0)) (by (with_reducible repeat (first | refine blk_drewN ?_ _ | refine blk_drew ?_ | refine blk_alloc ?_ _)); exact BK196.out) hb); have n1_ := Aside0.mk (below_step (by repeat (first | (with_reducible first | exact HB.out | apply below_alloc | apply pw_below_drewN | apply below_drew1 | refine below_set ?_ GE196.out) | exact HB.out)) hb); have n2_ := Aside0.mk (hbox); have n3_ := Aside0.mk ((by rw [hg]; exact (below_size (by repeat (first | (with_reducible first | exact HB.out | apply below_alloc | apply pw_below_drewN | apply below_drew1 | refine below_set ?_ GE196.out) | exact HB.out))) : w.heap.size ≤ gb197)); have n4_ := Aside0.mk ((by rw [hg]; exact (below_size (by repeat (first | (with_reducible first | exact HB.out | apply below_alloc | apply pw_below_drewN | apply below_drew1 | refine below_set ?_ GE196.out) | exact HB.out))) : w.heap.size ≤ gb197)); have n5_ := Aside0.mk ((by rw [hg]; exact Nat.ne_of_lt (blk_lt (g := gb196) (o := .cells #[.int .i64 a0_0, .slice A0_1 l0_1.length c0_1] 38 (0, 0)) (by (with_reducible repeat (first | refine blk_drewN ?_ _ | refine blk_drew ?_ | refine blk_alloc ?_ _)); exact BK196.out)) : gb196 ≠ gb197)); have n6_ := Aside0.mk ((by rw [hg]; exact Nat.ne_of_gt (blk_lt (g := gb196) (o := .cells #[.int .i64 a0_0, .slice A0_1 l0_1.length c0_1] 38 (0, 0)) (by (with_reducible repeat (first | refine blk_drewN ?_ _ | refine blk_drew ?_ | refine blk_alloc ?_ _)); exact BK196.out)) : gb197 ≠ gb196)); clear BK196; clear HB; have BK196 := n0_; have HB := n1_; have BK197 := n2_; have GW197 := n3_; have GE197 := n4_; have NB196_197 := n5_; have NB197_196 := n6_; clear n0_ n1_ n2_ n3_ n4_ n5_ n6_; clear hb hbox hg; have hnb24 := NB196_197.out; have hnc24 := NB197_196.out; have hcz25_0 : w23.cell? ⟨gb196, 0, none⟩ = some (.int .i64 a0_0) := (blk_cell BK196.out 0).trans rfl; have hcz25_1 : w23.cell? ⟨gb196, 1, none⟩ = some (.slice A0_1 l0_1.length c0_1) := (blk_cell BK196.out 1).trans rfl; have hfz25_0 := blk_frozen BK196.out 0; have hfz25_1 := blk_frozen BK196.out 1)))
     (try simp only [Act.put, List.setIfInBounds_toArray, List.set_cons_zero, List.set_cons_succ])
     go_cut [45] (fun v45 wc => ∃ (kq : Nat) (x45_20 : Bool), v45 = .bool x45_20 ∧ Aside0 (spec_Keeps.j1 kq x45_20 a0_0 l0_1 a1_0 a1_1 a1_2 a1_3 a1_4 a1_5 a1_6 a1_7 a1_8 a1_9 a1_10 = some (r1, r2, r3)) ∧ Aside0 (kq ≤ k) ∧ Aside0 (wc.heap[gb196]? = some (.cells #[.int .i64 a0_0, (.slice A0_1 l0_1.length c0_1)] 38 (0, 0))) ∧ Aside0 (wc.heap[gb197]? = some (.cells #[.int .i64 a1_0, .int .i64 a1_1, .int .i64 a1_2, .int .i64 a1_3, .string a1_4, .string a1_5, .string a1_6, .string a1_7, .string a1_8, .string a1_9, .string a1_10] 63 (0, 0))) ∧ Aside0 (Below w.heap.size w wc))
     case first =>
      have H := HC21.out
      clear HC21
      by_cases c26 : (l0_1.length : Int) = 1
      · rw [if_pos c26] at H
        have c26b0 : ((l0_1.length : Int) == 1) = true := beq_iff_eq.mpr c26
        have c26b1 : ((l0_1.length : Int) != 1) = false := bne_eq_false_iff_eq.mpr c26
        clear c26
        (first | rw [c26b0] | (simp only [i64_w, i32_w]; rw [c26b0]) | skip)
        by_cases c27 : 0 < (l0_1.length : Int)
        · rw [if_pos c27] at H
          have c27b0 : decide (0 < (l0_1.length : Int)) = true := decide_eq_true c27
          have c27b1 : decide (0 < l0_1.length) = true := decide_eq_true (by omega)
          clear c27
          replace H := Option.bind_eq_some_iff.mp H
          obtain ⟨t200, A280, H⟩ := H
          replace H : (if t200 = true then ((spec_cleanPath.f k a1_5).bind fun t201 => (spec_Keeps.j1 k (!t201) a0_0 l0_1 a1_0 a1_1 a1_2 a1_3 a1_4 a1_5 a1_6 a1_7 a1_8 a1_9 a1_10)) else (spec_Keeps.j1 k true a0_0 l0_1 a1_0 a1_1 a1_2 a1_3 a1_4 a1_5 a1_6 a1_7 a1_8 a1_9 a1_10)) = some (r1, r2, r3) := H
          have A28 := Aside0.mk A280
          clear A280
          by_cases c29 : t200 = true
          · subst c29
            have H1 : ((spec_cleanPath.f k a1_5).bind fun t201 => (spec_Keeps.j1 k (!t201) a0_0 l0_1 a1_0 a1_1 a1_2 a1_3 a1_4 a1_5 a1_6 a1_7 a1_8 a1_9 a1_10)) = some (r1, r2, r3) := by rw [if_pos rfl] at H; exact H
            clear H
            have H := H1
            clear H1
            replace H := Option.bind_eq_some_iff.mp H
            obtain ⟨t201, A300, H⟩ := H
            replace H : (spec_Keeps.j1 k (!t201) a0_0 l0_1 a1_0 a1_1 a1_2 a1_3 a1_4 a1_5 a1_6 a1_7 a1_8 a1_9 a1_10) = some (r1, r2, r3) := H
            have A30 := Aside0.mk A300
            clear A300
            have H' := Aside0.mk H
            clear H
            have hnb31 := NB196_197.out
            have hnc31 := NB197_196.out
            have hcz32_0 : w23.cell? ⟨gb196, 0, none⟩ = some (.int .i64 a0_0) := (blk_cell BK196.out 0).trans rfl
            have hcz32_1 : w23.cell? ⟨gb196, 1, none⟩ = some (.slice A0_1 l0_1.length c0_1) := (blk_cell BK196.out 1).trans rfl
            have hfz32_0 := blk_frozen BK196.out 0
            have hfz32_1 := blk_frozen BK196.out 1
            have p199 : 0 ≤ (0 : Int) := (by omega)
            have q199 : 0 < (l0_1.length : Int) := of_decide_eq_true (by first | (with_reducible assumption) | assumption)
            obtain ⟨ad199, e199, hx199_0⟩ := Kd.at_string HR0_1.out 0 p199 q199
            cases e199
            have qi199 : (0 < l0_1.length) = True := eq_true (by omega)
            (try rw [show ((0 : Int)).toNat = 0 from rfl] at hx199_0)
            (try rw [Addr.add_zero'] at hx199_0)
            replace hx199_0 := (HB.out.cell (World.block_lt_of_cell? w _ hx199_0)).trans hx199_0
            replace p199 := eq_true p199
            replace q199 := eq_true q199
            go_wp2_with (first | (go_at_call 49; (with_reducible refine (spec_cleanPath.calls k (rdOf ByteArray.empty l0_1 0) true _ A28.out).mono ?_); rintro e w' ⟨rfl, ⟨nd, rfl⟩⟩; (try first | exact ⟨rfl, _, World.drewN_drewN _ _ _⟩ | exact ⟨rfl, _, Eq.trans (World.drewN_drewN _ _ _) (congrArg (World.drewN _) (Nat.add_assoc _ _ _))⟩); have hcz33_0 : w23.cell? ⟨gb197, 0, none⟩ = some (.int .i64 a1_0) := (blk_cell BK197.out 0).trans rfl; have hcz33_1 : w23.cell? ⟨gb197, 1, none⟩ = some (.int .i64 a1_1) := (blk_cell BK197.out 1).trans rfl; have hcz33_2 : w23.cell? ⟨gb197, 2, none⟩ = some (.int .i64 a1_2) := (blk_cell BK197.out 2).trans rfl; have hcz33_3 : w23.cell? ⟨gb197, 3, none⟩ = some (.int .i64 a1_3) := (blk_cell BK197.out 3).trans rfl; have hcz33_4 : w23.cell? ⟨gb197, 4, none⟩ = some (.string a1_4) := (blk_cell BK197.out 4).trans rfl; have hcz33_5 : w23.cell? ⟨gb197, 5, none⟩ = some (.string a1_5) := (blk_cell BK197.out 5).trans rfl; have hcz33_6 : w23.cell? ⟨gb197, 6, none⟩ = some (.string a1_6) := (blk_cell BK197.out 6).trans rfl; have hcz33_7 : w23.cell? ⟨gb197, 7, none⟩ = some (.string a1_7) := (blk_cell BK197.out 7).trans rfl; have hcz33_8 : w23.cell? ⟨gb197, 8, none⟩ = some (.string a1_8) := (blk_cell BK197.out 8).trans rfl; have hcz33_9 : w23.cell? ⟨gb197, 9, none⟩ = some (.string a1_9) := (blk_cell BK197.out 9).trans rfl; have hcz33_10 : w23.cell? ⟨gb197, 10, none⟩ = some (.string a1_10) := (blk_cell BK197.out 10).trans rfl; have hfz33_0 := blk_frozen BK197.out 0; have hfz33_1 := blk_frozen BK197.out 1; have hfz33_2 := blk_frozen BK197.out 2; have hfz33_3 := blk_frozen BK197.out 3; have hfz33_4 := blk_frozen BK197.out 4; have hfz33_5 := blk_frozen BK197.out 5; have hfz33_6 := blk_frozen BK197.out 6; have hfz33_7 := blk_frozen BK197.out 7; have hfz33_8 := blk_frozen BK197.out 8; have hfz33_9 := blk_frozen BK197.out 9; have hfz33_10 := blk_frozen BK197.out 10) | (go_at_call 49; (with_reducible refine (spec_cleanPath.calls k a1_5 t201 _ A30.out).mono ?_); rintro e w' ⟨rfl, ⟨nd, rfl⟩⟩; (try first | exact ⟨rfl, _, World.drewN_drewN _ _ _⟩ | exact ⟨rfl, _, Eq.trans (World.drewN_drewN _ _ _) (congrArg (World.drewN _) (Nat.add_assoc _ _ _))⟩)))
            repeat (go_quiet (first | (go_at_call 49; (with_reducible refine (spec_cleanPath.calls k (rdOf ByteArray.empty l0_1 0) true _ A28.out).mono ?_); rintro e w' ⟨rfl, ⟨nd, rfl⟩⟩; (try first | exact ⟨rfl, _, World.drewN_drewN _ _ _⟩ | exact ⟨rfl, _, Eq.trans (World.drewN_drewN _ _ _) (congrArg (World.drewN _) (Nat.add_assoc _ _ _))⟩); have hcz33_0 : w23.cell? ⟨gb197, 0, none⟩ = some (.int .i64 a1_0) := (blk_cell BK197.out 0).trans rfl; have hcz33_1 : w23.cell? ⟨gb197, 1, none⟩ = some (.int .i64 a1_1) := (blk_cell BK197.out 1).trans rfl; have hcz33_2 : w23.cell? ⟨gb197, 2, none⟩ = some (.int .i64 a1_2) := (blk_cell BK197.out 2).trans rfl; have hcz33_3 : w23.cell? ⟨gb197, 3, none⟩ = some (.int .i64 a1_3) := (blk_cell BK197.out 3).trans rfl; have hcz33_4 : w23.cell? ⟨gb197, 4, none⟩ = some (.string a1_4) := (blk_cell BK197.out 4).trans rfl; have hcz33_5 : w23.cell? ⟨gb197, 5, none⟩ = some (.string a1_5) := (blk_cell BK197.out 5).trans rfl; have hcz33_6 : w23.cell? ⟨gb197, 6, none⟩ = some (.string a1_6) := (blk_cell BK197.out 6).trans rfl; have hcz33_7 : w23.cell? ⟨gb197, 7, none⟩ = some (.string a1_7) := (blk_cell BK197.out 7).trans rfl; have hcz33_8 : w23.cell? ⟨gb197, 8, none⟩ = some (.string a1_8) := (blk_cell BK197.out 8).trans rfl; have hcz33_9 : w23.cell? ⟨gb197, 9, none⟩ = some (.string a1_9) := (blk_cell BK197.out 9).trans rfl; have hcz33_10 : w23.cell? ⟨gb197, 10, none⟩ = some (.string a1_10) := (blk_cell BK197.out 10).trans rfl; have hfz33_0 := blk_frozen BK197.out 0; have hfz33_1 := blk_frozen BK197.out 1; have hfz33_2 := blk_frozen BK197.out 2; have hfz33_3 := blk_frozen BK197.out 3; have hfz33_4 := blk_frozen BK197.out 4; have hfz33_5 := blk_frozen BK197.out 5; have hfz33_6 := blk_frozen BK197.out 6; have hfz33_7 := blk_frozen BK197.out 7; have hfz33_8 := blk_frozen BK197.out 8; have hfz33_9 := blk_frozen BK197.out 9; have hfz33_10 := blk_frozen BK197.out 10) | (go_at_call 49; (with_reducible refine (spec_cleanPath.calls k a1_5 t201 _ A30.out).mono ?_); rintro e w' ⟨rfl, ⟨nd, rfl⟩⟩; (try first | exact ⟨rfl, _, World.drewN_drewN _ _ _⟩ | exact ⟨rfl, _, Eq.trans (World.drewN_drewN _ _ _) (congrArg (World.drewN _) (Nat.add_assoc _ _ _))⟩))); try go_wp2_with (first | (go_at_call 49; (with_reducible refine (spec_cleanPath.calls k (rdOf ByteArray.empty l0_1 0) true _ A28.out).mono ?_); rintro e w' ⟨rfl, ⟨nd, rfl⟩⟩; (try first | exact ⟨rfl, _, World.drewN_drewN _ _ _⟩ | exact ⟨rfl, _, Eq.trans (World.drewN_drewN _ _ _) (congrArg (World.drewN _) (Nat.add_assoc _ _ _))⟩); have hcz33_0 : w23.cell? ⟨gb197, 0, none⟩ = some (.int .i64 a1_0) := (blk_cell BK197.out 0).trans rfl; have hcz33_1 : w23.cell? ⟨gb197, 1, none⟩ = some (.int .i64 a1_1) := (blk_cell BK197.out 1).trans rfl; have hcz33_2 : w23.cell? ⟨gb197, 2, none⟩ = some (.int .i64 a1_2) := (blk_cell BK197.out 2).trans rfl; have hcz33_3 : w23.cell? ⟨gb197, 3, none⟩ = some (.int .i64 a1_3) := (blk_cell BK197.out 3).trans rfl; have hcz33_4 : w23.cell? ⟨gb197, 4, none⟩ = some (.string a1_4) := (blk_cell BK197.out 4).trans rfl; have hcz33_5 : w23.cell? ⟨gb197, 5, none⟩ = some (.string a1_5) := (blk_cell BK197.out 5).trans rfl; have hcz33_6 : w23.cell? ⟨gb197, 6, none⟩ = some (.string a1_6) := (blk_cell BK197.out 6).trans rfl; have hcz33_7 : w23.cell? ⟨gb197, 7, none⟩ = some (.string a1_7) := (blk_cell BK197.out 7).trans rfl; have hcz33_8 : w23.cell? ⟨gb197, 8, none⟩ = some (.string a1_8) := (blk_cell BK197.out 8).trans rfl; have hcz33_9 : w23.cell? ⟨gb197, 9, none⟩ = some (.string a1_9) := (blk_cell BK197.out 9).trans rfl; have hcz33_10 : w23.cell? ⟨gb197, 10, none⟩ = some (.string a1_10) := (blk_cell BK197.out 10).trans rfl; have hfz33_0 := blk_frozen BK197.out 0; have hfz33_1 := blk_frozen BK197.out 1; have hfz33_2 := blk_frozen BK197.out 2; have hfz33_3 := blk_frozen BK197.out 3; have hfz33_4 := blk_frozen BK197.out 4; have hfz33_5 := blk_frozen BK197.out 5; have hfz33_6 := blk_frozen BK197.out 6; have hfz33_7 := blk_frozen BK197.out 7; have hfz33_8 := blk_frozen BK197.out 8; have hfz33_9 := blk_frozen BK197.out 9; have hfz33_10 := blk_frozen BK197.out 10) | (go_at_call 49; (with_reducible refine (spec_cleanPath.calls k a1_5 t201 _ A30.out).mono ?_); rintro e w' ⟨rfl, ⟨nd, rfl⟩⟩; (try first | exact ⟨rfl, _, World.drewN_drewN _ _ _⟩ | exact ⟨rfl, _, Eq.trans (World.drewN_drewN _ _ _) (congrArg (World.drewN _) (Nat.add_assoc _ _ _))⟩))))
            go_meet
            case rel => exact ⟨_, (!t201), (by first | rfl | (simp; done) | (simp [*]; done)), H', ⟨by first | omega | exact Nat.le_refl _⟩, ⟨by (with_reducible repeat (first | refine blk_drewN ?_ _ | refine blk_drew ?_ | refine blk_alloc ?_ _)); exact BK196.out⟩, ⟨by (with_reducible repeat (first | refine blk_drewN ?_ _ | refine blk_drew ?_ | refine blk_alloc ?_ _)); exact BK197.out⟩, ⟨by repeat (first | (with_reducible first | exact HB.out | apply below_alloc | apply pw_below_drewN | apply below_drew1 | refine below_set ?_ GE196.out | refine below_set ?_ GE197.out) | exact HB.out)⟩⟩
          · replace c29 := Bool.eq_false_iff.mpr c29
            subst c29
            have H1 : (spec_Keeps.j1 k true a0_0 l0_1 a1_0 a1_1 a1_2 a1_3 a1_4 a1_5 a1_6 a1_7 a1_8 a1_9 a1_10) = some (r1, r2, r3) := by rw [if_neg (show ¬ (false = true) by decide)] at H; exact H
            clear H
            have H := H1
            clear H1
            have H' := Aside0.mk H
            clear H
            have hnb34 := NB196_197.out
            have hnc34 := NB197_196.out
            have hcz35_0 : w23.cell? ⟨gb196, 0, none⟩ = some (.int .i64 a0_0) := (blk_cell BK196.out 0).trans rfl
            have hcz35_1 : w23.cell? ⟨gb196, 1, none⟩ = some (.slice A0_1 l0_1.length c0_1) := (blk_cell BK196.out 1).trans rfl
            have hfz35_0 := blk_frozen BK196.out 0
            have hfz35_1 := blk_frozen BK196.out 1
            have p199 : 0 ≤ (0 : Int) := (by omega)
            have q199 : 0 < (l0_1.length : Int) := of_decide_eq_true (by first | (with_reducible assumption) | assumption)
            obtain ⟨ad199, e199, hx199_0⟩ := Kd.at_string HR0_1.out 0 p199 q199
            cases e199
            have qi199 : (0 < l0_1.length) = True := eq_true (by omega)
            (try rw [show ((0 : Int)).toNat = 0 from rfl] at hx199_0)
            (try rw [Addr.add_zero'] at hx199_0)
            replace hx199_0 := (HB.out.cell (World.block_lt_of_cell? w _ hx199_0)).trans hx199_0
            replace p199 := eq_true p199
            replace q199 := eq_true q199
            go_wp2_with (first | (go_at_call 49; (with_reducible refine (spec_cleanPath.calls k (rdOf ByteArray.empty l0_1 0) false _ A28.out).mono ?_); rintro e w' ⟨rfl, ⟨nd, rfl⟩⟩; (try first | exact ⟨rfl, _, World.drewN_drewN _ _ _⟩ | exact ⟨rfl, _, Eq.trans (World.drewN_drewN _ _ _) (congrArg (World.drewN _) (Nat.add_assoc _ _ _))⟩)))
            repeat (go_quiet (first | (go_at_call 49; (with_reducible refine (spec_cleanPath.calls k (rdOf ByteArray.empty l0_1 0) false _ A28.out).mono ?_); rintro e w' ⟨rfl, ⟨nd, rfl⟩⟩; (try first | exact ⟨rfl, _, World.drewN_drewN _ _ _⟩ | exact ⟨rfl, _, Eq.trans (World.drewN_drewN _ _ _) (congrArg (World.drewN _) (Nat.add_assoc _ _ _))⟩))); try go_wp2_with (first | (go_at_call 49; (with_reducible refine (spec_cleanPath.calls k (rdOf ByteArray.empty l0_1 0) false _ A28.out).mono ?_); rintro e w' ⟨rfl, ⟨nd, rfl⟩⟩; (try first | exact ⟨rfl, _, World.drewN_drewN _ _ _⟩ | exact ⟨rfl, _, Eq.trans (World.drewN_drewN _ _ _) (congrArg (World.drewN _) (Nat.add_assoc _ _ _))⟩))))
            go_meet
            case rel => exact ⟨_, (true), (by first | rfl | (simp; done) | (simp [*]; done)), H', ⟨by first | omega | exact Nat.le_refl _⟩, ⟨by (with_reducible repeat (first | refine blk_drewN ?_ _ | refine blk_drew ?_ | refine blk_alloc ?_ _)); exact BK196.out⟩, ⟨by (with_reducible repeat (first | refine blk_drewN ?_ _ | refine blk_drew ?_ | refine blk_alloc ?_ _)); exact BK197.out⟩, ⟨by repeat (first | (with_reducible first | exact HB.out | apply below_alloc | apply pw_below_drewN | apply below_drew1 | refine below_set ?_ GE196.out | refine below_set ?_ GE197.out) | exact HB.out)⟩⟩
        · rw [if_neg c27] at H
          exact absurd H (by simp)
      · rw [if_neg c26] at H
        have c26b0 : ((l0_1.length : Int) == 1) = false := beq_eq_false_iff_ne.mpr c26
        have c26b1 : ((l0_1.length : Int) != 1) = true := bne_iff_ne.mpr c26
        (first | rw [c26b0] | (simp only [i64_w, i32_w]; rw [c26b0]) | skip)
        have H' := Aside0.mk H
        clear H
        have hnb36 := NB196_197.out
        have hnc36 := NB197_196.out
        have hcz37_0 : w23.cell? ⟨gb196, 0, none⟩ = some (.int .i64 a0_0) := (blk_cell BK196.out 0).trans rfl
        have hcz37_1 : w23.cell? ⟨gb196, 1, none⟩ = some (.slice A0_1 l0_1.length c0_1) := (blk_cell BK196.out 1).trans rfl
        have hfz37_0 := blk_frozen BK196.out 0
        have hfz37_1 := blk_frozen BK196.out 1
        go_wp2
        repeat (go_quiet (fail); try go_wp2)
        go_meet
        case rel => exact ⟨_, (true), (by first | rfl | (simp; done) | (simp [*]; done)), H', ⟨by first | omega | exact Nat.le_refl _⟩, ⟨by (with_reducible repeat (first | refine blk_drewN ?_ _ | refine blk_drew ?_ | refine blk_alloc ?_ _)); exact BK196.out⟩, ⟨by (with_reducible repeat (first | refine blk_drewN ?_ _ | refine blk_drew ?_ | refine blk_alloc ?_ _)); exact BK197.out⟩, ⟨by repeat (first | (with_reducible first | exact HB.out | apply below_alloc | apply pw_below_drewN | apply below_drew1 | refine below_set ?_ GE196.out | refine below_set ?_ GE197.out) | exact HB.out)⟩⟩
     case rest =>
      clear HC21
      try clear c1
      try clear p1
      try clear q1
      try clear hx1
      try clear qi1
      try clear c2
      try clear p2
      try clear c3
      try clear c3b0
      try clear c3b1
      try clear c6
      try clear p6
      try clear c8
      try clear c8b0
      try clear c8b1
      try clear c11
      try clear c13
      try clear c13b0
      try clear c14
      try clear c14b0
      try clear c15
      try clear c15b0
      try clear c16
      try clear c16b0
      try clear c16b1
      try clear c17
      try clear c19
      try clear p19
      try clear q19
      try clear hx19
      try clear qi19
      try clear c24
      try clear c26
      try clear c26b0
      try clear c26b1
      try clear c27
      try clear c27b0
      try clear c27b1
      try clear c28
      try clear c29
      try clear c31
      try clear c34
      try clear c36
      try clear hcz12_0
      try clear hcz12_1
      try clear hcz18_0
      try clear hcz18_1
      try clear hcz18_10
      try clear hcz18_2
      try clear hcz18_3
      try clear hcz18_4
      try clear hcz18_5
      try clear hcz18_6
      try clear hcz18_7
      try clear hcz18_8
      try clear hcz18_9
      try clear hcz20_0
      try clear hcz20_1
      try clear hcz20_10
      try clear hcz20_2
      try clear hcz20_3
      try clear hcz20_4
      try clear hcz20_5
      try clear hcz20_6
      try clear hcz20_7
      try clear hcz20_8
      try clear hcz20_9
      try clear hcz25_0
      try clear hcz25_1
      try clear hcz32_0
      try clear hcz32_1
      try clear hcz33_0
      try clear hcz33_1
      try clear hcz33_10
      try clear hcz33_2
      try clear hcz33_3
      try clear hcz33_4
      try clear hcz33_5
      try clear hcz33_6
      try clear hcz33_7
      try clear hcz33_8
      try clear hcz33_9
      try clear hcz35_0
      try clear hcz35_1
      try clear hcz37_0
      try clear hcz37_1
      try clear hcz7_0
      try clear hcz7_1
      try clear hfz12_0
      try clear hfz12_1
      try clear hfz18_0
      try clear hfz18_1
      try clear hfz18_10
      try clear hfz18_2
      try clear hfz18_3
      try clear hfz18_4
      try clear hfz18_5
      try clear hfz18_6
      try clear hfz18_7
      try clear hfz18_8
      try clear hfz18_9
      try clear hfz20_0
      try clear hfz20_1
      try clear hfz20_10
      try clear hfz20_2
      try clear hfz20_3
      try clear hfz20_4
      try clear hfz20_5
      try clear hfz20_6
      try clear hfz20_7
      try clear hfz20_8
      try clear hfz20_9
      try clear hfz25_0
      try clear hfz25_1
      try clear hfz32_0
      try clear hfz32_1
      try clear hfz33_0
      try clear hfz33_1
      try clear hfz33_10
      try clear hfz33_2
      try clear hfz33_3
      try clear hfz33_4
      try clear hfz33_5
      try clear hfz33_6
      try clear hfz33_7
      try clear hfz33_8
      try clear hfz33_9
      try clear hfz35_0
      try clear hfz35_1
      try clear hfz37_0
      try clear hfz37_1
      try clear hfz7_0
      try clear hfz7_1
      try clear hx198_0
      try clear hx199_0
      try clear p198
      try clear p199
      try clear p2
      try clear q198
      try clear q199
      obtain ⟨kq, x45_20, rfl, HA, HJ20, BK196, BK197, HB⟩ := hcut
      cases kq with
      | zero => exact absurd HA.out (by simp [spec_Keeps.j1])
      | succ kj20 =>
       have H := HA.out
       clear HA
       simp only [spec_Keeps.j1] at H
       by_cases c38 : x45_20 = true
       · subst c38
         have H1 : (some (false, false, 2)) = some (r1, r2, r3) := by rw [if_pos rfl] at H; exact H
         clear H
         have H := H1
         clear H1
         simp only [Option.some.injEq, Prod.mk.injEq] at H
         obtain ⟨rfl, rfl, rfl⟩ := H
         go_wp2
         repeat (go_quiet (fail); try go_wp2)
         go_ret3
         exact ⟨by first | rfl | (simp [errW_none, errW_some] <;> rfl) | (simp [*, errW_none, errW_some] <;> rfl), by repeat (first | (with_reducible first | exact HB.out | apply below_alloc | apply pw_below_drewN | apply below_drew1 | refine below_set ?_ GE196.out | refine below_set ?_ GE197.out) | exact HB.out)⟩
       · replace c38 := Bool.eq_false_iff.mpr c38
         subst c38
         have H1 : (if 0 < (l0_1.length : Int) then (if a0_0 = 2 then (if (rdOf ByteArray.empty l0_1 0).toList = a1_5.toList then (some (false, false, 1)) else ((spec_below.f (rdOf ByteArray.empty l0_1 0) a1_5).bind fun t203 => (some (!t203, false, 1)))) else (if a0_0 = 3 then (if (rdOf ByteArray.empty l0_1 0).toList = a1_5.toList then (some (false, false, 1)) else ((spec_below.f a1_5 (rdOf ByteArray.empty l0_1 0)).bind fun t204 => (some (!t204, false, 1)))) else (if a0_0 = 4 then (some (((rdOf ByteArray.empty l0_1 0).toList != a1_5.toList), ((rdOf ByteArray.empty l0_1 0).toList == a1_5.toList), 1)) else (some (false, false, 2))))) else (none)) = some (r1, r2, r3) := by rw [if_neg (show ¬ (false = true) by decide)] at H; exact H
         clear H
         have H := H1
         clear H1
         by_cases c39 : 0 < (l0_1.length : Int)
         · rw [if_pos c39] at H
           have c39b0 : decide (0 < (l0_1.length : Int)) = true := decide_eq_true c39
           have c39b1 : decide (0 < l0_1.length) = true := decide_eq_true (by omega)
           clear c39
           by_cases c40 : a0_0 = 2
           · rw [if_pos c40] at H
             have c40b0 : (a0_0 == 2) = true := beq_iff_eq.mpr c40
             have c40b1 : (a0_0 != 2) = false := bne_eq_false_iff_eq.mpr c40
             clear c40
             by_cases c41 : (rdOf ByteArray.empty l0_1 0).toList = a1_5.toList
             · rw [if_pos c41] at H
               have c41b0 : ((rdOf ByteArray.empty l0_1 0).toList == a1_5.toList) = true := beq_iff_eq.mpr c41
               have c41b1 : ((rdOf ByteArray.empty l0_1 0).toList != a1_5.toList) = false := bne_eq_false_iff_eq.mpr c41
               clear c41
               simp only [Option.some.injEq, Prod.mk.injEq] at H
               obtain ⟨rfl, rfl, rfl⟩ := H
               have hnb42 := NB196_197.out
               have hnc42 := NB197_196.out
               have hcz43_0 : wc.cell? ⟨gb196, 0, none⟩ = some (.int .i64 a0_0) := (blk_cell BK196.out 0).trans rfl
               have hcz43_1 : wc.cell? ⟨gb196, 1, none⟩ = some (.slice A0_1 l0_1.length c0_1) := (blk_cell BK196.out 1).trans rfl
               have hfz43_0 := blk_frozen BK196.out 0
               have hfz43_1 := blk_frozen BK196.out 1
               have p202 : 0 ≤ (0 : Int) := (by omega)
               have q202 : 0 < (l0_1.length : Int) := of_decide_eq_true (by first | (with_reducible assumption) | assumption)
               obtain ⟨ad202, e202, hx202_0⟩ := Kd.at_string HR0_1.out 0 p202 q202
               cases e202
               have qi202 : (0 < l0_1.length) = True := eq_true (by omega)
               (try rw [show ((0 : Int)).toNat = 0 from rfl] at hx202_0)
               (try rw [Addr.add_zero'] at hx202_0)
               replace hx202_0 := (HB.out.cell (World.block_lt_of_cell? w _ hx202_0)).trans hx202_0
               replace p202 := eq_true p202
               replace q202 := eq_true q202
               have hcz44_0 : wc.cell? ⟨gb197, 0, none⟩ = some (.int .i64 a1_0) := (blk_cell BK197.out 0).trans rfl
               have hcz44_1 : wc.cell? ⟨gb197, 1, none⟩ = some (.int .i64 a1_1) := (blk_cell BK197.out 1).trans rfl
               have hcz44_2 : wc.cell? ⟨gb197, 2, none⟩ = some (.int .i64 a1_2) := (blk_cell BK197.out 2).trans rfl
               have hcz44_3 : wc.cell? ⟨gb197, 3, none⟩ = some (.int .i64 a1_3) := (blk_cell BK197.out 3).trans rfl
               have hcz44_4 : wc.cell? ⟨gb197, 4, none⟩ = some (.string a1_4) := (blk_cell BK197.out 4).trans rfl
               have hcz44_5 : wc.cell? ⟨gb197, 5, none⟩ = some (.string a1_5) := (blk_cell BK197.out 5).trans rfl
               have hcz44_6 : wc.cell? ⟨gb197, 6, none⟩ = some (.string a1_6) := (blk_cell BK197.out 6).trans rfl
               have hcz44_7 : wc.cell? ⟨gb197, 7, none⟩ = some (.string a1_7) := (blk_cell BK197.out 7).trans rfl
               have hcz44_8 : wc.cell? ⟨gb197, 8, none⟩ = some (.string a1_8) := (blk_cell BK197.out 8).trans rfl
               have hcz44_9 : wc.cell? ⟨gb197, 9, none⟩ = some (.string a1_9) := (blk_cell BK197.out 9).trans rfl
               have hcz44_10 : wc.cell? ⟨gb197, 10, none⟩ = some (.string a1_10) := (blk_cell BK197.out 10).trans rfl
               have hfz44_0 := blk_frozen BK197.out 0
               have hfz44_1 := blk_frozen BK197.out 1
               have hfz44_2 := blk_frozen BK197.out 2
               have hfz44_3 := blk_frozen BK197.out 3
               have hfz44_4 := blk_frozen BK197.out 4
               have hfz44_5 := blk_frozen BK197.out 5
               have hfz44_6 := blk_frozen BK197.out 6
               have hfz44_7 := blk_frozen BK197.out 7
               have hfz44_8 := blk_frozen BK197.out 8
               have hfz44_9 := blk_frozen BK197.out 9
               have hfz44_10 := blk_frozen BK197.out 10
               go_wp2
               repeat (go_quiet (fail); try go_wp2)
               go_ret3
               exact ⟨by first | rfl | (simp [errW_none, errW_some] <;> rfl) | (simp [*, errW_none, errW_some] <;> rfl), by repeat (first | (with_reducible first | exact HB.out | apply below_alloc | apply pw_below_drewN | apply below_drew1 | refine below_set ?_ GE196.out | refine below_set ?_ GE197.out) | exact HB.out)⟩
             · rw [if_neg c41] at H
               have c41b0 : ((rdOf ByteArray.empty l0_1 0).toList == a1_5.toList) = false := beq_eq_false_iff_ne.mpr c41
               have c41b1 : ((rdOf ByteArray.empty l0_1 0).toList != a1_5.toList) = true := bne_iff_ne.mpr c41
               replace H := Option.bind_eq_some_iff.mp H
               obtain ⟨t203, A450, H⟩ := H
               replace H : (some (!t203, false, 1)) = some (r1, r2, r3) := H
               have A45 := Aside0.mk A450
               clear A450
               simp only [Option.some.injEq, Prod.mk.injEq] at H
               obtain ⟨rfl, rfl, rfl⟩ := H
               have hnb46 := NB196_197.out
               have hnc46 := NB197_196.out
               have hcz47_0 : wc.cell? ⟨gb196, 0, none⟩ = some (.int .i64 a0_0) := (blk_cell BK196.out 0).trans rfl
               have hcz47_1 : wc.cell? ⟨gb196, 1, none⟩ = some (.slice A0_1 l0_1.length c0_1) := (blk_cell BK196.out 1).trans rfl
               have hfz47_0 := blk_frozen BK196.out 0
               have hfz47_1 := blk_frozen BK196.out 1
               have p202 : 0 ≤ (0 : Int) := (by omega)
               have q202 : 0 < (l0_1.length : Int) := of_decide_eq_true (by first | (with_reducible assumption) | assumption)
               obtain ⟨ad202, e202, hx202_0⟩ := Kd.at_string HR0_1.out 0 p202 q202
               cases e202
               have qi202 : (0 < l0_1.length) = True := eq_true (by omega)
               (try rw [show ((0 : Int)).toNat = 0 from rfl] at hx202_0)
               (try rw [Addr.add_zero'] at hx202_0)
               replace hx202_0 := (HB.out.cell (World.block_lt_of_cell? w _ hx202_0)).trans hx202_0
               replace p202 := eq_true p202
               replace q202 := eq_true q202
               have hcz48_0 : wc.cell? ⟨gb197, 0, none⟩ = some (.int .i64 a1_0) := (blk_cell BK197.out 0).trans rfl
               have hcz48_1 : wc.cell? ⟨gb197, 1, none⟩ = some (.int .i64 a1_1) := (blk_cell BK197.out 1).trans rfl
               have hcz48_2 : wc.cell? ⟨gb197, 2, none⟩ = some (.int .i64 a1_2) := (blk_cell BK197.out 2).trans rfl
               have hcz48_3 : wc.cell? ⟨gb197, 3, none⟩ = some (.int .i64 a1_3) := (blk_cell BK197.out 3).trans rfl
               have hcz48_4 : wc.cell? ⟨gb197, 4, none⟩ = some (.string a1_4) := (blk_cell BK197.out 4).trans rfl
               have hcz48_5 : wc.cell? ⟨gb197, 5, none⟩ = some (.string a1_5) := (blk_cell BK197.out 5).trans rfl
               have hcz48_6 : wc.cell? ⟨gb197, 6, none⟩ = some (.string a1_6) := (blk_cell BK197.out 6).trans rfl
               have hcz48_7 : wc.cell? ⟨gb197, 7, none⟩ = some (.string a1_7) := (blk_cell BK197.out 7).trans rfl
               have hcz48_8 : wc.cell? ⟨gb197, 8, none⟩ = some (.string a1_8) := (blk_cell BK197.out 8).trans rfl
               have hcz48_9 : wc.cell? ⟨gb197, 9, none⟩ = some (.string a1_9) := (blk_cell BK197.out 9).trans rfl
               have hcz48_10 : wc.cell? ⟨gb197, 10, none⟩ = some (.string a1_10) := (blk_cell BK197.out 10).trans rfl
               have hfz48_0 := blk_frozen BK197.out 0
               have hfz48_1 := blk_frozen BK197.out 1
               have hfz48_2 := blk_frozen BK197.out 2
               have hfz48_3 := blk_frozen BK197.out 3
               have hfz48_4 := blk_frozen BK197.out 4
               have hfz48_5 := blk_frozen BK197.out 5
               have hfz48_6 := blk_frozen BK197.out 6
               have hfz48_7 := blk_frozen BK197.out 7
               have hfz48_8 := blk_frozen BK197.out 8
               have hfz48_9 := blk_frozen BK197.out 9
               have hfz48_10 := blk_frozen BK197.out 10
               go_wp2_with (first | (go_at_call 50; (with_reducible refine (spec_below.calls (rdOf ByteArray.empty l0_1 0) a1_5 t203 _ A45.out).mono ?_); rintro e w' ⟨rfl, ⟨nd, rfl⟩⟩; (try first | exact ⟨rfl, _, World.drewN_drewN _ _ _⟩ | exact ⟨rfl, _, Eq.trans (World.drewN_drewN _ _ _) (congrArg (World.drewN _) (Nat.add_assoc _ _ _))⟩)))
               repeat (go_quiet (first | (go_at_call 50; (with_reducible refine (spec_below.calls (rdOf ByteArray.empty l0_1 0) a1_5 t203 _ A45.out).mono ?_); rintro e w' ⟨rfl, ⟨nd, rfl⟩⟩; (try first | exact ⟨rfl, _, World.drewN_drewN _ _ _⟩ | exact ⟨rfl, _, Eq.trans (World.drewN_drewN _ _ _) (congrArg (World.drewN _) (Nat.add_assoc _ _ _))⟩))); try go_wp2_with (first | (go_at_call 50; (with_reducible refine (spec_below.calls (rdOf ByteArray.empty l0_1 0) a1_5 t203 _ A45.out).mono ?_); rintro e w' ⟨rfl, ⟨nd, rfl⟩⟩; (try first | exact ⟨rfl, _, World.drewN_drewN _ _ _⟩ | exact ⟨rfl, _, Eq.trans (World.drewN_drewN _ _ _) (congrArg (World.drewN _) (Nat.add_assoc _ _ _))⟩))))
               go_ret3
               exact ⟨by first | rfl | (simp [errW_none, errW_some] <;> rfl) | (simp [*, errW_none, errW_some] <;> rfl), by repeat (first | (with_reducible first | exact HB.out | apply below_alloc | apply pw_below_drewN | apply below_drew1 | refine below_set ?_ GE196.out | refine below_set ?_ GE197.out) | exact HB.out)⟩
           · rw [if_neg c40] at H
             have c40b0 : (a0_0 == 2) = false := beq_eq_false_iff_ne.mpr c40
             have c40b1 : (a0_0 != 2) = true := bne_iff_ne.mpr c40
             by_cases c49 : a0_0 = 3
             · rw [if_pos c49] at H
               have c49b0 : (a0_0 == 3) = true := beq_iff_eq.mpr c49
               have c49b1 : (a0_0 != 3) = false := bne_eq_false_iff_eq.mpr c49
               clear c49
               by_cases c50 : (rdOf ByteArray.empty l0_1 0).toList = a1_5.toList
               · rw [if_pos c50] at H
                 have c50b0 : ((rdOf ByteArray.empty l0_1 0).toList == a1_5.toList) = true := beq_iff_eq.mpr c50
                 have c50b1 : ((rdOf ByteArray.empty l0_1 0).toList != a1_5.toList) = false := bne_eq_false_iff_eq.mpr c50
                 clear c50
                 simp only [Option.some.injEq, Prod.mk.injEq] at H
                 obtain ⟨rfl, rfl, rfl⟩ := H
                 have hnb51 := NB196_197.out
                 have hnc51 := NB197_196.out
                 have hcz52_0 : wc.cell? ⟨gb196, 0, none⟩ = some (.int .i64 a0_0) := (blk_cell BK196.out 0).trans rfl
                 have hcz52_1 : wc.cell? ⟨gb196, 1, none⟩ = some (.slice A0_1 l0_1.length c0_1) := (blk_cell BK196.out 1).trans rfl
                 have hfz52_0 := blk_frozen BK196.out 0
                 have hfz52_1 := blk_frozen BK196.out 1
                 have p202 : 0 ≤ (0 : Int) := (by omega)
                 have q202 : 0 < (l0_1.length : Int) := of_decide_eq_true (by first | (with_reducible assumption) | assumption)
                 obtain ⟨ad202, e202, hx202_0⟩ := Kd.at_string HR0_1.out 0 p202 q202
                 cases e202
                 have qi202 : (0 < l0_1.length) = True := eq_true (by omega)
                 (try rw [show ((0 : Int)).toNat = 0 from rfl] at hx202_0)
                 (try rw [Addr.add_zero'] at hx202_0)
                 replace hx202_0 := (HB.out.cell (World.block_lt_of_cell? w _ hx202_0)).trans hx202_0
                 replace p202 := eq_true p202
                 replace q202 := eq_true q202
                 have hcz53_0 : wc.cell? ⟨gb197, 0, none⟩ = some (.int .i64 a1_0) := (blk_cell BK197.out 0).trans rfl
                 have hcz53_1 : wc.cell? ⟨gb197, 1, none⟩ = some (.int .i64 a1_1) := (blk_cell BK197.out 1).trans rfl
                 have hcz53_2 : wc.cell? ⟨gb197, 2, none⟩ = some (.int .i64 a1_2) := (blk_cell BK197.out 2).trans rfl
                 have hcz53_3 : wc.cell? ⟨gb197, 3, none⟩ = some (.int .i64 a1_3) := (blk_cell BK197.out 3).trans rfl
                 have hcz53_4 : wc.cell? ⟨gb197, 4, none⟩ = some (.string a1_4) := (blk_cell BK197.out 4).trans rfl
                 have hcz53_5 : wc.cell? ⟨gb197, 5, none⟩ = some (.string a1_5) := (blk_cell BK197.out 5).trans rfl
                 have hcz53_6 : wc.cell? ⟨gb197, 6, none⟩ = some (.string a1_6) := (blk_cell BK197.out 6).trans rfl
                 have hcz53_7 : wc.cell? ⟨gb197, 7, none⟩ = some (.string a1_7) := (blk_cell BK197.out 7).trans rfl
                 have hcz53_8 : wc.cell? ⟨gb197, 8, none⟩ = some (.string a1_8) := (blk_cell BK197.out 8).trans rfl
                 have hcz53_9 : wc.cell? ⟨gb197, 9, none⟩ = some (.string a1_9) := (blk_cell BK197.out 9).trans rfl
                 have hcz53_10 : wc.cell? ⟨gb197, 10, none⟩ = some (.string a1_10) := (blk_cell BK197.out 10).trans rfl
                 have hfz53_0 := blk_frozen BK197.out 0
                 have hfz53_1 := blk_frozen BK197.out 1
                 have hfz53_2 := blk_frozen BK197.out 2
                 have hfz53_3 := blk_frozen BK197.out 3
                 have hfz53_4 := blk_frozen BK197.out 4
                 have hfz53_5 := blk_frozen BK197.out 5
                 have hfz53_6 := blk_frozen BK197.out 6
                 have hfz53_7 := blk_frozen BK197.out 7
                 have hfz53_8 := blk_frozen BK197.out 8
                 have hfz53_9 := blk_frozen BK197.out 9
                 have hfz53_10 := blk_frozen BK197.out 10
                 go_wp2
                 repeat (go_quiet (fail); try go_wp2)
                 go_ret3
                 exact ⟨by first | rfl | (simp [errW_none, errW_some] <;> rfl) | (simp [*, errW_none, errW_some] <;> rfl), by repeat (first | (with_reducible first | exact HB.out | apply below_alloc | apply pw_below_drewN | apply below_drew1 | refine below_set ?_ GE196.out | refine below_set ?_ GE197.out) | exact HB.out)⟩
               · rw [if_neg c50] at H
                 have c50b0 : ((rdOf ByteArray.empty l0_1 0).toList == a1_5.toList) = false := beq_eq_false_iff_ne.mpr c50
                 have c50b1 : ((rdOf ByteArray.empty l0_1 0).toList != a1_5.toList) = true := bne_iff_ne.mpr c50
                 replace H := Option.bind_eq_some_iff.mp H
                 obtain ⟨t204, A540, H⟩ := H
                 replace H : (some (!t204, false, 1)) = some (r1, r2, r3) := H
                 have A54 := Aside0.mk A540
                 clear A540
                 simp only [Option.some.injEq, Prod.mk.injEq] at H
                 obtain ⟨rfl, rfl, rfl⟩ := H
                 have hnb55 := NB196_197.out
                 have hnc55 := NB197_196.out
                 have hcz56_0 : wc.cell? ⟨gb196, 0, none⟩ = some (.int .i64 a0_0) := (blk_cell BK196.out 0).trans rfl
                 have hcz56_1 : wc.cell? ⟨gb196, 1, none⟩ = some (.slice A0_1 l0_1.length c0_1) := (blk_cell BK196.out 1).trans rfl
                 have hfz56_0 := blk_frozen BK196.out 0
                 have hfz56_1 := blk_frozen BK196.out 1
                 have p202 : 0 ≤ (0 : Int) := (by omega)
                 have q202 : 0 < (l0_1.length : Int) := of_decide_eq_true (by first | (with_reducible assumption) | assumption)
                 obtain ⟨ad202, e202, hx202_0⟩ := Kd.at_string HR0_1.out 0 p202 q202
                 cases e202
                 have qi202 : (0 < l0_1.length) = True := eq_true (by omega)
                 (try rw [show ((0 : Int)).toNat = 0 from rfl] at hx202_0)
                 (try rw [Addr.add_zero'] at hx202_0)
                 replace hx202_0 := (HB.out.cell (World.block_lt_of_cell? w _ hx202_0)).trans hx202_0
                 replace p202 := eq_true p202
                 replace q202 := eq_true q202
                 have hcz57_0 : wc.cell? ⟨gb197, 0, none⟩ = some (.int .i64 a1_0) := (blk_cell BK197.out 0).trans rfl
                 have hcz57_1 : wc.cell? ⟨gb197, 1, none⟩ = some (.int .i64 a1_1) := (blk_cell BK197.out 1).trans rfl
                 have hcz57_2 : wc.cell? ⟨gb197, 2, none⟩ = some (.int .i64 a1_2) := (blk_cell BK197.out 2).trans rfl
                 have hcz57_3 : wc.cell? ⟨gb197, 3, none⟩ = some (.int .i64 a1_3) := (blk_cell BK197.out 3).trans rfl
                 have hcz57_4 : wc.cell? ⟨gb197, 4, none⟩ = some (.string a1_4) := (blk_cell BK197.out 4).trans rfl
                 have hcz57_5 : wc.cell? ⟨gb197, 5, none⟩ = some (.string a1_5) := (blk_cell BK197.out 5).trans rfl
                 have hcz57_6 : wc.cell? ⟨gb197, 6, none⟩ = some (.string a1_6) := (blk_cell BK197.out 6).trans rfl
                 have hcz57_7 : wc.cell? ⟨gb197, 7, none⟩ = some (.string a1_7) := (blk_cell BK197.out 7).trans rfl
                 have hcz57_8 : wc.cell? ⟨gb197, 8, none⟩ = some (.string a1_8) := (blk_cell BK197.out 8).trans rfl
                 have hcz57_9 : wc.cell? ⟨gb197, 9, none⟩ = some (.string a1_9) := (blk_cell BK197.out 9).trans rfl
                 have hcz57_10 : wc.cell? ⟨gb197, 10, none⟩ = some (.string a1_10) := (blk_cell BK197.out 10).trans rfl
                 have hfz57_0 := blk_frozen BK197.out 0
                 have hfz57_1 := blk_frozen BK197.out 1
                 have hfz57_2 := blk_frozen BK197.out 2
                 have hfz57_3 := blk_frozen BK197.out 3
                 have hfz57_4 := blk_frozen BK197.out 4
                 have hfz57_5 := blk_frozen BK197.out 5
                 have hfz57_6 := blk_frozen BK197.out 6
                 have hfz57_7 := blk_frozen BK197.out 7
                 have hfz57_8 := blk_frozen BK197.out 8
                 have hfz57_9 := blk_frozen BK197.out 9
                 have hfz57_10 := blk_frozen BK197.out 10
                 go_wp2_with (first | (go_at_call 50; (with_reducible refine (spec_below.calls a1_5 (rdOf ByteArray.empty l0_1 0) t204 _ A54.out).mono ?_); rintro e w' ⟨rfl, ⟨nd, rfl⟩⟩; (try first | exact ⟨rfl, _, World.drewN_drewN _ _ _⟩ | exact ⟨rfl, _, Eq.trans (World.drewN_drewN _ _ _) (congrArg (World.drewN _) (Nat.add_assoc _ _ _))⟩)))
                 repeat (go_quiet (first | (go_at_call 50; (with_reducible refine (spec_below.calls a1_5 (rdOf ByteArray.empty l0_1 0) t204 _ A54.out).mono ?_); rintro e w' ⟨rfl, ⟨nd, rfl⟩⟩; (try first | exact ⟨rfl, _, World.drewN_drewN _ _ _⟩ | exact ⟨rfl, _, Eq.trans (World.drewN_drewN _ _ _) (congrArg (World.drewN _) (Nat.add_assoc _ _ _))⟩))); try go_wp2_with (first | (go_at_call 50; (with_reducible refine (spec_below.calls a1_5 (rdOf ByteArray.empty l0_1 0) t204 _ A54.out).mono ?_); rintro e w' ⟨rfl, ⟨nd, rfl⟩⟩; (try first | exact ⟨rfl, _, World.drewN_drewN _ _ _⟩ | exact ⟨rfl, _, Eq.trans (World.drewN_drewN _ _ _) (congrArg (World.drewN _) (Nat.add_assoc _ _ _))⟩))))
                 go_ret3
                 exact ⟨by first | rfl | (simp [errW_none, errW_some] <;> rfl) | (simp [*, errW_none, errW_some] <;> rfl), by repeat (first | (with_reducible first | exact HB.out | apply below_alloc | apply pw_below_drewN | apply below_drew1 | refine below_set ?_ GE196.out | refine below_set ?_ GE197.out) | exact HB.out)⟩
             · rw [if_neg c49] at H
               have c49b0 : (a0_0 == 3) = false := beq_eq_false_iff_ne.mpr c49
               have c49b1 : (a0_0 != 3) = true := bne_iff_ne.mpr c49
               by_cases c58 : a0_0 = 4
               · rw [if_pos c58] at H
                 have c58b0 : (a0_0 == 4) = true := beq_iff_eq.mpr c58
                 have c58b1 : (a0_0 != 4) = false := bne_eq_false_iff_eq.mpr c58
                 clear c58
                 simp only [Option.some.injEq, Prod.mk.injEq] at H
                 obtain ⟨rfl, rfl, rfl⟩ := H
                 have hnb59 := NB196_197.out
                 have hnc59 := NB197_196.out
                 have hcz60_0 : wc.cell? ⟨gb196, 0, none⟩ = some (.int .i64 a0_0) := (blk_cell BK196.out 0).trans rfl
                 have hcz60_1 : wc.cell? ⟨gb196, 1, none⟩ = some (.slice A0_1 l0_1.length c0_1) := (blk_cell BK196.out 1).trans rfl
                 have hfz60_0 := blk_frozen BK196.out 0
                 have hfz60_1 := blk_frozen BK196.out 1
                 have p202 : 0 ≤ (0 : Int) := (by omega)
                 have q202 : 0 < (l0_1.length : Int) := of_decide_eq_true (by first | (with_reducible assumption) | assumption)
                 obtain ⟨ad202, e202, hx202_0⟩ := Kd.at_string HR0_1.out 0 p202 q202
                 cases e202
                 have qi202 : (0 < l0_1.length) = True := eq_true (by omega)
                 (try rw [show ((0 : Int)).toNat = 0 from rfl] at hx202_0)
                 (try rw [Addr.add_zero'] at hx202_0)
                 replace hx202_0 := (HB.out.cell (World.block_lt_of_cell? w _ hx202_0)).trans hx202_0
                 replace p202 := eq_true p202
                 replace q202 := eq_true q202
                 have hcz61_0 : wc.cell? ⟨gb197, 0, none⟩ = some (.int .i64 a1_0) := (blk_cell BK197.out 0).trans rfl
                 have hcz61_1 : wc.cell? ⟨gb197, 1, none⟩ = some (.int .i64 a1_1) := (blk_cell BK197.out 1).trans rfl
                 have hcz61_2 : wc.cell? ⟨gb197, 2, none⟩ = some (.int .i64 a1_2) := (blk_cell BK197.out 2).trans rfl
                 have hcz61_3 : wc.cell? ⟨gb197, 3, none⟩ = some (.int .i64 a1_3) := (blk_cell BK197.out 3).trans rfl
                 have hcz61_4 : wc.cell? ⟨gb197, 4, none⟩ = some (.string a1_4) := (blk_cell BK197.out 4).trans rfl
                 have hcz61_5 : wc.cell? ⟨gb197, 5, none⟩ = some (.string a1_5) := (blk_cell BK197.out 5).trans rfl
                 have hcz61_6 : wc.cell? ⟨gb197, 6, none⟩ = some (.string a1_6) := (blk_cell BK197.out 6).trans rfl
                 have hcz61_7 : wc.cell? ⟨gb197, 7, none⟩ = some (.string a1_7) := (blk_cell BK197.out 7).trans rfl
                 have hcz61_8 : wc.cell? ⟨gb197, 8, none⟩ = some (.string a1_8) := (blk_cell BK197.out 8).trans rfl
                 have hcz61_9 : wc.cell? ⟨gb197, 9, none⟩ = some (.string a1_9) := (blk_cell BK197.out 9).trans rfl
                 have hcz61_10 : wc.cell? ⟨gb197, 10, none⟩ = some (.string a1_10) := (blk_cell BK197.out 10).trans rfl
                 have hfz61_0 := blk_frozen BK197.out 0
                 have hfz61_1 := blk_frozen BK197.out 1
                 have hfz61_2 := blk_frozen BK197.out 2
                 have hfz61_3 := blk_frozen BK197.out 3
                 have hfz61_4 := blk_frozen BK197.out 4
                 have hfz61_5 := blk_frozen BK197.out 5
                 have hfz61_6 := blk_frozen BK197.out 6
                 have hfz61_7 := blk_frozen BK197.out 7
                 have hfz61_8 := blk_frozen BK197.out 8
                 have hfz61_9 := blk_frozen BK197.out 9
                 have hfz61_10 := blk_frozen BK197.out 10
                 go_wp2
                 repeat (go_quiet (fail); try go_wp2)
                 go_ret3
                 exact ⟨by first | rfl | (simp [errW_none, errW_some] <;> rfl) | (simp [*, errW_none, errW_some] <;> rfl), by repeat (first | (with_reducible first | exact HB.out | apply below_alloc | apply pw_below_drewN | apply below_drew1 | refine below_set ?_ GE196.out | refine below_set ?_ GE197.out) | exact HB.out)⟩
               · rw [if_neg c58] at H
                 have c58b0 : (a0_0 == 4) = false := beq_eq_false_iff_ne.mpr c58
                 have c58b1 : (a0_0 != 4) = true := bne_iff_ne.mpr c58
                 simp only [Option.some.injEq, Prod.mk.injEq] at H
                 obtain ⟨rfl, rfl, rfl⟩ := H
                 have hnb62 := NB196_197.out
                 have hnc62 := NB197_196.out
                 have hcz63_0 : wc.cell? ⟨gb196, 0, none⟩ = some (.int .i64 a0_0) := (blk_cell BK196.out 0).trans rfl
                 have hcz63_1 : wc.cell? ⟨gb196, 1, none⟩ = some (.slice A0_1 l0_1.length c0_1) := (blk_cell BK196.out 1).trans rfl
                 have hfz63_0 := blk_frozen BK196.out 0
                 have hfz63_1 := blk_frozen BK196.out 1
                 have p202 : 0 ≤ (0 : Int) := (by omega)
                 have q202 : 0 < (l0_1.length : Int) := of_decide_eq_true (by first | (with_reducible assumption) | assumption)
                 obtain ⟨ad202, e202, hx202_0⟩ := Kd.at_string HR0_1.out 0 p202 q202
                 cases e202
                 have qi202 : (0 < l0_1.length) = True := eq_true (by omega)
                 (try rw [show ((0 : Int)).toNat = 0 from rfl] at hx202_0)
                 (try rw [Addr.add_zero'] at hx202_0)
                 replace hx202_0 := (HB.out.cell (World.block_lt_of_cell? w _ hx202_0)).trans hx202_0
                 replace p202 := eq_true p202
                 replace q202 := eq_true q202
                 go_wp2
                 repeat (go_quiet (fail); try go_wp2)
                 go_ret3
                 exact ⟨by first | rfl | (simp [errW_none, errW_some] <;> rfl) | (simp [*, errW_none, errW_some] <;> rfl), by repeat (first | (with_reducible first | exact HB.out | apply below_alloc | apply pw_below_drewN | apply below_drew1 | refine below_set ?_ GE196.out | refine below_set ?_ GE197.out) | exact HB.out)⟩
         · rw [if_neg c39] at H
           exact absurd H (by simp)
end Go.Proofs.YtcpldcndhijecaaDoor.QM0
namespace Go.Proofs.YtcpldcndhijecaaDoor.QM0
open Go.RowKit Go.Proofs.YtcpldcndhijecaaDoorW.PrintWords Go.Proofs.YtcpldcndhijecaaDoorW.PrintLast Go.Proofs.YtcpldcndhijecaaDoorW.PrintMore
attribute [local go_sem] max2_int min2_int max_two min_two max_three min_three max_four min_four
set_option linter.unusedVariables false
set_option linter.unusedSimpArgs false
def spec_Filtered.l0 : Nat → List (S63) → List (S63) → Int → Int → Int → List ByteArray → Option ((List (S63)) × Int)
 | 0, _, _, _, _, _, _ => none
 | k + 1, x6, x12, x13, x14, x206000, x206001 => if x14 < x13 then (if 0 ≤ x14 then (if x14 < (x12.length : Int) then ((spec_Keeps.f k x206000 x206001 ((rd_T63 x12 x14).f0) ((rd_T63 x12 x14).f1) ((rd_T63 x12 x14).f2) ((rd_T63 x12 x14).f3) ((rd_T63 x12 x14).f4) ((rd_T63 x12 x14).f5) ((rd_T63 x12 x14).f6) ((rd_T63 x12 x14).f7) ((rd_T63 x12 x14).f8) ((rd_T63 x12 x14).f9) ((rd_T63 x12 x14).f10)).bind fun bt208 => (if bt208.2.2 = 1 then (if bt208.1 = true then (if bt208.2.1 = true then (some (x6, 1)) else (spec_Filtered.l0 k x6 x12 x13 (wrap64 (x14 + 1)) x206000 x206001)) else (if x6.length < 977343669134 then ((some (x6 ++ [(⟨(rd_T63 x12 x14).f0, (rd_T63 x12 x14).f1, (rd_T63 x12 x14).f2, (rd_T63 x12 x14).f3, (rd_T63 x12 x14).f4, (rd_T63 x12 x14).f5, (rd_T63 x12 x14).f6, (rd_T63 x12 x14).f7, (rd_T63 x12 x14).f8, (rd_T63 x12 x14).f9, (rd_T63 x12 x14).f10⟩ : S63)] : List (S63))).bind fun y211 => (if bt208.2.1 = true then (some (y211, 1)) else (spec_Filtered.l0 k y211 x12 x13 (wrap64 (x14 + 1)) x206000 x206001))) else (none))) else (some (([] : List (S63)), 2)))) else (none)) else (none)) else (some (x6, 1))
def spec_Filtered.f (k : Nat) (a0_0 : Int) (l0_1 : List ByteArray) (l1 : List (S63)) : Option ((List (S63)) × Int) := spec_Filtered.l0 k ([] : List (S63)) l1 (l1.length : Int) 0 a0_0 l0_1
set_option maxHeartbeats 8000000 in
set_option maxRecDepth 100000 in
theorem spec_Filtered.calls (k : Nat) (a0_0 : Int) (A0_1 : Option Addr) (c0_1 : Nat) (l0_1 : List ByteArray) (A1 : Option Addr) (c1 : Nat) (l1 : List (S63)) (r1 : List (S63)) (r2 : Int) (w : World) (hr0_1 : Kd.C Kd.string w A0_1 l0_1.length l0_1) (hc0_1 : l0_1.length ≤ c0_1) (hr1 : Kd.C k63 w A1 l1.length l1) (hc1 : l1.length ≤ c1) (h : spec_Filtered.f k a0_0 l0_1 l1 = some (r1, r2)) :
 Calls Tryd.prog 14 #[.agg #[.int .i64 a0_0, .slice A0_1 l0_1.length c0_1], .slice A1 l1.length c1] w fun e w' => ∃ v0_ : Value, e = .returned (.tuple #[v0_, .int .i64 r2]) ∧ Kd.R k63 63 w' w.heap.size (fun _ => True) v0_ r1 ∧ Below w.heap.size w w' := by
 have hu38 := Tryd.underlying38
 have hu63 := Tryd.underlying63
 have HR0_1 := Aside0.mk hr0_1
 have HC0_1 := Aside0.mk hc0_1
 clear hr0_1 hc0_1
 have HR1 := Aside0.mk hr1
 have HC1 := Aside0.mk hc1
 clear hr1 hc1
 have HB := Aside0.mk (Below.refl w.heap.size w)
 have H : (spec_Filtered.l0 k ([] : List (S63)) l1 (l1.length : Int) 0 a0_0 l0_1) = some (r1, r2) := h
 clear h
 have H' := Aside0.mk H
 clear H
 go_enter Tryd.func14, Tryd.ntmps14
 go_wp2_with (first | ((with_reducible refine gate_dst (N := 2) rfl ?_); refine box_event ?hg (N := 2) ?hd (cs := #[.int .i64 a0_0, .slice A0_1 l0_1.length c0_1]) (t := 38) ?hr ?_; (case hd => rfl); (case hg => rfl); (case hr => first | (go_simp; done) | (go_simp; rfl)); intro gb205 hg w3 hbox hb; have n0_ := Aside0.mk (below_step (by repeat (first | (with_reducible first | exact HB.out | apply below_alloc | apply pw_below_drewN | apply below_drew1) | exact HB.out)) hb); have n1_ := Aside0.mk (hbox); have n2_ := Aside0.mk ((by rw [hg]; exact (below_size (by repeat (first | (with_reducible first | exact HB.out | apply below_alloc | apply pw_below_drewN | apply below_drew1) | exact HB.out))) : w.heap.size ≤ gb205)); have n3_ := Aside0.mk ((by rw [hg]; exact (below_size (by repeat (first | (with_reducible first | exact HB.out | apply below_alloc | apply pw_below_drewN | apply below_drew1) | exact HB.out))) : w.heap.size ≤ gb205)); clear HB; have HB := n0_; have BK205 := n1_; have GW205 := n2_; have GE205 := n3_; clear n0_ n1_ n2_ n3_; clear hb hbox hg))
 go_loopg [6, 14] k (fun kq v6 v14 w' => ∃ (x6_1 : List (S63)) (x14_1 : Int), v14 = .int .i64 x14_1 ∧ Aside0 (spec_Filtered.l0 kq x6_1 l1 (l1.length : Int) x14_1 a0_0 l0_1 = some (r1, r2)) ∧ Aside0 (kq ≤ k) ∧ Aside0 (Kd.R k63 63 w' w.heap.size (fun _ => True) v6 x6_1) ∧ Aside0 (w'.heap[gb205]? = some (.cells #[.int .i64 a0_0, (.slice A0_1 l0_1.length c0_1)] 38 (0, 0))) ∧ Aside0 (Below w.heap.size w w'))
 case atStart => exact ⟨(([] : List (S63))), (0), (by first | rfl | (simp; done) | (simp [*]; done)), H', ⟨Nat.le_refl _⟩, ⟨by first | exact Kd.R_nil _ _ _ _ _ | exact Kd.N_nil _ _ _ _ _ | exact Kd.V_nil _ _ _ _ _ | exact Kd.Q_nil _ _ _ _ _ | exact Kd.S_nil _ _ _ _ _⟩, ⟨by (with_reducible repeat (first | refine blk_drewN ?_ _ | refine blk_drew ?_ | refine blk_alloc ?_ _)); exact BK205.out⟩, ⟨by repeat (first | (with_reducible first | exact HB.out | apply below_alloc | apply pw_below_drewN | apply below_drew1 | refine below_set ?_ GE205.out) | exact HB.out)⟩⟩
 case round =>
  clear H'
  try clear c1
  try clear p2
  obtain ⟨x6_1, x14_1, rfl, HA, HK1, HO_6, BK205, HB⟩ := hrel
  cases gk with
  | zero => exact absurd HA.out (by simp [spec_Filtered.l0])
  | succ k1 =>
   have H := HA.out
   clear HA
   simp only [spec_Filtered.l0] at H
   by_cases c4 : x14_1 < (l1.length : Int)
   · rw [if_pos c4] at H
     have c4b0 : decide (x14_1 < (l1.length : Int)) = true := decide_eq_true c4
     clear c4
     by_cases c5 : 0 ≤ x14_1
     · rw [if_pos c5] at H
       have c5b0 : decide (0 ≤ x14_1) = true := decide_eq_true c5
       clear c5
       by_cases c6 : x14_1 < (l1.length : Int)
       · rw [if_pos c6] at H
         have c6b0 : decide (x14_1 < (l1.length : Int)) = true := decide_eq_true c6
         clear c6
         replace H := Option.bind_eq_some_iff.mp H
         obtain ⟨⟨t208, t209, t210⟩, A70, H⟩ := H
         replace H : (if t210 = 1 then (if t208 = true then (if t209 = true then (some (x6_1, 1)) else (spec_Filtered.l0 k1 x6_1 l1 (l1.length : Int) (wrap64 (x14_1 + 1)) a0_0 l0_1)) else (if x6_1.length < 977343669134 then ((some (x6_1 ++ [(⟨(rd_T63 l1 x14_1).f0, (rd_T63 l1 x14_1).f1, (rd_T63 l1 x14_1).f2, (rd_T63 l1 x14_1).f3, (rd_T63 l1 x14_1).f4, (rd_T63 l1 x14_1).f5, (rd_T63 l1 x14_1).f6, (rd_T63 l1 x14_1).f7, (rd_T63 l1 x14_1).f8, (rd_T63 l1 x14_1).f9, (rd_T63 l1 x14_1).f10⟩ : S63)] : List (S63))).bind fun y211 => (if t209 = true then (some (y211, 1)) else (spec_Filtered.l0 k1 y211 l1 (l1.length : Int) (wrap64 (x14_1 + 1)) a0_0 l0_1))) else (none))) else (some (([] : List (S63)), 2))) = some (r1, r2) := H
         have A7 := Aside0.mk A70
         clear A70
         by_cases c8 : t210 = 1
         · rw [if_pos c8] at H
           have c8b0 : (t210 == 1) = true := beq_iff_eq.mpr c8
           have c8b1 : (t210 != 1) = false := bne_eq_false_iff_eq.mpr c8
           clear c8
           by_cases c9 : t208 = true
           · subst c9
             have H1 : (if t209 = true then (some (x6_1, 1)) else (spec_Filtered.l0 k1 x6_1 l1 (l1.length : Int) (wrap64 (x14_1 + 1)) a0_0 l0_1)) = some (r1, r2) := by rw [if_pos rfl] at H; exact H
             clear H
             have H := H1
             clear H1
             by_cases c10 : t209 = true
             · subst c10
               have H1 : (some (x6_1, 1)) = some (r1, r2) := by rw [if_pos rfl] at H; exact H
               clear H
               have H := H1
               clear H1
               simp only [Option.some.injEq, Prod.mk.injEq] at H
               obtain ⟨rfl, rfl⟩ := H
               have p206 : 0 ≤ (x14_1 : Int) := of_decide_eq_true (by first | (with_reducible assumption) | assumption)
               have q206 : x14_1 < (l1.length : Int) := of_decide_eq_true (by first | (with_reducible assumption) | assumption)
               obtain ⟨ad206, e206, hx206_0, hx206_1, hx206_2, hx206_3, hx206_4, hx206_5, hx206_6, hx206_7, hx206_8, hx206_9, hx206_10⟩ := at_T63 HR1.out x14_1 p206 q206
               cases e206
               replace hx206_0 := (HB.out.cell (World.block_lt_of_cell? w _ hx206_0)).trans hx206_0
               replace hx206_1 := (HB.out.cell (World.block_lt_of_cell? w _ hx206_1)).trans hx206_1
               replace hx206_2 := (HB.out.cell (World.block_lt_of_cell? w _ hx206_2)).trans hx206_2
               replace hx206_3 := (HB.out.cell (World.block_lt_of_cell? w _ hx206_3)).trans hx206_3
               replace hx206_4 := (HB.out.cell (World.block_lt_of_cell? w _ hx206_4)).trans hx206_4
               replace hx206_5 := (HB.out.cell (World.block_lt_of_cell? w _ hx206_5)).trans hx206_5
               replace hx206_6 := (HB.out.cell (World.block_lt_of_cell? w _ hx206_6)).trans hx206_6
               replace hx206_7 := (HB.out.cell (World.block_lt_of_cell? w _ hx206_7)).trans hx206_7
               replace hx206_8 := (HB.out.cell (World.block_lt_of_cell? w _ hx206_8)).trans hx206_8
               replace hx206_9 := (HB.out.cell (World.block_lt_of_cell? w _ hx206_9)).trans hx206_9
               replace hx206_10 := (HB.out.cell (World.block_lt_of_cell? w _ hx206_10)).trans hx206_10
               replace p206 := eq_true p206
               replace q206 := eq_true q206
               go_wp2_with (first | ((with_reducible refine gate_dst (N := 8) rfl ?_); refine Go.Last.box_store_event ?hg (N := 8) ?hd (c0 := #[.int .i64 0, .int .i64 0, .int .i64 0, .int .i64 0, .string (⟨#[]⟩ : ByteArray), .string (⟨#[]⟩ : ByteArray), .string (⟨#[]⟩ : ByteArray), .string (⟨#[]⟩ : ByteArray), .string (⟨#[]⟩ : ByteArray), .string (⟨#[]⟩ : ByteArray), .string (⟨#[]⟩ : ByteArray)]) (cs := #[.int .i64 ((rd_T63 l1 x14_1).f0), .int .i64 ((rd_T63 l1 x14_1).f1), .int .i64 ((rd_T63 l1 x14_1).f2), .int .i64 ((rd_T63 l1 x14_1).f3), .string ((rd_T63 l1 x14_1).f4), .string ((rd_T63 l1 x14_1).f5), .string ((rd_T63 l1 x14_1).f6), .string ((rd_T63 l1 x14_1).f7), .string ((rd_T63 l1 x14_1).f8), .string ((rd_T63 l1 x14_1).f9), .string ((rd_T63 l1 x14_1).f10)]) (t := 63) (P := Tryd.prog) ?hr rfl rfl (by first | (go_simp; done) | (go_simp; rfl)) (by first | (go_simp; done) | (go_simp; rfl)) (by kernel_rfl) rfl (by first | rfl | (simp [Value.oneCell']; done)) ?_; (case hd => rfl); (case hg => rfl); (case hr => first | (go_simp; done) | (go_simp; rfl)); intro gb207 hg w11 hbox hb; have n0_ := Aside0.mk (Kd.R_below (Kd.R_elderB (by (with_reducible repeat (first | apply Kd.R_alloc | apply Kd.R_drewN | apply Kd.R_drew)); exact HO_6.out) gb207 (Nat.le_of_eq hg.symm)) hb); have n1_ := Aside0.mk (blk_below (g := gb205) (o := .cells #[.int .i64 a0_0, .slice A0_1 l0_1.length c0_1] 38 (0, 0)) (by (with_reducible repeat (first | refine blk_drewN ?_ _ | refine blk_drew ?_ | refine blk_alloc ?_ _)); exact BK205.out) hb); have n2_ := Aside0.mk (below_step (by repeat (first | (with_reducible first | exact HB.out | apply below_alloc | apply pw_below_drewN | apply below_drew1 | refine below_set ?_ GE205.out) | exact HB.out)) hb); have n3_ := Aside0.mk (hbox); have n4_ := Aside0.mk ((by rw [hg]; exact (below_size (by repeat (first | (with_reducible first | exact HB.out | apply below_alloc | apply pw_below_drewN | apply below_drew1 | refine below_set ?_ GE205.out) | exact HB.out))) : w.heap.size ≤ gb207)); have n5_ := Aside0.mk ((by rw [hg]; exact (below_size (by repeat (first | (with_reducible first | exact HB.out | apply below_alloc | apply pw_below_drewN | apply below_drew1 | refine below_set ?_ GE205.out) | exact HB.out))) : w.heap.size ≤ gb207)); have n6_ := Aside0.mk ((by rw [hg]; exact Nat.ne_of_lt (blk_lt (g := gb205) (o := .cells #[.int .i64 a0_0, .slice A0_1 l0_1.length c0_1] 38 (0, 0)) (by (with_reducible repeat (first | refine blk_drewN ?_ _ | refine blk_drew ?_ | refine blk_alloc ?_ _)); exact BK205.out)) : gb205 ≠ gb207)); have n7_ := Aside0.mk ((by rw [hg]; exact Nat.ne_of_gt (blk_lt (g := gb205) (o := .cells #[.int .i64 a0_0, .slice A0_1 l0_1.length c0_1] 38 (0, 0)) (by (with_reducible repeat (first | refine blk_drewN ?_ _ | refine blk_drew ?_ | refine blk_alloc ?_ _)); exact BK205.out)) : gb207 ≠ gb205)); clear HO_6; clear BK205; clear HB; have HO_6 := n0_; have BK205 := n1_; have HB := n2_; have BK207 := n3_; have GW207 := n4_; have GE207 := n5_; have NB205_207 := n6_; have NB207_205 := n7_; clear n0_ n1_ n2_ n3_ n4_ n5_ n6_ n7_; clear hb hbox hg; have hnb12 := NB205_207.out; have hnc12 := NB207_205.out; have hcz13_0 : w11.cell? ⟨gb205, 0, none⟩ = some (.int .i64 a0_0) := (blk_cell BK205.out 0).trans rfl; have hcz13_1 : w11.cell? ⟨gb205, 1, none⟩ = some (.slice A0_1 l0_1.length c0_1) := (blk_cell BK205.out 1).trans rfl; have hfz13_0 := blk_frozen BK205.out 0; have hfz13_1 := blk_frozen BK205.out 1; have hcz14_0 : w11.cell? ⟨gb207, 0, none⟩ = some (.int .i64 ((rd_T63 l1 x14_1).f0)) := (blk_cell BK207.out 0).trans rfl; have hcz14_1 : w11.cell? ⟨gb207, 1, none⟩ = some (.int .i64 ((rd_T63 l1 x14_1).f1)) := (blk_cell BK207.out 1).trans rfl; have hcz14_2 : w11.cell? ⟨gb207, 2, none⟩ = some (.int .i64 ((rd_T63 l1 x14_1).f2)) := (blk_cell BK207.out 2).trans rfl; have hcz14_3 : w11.cell? ⟨gb207, 3, none⟩ = some (.int .i64 ((rd_T63 l1 x14_1).f3)) := (blk_cell BK207.out 3).trans rfl; have hcz14_4 : w11.cell? ⟨gb207, 4, none⟩ = some (.string ((rd_T63 l1 x14_1).f4)) := (blk_cell BK207.out 4).trans rfl; have hcz14_5 : w11.cell? ⟨gb207, 5, none⟩ = some (.string ((rd_T63 l1 x14_1).f5)) := (blk_cell BK207.out 5).trans rfl; have hcz14_6 : w11.cell? ⟨gb207, 6, none⟩ = some (.string ((rd_T63 l1 x14_1).f6)) := (blk_cell BK207.out 6).trans rfl; have hcz14_7 : w11.cell? ⟨gb207, 7, none⟩ = some (.string ((rd_T63 l1 x14_1).f7)) := (blk_cell BK207.out 7).trans rfl; have hcz14_8 : w11.cell? ⟨gb207, 8, none⟩ = some (.string ((rd_T63 l1 x14_1).f8)) := (blk_cell BK207.out 8).trans rfl; have hcz14_9 : w11.cell? ⟨gb207, 9, none⟩ = some (.string ((rd_T63 l1 x14_1).f9)) := (blk_cell BK207.out 9).trans rfl; have hcz14_10 : w11.cell? ⟨gb207, 10, none⟩ = some (.string ((rd_T63 l1 x14_1).f10)) := (blk_cell BK207.out 10).trans rfl; have hfz14_0 := blk_frozen BK207.out 0; have hfz14_1 := blk_frozen BK207.out 1; have hfz14_2 := blk_frozen BK207.out 2; have hfz14_3 := blk_frozen BK207.out 3; have hfz14_4 := blk_frozen BK207.out 4; have hfz14_5 := blk_frozen BK207.out 5; have hfz14_6 := blk_frozen BK207.out 6; have hfz14_7 := blk_frozen BK207.out 7; have hfz14_8 := blk_frozen BK207.out 8; have hfz14_9 := blk_frozen BK207.out 9; have hfz14_10 := blk_frozen BK207.out 10) | ((with_reducible refine gate_callee (f := 28) rfl ?_); refine goesL_ (some 21) rfl rfl Tryd.func28 (by kernel_rfl) rfl #[.agg #[.int .i64 a0_0, .slice A0_1 l0_1.length c0_1], .agg #[.int .i64 ((rd_T63 l1 x14_1).f0), .int .i64 ((rd_T63 l1 x14_1).f1), .int .i64 ((rd_T63 l1 x14_1).f2), .int .i64 ((rd_T63 l1 x14_1).f3), .string ((rd_T63 l1 x14_1).f4), .string ((rd_T63 l1 x14_1).f5), .string ((rd_T63 l1 x14_1).f6), .string ((rd_T63 l1 x14_1).f7), .string ((rd_T63 l1 x14_1).f8), .string ((rd_T63 l1 x14_1).f9), .string ((rd_T63 l1 x14_1).f10)]] rfl (by (try simp only [List.map_toArray, List.map_cons, List.map_nil]); first | done | rfl | (simp only [List.length_drop, List.length_take]; rfl)) ?_; (with_reducible refine (spec_Keeps.calls k1 a0_0 _ _ l0_1 ((rd_T63 l1 x14_1).f0) ((rd_T63 l1 x14_1).f1) ((rd_T63 l1 x14_1).f2) ((rd_T63 l1 x14_1).f3) ((rd_T63 l1 x14_1).f4) ((rd_T63 l1 x14_1).f5) ((rd_T63 l1 x14_1).f6) ((rd_T63 l1 x14_1).f7) ((rd_T63 l1 x14_1).f8) ((rd_T63 l1 x14_1).f9) ((rd_T63 l1 x14_1).f10) true true t210 _ ?side1 ?side2 A7.out).mono ?_); (case side1 => repeat (first | exact (Kd.C_below HR0_1.out HB.out) | (with_reducible refine Kd.C_alloc ?_ _) | (with_reducible refine Kd.C_drewN ?_ _) | (with_reducible refine Kd.C_drew ?_))); (case side2 => exact HC0_1.out); rintro e w15 ⟨rfl, hb⟩; refine ⟨_, rfl, ?_⟩; have n0_ := Aside0.mk (Kd.R_below (by (with_reducible repeat (first | apply Kd.R_alloc | apply Kd.R_drewN | apply Kd.R_drew)); exact HO_6.out) hb); have n1_ := Aside0.mk (blk_below (g := gb205) (o := .cells #[.int .i64 a0_0, .slice A0_1 l0_1.length c0_1] 38 (0, 0)) (by (with_reducible repeat (first | refine blk_drewN ?_ _ | refine blk_drew ?_ | refine blk_alloc ?_ _)); exact BK205.out) hb); have n2_ := Aside0.mk (blk_below (g := gb207) (o := .cells #[.int .i64 ((rd_T63 l1 x14_1).f0), .int .i64 ((rd_T63 l1 x14_1).f1), .int .i64 ((rd_T63 l1 x14_1).f2), .int .i64 ((rd_T63 l1 x14_1).f3), .string ((rd_T63 l1 x14_1).f4), .string ((rd_T63 l1 x14_1).f5), .string ((rd_T63 l1 x14_1).f6), .string ((rd_T63 l1 x14_1).f7), .string ((rd_T63 l1 x14_1).f8), .string ((rd_T63 l1 x14_1).f9), .string ((rd_T63 l1 x14_1).f10)] 63 (0, 0)) (by (with_reducible repeat (first | refine blk_drewN ?_ _ | refine blk_drew ?_ | refine blk_alloc ?_ _)); exact BK207.out) hb); have n3_ := Aside0.mk (below_step (by repeat (first | (with_reducible first | exact HB.out | apply below_alloc | apply pw_below_drewN | apply below_drew1 | refine below_set ?_ GE205.out | refine below_set ?_ GE207.out) | exact HB.out)) hb); clear HO_6; clear BK205; clear BK207; clear HB; have HO_6 := n0_; have BK205 := n1_; have BK207 := n2_; have HB := n3_; clear n0_ n1_ n2_ n3_; (try clear hb); (try clear hb2); (try clear hk); (try clear hi)))
               go_ret2
               exact ⟨_, by first | rfl | (simp [errW_none, errW_some] <;> rfl) | (simp [*, errW_none, errW_some] <;> rfl), by (with_reducible repeat (first | apply Kd.R_alloc | apply Kd.R_drewN | apply Kd.R_drew)); exact Kd.R_mono HO_6.out (fun _ hk => trivial), by repeat (first | (with_reducible first | exact HB.out | apply below_alloc | apply pw_below_drewN | apply below_drew1 | refine below_set ?_ GE205.out | refine below_set ?_ GE207.out) | exact HB.out)⟩
             · replace c10 := Bool.eq_false_iff.mpr c10
               subst c10
               have H1 : (spec_Filtered.l0 k1 x6_1 l1 (l1.length : Int) (wrap64 (x14_1 + 1)) a0_0 l0_1) = some (r1, r2) := by rw [if_neg (show ¬ (false = true) by decide)] at H; exact H
               clear H
               have H := H1
               clear H1
               have H' := Aside0.mk H
               clear H
               have p206 : 0 ≤ (x14_1 : Int) := of_decide_eq_true (by first | (with_reducible assumption) | assumption)
               have q206 : x14_1 < (l1.length : Int) := of_decide_eq_true (by first | (with_reducible assumption) | assumption)
               obtain ⟨ad206, e206, hx206_0, hx206_1, hx206_2, hx206_3, hx206_4, hx206_5, hx206_6, hx206_7, hx206_8, hx206_9, hx206_10⟩ := at_T63 HR1.out x14_1 p206 q206
               cases e206
               replace hx206_0 := (HB.out.cell (World.block_lt_of_cell? w _ hx206_0)).trans hx206_0
               replace hx206_1 := (HB.out.cell (World.block_lt_of_cell? w _ hx206_1)).trans hx206_1
               replace hx206_2 := (HB.out.cell (World.block_lt_of_cell? w _ hx206_2)).trans hx206_2
               replace hx206_3 := (HB.out.cell (World.block_lt_of_cell? w _ hx206_3)).trans hx206_3
               replace hx206_4 := (HB.out.cell (World.block_lt_of_cell? w _ hx206_4)).trans hx206_4
               replace hx206_5 := (HB.out.cell (World.block_lt_of_cell? w _ hx206_5)).trans hx206_5
               replace hx206_6 := (HB.out.cell (World.block_lt_of_cell? w _ hx206_6)).trans hx206_6
               replace hx206_7 := (HB.out.cell (World.block_lt_of_cell? w _ hx206_7)).trans hx206_7
               replace hx206_8 := (HB.out.cell (World.block_lt_of_cell? w _ hx206_8)).trans hx206_8
               replace hx206_9 := (HB.out.cell (World.block_lt_of_cell? w _ hx206_9)).trans hx206_9
               replace hx206_10 := (HB.out.cell (World.block_lt_of_cell? w _ hx206_10)).trans hx206_10
               replace p206 := eq_true p206
               replace q206 := eq_true q206
               go_wp2_with (first | ((with_reducible refine gate_dst (N := 8) rfl ?_); refine Go.Last.box_store_event ?hg (N := 8) ?hd (c0 := #[.int .i64 0, .int .i64 0, .int .i64 0, .int .i64 0, .string (⟨#[]⟩ : ByteArray), .string (⟨#[]⟩ : ByteArray), .string (⟨#[]⟩ : ByteArray), .string (⟨#[]⟩ : ByteArray), .string (⟨#[]⟩ : ByteArray), .string (⟨#[]⟩ : ByteArray), .string (⟨#[]⟩ : ByteArray)]) (cs := #[.int .i64 ((rd_T63 l1 x14_1).f0), .int .i64 ((rd_T63 l1 x14_1).f1), .int .i64 ((rd_T63 l1 x14_1).f2), .int .i64 ((rd_T63 l1 x14_1).f3), .string ((rd_T63 l1 x14_1).f4), .string ((rd_T63 l1 x14_1).f5), .string ((rd_T63 l1 x14_1).f6), .string ((rd_T63 l1 x14_1).f7), .string ((rd_T63 l1 x14_1).f8), .string ((rd_T63 l1 x14_1).f9), .string ((rd_T63 l1 x14_1).f10)]) (t := 63) (P := Tryd.prog) ?hr rfl rfl (by first | (go_simp; done) | (go_simp; rfl)) (by first | (go_simp; done) | (go_simp; rfl)) (by kernel_rfl) rfl (by first | rfl | (simp [Value.oneCell']; done)) ?_; (case hd => rfl); (case hg => rfl); (case hr => first | (go_simp; done) | (go_simp; rfl)); intro gb207 hg w16 hbox hb; have n0_ := Aside0.mk (Kd.R_below (Kd.R_elderB (by (with_reducible repeat (first | apply Kd.R_alloc | apply Kd.R_drewN | apply Kd.R_drew)); exact HO_6.out) gb207 (Nat.le_of_eq hg.symm)) hb); have n1_ := Aside0.mk (blk_below (g := gb205) (o := .cells #[.int .i64 a0_0, .slice A0_1 l0_1.length c0_1] 38 (0, 0)) (by (with_reducible repeat (first | refine blk_drewN ?_ _ | refine blk_drew ?_ | refine blk_alloc ?_ _)); exact BK205.out) hb); have n2_ := Aside0.mk (below_step (by repeat (first | (with_reducible first | exact HB.out | apply below_alloc | apply pw_below_drewN | apply below_drew1 | refine below_set ?_ GE205.out) | exact HB.out)) hb); have n3_ := Aside0.mk (hbox); have n4_ := Aside0.mk ((by rw [hg]; exact (below_size (by repeat (first | (with_reducible first | exact HB.out | apply below_alloc | apply pw_below_drewN | apply below_drew1 | refine below_set ?_ GE205.out) | exact HB.out))) : w.heap.size ≤ gb207)); have n5_ := Aside0.mk ((by rw [hg]; exact (below_size (by repeat (first | (with_reducible first | exact HB.out | apply below_alloc | apply pw_below_drewN | apply below_drew1 | refine below_set ?_ GE205.out) | exact HB.out))) : w.heap.size ≤ gb207)); have n6_ := Aside0.mk ((by rw [hg]; exact Nat.ne_of_lt (blk_lt (g := gb205) (o := .cells #[.int .i64 a0_0, .slice A0_1 l0_1.length c0_1] 38 (0, 0)) (by (with_reducible repeat (first | refine blk_drewN ?_ _ | refine blk_drew ?_ | refine blk_alloc ?_ _)); exact BK205.out)) : gb205 ≠ gb207)); have n7_ := Aside0.mk ((by rw [hg]; exact Nat.ne_of_gt (blk_lt (g := gb205) (o := .cells #[.int .i64 a0_0, .slice A0_1 l0_1.length c0_1] 38 (0, 0)) (by (with_reducible repeat (first | refine blk_drewN ?_ _ | refine blk_drew ?_ | refine blk_alloc ?_ _)); exact BK205.out)) : gb207 ≠ gb205)); clear HO_6; clear BK205; clear HB; have HO_6 := n0_; have BK205 := n1_; have HB := n2_; have BK207 := n3_; have GW207 := n4_; have GE207 := n5_; have NB205_207 := n6_; have NB207_205 := n7_; clear n0_ n1_ n2_ n3_ n4_ n5_ n6_ n7_; clear hb hbox hg; have hnb17 := NB205_207.out; have hnc17 := NB207_205.out; have hcz18_0 : w16.cell? ⟨gb205, 0, none⟩ = some (.int .i64 a0_0) := (blk_cell BK205.out 0).trans rfl; have hcz18_1 : w16.cell? ⟨gb205, 1, none⟩ = some (.slice A0_1 l0_1.length c0_1) := (blk_cell BK205.out 1).trans rfl; have hfz18_0 := blk_frozen BK205.out 0; have hfz18_1 := blk_frozen BK205.out 1; have hcz19_0 : w16.cell? ⟨gb207, 0, none⟩ = some (.int .i64 ((rd_T63 l1 x14_1).f0)) := (blk_cell BK207.out 0).trans rfl; have hcz19_1 : w16.cell? ⟨gb207, 1, none⟩ = some (.int .i64 ((rd_T63 l1 x14_1).f1)) := (blk_cell BK207.out 1).trans rfl; have hcz19_2 : w16.cell? ⟨gb207, 2, none⟩ = some (.int .i64 ((rd_T63 l1 x14_1).f2)) := (blk_cell BK207.out 2).trans rfl; have hcz19_3 : w16.cell? ⟨gb207, 3, none⟩ = some (.int .i64 ((rd_T63 l1 x14_1).f3)) := (blk_cell BK207.out 3).trans rfl; have hcz19_4 : w16.cell? ⟨gb207, 4, none⟩ = some (.string ((rd_T63 l1 x14_1).f4)) := (blk_cell BK207.out 4).trans rfl; have hcz19_5 : w16.cell? ⟨gb207, 5, none⟩ = some (.string ((rd_T63 l1 x14_1).f5)) := (blk_cell BK207.out 5).trans rfl; have hcz19_6 : w16.cell? ⟨gb207, 6, none⟩ = some (.string ((rd_T63 l1 x14_1).f6)) := (blk_cell BK207.out 6).trans rfl; have hcz19_7 : w16.cell? ⟨gb207, 7, none⟩ = some (.string ((rd_T63 l1 x14_1).f7)) := (blk_cell BK207.out 7).trans rfl; have hcz19_8 : w16.cell? ⟨gb207, 8, none⟩ = some (.string ((rd_T63 l1 x14_1).f8)) := (blk_cell BK207.out 8).trans rfl; have hcz19_9 : w16.cell? ⟨gb207, 9, none⟩ = some (.string ((rd_T63 l1 x14_1).f9)) := (blk_cell BK207.out 9).trans rfl; have hcz19_10 : w16.cell? ⟨gb207, 10, none⟩ = some (.string ((rd_T63 l1 x14_1).f10)) := (blk_cell BK207.out 10).trans rfl; have hfz19_0 := blk_frozen BK207.out 0; have hfz19_1 := blk_frozen BK207.out 1; have hfz19_2 := blk_frozen BK207.out 2; have hfz19_3 := blk_frozen BK207.out 3; have hfz19_4 := blk_frozen BK207.out 4; have hfz19_5 := blk_frozen BK207.out 5; have hfz19_6 := blk_frozen BK207.out 6; have hfz19_7 := blk_frozen BK207.out 7; have hfz19_8 := blk_frozen BK207.out 8; have hfz19_9 := blk_frozen BK207.out 9; have hfz19_10 := blk_frozen BK207.out 10) | ((with_reducible refine gate_callee (f := 28) rfl ?_); refine goesL_ (some 21) rfl rfl Tryd.func28 (by kernel_rfl) rfl #[.agg #[.int .i64 a0_0, .slice A0_1 l0_1.length c0_1], .agg #[.int .i64 ((rd_T63 l1 x14_1).f0), .int .i64 ((rd_T63 l1 x14_1).f1), .int .i64 ((rd_T63 l1 x14_1).f2), .int .i64 ((rd_T63 l1 x14_1).f3), .string ((rd_T63 l1 x14_1).f4), .string ((rd_T63 l1 x14_1).f5), .string ((rd_T63 l1 x14_1).f6), .string ((rd_T63 l1 x14_1).f7), .string ((rd_T63 l1 x14_1).f8), .string ((rd_T63 l1 x14_1).f9), .string ((rd_T63 l1 x14_1).f10)]] rfl (by (try simp only [List.map_toArray, List.map_cons, List.map_nil]); first | done | rfl | (simp only [List.length_drop, List.length_take]; rfl)) ?_; (with_reducible refine (spec_Keeps.calls k1 a0_0 _ _ l0_1 ((rd_T63 l1 x14_1).f0) ((rd_T63 l1 x14_1).f1) ((rd_T63 l1 x14_1).f2) ((rd_T63 l1 x14_1).f3) ((rd_T63 l1 x14_1).f4) ((rd_T63 l1 x14_1).f5) ((rd_T63 l1 x14_1).f6) ((rd_T63 l1 x14_1).f7) ((rd_T63 l1 x14_1).f8) ((rd_T63 l1 x14_1).f9) ((rd_T63 l1 x14_1).f10) true false t210 _ ?side1 ?side2 A7.out).mono ?_); (case side1 => repeat (first | exact (Kd.C_below HR0_1.out HB.out) | (with_reducible refine Kd.C_alloc ?_ _) | (with_reducible refine Kd.C_drewN ?_ _) | (with_reducible refine Kd.C_drew ?_))); (case side2 => exact HC0_1.out); rintro e w20 ⟨rfl, hb⟩; refine ⟨_, rfl, ?_⟩; have n0_ := Aside0.mk (Kd.R_below (by (with_reducible repeat (first | apply Kd.R_alloc | apply Kd.R_drewN | apply Kd.R_drew)); exact HO_6.out) hb); have n1_ := Aside0.mk (blk_below (g := gb205) (o := .cells #[.int .i64 a0_0, .slice A0_1 l0_1.length c0_1] 38 (0, 0)) (by (with_reducible repeat (first | refine blk_drewN ?_ _ | refine blk_drew ?_ | refine blk_alloc ?_ _)); exact BK205.out) hb); have n2_ := Aside0.mk (blk_below (g := gb207) (o := .cells #[.int .i64 ((rd_T63 l1 x14_1).f0), .int .i64 ((rd_T63 l1 x14_1).f1), .int .i64 ((rd_T63 l1 x14_1).f2), .int .i64 ((rd_T63 l1 x14_1).f3), .string ((rd_T63 l1 x14_1).f4), .string ((rd_T63 l1 x14_1).f5), .string ((rd_T63 l1 x14_1).f6), .string ((rd_T63 l1 x14_1).f7), .string ((rd_T63 l1 x14_1).f8), .string ((rd_T63 l1 x14_1).f9), .string ((rd_T63 l1 x14_1).f10)] 63 (0, 0)) (by (with_reducible repeat (first | refine blk_drewN ?_ _ | refine blk_drew ?_ | refine blk_alloc ?_ _)); exact BK207.out) hb); have n3_ := Aside0.mk (below_step (by repeat (first | (with_reducible first | exact HB.out | apply below_alloc | apply pw_below_drewN | apply below_drew1 | refine below_set ?_ GE205.out | refine below_set ?_ GE207.out) | exact HB.out)) hb); clear HO_6; clear BK205; clear BK207; clear HB; have HO_6 := n0_; have BK205 := n1_; have BK207 := n2_; have HB := n3_; clear n0_ n1_ n2_ n3_; (try clear hb); (try clear hb2); (try clear hk); (try clear hi)))
               go_roundg k1
               case measure => have := HK1.out; omega
               case rel => exact ⟨(x6_1), (wrap64 (x14_1 + 1)), (by first | rfl | (simp; done) | (simp [*]; done)), H', ⟨by have := HK1.out; omega⟩, ⟨by (with_reducible repeat (first | apply Kd.R_alloc | apply Kd.R_drewN | apply Kd.R_drew)); exact Kd.R_mono HO_6.out (fun _ hk => trivial)⟩, ⟨by (with_reducible repeat (first | refine blk_drewN ?_ _ | refine blk_drew ?_ | refine blk_alloc ?_ _)); exact BK205.out⟩, ⟨by repeat (first | (with_reducible first | exact HB.out | apply below_alloc | apply pw_below_drewN | apply below_drew1 | refine below_set ?_ GE205.out | refine below_set ?_ GE207.out) | exact HB.out)⟩⟩
           · replace c9 := Bool.eq_false_iff.mpr c9
             subst c9
             have H1 : (if x6_1.length < 977343669134 then ((some (x6_1 ++ [(⟨(rd_T63 l1 x14_1).f0, (rd_T63 l1 x14_1).f1, (rd_T63 l1 x14_1).f2, (rd_T63 l1 x14_1).f3, (rd_T63 l1 x14_1).f4, (rd_T63 l1 x14_1).f5, (rd_T63 l1 x14_1).f6, (rd_T63 l1 x14_1).f7, (rd_T63 l1 x14_1).f8, (rd_T63 l1 x14_1).f9, (rd_T63 l1 x14_1).f10⟩ : S63)] : List (S63))).bind fun y211 => (if t209 = true then (some (y211, 1)) else (spec_Filtered.l0 k1 y211 l1 (l1.length : Int) (wrap64 (x14_1 + 1)) a0_0 l0_1))) else (none)) = some (r1, r2) := by rw [if_neg (show ¬ (false = true) by decide)] at H; exact H
             clear H
             have H := H1
             clear H1
             by_cases c21 : x6_1.length < 977343669134
             · rw [if_pos c21] at H
               have LMc21 := Aside0.mk c21
               clear c21
               obtain ⟨y211, hy211⟩ : ∃ y_ : List (S63), y_ = (x6_1 ++ [(⟨(rd_T63 l1 x14_1).f0, (rd_T63 l1 x14_1).f1, (rd_T63 l1 x14_1).f2, (rd_T63 l1 x14_1).f3, (rd_T63 l1 x14_1).f4, (rd_T63 l1 x14_1).f5, (rd_T63 l1 x14_1).f6, (rd_T63 l1 x14_1).f7, (rd_T63 l1 x14_1).f8, (rd_T63 l1 x14_1).f9, (rd_T63 l1 x14_1).f10⟩ : S63)]) := ⟨_, rfl⟩
               replace H : (if t209 = true then (some (y211, 1)) else (spec_Filtered.l0 k1 y211 l1 (l1.length : Int) (wrap64 (x14_1 + 1)) a0_0 l0_1)) = some (r1, r2) := by first | (rw [hy211]; with_reducible exact H) | (have H2_ := (Option.bind_some _ _).symm.trans H; rw [hy211]; with_reducible exact H2_) | (have H2_ := (Option.bind_some _ _).symm.trans H; with_reducible exact H2_) | with_reducible exact H | (rw [hy211]; exact H) | exact H
               have Ny211 := Aside0.mk hy211
               clear hy211
               by_cases c22 : t209 = true
               · subst c22
                 have H1 : (some (y211, 1)) = some (r1, r2) := by rw [if_pos rfl] at H; exact H
                 clear H
                 have H := H1
                 clear H1
                 simp only [Option.some.injEq, Prod.mk.injEq] at H
                 obtain ⟨rfl, rfl⟩ := H
                 have p206 : 0 ≤ (x14_1 : Int) := of_decide_eq_true (by first | (with_reducible assumption) | assumption)
                 have q206 : x14_1 < (l1.length : Int) := of_decide_eq_true (by first | (with_reducible assumption) | assumption)
                 obtain ⟨ad206, e206, hx206_0, hx206_1, hx206_2, hx206_3, hx206_4, hx206_5, hx206_6, hx206_7, hx206_8, hx206_9, hx206_10⟩ := at_T63 HR1.out x14_1 p206 q206
                 cases e206
                 replace hx206_0 := (HB.out.cell (World.block_lt_of_cell? w _ hx206_0)).trans hx206_0
                 replace hx206_1 := (HB.out.cell (World.block_lt_of_cell? w _ hx206_1)).trans hx206_1
                 replace hx206_2 := (HB.out.cell (World.block_lt_of_cell? w _ hx206_2)).trans hx206_2
                 replace hx206_3 := (HB.out.cell (World.block_lt_of_cell? w _ hx206_3)).trans hx206_3
                 replace hx206_4 := (HB.out.cell (World.block_lt_of_cell? w _ hx206_4)).trans hx206_4
                 replace hx206_5 := (HB.out.cell (World.block_lt_of_cell? w _ hx206_5)).trans hx206_5
                 replace hx206_6 := (HB.out.cell (World.block_lt_of_cell? w _ hx206_6)).trans hx206_6
                 replace hx206_7 := (HB.out.cell (World.block_lt_of_cell? w _ hx206_7)).trans hx206_7
                 replace hx206_8 := (HB.out.cell (World.block_lt_of_cell? w _ hx206_8)).trans hx206_8
                 replace hx206_9 := (HB.out.cell (World.block_lt_of_cell? w _ hx206_9)).trans hx206_9
                 replace hx206_10 := (HB.out.cell (World.block_lt_of_cell? w _ hx206_10)).trans hx206_10
                 replace p206 := eq_true p206
                 replace q206 := eq_true q206
                 go_wp2_with (first | ((with_reducible refine gate_dst (N := 8) rfl ?_); refine Go.Last.box_store_event ?hg (N := 8) ?hd (c0 := #[.int .i64 0, .int .i64 0, .int .i64 0, .int .i64 0, .string (⟨#[]⟩ : ByteArray), .string (⟨#[]⟩ : ByteArray), .string (⟨#[]⟩ : ByteArray), .string (⟨#[]⟩ : ByteArray), .string (⟨#[]⟩ : ByteArray), .string (⟨#[]⟩ : ByteArray), .string (⟨#[]⟩ : ByteArray)]) (cs := #[.int .i64 ((rd_T63 l1 x14_1).f0), .int .i64 ((rd_T63 l1 x14_1).f1), .int .i64 ((rd_T63 l1 x14_1).f2), .int .i64 ((rd_T63 l1 x14_1).f3), .string ((rd_T63 l1 x14_1).f4), .string ((rd_T63 l1 x14_1).f5), .string ((rd_T63 l1 x14_1).f6), .string ((rd_T63 l1 x14_1).f7), .string ((rd_T63 l1 x14_1).f8), .string ((rd_T63 l1 x14_1).f9), .string ((rd_T63 l1 x14_1).f10)]) (t := 63) (P := Tryd.prog) ?hr rfl rfl (by first | (go_simp; done) | (go_simp; rfl)) (by first | (go_simp; done) | (go_simp; rfl)) (by kernel_rfl) rfl (by first | rfl | (simp [Value.oneCell']; done)) ?_; (case hd => rfl); (case hg => rfl); (case hr => first | (go_simp; done) | (go_simp; rfl)); intro gb207 hg w23 hbox hb; have n0_ := Aside0.mk (Kd.R_below (Kd.R_elderB (by (with_reducible repeat (first | apply Kd.R_alloc | apply Kd.R_drewN | apply Kd.R_drew)); exact HO_6.out) gb207 (Nat.le_of_eq hg.symm)) hb); have n1_ := Aside0.mk (blk_below (g := gb205) (o := .cells #[.int .i64 a0_0, .slice A0_1 l0_1.length c0_1] 38 (0, 0)) (by (with_reducible repeat (first | refine blk_drewN ?_ _ | refine blk_drew ?_ | refine blk_alloc ?_ _)); exact BK205.out) hb); have n2_ := Aside0.mk (below_step (by repeat (first | (with_reducible first | exact HB.out | apply below_alloc | apply pw_below_drewN | apply below_drew1 | refine below_set ?_ GE205.out) | exact HB.out)) hb); have n3_ := Aside0.mk (hbox); have n4_ := Aside0.mk ((by rw [hg]; exact (below_size (by repeat (first | (with_reducible first | exact HB.out | apply below_alloc | apply pw_below_drewN | apply below_drew1 | refine below_set ?_ GE205.out) | exact HB.out))) : w.heap.size ≤ gb207)); have n5_ := Aside0.mk ((by rw [hg]; exact (below_size (by repeat (first | (with_reducible first | exact HB.out | apply below_alloc | apply pw_below_drewN | apply below_drew1 | refine below_set ?_ GE205.out) | exact HB.out))) : w.heap.size ≤ gb207)); have n6_ := Aside0.mk ((by rw [hg]; exact Nat.ne_of_lt (blk_lt (g := gb205) (o := .cells #[.int .i64 a0_0, .slice A0_1 l0_1.length c0_1] 38 (0, 0)) (by (with_reducible repeat (first | refine blk_drewN ?_ _ | refine blk_drew ?_ | refine blk_alloc ?_ _)); exact BK205.out)) : gb205 ≠ gb207)); have n7_ := Aside0.mk ((by rw [hg]; exact Nat.ne_of_gt (blk_lt (g := gb205) (o := .cells #[.int .i64 a0_0, .slice A0_1 l0_1.length c0_1] 38 (0, 0)) (by (with_reducible repeat (first | refine blk_drewN ?_ _ | refine blk_drew ?_ | refine blk_alloc ?_ _)); exact BK205.out)) : gb207 ≠ gb205)); clear HO_6; clear BK205; clear HB; have HO_6 := n0_; have BK205 := n1_; have HB := n2_; have BK207 := n3_; have GW207 := n4_; have GE207 := n5_; have NB205_207 := n6_; have NB207_205 := n7_; clear n0_ n1_ n2_ n3_ n4_ n5_ n6_ n7_; clear hb hbox hg; have hnb24 := NB205_207.out; have hnc24 := NB207_205.out; have hcz25_0 : w23.cell? ⟨gb205, 0, none⟩ = some (.int .i64 a0_0) := (blk_cell BK205.out 0).trans rfl; have hcz25_1 : w23.cell? ⟨gb205, 1, none⟩ = some (.slice A0_1 l0_1.length c0_1) := (blk_cell BK205.out 1).trans rfl; have hfz25_0 := blk_frozen BK205.out 0; have hfz25_1 := blk_frozen BK205.out 1; have hcz26_0 : w23.cell? ⟨gb207, 0, none⟩ = some (.int .i64 ((rd_T63 l1 x14_1).f0)) := (blk_cell BK207.out 0).trans rfl; have hcz26_1 : w23.cell? ⟨gb207, 1, none⟩ = some (.int .i64 ((rd_T63 l1 x14_1).f1)) := (blk_cell BK207.out 1).trans rfl; have hcz26_2 : w23.cell? ⟨gb207, 2, none⟩ = some (.int .i64 ((rd_T63 l1 x14_1).f2)) := (blk_cell BK207.out 2).trans rfl; have hcz26_3 : w23.cell? ⟨gb207, 3, none⟩ = some (.int .i64 ((rd_T63 l1 x14_1).f3)) := (blk_cell BK207.out 3).trans rfl; have hcz26_4 : w23.cell? ⟨gb207, 4, none⟩ = some (.string ((rd_T63 l1 x14_1).f4)) := (blk_cell BK207.out 4).trans rfl; have hcz26_5 : w23.cell? ⟨gb207, 5, none⟩ = some (.string ((rd_T63 l1 x14_1).f5)) := (blk_cell BK207.out 5).trans rfl; have hcz26_6 : w23.cell? ⟨gb207, 6, none⟩ = some (.string ((rd_T63 l1 x14_1).f6)) := (blk_cell BK207.out 6).trans rfl; have hcz26_7 : w23.cell? ⟨gb207, 7, none⟩ = some (.string ((rd_T63 l1 x14_1).f7)) := (blk_cell BK207.out 7).trans rfl; have hcz26_8 : w23.cell? ⟨gb207, 8, none⟩ = some (.string ((rd_T63 l1 x14_1).f8)) := (blk_cell BK207.out 8).trans rfl; have hcz26_9 : w23.cell? ⟨gb207, 9, none⟩ = some (.string ((rd_T63 l1 x14_1).f9)) := (blk_cell BK207.out 9).trans rfl; have hcz26_10 : w23.cell? ⟨gb207, 10, none⟩ = some (.string ((rd_T63 l1 x14_1).f10)) := (blk_cell BK207.out 10).trans rfl; have hfz26_0 := blk_frozen BK207.out 0; have hfz26_1 := blk_frozen BK207.out 1; have hfz26_2 := blk_frozen BK207.out 2; have hfz26_3 := blk_frozen BK207.out 3; have hfz26_4 := blk_frozen BK207.out 4; have hfz26_5 := blk_frozen BK207.out 5; have hfz26_6 := blk_frozen BK207.out 6; have hfz26_7 := blk_frozen BK207.out 7; have hfz26_8 := blk_frozen BK207.out 8; have hfz26_9 := blk_frozen BK207.out 9; have hfz26_10 := blk_frozen BK207.out 10) | ((with_reducible refine gate_callee (f := 28) rfl ?_); refine goesL_ (some 21) rfl rfl Tryd.func28 (by kernel_rfl) rfl #[.agg #[.int .i64 a0_0, .slice A0_1 l0_1.length c0_1], .agg #[.int .i64 ((rd_T63 l1 x14_1).f0), .int .i64 ((rd_T63 l1 x14_1).f1), .int .i64 ((rd_T63 l1 x14_1).f2), .int .i64 ((rd_T63 l1 x14_1).f3), .string ((rd_T63 l1 x14_1).f4), .string ((rd_T63 l1 x14_1).f5), .string ((rd_T63 l1 x14_1).f6), .string ((rd_T63 l1 x14_1).f7), .string ((rd_T63 l1 x14_1).f8), .string ((rd_T63 l1 x14_1).f9), .string ((rd_T63 l1 x14_1).f10)]] rfl (by (try simp only [List.map_toArray, List.map_cons, List.map_nil]); first | done | rfl | (simp only [List.length_drop, List.length_take]; rfl)) ?_; (with_reducible refine (spec_Keeps.calls k1 a0_0 _ _ l0_1 ((rd_T63 l1 x14_1).f0) ((rd_T63 l1 x14_1).f1) ((rd_T63 l1 x14_1).f2) ((rd_T63 l1 x14_1).f3) ((rd_T63 l1 x14_1).f4) ((rd_T63 l1 x14_1).f5) ((rd_T63 l1 x14_1).f6) ((rd_T63 l1 x14_1).f7) ((rd_T63 l1 x14_1).f8) ((rd_T63 l1 x14_1).f9) ((rd_T63 l1 x14_1).f10) false true t210 _ ?side1 ?side2 A7.out).mono ?_); (case side1 => repeat (first | exact (Kd.C_below HR0_1.out HB.out) | (with_reducible refine Kd.C_alloc ?_ _) | (with_reducible refine Kd.C_drewN ?_ _) | (with_reducible refine Kd.C_drew ?_))); (case side2 => exact HC0_1.out); rintro e w27 ⟨rfl, hb⟩; refine ⟨_, rfl, ?_⟩; have n0_ := Aside0.mk (Kd.R_below (by (with_reducible repeat (first | apply Kd.R_alloc | apply Kd.R_drewN | apply Kd.R_drew)); exact HO_6.out) hb); have n1_ := Aside0.mk (blk_below (g := gb205) (o := .cells #[.int .i64 a0_0, .slice A0_1 l0_1.length c0_1] 38 (0, 0)) (by (with_reducible repeat (first | refine blk_drewN ?_ _ | refine blk_drew ?_ | refine blk_alloc ?_ _)); exact BK205.out) hb); have n2_ := Aside0.mk (blk_below (g := gb207) (o := .cells #[.int .i64 ((rd_T63 l1 x14_1).f0), .int .i64 ((rd_T63 l1 x14_1).f1), .int .i64 ((rd_T63 l1 x14_1).f2), .int .i64 ((rd_T63 l1 x14_1).f3), .string ((rd_T63 l1 x14_1).f4), .string ((rd_T63 l1 x14_1).f5), .string ((rd_T63 l1 x14_1).f6), .string ((rd_T63 l1 x14_1).f7), .string ((rd_T63 l1 x14_1).f8), .string ((rd_T63 l1 x14_1).f9), .string ((rd_T63 l1 x14_1).f10)] 63 (0, 0)) (by (with_reducible repeat (first | refine blk_drewN ?_ _ | refine blk_drew ?_ | refine blk_alloc ?_ _)); exact BK207.out) hb); have n3_ := Aside0.mk (below_step (by repeat (first | (with_reducible first | exact HB.out | apply below_alloc | apply pw_below_drewN | apply below_drew1 | refine below_set ?_ GE205.out | refine below_set ?_ GE207.out) | exact HB.out)) hb); clear HO_6; clear BK205; clear BK207; clear HB; have HO_6 := n0_; have BK205 := n1_; have BK207 := n2_; have HB := n3_; clear n0_ n1_ n2_ n3_; (try clear hb); (try clear hb2); (try clear hk); (try clear hi); have hcz28_0 : w27.cell? ⟨gb207, 0, none⟩ = some (.int .i64 ((rd_T63 l1 x14_1).f0)) := (blk_cell BK207.out 0).trans rfl; have hcz28_1 : w27.cell? ⟨gb207, 1, none⟩ = some (.int .i64 ((rd_T63 l1 x14_1).f1)) := (blk_cell BK207.out 1).trans rfl; have hcz28_2 : w27.cell? ⟨gb207, 2, none⟩ = some (.int .i64 ((rd_T63 l1 x14_1).f2)) := (blk_cell BK207.out 2).trans rfl; have hcz28_3 : w27.cell? ⟨gb207, 3, none⟩ = some (.int .i64 ((rd_T63 l1 x14_1).f3)) := (blk_cell BK207.out 3).trans rfl; have hcz28_4 : w27.cell? ⟨gb207, 4, none⟩ = some (.string ((rd_T63 l1 x14_1).f4)) := (blk_cell BK207.out 4).trans rfl; have hcz28_5 : w27.cell? ⟨gb207, 5, none⟩ = some (.string ((rd_T63 l1 x14_1).f5)) := (blk_cell BK207.out 5).trans rfl; have hcz28_6 : w27.cell? ⟨gb207, 6, none⟩ = some (.string ((rd_T63 l1 x14_1).f6)) := (blk_cell BK207.out 6).trans rfl; have hcz28_7 : w27.cell? ⟨gb207, 7, none⟩ = some (.string ((rd_T63 l1 x14_1).f7)) := (blk_cell BK207.out 7).trans rfl; have hcz28_8 : w27.cell? ⟨gb207, 8, none⟩ = some (.string ((rd_T63 l1 x14_1).f8)) := (blk_cell BK207.out 8).trans rfl; have hcz28_9 : w27.cell? ⟨gb207, 9, none⟩ = some (.string ((rd_T63 l1 x14_1).f9)) := (blk_cell BK207.out 9).trans rfl; have hcz28_10 : w27.cell? ⟨gb207, 10, none⟩ = some (.string ((rd_T63 l1 x14_1).f10)) := (blk_cell BK207.out 10).trans rfl; have hfz28_0 := blk_frozen BK207.out 0; have hfz28_1 := blk_frozen BK207.out 1; have hfz28_2 := blk_frozen BK207.out 2; have hfz28_3 := blk_frozen BK207.out 3; have hfz28_4 := blk_frozen BK207.out 4; have hfz28_5 := blk_frozen BK207.out 5; have hfz28_6 := blk_frozen BK207.out 6; have hfz28_7 := blk_frozen BK207.out 7; have hfz28_8 := blk_frozen BK207.out 8; have hfz28_9 := blk_frozen BK207.out 9; have hfz28_10 := blk_frozen BK207.out 10) | ((with_reducible refine gate_builtin (b := .append) (xs := #[.tmp 29, .tmp 31]) rfl ?_); at_builtin; refine Kd.R_append k63 (w0 := w) w.heap.size rfl (.tmp 29) (.tmp 31) 35 63 (.agg #[(.int .i64 0), (.int .i64 0), (.int .i64 0), (.int .i64 0), (.string ⟨#[]⟩), (.string ⟨#[]⟩), (.string ⟨#[]⟩), (.string ⟨#[]⟩), (.string ⟨#[]⟩), (.string ⟨#[]⟩), (.string ⟨#[]⟩)]) 144 rfl Tryd.underlying35 info63 rfl (by decide) (by omega) u6 x6_1 (⟨(rd_T63 l1 x14_1).f0, (rd_T63 l1 x14_1).f1, (rd_T63 l1 x14_1).f2, (rd_T63 l1 x14_1).f3, (rd_T63 l1 x14_1).f4, (rd_T63 l1 x14_1).f5, (rd_T63 l1 x14_1).f6, (rd_T63 l1 x14_1).f7, (rd_T63 l1 x14_1).f8, (rd_T63 l1 x14_1).f9, (rd_T63 l1 x14_1).f10⟩ : S63) [.int .i64 ((rd_T63 l1 x14_1).f0), .int .i64 ((rd_T63 l1 x14_1).f1), .int .i64 ((rd_T63 l1 x14_1).f2), .int .i64 ((rd_T63 l1 x14_1).f3), .string ((rd_T63 l1 x14_1).f4), .string ((rd_T63 l1 x14_1).f5), .string ((rd_T63 l1 x14_1).f6), .string ((rd_T63 l1 x14_1).f7), .string ((rd_T63 l1 x14_1).f8), .string ((rd_T63 l1 x14_1).f9), .string ((rd_T63 l1 x14_1).f10)] (fun k_ => k_ ≠ gb207) (fun _ => False) rfl rfl ?aP (fun _ hk => hk.elim) ?aF ?aO ?aB ?aS ?aL ?_; (case aP => exact k63_mkM _ _ _ (⟨(rd_T63 l1 x14_1).f0, (rd_T63 l1 x14_1).f1, (rd_T63 l1 x14_1).f2, (rd_T63 l1 x14_1).f3, (rd_T63 l1 x14_1).f4, (rd_T63 l1 x14_1).f5, (rd_T63 l1 x14_1).f6, (rd_T63 l1 x14_1).f7, (rd_T63 l1 x14_1).f8, (rd_T63 l1 x14_1).f9, (rd_T63 l1 x14_1).f10⟩ : S63)); (case aB => exact (by repeat (first | (with_reducible first | exact HB.out | apply below_alloc | apply pw_below_drewN | apply below_drew1 | refine below_set ?_ GE205.out | refine below_set ?_ GE207.out) | exact HB.out))); (case aF => exact (fun k_ hk => Kd.freshB (g := gb207) (o := .cells #[.int .i64 ((rd_T63 l1 x14_1).f0), .int .i64 ((rd_T63 l1 x14_1).f1), .int .i64 ((rd_T63 l1 x14_1).f2), .int .i64 ((rd_T63 l1 x14_1).f3), .string ((rd_T63 l1 x14_1).f4), .string ((rd_T63 l1 x14_1).f5), .string ((rd_T63 l1 x14_1).f6), .string ((rd_T63 l1 x14_1).f7), .string ((rd_T63 l1 x14_1).f8), .string ((rd_T63 l1 x14_1).f9), .string ((rd_T63 l1 x14_1).f10)] 63 (0, 0)) (by (with_reducible repeat (first | refine blk_drewN ?_ _ | refine blk_drew ?_ | refine blk_alloc ?_ _)); exact BK207.out) k_ hk)); (case aO => exact (by (with_reducible repeat (first | apply Kd.R_alloc | apply Kd.R_drewN | apply Kd.R_drew)); exact Kd.R_mono HO_6.out (fun _ hk => hk.2))); (case aS => exact (below_size (by repeat (first | (with_reducible first | exact HB.out | apply below_alloc | apply pw_below_drewN | apply below_drew1 | refine below_set ?_ GE205.out | refine below_set ?_ GE207.out) | exact HB.out)))); (case aL => have := LMc21.out; omega); intro v212 w29 ho hb hg hat; rw [← Ny211.out] at ho; have n0_ := Aside0.mk (blk_grown (g := gb205) (o := .cells #[.int .i64 a0_0, .slice A0_1 l0_1.length c0_1] 38 (0, 0)) (by (with_reducible repeat (first | refine blk_drewN ?_ _ | refine blk_drew ?_ | refine blk_alloc ?_ _)); exact BK205.out) hg (Kd.R_ne HO_6.out BK205.out (by decide))); have n1_ := Aside0.mk (blk_grown (g := gb207) (o := .cells #[.int .i64 ((rd_T63 l1 x14_1).f0), .int .i64 ((rd_T63 l1 x14_1).f1), .int .i64 ((rd_T63 l1 x14_1).f2), .int .i64 ((rd_T63 l1 x14_1).f3), .string ((rd_T63 l1 x14_1).f4), .string ((rd_T63 l1 x14_1).f5), .string ((rd_T63 l1 x14_1).f6), .string ((rd_T63 l1 x14_1).f7), .string ((rd_T63 l1 x14_1).f8), .string ((rd_T63 l1 x14_1).f9), .string ((rd_T63 l1 x14_1).f10)] 63 (0, 0)) (by (with_reducible repeat (first | refine blk_drewN ?_ _ | refine blk_drew ?_ | refine blk_alloc ?_ _)); exact BK207.out) hg (Kd.R_away HO_6.out (fun _ hk => hk.2))); have n2_ := Aside0.mk (hb); have n3_ := Aside0.mk (ho); clear BK205; clear BK207; clear HB; clear HO_6; have BK205 := n0_; have BK207 := n1_; have HB := n2_; have HO213 := n3_; clear n0_ n1_ n2_ n3_; clear ho hb hg hat))
                 go_ret2
                 exact ⟨_, by first | rfl | (simp [errW_none, errW_some] <;> rfl) | (simp [*, errW_none, errW_some] <;> rfl), by (with_reducible repeat (first | apply Kd.R_alloc | apply Kd.R_drewN | apply Kd.R_drew)); exact Kd.R_mono HO213.out (fun _ hk => trivial), by repeat (first | (with_reducible first | exact HB.out | apply below_alloc | apply pw_below_drewN | apply below_drew1 | refine below_set ?_ GE205.out | refine below_set ?_ GE207.out) | exact HB.out)⟩
               · replace c22 := Bool.eq_false_iff.mpr c22
                 subst c22
                 have H1 : (spec_Filtered.l0 k1 y211 l1 (l1.length : Int) (wrap64 (x14_1 + 1)) a0_0 l0_1) = some (r1, r2) := by rw [if_neg (show ¬ (false = true) by decide)] at H; exact H
                 clear H
                 have H := H1
                 clear H1
                 have H' := Aside0.mk H
                 clear H
                 have p206 : 0 ≤ (x14_1 : Int) := of_decide_eq_true (by first | (with_reducible assumption) | assumption)
                 have q206 : x14_1 < (l1.length : Int) := of_decide_eq_true (by first | (with_reducible assumption) | assumption)
                 obtain ⟨ad206, e206, hx206_0, hx206_1, hx206_2, hx206_3, hx206_4, hx206_5, hx206_6, hx206_7, hx206_8, hx206_9, hx206_10⟩ := at_T63 HR1.out x14_1 p206 q206
                 cases e206
                 replace hx206_0 := (HB.out.cell (World.block_lt_of_cell? w _ hx206_0)).trans hx206_0
                 replace hx206_1 := (HB.out.cell (World.block_lt_of_cell? w _ hx206_1)).trans hx206_1
                 replace hx206_2 := (HB.out.cell (World.block_lt_of_cell? w _ hx206_2)).trans hx206_2
                 replace hx206_3 := (HB.out.cell (World.block_lt_of_cell? w _ hx206_3)).trans hx206_3
                 replace hx206_4 := (HB.out.cell (World.block_lt_of_cell? w _ hx206_4)).trans hx206_4
                 replace hx206_5 := (HB.out.cell (World.block_lt_of_cell? w _ hx206_5)).trans hx206_5
                 replace hx206_6 := (HB.out.cell (World.block_lt_of_cell? w _ hx206_6)).trans hx206_6
                 replace hx206_7 := (HB.out.cell (World.block_lt_of_cell? w _ hx206_7)).trans hx206_7
                 replace hx206_8 := (HB.out.cell (World.block_lt_of_cell? w _ hx206_8)).trans hx206_8
                 replace hx206_9 := (HB.out.cell (World.block_lt_of_cell? w _ hx206_9)).trans hx206_9
                 replace hx206_10 := (HB.out.cell (World.block_lt_of_cell? w _ hx206_10)).trans hx206_10
                 replace p206 := eq_true p206
                 replace q206 := eq_true q206
                 go_wp2_with (first | ((with_reducible refine gate_dst (N := 8) rfl ?_); refine Go.Last.box_store_event ?hg (N := 8) ?hd (c0 := #[.int .i64 0, .int .i64 0, .int .i64 0, .int .i64 0, .string (⟨#[]⟩ : ByteArray), .string (⟨#[]⟩ : ByteArray), .string (⟨#[]⟩ : ByteArray), .string (⟨#[]⟩ : ByteArray), .string (⟨#[]⟩ : ByteArray), .string (⟨#[]⟩ : ByteArray), .string (⟨#[]⟩ : ByteArray)]) (cs := #[.int .i64 ((rd_T63 l1 x14_1).f0), .int .i64 ((rd_T63 l1 x14_1).f1), .int .i64 ((rd_T63 l1 x14_1).f2), .int .i64 ((rd_T63 l1 x14_1).f3), .string ((rd_T63 l1 x14_1).f4), .string ((rd_T63 l1 x14_1).f5), .string ((rd_T63 l1 x14_1).f6), .string ((rd_T63 l1 x14_1).f7), .string ((rd_T63 l1 x14_1).f8), .string ((rd_T63 l1 x14_1).f9), .string ((rd_T63 l1 x14_1).f10)]) (t := 63) (P := Tryd.prog) ?hr rfl rfl (by first | (go_simp; done) | (go_simp; rfl)) (by first | (go_simp; done) | (go_simp; rfl)) (by kernel_rfl) rfl (by first | rfl | (simp [Value.oneCell']; done)) ?_; (case hd => rfl); (case hg => rfl); (case hr => first | (go_simp; done) | (go_simp; rfl)); intro gb207 hg w30 hbox hb; have n0_ := Aside0.mk (Kd.R_below (Kd.R_elderB (by (with_reducible repeat (first | apply Kd.R_alloc | apply Kd.R_drewN | apply Kd.R_drew)); exact HO_6.out) gb207 (Nat.le_of_eq hg.symm)) hb); have n1_ := Aside0.mk (blk_below (g := gb205) (o := .cells #[.int .i64 a0_0, .slice A0_1 l0_1.length c0_1] 38 (0, 0)) (by (with_reducible repeat (first | refine blk_drewN ?_ _ | refine blk_drew ?_ | refine blk_alloc ?_ _)); exact BK205.out) hb); have n2_ := Aside0.mk (below_step (by repeat (first | (with_reducible first | exact HB.out | apply below_alloc | apply pw_below_drewN | apply below_drew1 | refine below_set ?_ GE205.out) | exact HB.out)) hb); have n3_ := Aside0.mk (hbox); have n4_ := Aside0.mk ((by rw [hg]; exact (below_size (by repeat (first | (with_reducible first | exact HB.out | apply below_alloc | apply pw_below_drewN | apply below_drew1 | refine below_set ?_ GE205.out) | exact HB.out))) : w.heap.size ≤ gb207)); have n5_ := Aside0.mk ((by rw [hg]; exact (below_size (by repeat (first | (with_reducible first | exact HB.out | apply below_alloc | apply pw_below_drewN | apply below_drew1 | refine below_set ?_ GE205.out) | exact HB.out))) : w.heap.size ≤ gb207)); have n6_ := Aside0.mk ((by rw [hg]; exact Nat.ne_of_lt (blk_lt (g := gb205) (o := .cells #[.int .i64 a0_0, .slice A0_1 l0_1.length c0_1] 38 (0, 0)) (by (with_reducible repeat (first | refine blk_drewN ?_ _ | refine blk_drew ?_ | refine blk_alloc ?_ _)); exact BK205.out)) : gb205 ≠ gb207)); have n7_ := Aside0.mk ((by rw [hg]; exact Nat.ne_of_gt (blk_lt (g := gb205) (o := .cells #[.int .i64 a0_0, .slice A0_1 l0_1.length c0_1] 38 (0, 0)) (by (with_reducible repeat (first | refine blk_drewN ?_ _ | refine blk_drew ?_ | refine blk_alloc ?_ _)); exact BK205.out)) : gb207 ≠ gb205)); clear HO_6; clear BK205; clear HB; have HO_6 := n0_; have BK205 := n1_; have HB := n2_; have BK207 := n3_; have GW207 := n4_; have GE207 := n5_; have NB205_207 := n6_; have NB207_205 := n7_; clear n0_ n1_ n2_ n3_ n4_ n5_ n6_ n7_; clear hb hbox hg; have hnb31 := NB205_207.out; have hnc31 := NB207_205.out; have hcz32_0 : w30.cell? ⟨gb205, 0, none⟩ = some (.int .i64 a0_0) := (blk_cell BK205.out 0).trans rfl; have hcz32_1 : w30.cell? ⟨gb205, 1, none⟩ = some (.slice A0_1 l0_1.length c0_1) := (blk_cell BK205.out 1).trans rfl; have hfz32_0 := blk_frozen BK205.out 0; have hfz32_1 := blk_frozen BK205.out 1; have hcz33_0 : w30.cell? ⟨gb207, 0, none⟩ = some (.int .i64 ((rd_T63 l1 x14_1).f0)) := (blk_cell BK207.out 0).trans rfl; have hcz33_1 : w30.cell? ⟨gb207, 1, none⟩ = some (.int .i64 ((rd_T63 l1 x14_1).f1)) := (blk_cell BK207.out 1).trans rfl; have hcz33_2 : w30.cell? ⟨gb207, 2, none⟩ = some (.int .i64 ((rd_T63 l1 x14_1).f2)) := (blk_cell BK207.out 2).trans rfl; have hcz33_3 : w30.cell? ⟨gb207, 3, none⟩ = some (.int .i64 ((rd_T63 l1 x14_1).f3)) := (blk_cell BK207.out 3).trans rfl; have hcz33_4 : w30.cell? ⟨gb207, 4, none⟩ = some (.string ((rd_T63 l1 x14_1).f4)) := (blk_cell BK207.out 4).trans rfl; have hcz33_5 : w30.cell? ⟨gb207, 5, none⟩ = some (.string ((rd_T63 l1 x14_1).f5)) := (blk_cell BK207.out 5).trans rfl; have hcz33_6 : w30.cell? ⟨gb207, 6, none⟩ = some (.string ((rd_T63 l1 x14_1).f6)) := (blk_cell BK207.out 6).trans rfl; have hcz33_7 : w30.cell? ⟨gb207, 7, none⟩ = some (.string ((rd_T63 l1 x14_1).f7)) := (blk_cell BK207.out 7).trans rfl; have hcz33_8 : w30.cell? ⟨gb207, 8, none⟩ = some (.string ((rd_T63 l1 x14_1).f8)) := (blk_cell BK207.out 8).trans rfl; have hcz33_9 : w30.cell? ⟨gb207, 9, none⟩ = some (.string ((rd_T63 l1 x14_1).f9)) := (blk_cell BK207.out 9).trans rfl; have hcz33_10 : w30.cell? ⟨gb207, 10, none⟩ = some (.string ((rd_T63 l1 x14_1).f10)) := (blk_cell BK207.out 10).trans rfl; have hfz33_0 := blk_frozen BK207.out 0; have hfz33_1 := blk_frozen BK207.out 1; have hfz33_2 := blk_frozen BK207.out 2; have hfz33_3 := blk_frozen BK207.out 3; have hfz33_4 := blk_frozen BK207.out 4; have hfz33_5 := blk_frozen BK207.out 5; have hfz33_6 := blk_frozen BK207.out 6; have hfz33_7 := blk_frozen BK207.out 7; have hfz33_8 := blk_frozen BK207.out 8; have hfz33_9 := blk_frozen BK207.out 9; have hfz33_10 := blk_frozen BK207.out 10) | ((with_reducible refine gate_callee (f := 28) rfl ?_); refine goesL_ (some 21) rfl rfl Tryd.func28 (by kernel_rfl) rfl #[.agg #[.int .i64 a0_0, .slice A0_1 l0_1.length c0_1], .agg #[.int .i64 ((rd_T63 l1 x14_1).f0), .int .i64 ((rd_T63 l1 x14_1).f1), .int .i64 ((rd_T63 l1 x14_1).f2), .int .i64 ((rd_T63 l1 x14_1).f3), .string ((rd_T63 l1 x14_1).f4), .string ((rd_T63 l1 x14_1).f5), .string ((rd_T63 l1 x14_1).f6), .string ((rd_T63 l1 x14_1).f7), .string ((rd_T63 l1 x14_1).f8), .string ((rd_T63 l1 x14_1).f9), .string ((rd_T63 l1 x14_1).f10)]] rfl (by (try simp only [List.map_toArray, List.map_cons, List.map_nil]); first | done | rfl | (simp only [List.length_drop, List.length_take]; rfl)) ?_; (with_reducible refine (spec_Keeps.calls k1 a0_0 _ _ l0_1 ((rd_T63 l1 x14_1).f0) ((rd_T63 l1 x14_1).f1) ((rd_T63 l1 x14_1).f2) ((rd_T63 l1 x14_1).f3) ((rd_T63 l1 x14_1).f4) ((rd_T63 l1 x14_1).f5) ((rd_T63 l1 x14_1).f6) ((rd_T63 l1 x14_1).f7) ((rd_T63 l1 x14_1).f8) ((rd_T63 l1 x14_1).f9) ((rd_T63 l1 x14_1).f10) false false t210 _ ?side1 ?side2 A7.out).mono ?_); (case side1 => repeat (first | exact (Kd.C_below HR0_1.out HB.out) | (with_reducible refine Kd.C_alloc ?_ _) | (with_reducible refine Kd.C_drewN ?_ _) | (with_reducible refine Kd.C_drew ?_))); (case side2 => exact HC0_1.out); rintro e w34 ⟨rfl, hb⟩; refine ⟨_, rfl, ?_⟩; have n0_ := Aside0.mk (Kd.R_below (by (with_reducible repeat (first | apply Kd.R_alloc | apply Kd.R_drewN | apply Kd.R_drew)); exact HO_6.out) hb); have n1_ := Aside0.mk (blk_below (g := gb205) (o := .cells #[.int .i64 a0_0, .slice A0_1 l0_1.length c0_1] 38 (0, 0)) (by (with_reducible repeat (first | refine blk_drewN ?_ _ | refine blk_drew ?_ | refine blk_alloc ?_ _)); exact BK205.out) hb); have n2_ := Aside0.mk (blk_below (g := gb207) (o := .cells #[.int .i64 ((rd_T63 l1 x14_1).f0), .int .i64 ((rd_T63 l1 x14_1).f1), .int .i64 ((rd_T63 l1 x14_1).f2), .int .i64 ((rd_T63 l1 x14_1).f3), .string ((rd_T63 l1 x14_1).f4), .string ((rd_T63 l1 x14_1).f5), .string ((rd_T63 l1 x14_1).f6), .string ((rd_T63 l1 x14_1).f7), .string ((rd_T63 l1 x14_1).f8), .string ((rd_T63 l1 x14_1).f9), .string ((rd_T63 l1 x14_1).f10)] 63 (0, 0)) (by (with_reducible repeat (first | refine blk_drewN ?_ _ | refine blk_drew ?_ | refine blk_alloc ?_ _)); exact BK207.out) hb); have n3_ := Aside0.mk (below_step (by repeat (first | (with_reducible first | exact HB.out | apply below_alloc | apply pw_below_drewN | apply below_drew1 | refine below_set ?_ GE205.out | refine below_set ?_ GE207.out) | exact HB.out)) hb); clear HO_6; clear BK205; clear BK207; clear HB; have HO_6 := n0_; have BK205 := n1_; have BK207 := n2_; have HB := n3_; clear n0_ n1_ n2_ n3_; (try clear hb); (try clear hb2); (try clear hk); (try clear hi); have hcz35_0 : w34.cell? ⟨gb207, 0, none⟩ = some (.int .i64 ((rd_T63 l1 x14_1).f0)) := (blk_cell BK207.out 0).trans rfl; have hcz35_1 : w34.cell? ⟨gb207, 1, none⟩ = some (.int .i64 ((rd_T63 l1 x14_1).f1)) := (blk_cell BK207.out 1).trans rfl; have hcz35_2 : w34.cell? ⟨gb207, 2, none⟩ = some (.int .i64 ((rd_T63 l1 x14_1).f2)) := (blk_cell BK207.out 2).trans rfl; have hcz35_3 : w34.cell? ⟨gb207, 3, none⟩ = some (.int .i64 ((rd_T63 l1 x14_1).f3)) := (blk_cell BK207.out 3).trans rfl; have hcz35_4 : w34.cell? ⟨gb207, 4, none⟩ = some (.string ((rd_T63 l1 x14_1).f4)) := (blk_cell BK207.out 4).trans rfl; have hcz35_5 : w34.cell? ⟨gb207, 5, none⟩ = some (.string ((rd_T63 l1 x14_1).f5)) := (blk_cell BK207.out 5).trans rfl; have hcz35_6 : w34.cell? ⟨gb207, 6, none⟩ = some (.string ((rd_T63 l1 x14_1).f6)) := (blk_cell BK207.out 6).trans rfl; have hcz35_7 : w34.cell? ⟨gb207, 7, none⟩ = some (.string ((rd_T63 l1 x14_1).f7)) := (blk_cell BK207.out 7).trans rfl; have hcz35_8 : w34.cell? ⟨gb207, 8, none⟩ = some (.string ((rd_T63 l1 x14_1).f8)) := (blk_cell BK207.out 8).trans rfl; have hcz35_9 : w34.cell? ⟨gb207, 9, none⟩ = some (.string ((rd_T63 l1 x14_1).f9)) := (blk_cell BK207.out 9).trans rfl; have hcz35_10 : w34.cell? ⟨gb207, 10, none⟩ = some (.string ((rd_T63 l1 x14_1).f10)) := (blk_cell BK207.out 10).trans rfl; have hfz35_0 := blk_frozen BK207.out 0; have hfz35_1 := blk_frozen BK207.out 1; have hfz35_2 := blk_frozen BK207.out 2; have hfz35_3 := blk_frozen BK207.out 3; have hfz35_4 := blk_frozen BK207.out 4; have hfz35_5 := blk_frozen BK207.out 5; have hfz35_6 := blk_frozen BK207.out 6; have hfz35_7 := blk_frozen BK207.out 7; have hfz35_8 := blk_frozen BK207.out 8; have hfz35_9 := blk_frozen BK207.out 9; have hfz35_10 := blk_frozen BK207.out 10) | ((with_reducible refine gate_builtin (b := .append) (xs := #[.tmp 29, .tmp 31]) rfl ?_); at_builtin; refine Kd.R_append k63 (w0 := w) w.heap.size rfl (.tmp 29) (.tmp 31) 35 63 (.agg #[(.int .i64 0), (.int .i64 0), (.int .i64 0), (.int .i64 0), (.string ⟨#[]⟩), (.string ⟨#[]⟩), (.string ⟨#[]⟩), (.string ⟨#[]⟩), (.string ⟨#[]⟩), (.string ⟨#[]⟩), (.string ⟨#[]⟩)]) 144 rfl Tryd.underlying35 info63 rfl (by decide) (by omega) u6 x6_1 (⟨(rd_T63 l1 x14_1).f0, (rd_T63 l1 x14_1).f1, (rd_T63 l1 x14_1).f2, (rd_T63 l1 x14_1).f3, (rd_T63 l1 x14_1).f4, (rd_T63 l1 x14_1).f5, (rd_T63 l1 x14_1).f6, (rd_T63 l1 x14_1).f7, (rd_T63 l1 x14_1).f8, (rd_T63 l1 x14_1).f9, (rd_T63 l1 x14_1).f10⟩ : S63) [.int .i64 ((rd_T63 l1 x14_1).f0), .int .i64 ((rd_T63 l1 x14_1).f1), .int .i64 ((rd_T63 l1 x14_1).f2), .int .i64 ((rd_T63 l1 x14_1).f3), .string ((rd_T63 l1 x14_1).f4), .string ((rd_T63 l1 x14_1).f5), .string ((rd_T63 l1 x14_1).f6), .string ((rd_T63 l1 x14_1).f7), .string ((rd_T63 l1 x14_1).f8), .string ((rd_T63 l1 x14_1).f9), .string ((rd_T63 l1 x14_1).f10)] (fun k_ => k_ ≠ gb207) (fun _ => False) rfl rfl ?aP (fun _ hk => hk.elim) ?aF ?aO ?aB ?aS ?aL ?_; (case aP => exact k63_mkM _ _ _ (⟨(rd_T63 l1 x14_1).f0, (rd_T63 l1 x14_1).f1, (rd_T63 l1 x14_1).f2, (rd_T63 l1 x14_1).f3, (rd_T63 l1 x14_1).f4, (rd_T63 l1 x14_1).f5, (rd_T63 l1 x14_1).f6, (rd_T63 l1 x14_1).f7, (rd_T63 l1 x14_1).f8, (rd_T63 l1 x14_1).f9, (rd_T63 l1 x14_1).f10⟩ : S63)); (case aB => exact (by repeat (first | (with_reducible first | exact HB.out | apply below_alloc | apply pw_below_drewN | apply below_drew1 | refine below_set ?_ GE205.out | refine below_set ?_ GE207.out) | exact HB.out))); (case aF => exact (fun k_ hk => Kd.freshB (g := gb207) (o := .cells #[.int .i64 ((rd_T63 l1 x14_1).f0), .int .i64 ((rd_T63 l1 x14_1).f1), .int .i64 ((rd_T63 l1 x14_1).f2), .int .i64 ((rd_T63 l1 x14_1).f3), .string ((rd_T63 l1 x14_1).f4), .string ((rd_T63 l1 x14_1).f5), .string ((rd_T63 l1 x14_1).f6), .string ((rd_T63 l1 x14_1).f7), .string ((rd_T63 l1 x14_1).f8), .string ((rd_T63 l1 x14_1).f9), .string ((rd_T63 l1 x14_1).f10)] 63 (0, 0)) (by (with_reducible repeat (first | refine blk_drewN ?_ _ | refine blk_drew ?_ | refine blk_alloc ?_ _)); exact BK207.out) k_ hk)); (case aO => exact (by (with_reducible repeat (first | apply Kd.R_alloc | apply Kd.R_drewN | apply Kd.R_drew)); exact Kd.R_mono HO_6.out (fun _ hk => hk.2))); (case aS => exact (below_size (by repeat (first | (with_reducible first | exact HB.out | apply below_alloc | apply pw_below_drewN | apply below_drew1 | refine below_set ?_ GE205.out | refine below_set ?_ GE207.out) | exact HB.out)))); (case aL => have := LMc21.out; omega); intro v212 w36 ho hb hg hat; rw [← Ny211.out] at ho; have n0_ := Aside0.mk (blk_grown (g := gb205) (o := .cells #[.int .i64 a0_0, .slice A0_1 l0_1.length c0_1] 38 (0, 0)) (by (with_reducible repeat (first | refine blk_drewN ?_ _ | refine blk_drew ?_ | refine blk_alloc ?_ _)); exact BK205.out) hg (Kd.R_ne HO_6.out BK205.out (by decide))); have n1_ := Aside0.mk (blk_grown (g := gb207) (o := .cells #[.int .i64 ((rd_T63 l1 x14_1).f0), .int .i64 ((rd_T63 l1 x14_1).f1), .int .i64 ((rd_T63 l1 x14_1).f2), .int .i64 ((rd_T63 l1 x14_1).f3), .string ((rd_T63 l1 x14_1).f4), .string ((rd_T63 l1 x14_1).f5), .string ((rd_T63 l1 x14_1).f6), .string ((rd_T63 l1 x14_1).f7), .string ((rd_T63 l1 x14_1).f8), .string ((rd_T63 l1 x14_1).f9), .string ((rd_T63 l1 x14_1).f10)] 63 (0, 0)) (by (with_reducible repeat (first | refine blk_drewN ?_ _ | refine blk_drew ?_ | refine blk_alloc ?_ _)); exact BK207.out) hg (Kd.R_away HO_6.out (fun _ hk => hk.2))); have n2_ := Aside0.mk (hb); have n3_ := Aside0.mk (ho); clear BK205; clear BK207; clear HB; clear HO_6; have BK205 := n0_; have BK207 := n1_; have HB := n2_; have HO213 := n3_; clear n0_ n1_ n2_ n3_; clear ho hb hg hat))
                 go_roundg k1
                 case measure => have := HK1.out; omega
                 case rel => exact ⟨(y211), (wrap64 (x14_1 + 1)), (by first | rfl | (simp; done) | (simp [*]; done)), H', ⟨by have := HK1.out; omega⟩, ⟨by (with_reducible repeat (first | apply Kd.R_alloc | apply Kd.R_drewN | apply Kd.R_drew)); exact Kd.R_mono HO213.out (fun _ hk => trivial)⟩, ⟨by (with_reducible repeat (first | refine blk_drewN ?_ _ | refine blk_drew ?_ | refine blk_alloc ?_ _)); exact BK205.out⟩, ⟨by repeat (first | (with_reducible first | exact HB.out | apply below_alloc | apply pw_below_drewN | apply below_drew1 | refine below_set ?_ GE205.out | refine below_set ?_ GE207.out) | exact HB.out)⟩⟩
             · rw [if_neg c21] at H
               exact absurd H (by simp)
         · rw [if_neg c8] at H
           have c8b0 : (t210 == 1) = false := beq_eq_false_iff_ne.mpr c8
           have c8b1 : (t210 != 1) = true := bne_iff_ne.mpr c8
           simp only [Option.some.injEq, Prod.mk.injEq] at H
           obtain ⟨rfl, rfl⟩ := H
           have p206 : 0 ≤ (x14_1 : Int) := of_decide_eq_true (by first | (with_reducible assumption) | assumption)
           have q206 : x14_1 < (l1.length : Int) := of_decide_eq_true (by first | (with_reducible assumption) | assumption)
           obtain ⟨ad206, e206, hx206_0, hx206_1, hx206_2, hx206_3, hx206_4, hx206_5, hx206_6, hx206_7, hx206_8, hx206_9, hx206_10⟩ := at_T63 HR1.out x14_1 p206 q206
           cases e206
           replace hx206_0 := (HB.out.cell (World.block_lt_of_cell? w _ hx206_0)).trans hx206_0
           replace hx206_1 := (HB.out.cell (World.block_lt_of_cell? w _ hx206_1)).trans hx206_1
           replace hx206_2 := (HB.out.cell (World.block_lt_of_cell? w _ hx206_2)).trans hx206_2
           replace hx206_3 := (HB.out.cell (World.block_lt_of_cell? w _ hx206_3)).trans hx206_3
           replace hx206_4 := (HB.out.cell (World.block_lt_of_cell? w _ hx206_4)).trans hx206_4
           replace hx206_5 := (HB.out.cell (World.block_lt_of_cell? w _ hx206_5)).trans hx206_5
           replace hx206_6 := (HB.out.cell (World.block_lt_of_cell? w _ hx206_6)).trans hx206_6
           replace hx206_7 := (HB.out.cell (World.block_lt_of_cell? w _ hx206_7)).trans hx206_7
           replace hx206_8 := (HB.out.cell (World.block_lt_of_cell? w _ hx206_8)).trans hx206_8
           replace hx206_9 := (HB.out.cell (World.block_lt_of_cell? w _ hx206_9)).trans hx206_9
           replace hx206_10 := (HB.out.cell (World.block_lt_of_cell? w _ hx206_10)).trans hx206_10
           replace p206 := eq_true p206
           replace q206 := eq_true q206
           go_wp2_with (first | ((with_reducible refine gate_dst (N := 8) rfl ?_); refine Go.Last.box_store_event ?hg (N := 8) ?hd (c0 := #[.int .i64 0, .int .i64 0, .int .i64 0, .int .i64 0, .string (⟨#[]⟩ : ByteArray), .string (⟨#[]⟩ : ByteArray), .string (⟨#[]⟩ : ByteArray), .string (⟨#[]⟩ : ByteArray), .string (⟨#[]⟩ : ByteArray), .string (⟨#[]⟩ : ByteArray), .string (⟨#[]⟩ : ByteArray)]) (cs := #[.int .i64 ((rd_T63 l1 x14_1).f0), .int .i64 ((rd_T63 l1 x14_1).f1), .int .i64 ((rd_T63 l1 x14_1).f2), .int .i64 ((rd_T63 l1 x14_1).f3), .string ((rd_T63 l1 x14_1).f4), .string ((rd_T63 l1 x14_1).f5), .string ((rd_T63 l1 x14_1).f6), .string ((rd_T63 l1 x14_1).f7), .string ((rd_T63 l1 x14_1).f8), .string ((rd_T63 l1 x14_1).f9), .string ((rd_T63 l1 x14_1).f10)]) (t := 63) (P := Tryd.prog) ?hr rfl rfl (by first | (go_simp; done) | (go_simp; rfl)) (by first | (go_simp; done) | (go_simp; rfl)) (by kernel_rfl) rfl (by first | rfl | (simp [Value.oneCell']; done)) ?_; (case hd => rfl); (case hg => rfl); (case hr => first | (go_simp; done) | (go_simp; rfl)); intro gb207 hg w37 hbox hb; have n0_ := Aside0.mk (Kd.R_below (Kd.R_elderB (by (with_reducible repeat (first | apply Kd.R_alloc | apply Kd.R_drewN | apply Kd.R_drew)); exact HO_6.out) gb207 (Nat.le_of_eq hg.symm)) hb); have n1_ := Aside0.mk (blk_below (g := gb205) (o := .cells #[.int .i64 a0_0, .slice A0_1 l0_1.length c0_1] 38 (0, 0)) (by (with_reducible repeat (first | refine blk_drewN ?_ _ | refine blk_drew ?_ | refine blk_alloc ?_ _)); exact BK205.out) hb); have n2_ := Aside0.mk (below_step (by repeat (first | (with_reducible first | exact HB.out | apply below_alloc | apply pw_below_drewN | apply below_drew1 | refine below_set ?_ GE205.out) | exact HB.out)) hb); have n3_ := Aside0.mk (hbox); have n4_ := Aside0.mk ((by rw [hg]; exact (below_size (by repeat (first | (with_reducible first | exact HB.out | apply below_alloc | apply pw_below_drewN | apply below_drew1 | refine below_set ?_ GE205.out) | exact HB.out))) : w.heap.size ≤ gb207)); have n5_ := Aside0.mk ((by rw [hg]; exact (below_size (by repeat (first | (with_reducible first | exact HB.out | apply below_alloc | apply pw_below_drewN | apply below_drew1 | refine below_set ?_ GE205.out) | exact HB.out))) : w.heap.size ≤ gb207)); have n6_ := Aside0.mk ((by rw [hg]; exact Nat.ne_of_lt (blk_lt (g := gb205) (o := .cells #[.int .i64 a0_0, .slice A0_1 l0_1.length c0_1] 38 (0, 0)) (by (with_reducible repeat (first | refine blk_drewN ?_ _ | refine blk_drew ?_ | refine blk_alloc ?_ _)); exact BK205.out)) : gb205 ≠ gb207)); have n7_ := Aside0.mk ((by rw [hg]; exact Nat.ne_of_gt (blk_lt (g := gb205) (o := .cells #[.int .i64 a0_0, .slice A0_1 l0_1.length c0_1] 38 (0, 0)) (by (with_reducible repeat (first | refine blk_drewN ?_ _ | refine blk_drew ?_ | refine blk_alloc ?_ _)); exact BK205.out)) : gb207 ≠ gb205)); clear HO_6; clear BK205; clear HB; have HO_6 := n0_; have BK205 := n1_; have HB := n2_; have BK207 := n3_; have GW207 := n4_; have GE207 := n5_; have NB205_207 := n6_; have NB207_205 := n7_; clear n0_ n1_ n2_ n3_ n4_ n5_ n6_ n7_; clear hb hbox hg; have hnb38 := NB205_207.out; have hnc38 := NB207_205.out; have hcz39_0 : w37.cell? ⟨gb205, 0, none⟩ = some (.int .i64 a0_0) := (blk_cell BK205.out 0).trans rfl; have hcz39_1 : w37.cell? ⟨gb205, 1, none⟩ = some (.slice A0_1 l0_1.length c0_1) := (blk_cell BK205.out 1).trans rfl; have hfz39_0 := blk_frozen BK205.out 0; have hfz39_1 := blk_frozen BK205.out 1; have hcz40_0 : w37.cell? ⟨gb207, 0, none⟩ = some (.int .i64 ((rd_T63 l1 x14_1).f0)) := (blk_cell BK207.out 0).trans rfl; have hcz40_1 : w37.cell? ⟨gb207, 1, none⟩ = some (.int .i64 ((rd_T63 l1 x14_1).f1)) := (blk_cell BK207.out 1).trans rfl; have hcz40_2 : w37.cell? ⟨gb207, 2, none⟩ = some (.int .i64 ((rd_T63 l1 x14_1).f2)) := (blk_cell BK207.out 2).trans rfl; have hcz40_3 : w37.cell? ⟨gb207, 3, none⟩ = some (.int .i64 ((rd_T63 l1 x14_1).f3)) := (blk_cell BK207.out 3).trans rfl; have hcz40_4 : w37.cell? ⟨gb207, 4, none⟩ = some (.string ((rd_T63 l1 x14_1).f4)) := (blk_cell BK207.out 4).trans rfl; have hcz40_5 : w37.cell? ⟨gb207, 5, none⟩ = some (.string ((rd_T63 l1 x14_1).f5)) := (blk_cell BK207.out 5).trans rfl; have hcz40_6 : w37.cell? ⟨gb207, 6, none⟩ = some (.string ((rd_T63 l1 x14_1).f6)) := (blk_cell BK207.out 6).trans rfl; have hcz40_7 : w37.cell? ⟨gb207, 7, none⟩ = some (.string ((rd_T63 l1 x14_1).f7)) := (blk_cell BK207.out 7).trans rfl; have hcz40_8 : w37.cell? ⟨gb207, 8, none⟩ = some (.string ((rd_T63 l1 x14_1).f8)) := (blk_cell BK207.out 8).trans rfl; have hcz40_9 : w37.cell? ⟨gb207, 9, none⟩ = some (.string ((rd_T63 l1 x14_1).f9)) := (blk_cell BK207.out 9).trans rfl; have hcz40_10 : w37.cell? ⟨gb207, 10, none⟩ = some (.string ((rd_T63 l1 x14_1).f10)) := (blk_cell BK207.out 10).trans rfl; have hfz40_0 := blk_frozen BK207.out 0; have hfz40_1 := blk_frozen BK207.out 1; have hfz40_2 := blk_frozen BK207.out 2; have hfz40_3 := blk_frozen BK207.out 3; have hfz40_4 := blk_frozen BK207.out 4; have hfz40_5 := blk_frozen BK207.out 5; have hfz40_6 := blk_frozen BK207.out 6; have hfz40_7 := blk_frozen BK207.out 7; have hfz40_8 := blk_frozen BK207.out 8; have hfz40_9 := blk_frozen BK207.out 9; have hfz40_10 := blk_frozen BK207.out 10) | ((with_reducible refine gate_callee (f := 28) rfl ?_); refine goesL_ (some 21) rfl rfl Tryd.func28 (by kernel_rfl) rfl #[.agg #[.int .i64 a0_0, .slice A0_1 l0_1.length c0_1], .agg #[.int .i64 ((rd_T63 l1 x14_1).f0), .int .i64 ((rd_T63 l1 x14_1).f1), .int .i64 ((rd_T63 l1 x14_1).f2), .int .i64 ((rd_T63 l1 x14_1).f3), .string ((rd_T63 l1 x14_1).f4), .string ((rd_T63 l1 x14_1).f5), .string ((rd_T63 l1 x14_1).f6), .string ((rd_T63 l1 x14_1).f7), .string ((rd_T63 l1 x14_1).f8), .string ((rd_T63 l1 x14_1).f9), .string ((rd_T63 l1 x14_1).f10)]] rfl (by (try simp only [List.map_toArray, List.map_cons, List.map_nil]); first | done | rfl | (simp only [List.length_drop, List.length_take]; rfl)) ?_; (with_reducible refine (spec_Keeps.calls k1 a0_0 _ _ l0_1 ((rd_T63 l1 x14_1).f0) ((rd_T63 l1 x14_1).f1) ((rd_T63 l1 x14_1).f2) ((rd_T63 l1 x14_1).f3) ((rd_T63 l1 x14_1).f4) ((rd_T63 l1 x14_1).f5) ((rd_T63 l1 x14_1).f6) ((rd_T63 l1 x14_1).f7) ((rd_T63 l1 x14_1).f8) ((rd_T63 l1 x14_1).f9) ((rd_T63 l1 x14_1).f10) t208 t209 t210 _ ?side1 ?side2 A7.out).mono ?_); (case side1 => repeat (first | exact (Kd.C_below HR0_1.out HB.out) | (with_reducible refine Kd.C_alloc ?_ _) | (with_reducible refine Kd.C_drewN ?_ _) | (with_reducible refine Kd.C_drew ?_))); (case side2 => exact HC0_1.out); rintro e w41 ⟨rfl, hb⟩; refine ⟨_, rfl, ?_⟩; have n0_ := Aside0.mk (Kd.R_below (by (with_reducible repeat (first | apply Kd.R_alloc | apply Kd.R_drewN | apply Kd.R_drew)); exact HO_6.out) hb); have n1_ := Aside0.mk (blk_below (g := gb205) (o := .cells #[.int .i64 a0_0, .slice A0_1 l0_1.length c0_1] 38 (0, 0)) (by (with_reducible repeat (first | refine blk_drewN ?_ _ | refine blk_drew ?_ | refine blk_alloc ?_ _)); exact BK205.out) hb); have n2_ := Aside0.mk (blk_below (g := gb207) (o := .cells #[.int .i64 ((rd_T63 l1 x14_1).f0), .int .i64 ((rd_T63 l1 x14_1).f1), .int .i64 ((rd_T63 l1 x14_1).f2), .int .i64 ((rd_T63 l1 x14_1).f3), .string ((rd_T63 l1 x14_1).f4), .string ((rd_T63 l1 x14_1).f5), .string ((rd_T63 l1 x14_1).f6), .string ((rd_T63 l1 x14_1).f7), .string ((rd_T63 l1 x14_1).f8), .string ((rd_T63 l1 x14_1).f9), .string ((rd_T63 l1 x14_1).f10)] 63 (0, 0)) (by (with_reducible repeat (first | refine blk_drewN ?_ _ | refine blk_drew ?_ | refine blk_alloc ?_ _)); exact BK207.out) hb); have n3_ := Aside0.mk (below_step (by repeat (first | (with_reducible first | exact HB.out | apply below_alloc | apply pw_below_drewN | apply below_drew1 | refine below_set ?_ GE205.out | refine below_set ?_ GE207.out) | exact HB.out)) hb); clear HO_6; clear BK205; clear BK207; clear HB; have HO_6 := n0_; have BK205 := n1_; have BK207 := n2_; have HB := n3_; clear n0_ n1_ n2_ n3_; (try clear hb); (try clear hb2); (try clear hk); (try clear hi)))
           go_ret2
           exact ⟨_, by first | rfl | (simp [errW_none, errW_some] <;> rfl) | (simp [*, errW_none, errW_some] <;> rfl), by first | exact Kd.R_nil _ _ _ _ _ | exact Kd.N_nil _ _ _ _ _ | exact Kd.V_nil _ _ _ _ _ | exact Kd.Q_nil _ _ _ _ _ | exact Kd.S_nil _ _ _ _ _, by repeat (first | (with_reducible first | exact HB.out | apply below_alloc | apply pw_below_drewN | apply below_drew1 | refine below_set ?_ GE205.out | refine below_set ?_ GE207.out) | exact HB.out)⟩
       · rw [if_neg c6] at H
         exact absurd H (by simp)
     · rw [if_neg c5] at H
       exact absurd H (by simp)
   · rw [if_neg c4] at H
     have c4b0 : decide (x14_1 < (l1.length : Int)) = false := decide_eq_false c4
     clear c4
     simp only [Option.some.injEq, Prod.mk.injEq] at H
     obtain ⟨rfl, rfl⟩ := H
     go_wp2
     go_ret2
     exact ⟨_, by first | rfl | (simp [errW_none, errW_some] <;> rfl) | (simp [*, errW_none, errW_some] <;> rfl), by (with_reducible repeat (first | apply Kd.R_alloc | apply Kd.R_drewN | apply Kd.R_drew)); exact HO_6.out, by repeat (first | (with_reducible first | exact HB.out | apply below_alloc | apply pw_below_drewN | apply below_drew1 | refine below_set ?_ GE205.out) | exact HB.out)⟩
def laws_mountsFrom.l0 : Nat → List (S44) → List (S63) → Int → Int → Option ((List (S44)))
 | 0, _, _, _, _ => none
 | k + 1, x3, x6, x7, x8 => if x8 < x7 then (if 0 ≤ x8 then (if x8 < (x6.length : Int) then (if x3.length < 977343669134 then (laws_mountsFrom.l0 k (x3 ++ [(⟨(rd_T63 x6 x8).f0, (rd_T63 x6 x8).f1, (rd_T63 x6 x8).f2, (rd_T63 x6 x8).f3, (rd_T63 x6 x8).f4, (rd_T63 x6 x8).f5, (rd_T63 x6 x8).f6, (rd_T63 x6 x8).f7, (rd_T63 x6 x8).f8, (rd_T63 x6 x8).f9, (rd_T63 x6 x8).f10⟩ : S44)]) x6 x7 (wrap64 (x8 + 1))) else (none)) else (none)) else (none)) else (some x3)
def laws_mountsFrom.f (k : Nat) (l0 : List (S63)) : Option ((List (S44))) := laws_mountsFrom.l0 k ([] : List (S44)) l0 (l0.length : Int) 0
set_option maxHeartbeats 8000000 in
set_option maxRecDepth 100000 in
theorem laws_mountsFrom.calls (k : Nat) (A0 : Option Addr) (c0 : Nat) (l0 : List (S63)) (r : List (S44)) (w : World) (hr0 : Kd.C k63 w A0 l0.length l0) (hc0 : l0.length ≤ c0) (h : laws_mountsFrom.f k l0 = some r) :
 Calls Tryd.prog 16 #[.slice A0 l0.length c0] w fun e w' => ∃ v0_ : Value, e = .returned (v0_) ∧ Kd.R k44 44 w' w.heap.size (fun _ => True) v0_ r ∧ Below w.heap.size w w' := by
 have hu63 := Tryd.underlying63
 have HR0 := Aside0.mk hr0
 have HC0 := Aside0.mk hc0
 clear hr0 hc0
 have HB := Aside0.mk (Below.refl w.heap.size w)
 have H : (laws_mountsFrom.l0 k ([] : List (S44)) l0 (l0.length : Int) 0) = some r := h
 clear h
 have H' := Aside0.mk H
 clear H
 go_enter Tryd.func16, Tryd.ntmps16
 go_wp2
 go_loopg [3, 8] k (fun kq v3 v8 w' => ∃ (x3_1 : List (S44)) (x8_1 : Int), v8 = .int .i64 x8_1 ∧ Aside0 (laws_mountsFrom.l0 kq x3_1 l0 (l0.length : Int) x8_1 = some r) ∧ Aside0 (kq ≤ k) ∧ Aside0 (Kd.R k44 44 w' w.heap.size (fun _ => True) v3 x3_1) ∧ Aside0 (Below w.heap.size w w'))
 case atStart => exact ⟨(([] : List (S44))), (0), (by first | rfl | (simp; done) | (simp [*]; done)), H', ⟨Nat.le_refl _⟩, ⟨by first | exact Kd.R_nil _ _ _ _ _ | exact Kd.N_nil _ _ _ _ _ | exact Kd.V_nil _ _ _ _ _ | exact Kd.Q_nil _ _ _ _ _ | exact Kd.S_nil _ _ _ _ _⟩, ⟨by repeat (first | (with_reducible first | exact HB.out | apply below_alloc | apply pw_below_drewN | apply below_drew1) | exact HB.out)⟩⟩
 case round =>
  clear H'
  try clear c1
  obtain ⟨x3_1, x8_1, rfl, HA, HK1, HO_3, HB⟩ := hrel
  cases gk with
  | zero => exact absurd HA.out (by simp [laws_mountsFrom.l0])
  | succ k1 =>
   have H := HA.out
   clear HA
   simp only [laws_mountsFrom.l0] at H
   by_cases c2 : x8_1 < (l0.length : Int)
   · rw [if_pos c2] at H
     have c2b0 : decide (x8_1 < (l0.length : Int)) = true := decide_eq_true c2
     clear c2
     by_cases c3 : 0 ≤ x8_1
     · rw [if_pos c3] at H
       have c3b0 : decide (0 ≤ x8_1) = true := decide_eq_true c3
       clear c3
       by_cases c4 : x8_1 < (l0.length : Int)
       · rw [if_pos c4] at H
         have c4b0 : decide (x8_1 < (l0.length : Int)) = true := decide_eq_true c4
         clear c4
         by_cases c5 : x3_1.length < 977343669134
         · rw [if_pos c5] at H
           have LMc5 := Aside0.mk c5
           clear c5
           obtain ⟨y216, hy216⟩ : ∃ y_ : List (S44), y_ = (x3_1 ++ [(⟨(rd_T63 l0 x8_1).f0, (rd_T63 l0 x8_1).f1, (rd_T63 l0 x8_1).f2, (rd_T63 l0 x8_1).f3, (rd_T63 l0 x8_1).f4, (rd_T63 l0 x8_1).f5, (rd_T63 l0 x8_1).f6, (rd_T63 l0 x8_1).f7, (rd_T63 l0 x8_1).f8, (rd_T63 l0 x8_1).f9, (rd_T63 l0 x8_1).f10⟩ : S44)]) := ⟨_, rfl⟩
           replace H : (laws_mountsFrom.l0 k1 y216 l0 (l0.length : Int) (wrap64 (x8_1 + 1))) = some r := by first | (rw [hy216]; with_reducible exact H) | (have H2_ := (Option.bind_some _ _).symm.trans H; rw [hy216]; with_reducible exact H2_) | (have H2_ := (Option.bind_some _ _).symm.trans H; with_reducible exact H2_) | with_reducible exact H | (rw [hy216]; exact H) | exact H
           have Ny216 := Aside0.mk hy216
           clear hy216
           have H' := Aside0.mk H
           clear H
           have p214 : 0 ≤ (x8_1 : Int) := of_decide_eq_true (by first | (with_reducible assumption) | assumption)
           have q214 : x8_1 < (l0.length : Int) := of_decide_eq_true (by first | (with_reducible assumption) | assumption)
           obtain ⟨ad214, e214, hx214_0, hx214_1, hx214_2, hx214_3, hx214_4, hx214_5, hx214_6, hx214_7, hx214_8, hx214_9, hx214_10⟩ := at_T63 HR0.out x8_1 p214 q214
           cases e214
           replace hx214_0 := (HB.out.cell (World.block_lt_of_cell? w _ hx214_0)).trans hx214_0
           replace hx214_1 := (HB.out.cell (World.block_lt_of_cell? w _ hx214_1)).trans hx214_1
           replace hx214_2 := (HB.out.cell (World.block_lt_of_cell? w _ hx214_2)).trans hx214_2
           replace hx214_3 := (HB.out.cell (World.block_lt_of_cell? w _ hx214_3)).trans hx214_3
           replace hx214_4 := (HB.out.cell (World.block_lt_of_cell? w _ hx214_4)).trans hx214_4
           replace hx214_5 := (HB.out.cell (World.block_lt_of_cell? w _ hx214_5)).trans hx214_5
           replace hx214_6 := (HB.out.cell (World.block_lt_of_cell? w _ hx214_6)).trans hx214_6
           replace hx214_7 := (HB.out.cell (World.block_lt_of_cell? w _ hx214_7)).trans hx214_7
           replace hx214_8 := (HB.out.cell (World.block_lt_of_cell? w _ hx214_8)).trans hx214_8
           replace hx214_9 := (HB.out.cell (World.block_lt_of_cell? w _ hx214_9)).trans hx214_9
           replace hx214_10 := (HB.out.cell (World.block_lt_of_cell? w _ hx214_10)).trans hx214_10
           replace p214 := eq_true p214
           replace q214 := eq_true q214
           go_wp2_with (first | ((with_reducible refine gate_dst (N := 5) rfl ?_); refine Go.Last.box_store_event ?hg (N := 5) ?hd (c0 := #[.int .i64 0, .int .i64 0, .int .i64 0, .int .i64 0, .string (⟨#[]⟩ : ByteArray), .string (⟨#[]⟩ : ByteArray), .string (⟨#[]⟩ : ByteArray), .string (⟨#[]⟩ : ByteArray), .string (⟨#[]⟩ : ByteArray), .string (⟨#[]⟩ : ByteArray), .string (⟨#[]⟩ : ByteArray)]) (cs := #[.int .i64 ((rd_T63 l0 x8_1).f0), .int .i64 ((rd_T63 l0 x8_1).f1), .int .i64 ((rd_T63 l0 x8_1).f2), .int .i64 ((rd_T63 l0 x8_1).f3), .string ((rd_T63 l0 x8_1).f4), .string ((rd_T63 l0 x8_1).f5), .string ((rd_T63 l0 x8_1).f6), .string ((rd_T63 l0 x8_1).f7), .string ((rd_T63 l0 x8_1).f8), .string ((rd_T63 l0 x8_1).f9), .string ((rd_T63 l0 x8_1).f10)]) (t := 63) (P := Tryd.prog) ?hr rfl rfl (by first | (go_simp; done) | (go_simp; rfl)) (by first | (go_simp; done) | (go_simp; rfl)) (by kernel_rfl) rfl (by first | rfl | (simp [Value.oneCell']; done)) ?_; (case hd => rfl); (case hg => rfl); (case hr => first | (go_simp; done) | (go_simp; rfl)); intro gb215 hg w6 hbox hb; have n0_ := Aside0.mk (Kd.R_below (by (with_reducible repeat (first | apply Kd.R_alloc | apply Kd.R_drewN | apply Kd.R_drew)); exact HO_3.out) hb); have n1_ := Aside0.mk (below_step (by repeat (first | (with_reducible first | exact HB.out | apply below_alloc | apply pw_below_drewN | apply below_drew1) | exact HB.out)) hb); have n2_ := Aside0.mk (hbox); have n3_ := Aside0.mk ((by rw [hg]; exact (below_size (by repeat (first | (with_reducible first | exact HB.out | apply below_alloc | apply pw_below_drewN | apply below_drew1) | exact HB.out))) : w.heap.size ≤ gb215)); have n4_ := Aside0.mk ((by rw [hg]; exact (below_size (by repeat (first | (with_reducible first | exact HB.out | apply below_alloc | apply pw_below_drewN | apply below_drew1) | exact HB.out))) : w.heap.size ≤ gb215)); clear HO_3; clear HB; have HO_3 := n0_; have HB := n1_; have BK215 := n2_; have GW215 := n3_; have GE215 := n4_; clear n0_ n1_ n2_ n3_ n4_; clear hb hbox hg; have hcz7_0 : w6.cell? ⟨gb215, 0, none⟩ = some (.int .i64 ((rd_T63 l0 x8_1).f0)) := (blk_cell BK215.out 0).trans rfl; have hcz7_1 : w6.cell? ⟨gb215, 1, none⟩ = some (.int .i64 ((rd_T63 l0 x8_1).f1)) := (blk_cell BK215.out 1).trans rfl; have hcz7_2 : w6.cell? ⟨gb215, 2, none⟩ = some (.int .i64 ((rd_T63 l0 x8_1).f2)) := (blk_cell BK215.out 2).trans rfl; have hcz7_3 : w6.cell? ⟨gb215, 3, none⟩ = some (.int .i64 ((rd_T63 l0 x8_1).f3)) := (blk_cell BK215.out 3).trans rfl; have hcz7_4 : w6.cell? ⟨gb215, 4, none⟩ = some (.string ((rd_T63 l0 x8_1).f4)) := (blk_cell BK215.out 4).trans rfl; have hcz7_5 : w6.cell? ⟨gb215, 5, none⟩ = some (.string ((rd_T63 l0 x8_1).f5)) := (blk_cell BK215.out 5).trans rfl; have hcz7_6 : w6.cell? ⟨gb215, 6, none⟩ = some (.string ((rd_T63 l0 x8_1).f6)) := (blk_cell BK215.out 6).trans rfl; have hcz7_7 : w6.cell? ⟨gb215, 7, none⟩ = some (.string ((rd_T63 l0 x8_1).f7)) := (blk_cell BK215.out 7).trans rfl; have hcz7_8 : w6.cell? ⟨gb215, 8, none⟩ = some (.string ((rd_T63 l0 x8_1).f8)) := (blk_cell BK215.out 8).trans rfl; have hcz7_9 : w6.cell? ⟨gb215, 9, none⟩ = some (.string ((rd_T63 l0 x8_1).f9)) := (blk_cell BK215.out 9).trans rfl; have hcz7_10 : w6.cell? ⟨gb215, 10, none⟩ = some (.string ((rd_T63 l0 x8_1).f10)) := (blk_cell BK215.out 10).trans rfl; have hfz7_0 := blk_frozen BK215.out 0; have hfz7_1 := blk_frozen BK215.out 1; have hfz7_2 := blk_frozen BK215.out 2; have hfz7_3 := blk_frozen BK215.out 3; have hfz7_4 := blk_frozen BK215.out 4; have hfz7_5 := blk_frozen BK215.out 5; have hfz7_6 := blk_frozen BK215.out 6; have hfz7_7 := blk_frozen BK215.out 7; have hfz7_8 := blk_frozen BK215.out 8; have hfz7_9 := blk_frozen BK215.out 9; have hfz7_10 := blk_frozen BK215.out 10) | ((with_reducible refine gate_builtin (b := .append) (xs := #[.tmp 12, .tmp 14]) rfl ?_); at_builtin; refine Kd.R_append k44 (w0 := w) w.heap.size rfl (.tmp 12) (.tmp 14) 22 44 (.agg #[(.int .i64 0), (.int .i64 0), (.int .i64 0), (.int .i64 0), (.string ⟨#[]⟩), (.string ⟨#[]⟩), (.string ⟨#[]⟩), (.string ⟨#[]⟩), (.string ⟨#[]⟩), (.string ⟨#[]⟩), (.string ⟨#[]⟩)]) 144 rfl Tryd.underlying22 info44 rfl (by decide) (by omega) u3 x3_1 (⟨(rd_T63 l0 x8_1).f0, (rd_T63 l0 x8_1).f1, (rd_T63 l0 x8_1).f2, (rd_T63 l0 x8_1).f3, (rd_T63 l0 x8_1).f4, (rd_T63 l0 x8_1).f5, (rd_T63 l0 x8_1).f6, (rd_T63 l0 x8_1).f7, (rd_T63 l0 x8_1).f8, (rd_T63 l0 x8_1).f9, (rd_T63 l0 x8_1).f10⟩ : S44) [.int .i64 ((rd_T63 l0 x8_1).f0), .int .i64 ((rd_T63 l0 x8_1).f1), .int .i64 ((rd_T63 l0 x8_1).f2), .int .i64 ((rd_T63 l0 x8_1).f3), .string ((rd_T63 l0 x8_1).f4), .string ((rd_T63 l0 x8_1).f5), .string ((rd_T63 l0 x8_1).f6), .string ((rd_T63 l0 x8_1).f7), .string ((rd_T63 l0 x8_1).f8), .string ((rd_T63 l0 x8_1).f9), .string ((rd_T63 l0 x8_1).f10)] (fun _ => True) (fun _ => False) rfl rfl ?aP (fun _ hk => hk.elim) ?aF ?aO ?aB ?aS ?aL ?_; (case aP => exact k44_mkM _ _ _ (⟨(rd_T63 l0 x8_1).f0, (rd_T63 l0 x8_1).f1, (rd_T63 l0 x8_1).f2, (rd_T63 l0 x8_1).f3, (rd_T63 l0 x8_1).f4, (rd_T63 l0 x8_1).f5, (rd_T63 l0 x8_1).f6, (rd_T63 l0 x8_1).f7, (rd_T63 l0 x8_1).f8, (rd_T63 l0 x8_1).f9, (rd_T63 l0 x8_1).f10⟩ : S44)); (case aB => exact (by repeat (first | (with_reducible first | exact HB.out | apply below_alloc | apply pw_below_drewN | apply below_drew1 | refine below_set ?_ GE215.out) | exact HB.out))); (case aF => exact (fun _ _ => trivial)); (case aO => exact (by (with_reducible repeat (first | apply Kd.R_alloc | apply Kd.R_drewN | apply Kd.R_drew)); exact HO_3.out)); (case aS => exact (below_size (by repeat (first | (with_reducible first | exact HB.out | apply below_alloc | apply pw_below_drewN | apply below_drew1 | refine below_set ?_ GE215.out) | exact HB.out)))); (case aL => have := LMc5.out; omega); intro v217 w8 ho hb hg hat; rw [← Ny216.out] at ho; have n0_ := Aside0.mk (blk_grown (g := gb215) (o := .cells #[.int .i64 ((rd_T63 l0 x8_1).f0), .int .i64 ((rd_T63 l0 x8_1).f1), .int .i64 ((rd_T63 l0 x8_1).f2), .int .i64 ((rd_T63 l0 x8_1).f3), .string ((rd_T63 l0 x8_1).f4), .string ((rd_T63 l0 x8_1).f5), .string ((rd_T63 l0 x8_1).f6), .string ((rd_T63 l0 x8_1).f7), .string ((rd_T63 l0 x8_1).f8), .string ((rd_T63 l0 x8_1).f9), .string ((rd_T63 l0 x8_1).f10)] 63 (0, 0)) (by (with_reducible repeat (first | refine blk_drewN ?_ _ | refine blk_drew ?_ | refine blk_alloc ?_ _)); exact BK215.out) hg (Kd.R_ne HO_3.out BK215.out (by decide))); have n1_ := Aside0.mk (hb); have n2_ := Aside0.mk (ho); clear BK215; clear HB; clear HO_3; have BK215 := n0_; have HB := n1_; have HO218 := n2_; clear n0_ n1_ n2_; clear ho hb hg hat))
           go_roundg k1
           case measure => have := HK1.out; omega
           case rel => exact ⟨(y216), (wrap64 (x8_1 + 1)), (by first | rfl | (simp; done) | (simp [*]; done)), H', ⟨by have := HK1.out; omega⟩, ⟨by (with_reducible repeat (first | apply Kd.R_alloc | apply Kd.R_drewN | apply Kd.R_drew)); exact HO218.out⟩, ⟨by repeat (first | (with_reducible first | exact HB.out | apply below_alloc | apply pw_below_drewN | apply below_drew1 | refine below_set ?_ GE215.out) | exact HB.out)⟩⟩
         · rw [if_neg c5] at H
           exact absurd H (by simp)
       · rw [if_neg c4] at H
         exact absurd H (by simp)
     · rw [if_neg c3] at H
       exact absurd H (by simp)
   · rw [if_neg c2] at H
     have c2b0 : decide (x8_1 < (l0.length : Int)) = false := decide_eq_false c2
     clear c2
     obtain rfl := Option.some.inj H
     go_wp2
     go_ret
     exact ⟨_, by first | rfl | (simp [errW_none, errW_some] <;> rfl) | (simp [*, errW_none, errW_some] <;> rfl), by (with_reducible repeat (first | apply Kd.R_alloc | apply Kd.R_drewN | apply Kd.R_drew)); exact HO_3.out, by repeat (first | (with_reducible first | exact HB.out | apply below_alloc | apply pw_below_drewN | apply below_drew1) | exact HB.out)⟩
end Go.Proofs.YtcpldcndhijecaaDoor.QM0
