/- The texts QM0x7, QM0x12, QM0x14, N3, N4, N5, Ck, N6, CardFnMountsSingle, without what the claims do not use, laid together by a program of this session (wip/tools/bundle.py). Conditions: those of each theorem. -/
import Derived.Test.YtcpldcndhijecaaDoorZc7
import Derived.Test.YtcpldcndhijecaaDoorZc9
import Derived.Test.YtcpldcndhijecaaDoorCards
import Derived.Test.YtcpldcndhijecaaDoorTie
import Derived.WalkKit
import Derived.ProofKit
import Derived.OpenShut
import Derived.SizedLaws
import Derived.SliceStrings
import Derived.Deep.Slices
import Derived.Deep.DeepHandedRow
import Derived.Deep.DeepWitnessRowRef
import Derived.Lib.LaidIn
namespace Go.Proofs.YtcpldcndhijecaaDoor.QM0
open Go.RowKit Go.Proofs.YtcpldcndhijecaaDoorW.PrintWords Go.Proofs.YtcpldcndhijecaaDoorW.PrintLast Go.Proofs.YtcpldcndhijecaaDoorW.PrintMore
attribute [local go_sem] max2_int min2_int max_two min_two max_three min_three max_four min_four
set_option linter.unusedVariables false
set_option linter.unusedSimpArgs false
attribute [local go_sem high] eqA44
def laws_printed.f (k : Nat) (l0 : List (S44)) : Option (ByteArray × Bool) := if (l0.length : Int) > 200 then (some ((⟨#[]⟩ : ByteArray), false)) else ((laws_mountsTo.f k l0).bind fun t163 => ((spec_MountsPrint.f k t163).bind fun bt166 => (if bt166.2 = 1 then (some (bt166.1, decide ((bt166.1.size : Int) ≤ 60000))) else (some (bt166.1, false)))))
set_option maxHeartbeats 8000000 in
set_option maxRecDepth 100000 in
theorem laws_printed.calls (k : Nat) (A0 : Option Addr) (c0 : Nat) (l0 : List (S44)) (r1 : ByteArray) (r2 : Bool) (w : World) (hr0 : Kd.C k44 w A0 l0.length l0) (hc0 : l0.length ≤ c0) (h : laws_printed.f k l0 = some (r1, r2)) :
 Calls Tryd.prog 8 #[.slice A0 l0.length c0] w fun e w' => e = .returned (.tuple #[.string r1, .bool r2]) ∧ Below w.heap.size w w' := by
 have HR0 := Aside0.mk hr0
 have HC0 := Aside0.mk hc0
 clear hr0 hc0
 have HB := Aside0.mk (Below.refl w.heap.size w)
 have H : (if (l0.length : Int) > 200 then (some ((⟨#[]⟩ : ByteArray), false)) else ((laws_mountsTo.f k l0).bind fun t163 => ((spec_MountsPrint.f k t163).bind fun bt166 => (if bt166.2 = 1 then (some (bt166.1, decide ((bt166.1.size : Int) ≤ 60000))) else (some (bt166.1, false)))))) = some (r1, r2) := h
 clear h
 by_cases c2 : (l0.length : Int) > 200
 · rw [if_pos c2] at H
   have c2b0 : decide (200 < (l0.length : Int)) = true := decide_eq_true c2
   have c2b1 : decide (200 < l0.length) = true := decide_eq_true (by omega)
   clear c2
   simp only [Option.some.injEq, Prod.mk.injEq] at H
   obtain ⟨rfl, rfl⟩ := H
   go_enter Tryd.func8, Tryd.ntmps8
   go_wp2
   go_ret2
   exact ⟨by first | rfl | (simp [errW_none, errW_some] <;> rfl) | (simp [*, errW_none, errW_some] <;> rfl), by repeat (first | (with_reducible first | exact HB.out | apply below_alloc | apply pw_below_drewN | apply below_drew1) | exact HB.out)⟩
 · rw [if_neg c2] at H
   have c2b0 : decide (200 < (l0.length : Int)) = false := decide_eq_false c2
   have c2b1 : decide (200 < l0.length) = false := decide_eq_false (by omega)
   clear c2
   replace H := Option.bind_eq_some_iff.mp H
   obtain ⟨t163, A30, H⟩ := H
   replace H : ((spec_MountsPrint.f k t163).bind fun bt166 => (if bt166.2 = 1 then (some (bt166.1, decide ((bt166.1.size : Int) ≤ 60000))) else (some (bt166.1, false)))) = some (r1, r2) := H
   have A3 := Aside0.mk A30
   clear A30
   replace H := Option.bind_eq_some_iff.mp H
   obtain ⟨⟨t166, t167⟩, A40, H⟩ := H
   replace H : (if t167 = 1 then (some (t166, decide ((t166.size : Int) ≤ 60000))) else (some (t166, false))) = some (r1, r2) := H
   have A4 := Aside0.mk A40
   clear A40
   by_cases c5 : t167 = 1
   · rw [if_pos c5] at H
     have c5b0 : (t167 == 1) = true := beq_iff_eq.mpr c5
     have c5b1 : (t167 != 1) = false := bne_eq_false_iff_eq.mpr c5
     clear c5
     simp only [Option.some.injEq, Prod.mk.injEq] at H
     obtain ⟨rfl, rfl⟩ := H
     go_enter Tryd.func8, Tryd.ntmps8
     go_wp2_with (first | ((with_reducible refine gate_callee (f := 15) rfl ?_); refine goesL_ (some 11) rfl rfl Tryd.func15 (by kernel_rfl) rfl #[.slice A0 l0.length c0] rfl (by (try simp only [List.map_toArray, List.map_cons, List.map_nil]); first | done | rfl | (simp only [List.length_drop, List.length_take]; rfl)) ?_; (with_reducible refine (laws_mountsTo.calls k _ _ l0 t163 _ ?side1 ?side2 A3.out).mono ?_); (case side1 => repeat (first | exact HR0.out | (with_reducible refine Kd.C_alloc ?_ _) | (with_reducible refine Kd.C_drewN ?_ _) | (with_reducible refine Kd.C_drew ?_))); (case side2 => exact HC0.out); rintro e w6 ⟨v164, rfl, ho0, hb⟩; refine ⟨_, rfl, ?_⟩; have n0_ := Aside0.mk (Kd.R_lower ho0 (below_size (by repeat (first | (with_reducible first | exact HB.out | apply below_alloc | apply pw_below_drewN | apply below_drew1) | exact HB.out)))); have n1_ := Aside0.mk (below_step (by repeat (first | (with_reducible first | exact HB.out | apply below_alloc | apply pw_below_drewN | apply below_drew1) | exact HB.out)) hb); clear HB; have HO165 := n0_; have HB := n1_; clear n0_ n1_; (try clear hb); (try clear hb2); (try clear hk); (try clear hi); (try clear ho0); obtain ⟨Ao7, co7, eo7⟩ := Kd.R_slice HO165.out; subst eo7) | ((with_reducible refine gate_callee (f := 20) rfl ?_); refine goesL_ (some 12) rfl rfl Tryd.func20 (by kernel_rfl) rfl #[.slice Ao7 t163.length co7] rfl (by (try simp only [List.map_toArray, List.map_cons, List.map_nil]); first | done | rfl | (simp only [List.length_drop, List.length_take]; rfl)) ?_; (with_reducible refine (spec_MountsPrint.calls k _ _ t163 t166 t167 _ ?side1 ?side2 A4.out).mono ?_); (case side1 => repeat (first | exact (Kd.R_reads' HO165.out).2.2 | (with_reducible refine Kd.C_alloc ?_ _) | (with_reducible refine Kd.C_drewN ?_ _) | (with_reducible refine Kd.C_drew ?_))); (case side2 => exact (Kd.R_reads' HO165.out).2.1); rintro e w8 ⟨rfl, hb⟩; refine ⟨_, rfl, ?_⟩; have n0_ := Aside0.mk (Kd.R_below (by (with_reducible repeat (first | apply Kd.R_alloc | apply Kd.R_drewN | apply Kd.R_drew)); exact HO165.out) hb); have n1_ := Aside0.mk (below_step (by repeat (first | (with_reducible first | exact HB.out | apply below_alloc | apply pw_below_drewN | apply below_drew1) | exact HB.out)) hb); clear HO165; clear HB; have HO165 := n0_; have HB := n1_; clear n0_ n1_; (try clear hb); (try clear hb2); (try clear hk); (try clear hi)))
     go_ret2
     exact ⟨by first | rfl | (simp [errW_none, errW_some] <;> rfl) | (simp [*, errW_none, errW_some] <;> rfl), by repeat (first | (with_reducible first | exact HB.out | apply below_alloc | apply pw_below_drewN | apply below_drew1) | exact HB.out)⟩
   · rw [if_neg c5] at H
     have c5b0 : (t167 == 1) = false := beq_eq_false_iff_ne.mpr c5
     have c5b1 : (t167 != 1) = true := bne_iff_ne.mpr c5
     simp only [Option.some.injEq, Prod.mk.injEq] at H
     obtain ⟨rfl, rfl⟩ := H
     go_enter Tryd.func8, Tryd.ntmps8
     go_wp2_with (first | ((with_reducible refine gate_callee (f := 15) rfl ?_); refine goesL_ (some 11) rfl rfl Tryd.func15 (by kernel_rfl) rfl #[.slice A0 l0.length c0] rfl (by (try simp only [List.map_toArray, List.map_cons, List.map_nil]); first | done | rfl | (simp only [List.length_drop, List.length_take]; rfl)) ?_; (with_reducible refine (laws_mountsTo.calls k _ _ l0 t163 _ ?side1 ?side2 A3.out).mono ?_); (case side1 => repeat (first | exact HR0.out | (with_reducible refine Kd.C_alloc ?_ _) | (with_reducible refine Kd.C_drewN ?_ _) | (with_reducible refine Kd.C_drew ?_))); (case side2 => exact HC0.out); rintro e w9 ⟨v164, rfl, ho0, hb⟩; refine ⟨_, rfl, ?_⟩; have n0_ := Aside0.mk (Kd.R_lower ho0 (below_size (by repeat (first | (with_reducible first | exact HB.out | apply below_alloc | apply pw_below_drewN | apply below_drew1) | exact HB.out)))); have n1_ := Aside0.mk (below_step (by repeat (first | (with_reducible first | exact HB.out | apply below_alloc | apply pw_below_drewN | apply below_drew1) | exact HB.out)) hb); clear HB; have HO165 := n0_; have HB := n1_; clear n0_ n1_; (try clear hb); (try clear hb2); (try clear hk); (try clear hi); (try clear ho0); obtain ⟨Ao10, co10, eo10⟩ := Kd.R_slice HO165.out; subst eo10) | ((with_reducible refine gate_callee (f := 20) rfl ?_); refine goesL_ (some 12) rfl rfl Tryd.func20 (by kernel_rfl) rfl #[.slice Ao10 t163.length co10] rfl (by (try simp only [List.map_toArray, List.map_cons, List.map_nil]); first | done | rfl | (simp only [List.length_drop, List.length_take]; rfl)) ?_; (with_reducible refine (spec_MountsPrint.calls k _ _ t163 t166 t167 _ ?side1 ?side2 A4.out).mono ?_); (case side1 => repeat (first | exact (Kd.R_reads' HO165.out).2.2 | (with_reducible refine Kd.C_alloc ?_ _) | (with_reducible refine Kd.C_drewN ?_ _) | (with_reducible refine Kd.C_drew ?_))); (case side2 => exact (Kd.R_reads' HO165.out).2.1); rintro e w11 ⟨rfl, hb⟩; refine ⟨_, rfl, ?_⟩; have n0_ := Aside0.mk (Kd.R_below (by (with_reducible repeat (first | apply Kd.R_alloc | apply Kd.R_drewN | apply Kd.R_drew)); exact HO165.out) hb); have n1_ := Aside0.mk (below_step (by repeat (first | (with_reducible first | exact HB.out | apply below_alloc | apply pw_below_drewN | apply below_drew1) | exact HB.out)) hb); clear HO165; clear HB; have HO165 := n0_; have HB := n1_; clear n0_ n1_; (try clear hb); (try clear hb2); (try clear hk); (try clear hi)))
     go_ret2
     exact ⟨by first | rfl | (simp [errW_none, errW_some] <;> rfl) | (simp [*, errW_none, errW_some] <;> rfl), by repeat (first | (with_reducible first | exact HB.out | apply below_alloc | apply pw_below_drewN | apply below_drew1) | exact HB.out)⟩
def impl_Mounts.of (m : QT0.Inf) : S44 := ⟨m.f0, m.f1, m.f2, m.f3, m.f4, m.f5, m.f6, m.f7, m.f8, m.f9, m.f10⟩
theorem impl_Mounts.R_of {w : World} {base : Nat} {ok : Nat → Prop} {v : Value} {r : List QT0.Inf} (h : Kd.R QT0.kInf 44 w base ok v r) : Kd.R k44 44 w base ok v (r.map impl_Mounts.of) := by
 obtain ⟨h0, inner, ho, hr⟩ := h
 refine ⟨h0, inner, by rw [List.length_map]; exact ho, by rw [List.length_map]; exact hr.1, fun j p hj => ?_⟩
 rw [List.getElem?_map] at hj
 cases hq : r[j]? with
 | none => rw [hq] at hj; simp at hj
 | some m =>
  rw [hq] at hj
  obtain rfl := Option.some.inj hj
  exact hr.2 j m hq
def impl_Mounts.f (a0 : ByteArray) (a1_0 : Int) (l1_1 : List ByteArray) : Option (List S44 × Int) := (QT0.mountsF a0 a1_0 l1_1).map fun r => (r.map impl_Mounts.of, 0)
theorem impl_Mounts.calls (a0 : ByteArray) (a1_0 : Int) (A1_1 : Option Addr) (c1_1 : Nat) (l1_1 : List ByteArray) (r1 : List S44) (r2 : Int) (w : World) (hr1_1 : Kd.C Kd.string w A1_1 l1_1.length l1_1) (hc1_1 : l1_1.length ≤ c1_1) (h : impl_Mounts.f a0 a1_0 l1_1 = some (r1, r2)) :
 Calls Tryd.prog 9 #[.string a0, .agg #[.int .i64 a1_0, .slice A1_1 l1_1.length c1_1]] w fun e w' => ∃ v0_ : Value, e = .returned (.tuple #[v0_, .int .i64 r2]) ∧ Kd.R k44 44 w' w.heap.size (fun _ => True) v0_ r1 ∧ Below w.heap.size w w' := by
 unfold impl_Mounts.f at h
 obtain ⟨r, hr, h⟩ := Option.map_eq_some_iff.mp h
 simp only [Prod.mk.injEq] at h
 obtain ⟨rfl, rfl⟩ := h
 exact (QT0.mounts_calls a0 a1_0 A1_1 c1_1 l1_1 r w hr1_1 hr).mono fun e w' ⟨v, he, hR, hB⟩ => ⟨v, he, impl_Mounts.R_of hR, hB⟩
def laws_all.f  : Option (Int × List ByteArray) := some (0, ([] : List ByteArray))
set_option maxHeartbeats 8000000 in
set_option maxRecDepth 100000 in
theorem laws_all.calls  (r1 : Int) (r2 : List ByteArray) (w : World) (h : laws_all.f  = some (r1, r2)) :
 Calls Tryd.prog 10 #[] w fun e w' => ∃ v1_ : Value, e = .returned (.agg #[.int .i64 r1, v1_]) ∧ Kd.R Kd.string 9 w' w.heap.size (fun _ => True) v1_ r2 ∧ Below w.heap.size w w' := by
 have hu30 := Tryd.underlying30
 have HB := Aside0.mk (Below.refl w.heap.size w)
 have H : (some (0, ([] : List ByteArray))) = some (r1, r2) := h
 clear h
 simp only [Option.some.injEq, Prod.mk.injEq] at H
 obtain ⟨rfl, rfl⟩ := H
 go_enter Tryd.func10, Tryd.ntmps10
 go_wp2_with (first | ((with_reducible refine gate_dst (N := 0) rfl ?_); refine box_event ?hg (N := 0) ?hd (cs := #[.int .i64 0, .slice none 0 0]) (t := 30) ?hr ?_; (case hd => rfl); (case hg => rfl); (case hr => first | (go_simp; done) | (go_simp; rfl)); intro gb168 hg w1 hbox hb; have n0_ := Aside0.mk (below_step (by repeat (first | (with_reducible first | exact HB.out | apply below_alloc | apply pw_below_drewN | apply below_drew1) | exact HB.out)) hb); have n1_ := Aside0.mk (hbox); have n2_ := Aside0.mk ((by rw [hg]; exact (below_size (by repeat (first | (with_reducible first | exact HB.out | apply below_alloc | apply pw_below_drewN | apply below_drew1) | exact HB.out))) : w.heap.size ≤ gb168)); have n3_ := Aside0.mk ((by rw [hg]; exact (below_size (by repeat (first | (with_reducible first | exact HB.out | apply below_alloc | apply pw_below_drewN | apply below_drew1) | exact HB.out))) : w.heap.size ≤ gb168)); clear HB; have HB := n0_; have BK168 := n1_; have GW168 := n2_; have GE168 := n3_; clear n0_ n1_ n2_ n3_; clear hb hbox hg; have hcz2_0 : w1.cell? ⟨gb168, 0, none⟩ = some (.int .i64 0) := (blk_cell BK168.out 0).trans rfl; have hcz2_1 : w1.cell? ⟨gb168, 1, none⟩ = some (.slice none 0 0) := (blk_cell BK168.out 1).trans rfl; have hfz2_0 := blk_frozen BK168.out 0; have hfz2_1 := blk_frozen BK168.out 1))
 refine bodyPost_ret (results_cell_row rfl _ _ gb168 30 #[.int .i64 0, .slice none 0 0] (0, 0) _ rfl (by (with_reducible repeat (first | refine blk_drewN ?_ _ | refine blk_drew ?_ | refine blk_alloc ?_ _)); refine blk_put (cs := #[.int .i64 0, .slice none 0 0]) ?_ 1 _ rfl; (with_reducible repeat (first | refine blk_drewN ?_ _ | refine blk_drew ?_ | refine blk_alloc ?_ _)); refine blk_put (cs := #[.int .i64 0, .slice none 0 0]) ?_ 0 _ rfl; (with_reducible repeat (first | refine blk_drewN ?_ _ | refine blk_drew ?_ | refine blk_alloc ?_ _)); exact BK168.out) Tryd.underlying30 rfl (by kernel_rfl)) rfl ?_
 exact ⟨_, by first | rfl | (simp [errW_none, errW_some] <;> rfl) | (simp [*, errW_none, errW_some] <;> rfl), by first | exact Kd.R_nil _ _ _ _ _ | exact Kd.N_nil _ _ _ _ _ | exact Kd.V_nil _ _ _ _ _ | exact Kd.Q_nil _ _ _ _ _ | exact Kd.S_nil _ _ _ _ _, by repeat (first | (with_reducible first | exact HB.out | apply below_alloc | apply pw_below_drewN | apply below_drew1 | refine below_set ?_ GE168.out) | exact HB.out)⟩
def laws_sameMounts.l0 : Nat → List (S44) → List (S44) → Int → Int → Option (Bool)
 | 0, _, _, _, _ => none
 | k + 1, x0, x1, x12, x13 => if x13 < x12 then (if 0 ≤ x13 then (if x13 < (x0.length : Int) then (if x13 < (x1.length : Int) then (if (!(((rd_T44 x0 x13).f0) == ((rd_T44 x1 x13).f0)) || (!(((rd_T44 x0 x13).f1) == ((rd_T44 x1 x13).f1)) || (!(((rd_T44 x0 x13).f2) == ((rd_T44 x1 x13).f2)) || (!(((rd_T44 x0 x13).f3) == ((rd_T44 x1 x13).f3)) || (!((((rd_T44 x0 x13).f4).toList) == (((rd_T44 x1 x13).f4).toList)) || (!((((rd_T44 x0 x13).f5).toList) == (((rd_T44 x1 x13).f5).toList)) || (!((((rd_T44 x0 x13).f6).toList) == (((rd_T44 x1 x13).f6).toList)) || (!((((rd_T44 x0 x13).f7).toList) == (((rd_T44 x1 x13).f7).toList)) || (!((((rd_T44 x0 x13).f8).toList) == (((rd_T44 x1 x13).f8).toList)) || (!((((rd_T44 x0 x13).f9).toList) == (((rd_T44 x1 x13).f9).toList)) || (!((((rd_T44 x0 x13).f10).toList) == (((rd_T44 x1 x13).f10).toList))))))))))))) = true then (some false) else (laws_sameMounts.l0 k x0 x1 x12 (wrap64 (x13 + 1)))) else (none)) else (none)) else (none)) else (some true)
def laws_sameMounts.f (k : Nat) (l0 : List (S44)) (l1 : List (S44)) : Option (Bool) := if (l0.length : Int) = (l1.length : Int) then (laws_sameMounts.l0 k l0 l1 (l0.length : Int) 0) else (some false)
set_option maxHeartbeats 8000000 in
set_option maxRecDepth 100000 in
theorem laws_sameMounts.calls (k : Nat) (A0 : Option Addr) (c0 : Nat) (l0 : List (S44)) (A1 : Option Addr) (c1 : Nat) (l1 : List (S44)) (r : Bool) (w : World) (hr0 : Kd.C k44 w A0 l0.length l0) (hc0 : l0.length ≤ c0) (hr1 : Kd.C k44 w A1 l1.length l1) (hc1 : l1.length ≤ c1) (h : laws_sameMounts.f k l0 l1 = some r) :
 Calls Tryd.prog 11 #[.slice A0 l0.length c0, .slice A1 l1.length c1] w fun e w' => e = .returned (.bool r) ∧ Drawn0 w w' := by
 have hu44 := Tryd.underlying44
 have HR0 := Aside0.mk hr0
 have HC0 := Aside0.mk hc0
 clear hr0 hc0
 have HR1 := Aside0.mk hr1
 have HC1 := Aside0.mk hc1
 clear hr1 hc1
 have H : (if (l0.length : Int) = (l1.length : Int) then (laws_sameMounts.l0 k l0 l1 (l0.length : Int) 0) else (some false)) = some r := h
 clear h
 by_cases c3 : (l0.length : Int) = (l1.length : Int)
 · rw [if_pos c3] at H
   have c3b0 : ((l0.length : Int) == (l1.length : Int)) = true := beq_iff_eq.mpr c3
   have c3b1 : ((l0.length : Int) != (l1.length : Int)) = false := bne_eq_false_iff_eq.mpr c3
   have c3b2 : (l0.length == l1.length) = true := by first | simpa using c3 | (simp at c3 ⊢; omega)
   clear c3
   have H' := Aside0.mk H
   clear H
   go_enter Tryd.func11, Tryd.ntmps11
   go_wp2
   repeat (go_quiet (fail); try go_wp2)
   go_loopg [13] k (fun kq v13 w' => ∃ (x13_1 : Int), v13 = .int .i64 x13_1 ∧ Aside0 (laws_sameMounts.l0 kq l0 l1 (l0.length : Int) x13_1 = some r) ∧ Aside0 (kq ≤ k) ∧ Drawn0 w w')
   case atStart => exact ⟨(0), (by first | rfl | (simp; done) | (simp [*]; done)), H', ⟨Nat.le_refl _⟩, by repeat (first | exact Drawn0.refl _ | apply Drawn0.step)⟩
   case round =>
    clear H'
    try clear c1
    try clear p2
    try clear c3
    try clear c3b0
    try clear c3b1
    try clear c3b2
    obtain ⟨x13_1, rfl, HA, HK1, ⟨m1, rfl⟩⟩ := hrel
    cases gk with
    | zero => exact absurd HA.out (by simp [laws_sameMounts.l0])
    | succ k1 =>
     have H := HA.out
     clear HA
     simp only [laws_sameMounts.l0] at H
     by_cases c4 : x13_1 < (l0.length : Int)
     · rw [if_pos c4] at H
       have c4b0 : decide (x13_1 < (l0.length : Int)) = true := decide_eq_true c4
       clear c4
       by_cases c5 : 0 ≤ x13_1
       · rw [if_pos c5] at H
         have c5b0 : decide (0 ≤ x13_1) = true := decide_eq_true c5
         clear c5
         by_cases c6 : x13_1 < (l0.length : Int)
         · rw [if_pos c6] at H
           have c6b0 : decide (x13_1 < (l0.length : Int)) = true := decide_eq_true c6
           clear c6
           by_cases c7 : x13_1 < (l1.length : Int)
           · rw [if_pos c7] at H
             have c7b0 : decide (x13_1 < (l1.length : Int)) = true := decide_eq_true c7
             clear c7
             by_cases c8 : (!(((rd_T44 l0 x13_1).f0) == ((rd_T44 l1 x13_1).f0)) || (!(((rd_T44 l0 x13_1).f1) == ((rd_T44 l1 x13_1).f1)) || (!(((rd_T44 l0 x13_1).f2) == ((rd_T44 l1 x13_1).f2)) || (!(((rd_T44 l0 x13_1).f3) == ((rd_T44 l1 x13_1).f3)) || (!((((rd_T44 l0 x13_1).f4).toList) == (((rd_T44 l1 x13_1).f4).toList)) || (!((((rd_T44 l0 x13_1).f5).toList) == (((rd_T44 l1 x13_1).f5).toList)) || (!((((rd_T44 l0 x13_1).f6).toList) == (((rd_T44 l1 x13_1).f6).toList)) || (!((((rd_T44 l0 x13_1).f7).toList) == (((rd_T44 l1 x13_1).f7).toList)) || (!((((rd_T44 l0 x13_1).f8).toList) == (((rd_T44 l1 x13_1).f8).toList)) || (!((((rd_T44 l0 x13_1).f9).toList) == (((rd_T44 l1 x13_1).f9).toList)) || (!((((rd_T44 l0 x13_1).f10).toList) == (((rd_T44 l1 x13_1).f10).toList))))))))))))) = true
             · rw [if_pos c8] at H
               have c8b0 : (!(((rd_T44 l0 x13_1).f0) == ((rd_T44 l1 x13_1).f0)) || (!(((rd_T44 l0 x13_1).f1) == ((rd_T44 l1 x13_1).f1)) || (!(((rd_T44 l0 x13_1).f2) == ((rd_T44 l1 x13_1).f2)) || (!(((rd_T44 l0 x13_1).f3) == ((rd_T44 l1 x13_1).f3)) || (!((((rd_T44 l0 x13_1).f4).toList) == (((rd_T44 l1 x13_1).f4).toList)) || (!((((rd_T44 l0 x13_1).f5).toList) == (((rd_T44 l1 x13_1).f5).toList)) || (!((((rd_T44 l0 x13_1).f6).toList) == (((rd_T44 l1 x13_1).f6).toList)) || (!((((rd_T44 l0 x13_1).f7).toList) == (((rd_T44 l1 x13_1).f7).toList)) || (!((((rd_T44 l0 x13_1).f8).toList) == (((rd_T44 l1 x13_1).f8).toList)) || (!((((rd_T44 l0 x13_1).f9).toList) == (((rd_T44 l1 x13_1).f9).toList)) || (!((((rd_T44 l0 x13_1).f10).toList) == (((rd_T44 l1 x13_1).f10).toList))))))))))))) = true := c8
               clear c8
               obtain rfl := Option.some.inj H
               have p169 : 0 ≤ (x13_1 : Int) := of_decide_eq_true (by first | (with_reducible assumption) | assumption)
               have q169 : x13_1 < (l0.length : Int) := of_decide_eq_true (by first | (with_reducible assumption) | assumption)
               obtain ⟨ad169, e169, hx169_0, hx169_1, hx169_2, hx169_3, hx169_4, hx169_5, hx169_6, hx169_7, hx169_8, hx169_9, hx169_10⟩ := at_T44 HR0.out x13_1 p169 q169
               cases e169
               replace p169 := eq_true p169
               replace q169 := eq_true q169
               have p170 : 0 ≤ (x13_1 : Int) := of_decide_eq_true (by first | (with_reducible assumption) | assumption)
               have q170 : x13_1 < (l1.length : Int) := of_decide_eq_true (by first | (with_reducible assumption) | assumption)
               obtain ⟨ad170, e170, hx170_0, hx170_1, hx170_2, hx170_3, hx170_4, hx170_5, hx170_6, hx170_7, hx170_8, hx170_9, hx170_10⟩ := at_T44 HR1.out x13_1 p170 q170
               cases e170
               replace p170 := eq_true p170
               replace q170 := eq_true q170
               go_wp2
               repeat (go_quiet (fail); try go_wp2)
               go_ret
               exact ⟨by first | rfl | (simp; done) | (simp [*]; done), by repeat (first | exact Drawn0.refl _ | apply Drawn0.step)⟩
             · rw [if_neg c8] at H
               have c8b0 : (!(((rd_T44 l0 x13_1).f0) == ((rd_T44 l1 x13_1).f0)) || (!(((rd_T44 l0 x13_1).f1) == ((rd_T44 l1 x13_1).f1)) || (!(((rd_T44 l0 x13_1).f2) == ((rd_T44 l1 x13_1).f2)) || (!(((rd_T44 l0 x13_1).f3) == ((rd_T44 l1 x13_1).f3)) || (!((((rd_T44 l0 x13_1).f4).toList) == (((rd_T44 l1 x13_1).f4).toList)) || (!((((rd_T44 l0 x13_1).f5).toList) == (((rd_T44 l1 x13_1).f5).toList)) || (!((((rd_T44 l0 x13_1).f6).toList) == (((rd_T44 l1 x13_1).f6).toList)) || (!((((rd_T44 l0 x13_1).f7).toList) == (((rd_T44 l1 x13_1).f7).toList)) || (!((((rd_T44 l0 x13_1).f8).toList) == (((rd_T44 l1 x13_1).f8).toList)) || (!((((rd_T44 l0 x13_1).f9).toList) == (((rd_T44 l1 x13_1).f9).toList)) || (!((((rd_T44 l0 x13_1).f10).toList) == (((rd_T44 l1 x13_1).f10).toList))))))))))))) = false := by simpa using c8
               clear c8
               have H' := Aside0.mk H
               clear H
               have p169 : 0 ≤ (x13_1 : Int) := of_decide_eq_true (by first | (with_reducible assumption) | assumption)
               have q169 : x13_1 < (l0.length : Int) := of_decide_eq_true (by first | (with_reducible assumption) | assumption)
               obtain ⟨ad169, e169, hx169_0, hx169_1, hx169_2, hx169_3, hx169_4, hx169_5, hx169_6, hx169_7, hx169_8, hx169_9, hx169_10⟩ := at_T44 HR0.out x13_1 p169 q169
               cases e169
               replace p169 := eq_true p169
               replace q169 := eq_true q169
               have p170 : 0 ≤ (x13_1 : Int) := of_decide_eq_true (by first | (with_reducible assumption) | assumption)
               have q170 : x13_1 < (l1.length : Int) := of_decide_eq_true (by first | (with_reducible assumption) | assumption)
               obtain ⟨ad170, e170, hx170_0, hx170_1, hx170_2, hx170_3, hx170_4, hx170_5, hx170_6, hx170_7, hx170_8, hx170_9, hx170_10⟩ := at_T44 HR1.out x13_1 p170 q170
               cases e170
               replace p170 := eq_true p170
               replace q170 := eq_true q170
               go_wp2
               repeat (go_quiet (fail); try go_wp2)
               go_roundg k1
               case measure => have := HK1.out; omega
               case rel => exact ⟨(wrap64 (x13_1 + 1)), (by first | rfl | (simp; done) | (simp [*]; done)), H', ⟨by have := HK1.out; omega⟩, by repeat (first | exact Drawn0.refl _ | apply Drawn0.step)⟩
           · rw [if_neg c7] at H
             exact absurd H (by simp)
         · rw [if_neg c6] at H
           exact absurd H (by simp)
       · rw [if_neg c5] at H
         exact absurd H (by simp)
     · rw [if_neg c4] at H
       have c4b0 : decide (x13_1 < (l0.length : Int)) = false := decide_eq_false c4
       clear c4
       obtain rfl := Option.some.inj H
       go_wp2
       repeat (go_quiet (fail); try go_wp2)
       go_ret
       exact ⟨by first | rfl | (simp; done) | (simp [*]; done), by repeat (first | exact Drawn0.refl _ | apply Drawn0.step)⟩
 · rw [if_neg c3] at H
   have c3b0 : ((l0.length : Int) == (l1.length : Int)) = false := beq_eq_false_iff_ne.mpr c3
   have c3b1 : ((l0.length : Int) != (l1.length : Int)) = true := bne_iff_ne.mpr c3
   have c3b2 : (l0.length == l1.length) = false := by first | simpa using c3 | (simp at c3 ⊢; omega)
   obtain rfl := Option.some.inj H
   go_enter Tryd.func11, Tryd.ntmps11
   go_wp2
   repeat (go_quiet (fail); try go_wp2)
   go_ret
   exact ⟨by first | rfl | (simp; done) | (simp [*]; done), by repeat (first | exact Drawn0.refl _ | apply Drawn0.step)⟩
def laws_mounts.f  : Option (Bool) := (laws_all.f).bind fun bt171 => ((impl_Mounts.f (⟨#[51, 54, 32, 51, 53, 32, 57, 56, 58, 48, 32, 47, 109, 110, 116, 49, 32, 47, 109, 110, 116, 50, 32, 114, 119, 44, 110, 111, 97, 116, 105, 109, 101, 32, 109, 97, 115, 116, 101, 114, 58, 49, 32, 45, 32, 101, 120, 116, 51, 32, 47, 100, 101, 118, 47, 114, 111, 111, 116, 32, 114, 119, 44, 101, 114, 114, 111, 114, 115, 61, 99, 111, 110, 116, 105, 110, 117, 101, 10]⟩ : ByteArray) bt171.1 bt171.2).bind fun bt175 => (if bt175.2 = 0 then (if (bt175.1.length : Int) = 1 then (if 0 < (bt175.1.length : Int) then (some (((rd_T44 bt175.1 0).f0) == 36 && (((rd_T44 bt175.1 0).f1) == 35 && (((rd_T44 bt175.1 0).f2) == 98 && (((rd_T44 bt175.1 0).f3) == 0 && ((((rd_T44 bt175.1 0).f4).toList) == ([47, 109, 110, 116, 49] : List UInt8) && ((((rd_T44 bt175.1 0).f5).toList) == ([47, 109, 110, 116, 50] : List UInt8) && ((((rd_T44 bt175.1 0).f6).toList) == ([114, 119, 44, 110, 111, 97, 116, 105, 109, 101] : List UInt8) && ((((rd_T44 bt175.1 0).f7).toList) == ([109, 97, 115, 116, 101, 114, 58, 49] : List UInt8) && ((((rd_T44 bt175.1 0).f8).toList) == ([101, 120, 116, 51] : List UInt8) && ((((rd_T44 bt175.1 0).f9).toList) == ([47, 100, 101, 118, 47, 114, 111, 111, 116] : List UInt8) && ((((rd_T44 bt175.1 0).f10).toList) == ([114, 119, 44, 101, 114, 114, 111, 114, 115, 61, 99, 111, 110, 116, 105, 110, 117, 101] : List UInt8))))))))))))) else (none)) else (some false)) else (some false)))
set_option maxHeartbeats 8000000 in
set_option maxRecDepth 100000 in
theorem laws_mounts.calls  (r : Bool) (w : World) (h : laws_mounts.f  = some r) :
 Calls Tryd.prog 12 #[] w fun e w' => e = .returned (.bool r) ∧ Below w.heap.size w w' := by
 have hu44 := Tryd.underlying44
 have HB := Aside0.mk (Below.refl w.heap.size w)
 have H : ((laws_all.f).bind fun bt171 => ((impl_Mounts.f (⟨#[51, 54, 32, 51, 53, 32, 57, 56, 58, 48, 32, 47, 109, 110, 116, 49, 32, 47, 109, 110, 116, 50, 32, 114, 119, 44, 110, 111, 97, 116, 105, 109, 101, 32, 109, 97, 115, 116, 101, 114, 58, 49, 32, 45, 32, 101, 120, 116, 51, 32, 47, 100, 101, 118, 47, 114, 111, 111, 116, 32, 114, 119, 44, 101, 114, 114, 111, 114, 115, 61, 99, 111, 110, 116, 105, 110, 117, 101, 10]⟩ : ByteArray) bt171.1 bt171.2).bind fun bt175 => (if bt175.2 = 0 then (if (bt175.1.length : Int) = 1 then (if 0 < (bt175.1.length : Int) then (some (((rd_T44 bt175.1 0).f0) == 36 && (((rd_T44 bt175.1 0).f1) == 35 && (((rd_T44 bt175.1 0).f2) == 98 && (((rd_T44 bt175.1 0).f3) == 0 && ((((rd_T44 bt175.1 0).f4).toList) == ([47, 109, 110, 116, 49] : List UInt8) && ((((rd_T44 bt175.1 0).f5).toList) == ([47, 109, 110, 116, 50] : List UInt8) && ((((rd_T44 bt175.1 0).f6).toList) == ([114, 119, 44, 110, 111, 97, 116, 105, 109, 101] : List UInt8) && ((((rd_T44 bt175.1 0).f7).toList) == ([109, 97, 115, 116, 101, 114, 58, 49] : List UInt8) && ((((rd_T44 bt175.1 0).f8).toList) == ([101, 120, 116, 51] : List UInt8) && ((((rd_T44 bt175.1 0).f9).toList) == ([47, 100, 101, 118, 47, 114, 111, 111, 116] : List UInt8) && ((((rd_T44 bt175.1 0).f10).toList) == ([114, 119, 44, 101, 114, 114, 111, 114, 115, 61, 99, 111, 110, 116, 105, 110, 117, 101] : List UInt8))))))))))))) else (none)) else (some false)) else (some false)))) = some r := h
 clear h
 replace H := Option.bind_eq_some_iff.mp H
 obtain ⟨⟨t171, t172⟩, A10, H⟩ := H
 replace H : ((impl_Mounts.f (⟨#[51, 54, 32, 51, 53, 32, 57, 56, 58, 48, 32, 47, 109, 110, 116, 49, 32, 47, 109, 110, 116, 50, 32, 114, 119, 44, 110, 111, 97, 116, 105, 109, 101, 32, 109, 97, 115, 116, 101, 114, 58, 49, 32, 45, 32, 101, 120, 116, 51, 32, 47, 100, 101, 118, 47, 114, 111, 111, 116, 32, 114, 119, 44, 101, 114, 114, 111, 114, 115, 61, 99, 111, 110, 116, 105, 110, 117, 101, 10]⟩ : ByteArray) t171 t172).bind fun bt175 => (if bt175.2 = 0 then (if (bt175.1.length : Int) = 1 then (if 0 < (bt175.1.length : Int) then (some (((rd_T44 bt175.1 0).f0) == 36 && (((rd_T44 bt175.1 0).f1) == 35 && (((rd_T44 bt175.1 0).f2) == 98 && (((rd_T44 bt175.1 0).f3) == 0 && ((((rd_T44 bt175.1 0).f4).toList) == ([47, 109, 110, 116, 49] : List UInt8) && ((((rd_T44 bt175.1 0).f5).toList) == ([47, 109, 110, 116, 50] : List UInt8) && ((((rd_T44 bt175.1 0).f6).toList) == ([114, 119, 44, 110, 111, 97, 116, 105, 109, 101] : List UInt8) && ((((rd_T44 bt175.1 0).f7).toList) == ([109, 97, 115, 116, 101, 114, 58, 49] : List UInt8) && ((((rd_T44 bt175.1 0).f8).toList) == ([101, 120, 116, 51] : List UInt8) && ((((rd_T44 bt175.1 0).f9).toList) == ([47, 100, 101, 118, 47, 114, 111, 111, 116] : List UInt8) && ((((rd_T44 bt175.1 0).f10).toList) == ([114, 119, 44, 101, 114, 114, 111, 114, 115, 61, 99, 111, 110, 116, 105, 110, 117, 101] : List UInt8))))))))))))) else (none)) else (some false)) else (some false))) = some r := H
 have A1 := Aside0.mk A10
 clear A10
 replace H := Option.bind_eq_some_iff.mp H
 obtain ⟨⟨t175, t178⟩, A20, H⟩ := H
 replace H : (if t178 = 0 then (if (t175.length : Int) = 1 then (if 0 < (t175.length : Int) then (some (((rd_T44 t175 0).f0) == 36 && (((rd_T44 t175 0).f1) == 35 && (((rd_T44 t175 0).f2) == 98 && (((rd_T44 t175 0).f3) == 0 && ((((rd_T44 t175 0).f4).toList) == ([47, 109, 110, 116, 49] : List UInt8) && ((((rd_T44 t175 0).f5).toList) == ([47, 109, 110, 116, 50] : List UInt8) && ((((rd_T44 t175 0).f6).toList) == ([114, 119, 44, 110, 111, 97, 116, 105, 109, 101] : List UInt8) && ((((rd_T44 t175 0).f7).toList) == ([109, 97, 115, 116, 101, 114, 58, 49] : List UInt8) && ((((rd_T44 t175 0).f8).toList) == ([101, 120, 116, 51] : List UInt8) && ((((rd_T44 t175 0).f9).toList) == ([47, 100, 101, 118, 47, 114, 111, 111, 116] : List UInt8) && ((((rd_T44 t175 0).f10).toList) == ([114, 119, 44, 101, 114, 114, 111, 114, 115, 61, 99, 111, 110, 116, 105, 110, 117, 101] : List UInt8))))))))))))) else (none)) else (some false)) else (some false)) = some r := H
 have A2 := Aside0.mk A20
 clear A20
 by_cases c3 : t178 = 0
 · rw [if_pos c3] at H
   have c3b0 : (t178 == 0) = true := beq_iff_eq.mpr c3
   have c3b1 : (t178 != 0) = false := bne_eq_false_iff_eq.mpr c3
   clear c3
   by_cases c4 : (t175.length : Int) = 1
   · rw [if_pos c4] at H
     have c4b0 : ((t175.length : Int) == 1) = true := beq_iff_eq.mpr c4
     have c4b1 : ((t175.length : Int) != 1) = false := bne_eq_false_iff_eq.mpr c4
     clear c4
     by_cases c5 : 0 < (t175.length : Int)
     · rw [if_pos c5] at H
       have c5b0 : decide (0 < (t175.length : Int)) = true := decide_eq_true c5
       have c5b1 : decide (0 < t175.length) = true := decide_eq_true (by omega)
       clear c5
       obtain rfl := Option.some.inj H
       go_enter Tryd.func12, Tryd.ntmps12
       go_wp2_with (first | ((with_reducible refine gate_callee (f := 10) rfl ?_); refine goesL_ (some 4) rfl rfl Tryd.func10 (by kernel_rfl) rfl #[] rfl (by (try simp only [List.map_toArray, List.map_cons, List.map_nil]); first | done | rfl | (simp only [List.length_drop, List.length_take]; rfl)) ?_; (with_reducible refine (laws_all.calls  t171 t172 _ A1.out).mono ?_); rintro e w6 ⟨v173, rfl, ho0, hb⟩; refine ⟨_, rfl, ?_⟩; have n0_ := Aside0.mk (Kd.R_lower ho0 (below_size (by repeat (first | (with_reducible first | exact HB.out | apply below_alloc | apply pw_below_drewN | apply below_drew1) | exact HB.out)))); have n1_ := Aside0.mk (below_step (by repeat (first | (with_reducible first | exact HB.out | apply below_alloc | apply pw_below_drewN | apply below_drew1) | exact HB.out)) hb); clear HB; have HO174 := n0_; have HB := n1_; clear n0_ n1_; (try clear hb); (try clear hb2); (try clear hk); (try clear hi); (try clear ho0); obtain ⟨Ao7, co7, eo7⟩ := Kd.R_slice HO174.out; subst eo7) | ((with_reducible refine gate_callee (f := 9) rfl ?_); refine goesL_ (some 5) rfl rfl Tryd.func9 (by kernel_rfl) rfl #[.string (⟨#[51, 54, 32, 51, 53, 32, 57, 56, 58, 48, 32, 47, 109, 110, 116, 49, 32, 47, 109, 110, 116, 50, 32, 114, 119, 44, 110, 111, 97, 116, 105, 109, 101, 32, 109, 97, 115, 116, 101, 114, 58, 49, 32, 45, 32, 101, 120, 116, 51, 32, 47, 100, 101, 118, 47, 114, 111, 111, 116, 32, 114, 119, 44, 101, 114, 114, 111, 114, 115, 61, 99, 111, 110, 116, 105, 110, 117, 101, 10]⟩ : ByteArray), .agg #[.int .i64 t171, .slice Ao7 t172.length co7]] rfl (by (try simp only [List.map_toArray, List.map_cons, List.map_nil]); first | done | rfl | (simp only [List.length_drop, List.length_take]; rfl)) ?_; (with_reducible refine (impl_Mounts.calls (⟨#[51, 54, 32, 51, 53, 32, 57, 56, 58, 48, 32, 47, 109, 110, 116, 49, 32, 47, 109, 110, 116, 50, 32, 114, 119, 44, 110, 111, 97, 116, 105, 109, 101, 32, 109, 97, 115, 116, 101, 114, 58, 49, 32, 45, 32, 101, 120, 116, 51, 32, 47, 100, 101, 118, 47, 114, 111, 111, 116, 32, 114, 119, 44, 101, 114, 114, 111, 114, 115, 61, 99, 111, 110, 116, 105, 110, 117, 101, 10]⟩ : ByteArray) t171 _ _ t172 t175 t178 _ ?side1 ?side2 A2.out).mono ?_); (case side1 => repeat (first | exact (Kd.R_reads' HO174.out).2.2 | (with_reducible refine Kd.C_alloc ?_ _) | (with_reducible refine Kd.C_drewN ?_ _) | (with_reducible refine Kd.C_drew ?_))); (case side2 => exact (Kd.R_reads' HO174.out).2.1); rintro e w8 ⟨v176, rfl, ho0, hb⟩; refine ⟨_, rfl, ?_⟩; have n0_ := Aside0.mk (Kd.R_below (by (with_reducible repeat (first | apply Kd.R_alloc | apply Kd.R_drewN | apply Kd.R_drew)); exact HO174.out) hb); have n1_ := Aside0.mk (Kd.R_lower ho0 (below_size (by repeat (first | (with_reducible first | exact HB.out | apply below_alloc | apply pw_below_drewN | apply below_drew1) | exact HB.out)))); have n2_ := Aside0.mk (below_step (by repeat (first | (with_reducible first | exact HB.out | apply below_alloc | apply pw_below_drewN | apply below_drew1) | exact HB.out)) hb); clear HO174; clear HB; have HO174 := n0_; have HO177 := n1_; have HB := n2_; clear n0_ n1_ n2_; (try clear hb); (try clear hb2); (try clear hk); (try clear hi); (try clear ho0); obtain ⟨Ao9, co9, eo9⟩ := Kd.R_slice HO177.out; subst eo9; have p179 : 0 ≤ (0 : Int) := (by omega); have q179 : 0 < (t175.length : Int) := of_decide_eq_true (by first | (with_reducible assumption) | assumption); obtain ⟨ad179, e179, hx179_0, hx179_1, hx179_2, hx179_3, hx179_4, hx179_5, hx179_6, hx179_7, hx179_8, hx179_9, hx179_10⟩ := at_T44 (Kd.R_reads' HO177.out).2.2 0 p179 q179; cases e179; have qi179 : (0 < t175.length) = True := eq_true (by omega); (try rw [show ((0 : Int)).toNat = 0 from rfl] at hx179_0); (try rw [show 0 * 11 = 0 from rfl] at hx179_0); (try rw [Addr.add_zero'] at hx179_0); (try rw [show ((0 : Int)).toNat = 0 from rfl] at hx179_1); (try rw [show 0 * 11 = 0 from rfl] at hx179_1); (try rw [Addr.add_zero'] at hx179_1); (try rw [show ((0 : Int)).toNat = 0 from rfl] at hx179_2); (try rw [show 0 * 11 = 0 from rfl] at hx179_2); (try rw [Addr.add_zero'] at hx179_2); (try rw [show ((0 : Int)).toNat = 0 from rfl] at hx179_3); (try rw [show 0 * 11 = 0 from rfl] at hx179_3); (try rw [Addr.add_zero'] at hx179_3); (try rw [show ((0 : Int)).toNat = 0 from rfl] at hx179_4); (try rw [show 0 * 11 = 0 from rfl] at hx179_4); (try rw [Addr.add_zero'] at hx179_4); (try rw [show ((0 : Int)).toNat = 0 from rfl] at hx179_5); (try rw [show 0 * 11 = 0 from rfl] at hx179_5); (try rw [Addr.add_zero'] at hx179_5); (try rw [show ((0 : Int)).toNat = 0 from rfl] at hx179_6); (try rw [show 0 * 11 = 0 from rfl] at hx179_6); (try rw [Addr.add_zero'] at hx179_6); (try rw [show ((0 : Int)).toNat = 0 from rfl] at hx179_7); (try rw [show 0 * 11 = 0 from rfl] at hx179_7); (try rw [Addr.add_zero'] at hx179_7); (try rw [show ((0 : Int)).toNat = 0 from rfl] at hx179_8); (try rw [show 0 * 11 = 0 from rfl] at hx179_8); (try rw [Addr.add_zero'] at hx179_8); (try rw [show ((0 : Int)).toNat = 0 from rfl] at hx179_9); (try rw [show 0 * 11 = 0 from rfl] at hx179_9); (try rw [Addr.add_zero'] at hx179_9); (try rw [show ((0 : Int)).toNat = 0 from rfl] at hx179_10); (try rw [show 0 * 11 = 0 from rfl] at hx179_10); (try rw [Addr.add_zero'] at hx179_10); replace p179 := eq_true p179; replace q179 := eq_true q179))
       go_ret
       exact ⟨by first | rfl | (simp [errW_none, errW_some] <;> rfl) | (simp [*, errW_none, errW_some] <;> rfl), by repeat (first | (with_reducible first | exact HB.out | apply below_alloc | apply pw_below_drewN | apply below_drew1) | exact HB.out)⟩
     · rw [if_neg c5] at H
       exact absurd H (by simp)
   · rw [if_neg c4] at H
     have c4b0 : ((t175.length : Int) == 1) = false := beq_eq_false_iff_ne.mpr c4
     have c4b1 : ((t175.length : Int) != 1) = true := bne_iff_ne.mpr c4
     obtain rfl := Option.some.inj H
     go_enter Tryd.func12, Tryd.ntmps12
     go_wp2_with (first | ((with_reducible refine gate_callee (f := 10) rfl ?_); refine goesL_ (some 4) rfl rfl Tryd.func10 (by kernel_rfl) rfl #[] rfl (by (try simp only [List.map_toArray, List.map_cons, List.map_nil]); first | done | rfl | (simp only [List.length_drop, List.length_take]; rfl)) ?_; (with_reducible refine (laws_all.calls  t171 t172 _ A1.out).mono ?_); rintro e w10 ⟨v173, rfl, ho0, hb⟩; refine ⟨_, rfl, ?_⟩; have n0_ := Aside0.mk (Kd.R_lower ho0 (below_size (by repeat (first | (with_reducible first | exact HB.out | apply below_alloc | apply pw_below_drewN | apply below_drew1) | exact HB.out)))); have n1_ := Aside0.mk (below_step (by repeat (first | (with_reducible first | exact HB.out | apply below_alloc | apply pw_below_drewN | apply below_drew1) | exact HB.out)) hb); clear HB; have HO174 := n0_; have HB := n1_; clear n0_ n1_; (try clear hb); (try clear hb2); (try clear hk); (try clear hi); (try clear ho0); obtain ⟨Ao11, co11, eo11⟩ := Kd.R_slice HO174.out; subst eo11) | ((with_reducible refine gate_callee (f := 9) rfl ?_); refine goesL_ (some 5) rfl rfl Tryd.func9 (by kernel_rfl) rfl #[.string (⟨#[51, 54, 32, 51, 53, 32, 57, 56, 58, 48, 32, 47, 109, 110, 116, 49, 32, 47, 109, 110, 116, 50, 32, 114, 119, 44, 110, 111, 97, 116, 105, 109, 101, 32, 109, 97, 115, 116, 101, 114, 58, 49, 32, 45, 32, 101, 120, 116, 51, 32, 47, 100, 101, 118, 47, 114, 111, 111, 116, 32, 114, 119, 44, 101, 114, 114, 111, 114, 115, 61, 99, 111, 110, 116, 105, 110, 117, 101, 10]⟩ : ByteArray), .agg #[.int .i64 t171, .slice Ao11 t172.length co11]] rfl (by (try simp only [List.map_toArray, List.map_cons, List.map_nil]); first | done | rfl | (simp only [List.length_drop, List.length_take]; rfl)) ?_; (with_reducible refine (impl_Mounts.calls (⟨#[51, 54, 32, 51, 53, 32, 57, 56, 58, 48, 32, 47, 109, 110, 116, 49, 32, 47, 109, 110, 116, 50, 32, 114, 119, 44, 110, 111, 97, 116, 105, 109, 101, 32, 109, 97, 115, 116, 101, 114, 58, 49, 32, 45, 32, 101, 120, 116, 51, 32, 47, 100, 101, 118, 47, 114, 111, 111, 116, 32, 114, 119, 44, 101, 114, 114, 111, 114, 115, 61, 99, 111, 110, 116, 105, 110, 117, 101, 10]⟩ : ByteArray) t171 _ _ t172 t175 t178 _ ?side1 ?side2 A2.out).mono ?_); (case side1 => repeat (first | exact (Kd.R_reads' HO174.out).2.2 | (with_reducible refine Kd.C_alloc ?_ _) | (with_reducible refine Kd.C_drewN ?_ _) | (with_reducible refine Kd.C_drew ?_))); (case side2 => exact (Kd.R_reads' HO174.out).2.1); rintro e w12 ⟨v176, rfl, ho0, hb⟩; refine ⟨_, rfl, ?_⟩; have n0_ := Aside0.mk (Kd.R_below (by (with_reducible repeat (first | apply Kd.R_alloc | apply Kd.R_drewN | apply Kd.R_drew)); exact HO174.out) hb); have n1_ := Aside0.mk (Kd.R_lower ho0 (below_size (by repeat (first | (with_reducible first | exact HB.out | apply below_alloc | apply pw_below_drewN | apply below_drew1) | exact HB.out)))); have n2_ := Aside0.mk (below_step (by repeat (first | (with_reducible first | exact HB.out | apply below_alloc | apply pw_below_drewN | apply below_drew1) | exact HB.out)) hb); clear HO174; clear HB; have HO174 := n0_; have HO177 := n1_; have HB := n2_; clear n0_ n1_ n2_; (try clear hb); (try clear hb2); (try clear hk); (try clear hi); (try clear ho0); obtain ⟨Ao13, co13, eo13⟩ := Kd.R_slice HO177.out; subst eo13))
     go_ret
     exact ⟨by first | rfl | (simp [errW_none, errW_some] <;> rfl) | (simp [*, errW_none, errW_some] <;> rfl), by repeat (first | (with_reducible first | exact HB.out | apply below_alloc | apply pw_below_drewN | apply below_drew1) | exact HB.out)⟩
 · rw [if_neg c3] at H
   have c3b0 : (t178 == 0) = false := beq_eq_false_iff_ne.mpr c3
   have c3b1 : (t178 != 0) = true := bne_iff_ne.mpr c3
   obtain rfl := Option.some.inj H
   go_enter Tryd.func12, Tryd.ntmps12
   go_wp2_with (first | ((with_reducible refine gate_callee (f := 10) rfl ?_); refine goesL_ (some 4) rfl rfl Tryd.func10 (by kernel_rfl) rfl #[] rfl (by (try simp only [List.map_toArray, List.map_cons, List.map_nil]); first | done | rfl | (simp only [List.length_drop, List.length_take]; rfl)) ?_; (with_reducible refine (laws_all.calls  t171 t172 _ A1.out).mono ?_); rintro e w14 ⟨v173, rfl, ho0, hb⟩; refine ⟨_, rfl, ?_⟩; have n0_ := Aside0.mk (Kd.R_lower ho0 (below_size (by repeat (first | (with_reducible first | exact HB.out | apply below_alloc | apply pw_below_drewN | apply below_drew1) | exact HB.out)))); have n1_ := Aside0.mk (below_step (by repeat (first | (with_reducible first | exact HB.out | apply below_alloc | apply pw_below_drewN | apply below_drew1) | exact HB.out)) hb); clear HB; have HO174 := n0_; have HB := n1_; clear n0_ n1_; (try clear hb); (try clear hb2); (try clear hk); (try clear hi); (try clear ho0); obtain ⟨Ao15, co15, eo15⟩ := Kd.R_slice HO174.out; subst eo15) | ((with_reducible refine gate_callee (f := 9) rfl ?_); refine goesL_ (some 5) rfl rfl Tryd.func9 (by kernel_rfl) rfl #[.string (⟨#[51, 54, 32, 51, 53, 32, 57, 56, 58, 48, 32, 47, 109, 110, 116, 49, 32, 47, 109, 110, 116, 50, 32, 114, 119, 44, 110, 111, 97, 116, 105, 109, 101, 32, 109, 97, 115, 116, 101, 114, 58, 49, 32, 45, 32, 101, 120, 116, 51, 32, 47, 100, 101, 118, 47, 114, 111, 111, 116, 32, 114, 119, 44, 101, 114, 114, 111, 114, 115, 61, 99, 111, 110, 116, 105, 110, 117, 101, 10]⟩ : ByteArray), .agg #[.int .i64 t171, .slice Ao15 t172.length co15]] rfl (by (try simp only [List.map_toArray, List.map_cons, List.map_nil]); first | done | rfl | (simp only [List.length_drop, List.length_take]; rfl)) ?_; (with_reducible refine (impl_Mounts.calls (⟨#[51, 54, 32, 51, 53, 32, 57, 56, 58, 48, 32, 47, 109, 110, 116, 49, 32, 47, 109, 110, 116, 50, 32, 114, 119, 44, 110, 111, 97, 116, 105, 109, 101, 32, 109, 97, 115, 116, 101, 114, 58, 49, 32, 45, 32, 101, 120, 116, 51, 32, 47, 100, 101, 118, 47, 114, 111, 111, 116, 32, 114, 119, 44, 101, 114, 114, 111, 114, 115, 61, 99, 111, 110, 116, 105, 110, 117, 101, 10]⟩ : ByteArray) t171 _ _ t172 t175 t178 _ ?side1 ?side2 A2.out).mono ?_); (case side1 => repeat (first | exact (Kd.R_reads' HO174.out).2.2 | (with_reducible refine Kd.C_alloc ?_ _) | (with_reducible refine Kd.C_drewN ?_ _) | (with_reducible refine Kd.C_drew ?_))); (case side2 => exact (Kd.R_reads' HO174.out).2.1); rintro e w16 ⟨v176, rfl, ho0, hb⟩; refine ⟨_, rfl, ?_⟩; have n0_ := Aside0.mk (Kd.R_below (by (with_reducible repeat (first | apply Kd.R_alloc | apply Kd.R_drewN | apply Kd.R_drew)); exact HO174.out) hb); have n1_ := Aside0.mk (Kd.R_lower ho0 (below_size (by repeat (first | (with_reducible first | exact HB.out | apply below_alloc | apply pw_below_drewN | apply below_drew1) | exact HB.out)))); have n2_ := Aside0.mk (below_step (by repeat (first | (with_reducible first | exact HB.out | apply below_alloc | apply pw_below_drewN | apply below_drew1) | exact HB.out)) hb); clear HO174; clear HB; have HO174 := n0_; have HO177 := n1_; have HB := n2_; clear n0_ n1_ n2_; (try clear hb); (try clear hb2); (try clear hk); (try clear hi); (try clear ho0)))
   go_ret
   exact ⟨by first | rfl | (simp [errW_none, errW_some] <;> rfl) | (simp [*, errW_none, errW_some] <;> rfl), by repeat (first | (with_reducible first | exact HB.out | apply below_alloc | apply pw_below_drewN | apply below_drew1) | exact HB.out)⟩
end Go.Proofs.YtcpldcndhijecaaDoor.QM0
namespace Go.Proofs.YtcpldcndhijecaaDoor.QM0
open Go.RowKit Go.Proofs.YtcpldcndhijecaaDoorW.PrintWords Go.Proofs.YtcpldcndhijecaaDoorW.PrintLast Go.Proofs.YtcpldcndhijecaaDoorW.PrintMore
attribute [local go_sem] max2_int min2_int max_two min_two max_three min_three max_four min_four
set_option linter.unusedVariables false
set_option linter.unusedSimpArgs false
def laws_printable.l0 : Nat → ByteArray → Int → Int → Option (Bool)
 | 0, _, _, _ => none
 | k + 1, x0, x5, x6 => if x6 < x5 then (if 0 ≤ x6 then (if x6 < (x0.size : Int) then (if (bt x0 x6) < 32 then (some false) else (if (bt x0 x6) > 126 then (some false) else (laws_printable.l0 k x0 x5 (wrap64 (x6 + 1))))) else (none)) else (none)) else (some true)
def laws_printable.f (k : Nat) (a0 : ByteArray) : Option (Bool) := laws_printable.l0 k a0 (a0.size : Int) 0
set_option maxHeartbeats 8000000 in
set_option maxRecDepth 100000 in
theorem laws_printable.calls (k : Nat) (a0 : ByteArray) (r : Bool) (w : World) (h : laws_printable.f k a0 = some r) :
 Calls Tryd.prog 29 #[.string a0] w fun e w' => e = .returned (.bool r) ∧ Drawn0 w w' := by
 have H : (laws_printable.l0 k a0 (a0.size : Int) 0) = some r := h
 clear h
 have H' := Aside0.mk H
 clear H
 go_enter Tryd.func29, Tryd.ntmps29
 go_wp2
 go_loopg [6] k (fun kq v6 w' => ∃ (x6_1 : Int), v6 = .int .i64 x6_1 ∧ Aside0 (laws_printable.l0 kq a0 (a0.size : Int) x6_1 = some r) ∧ Aside0 (kq ≤ k) ∧ Drawn0 w w')
 case atStart => exact ⟨(0), (by first | rfl | (simp; done) | (simp [*]; done)), H', ⟨Nat.le_refl _⟩, by repeat (first | exact Drawn0.refl _ | apply Drawn0.step)⟩
 case round =>
  clear H'
  obtain ⟨x6_1, rfl, HA, HK1, ⟨m1, rfl⟩⟩ := hrel
  cases gk with
  | zero => exact absurd HA.out (by simp [laws_printable.l0])
  | succ k1 =>
   have H := HA.out
   clear HA
   simp only [laws_printable.l0] at H
   by_cases c2 : x6_1 < (a0.size : Int)
   · rw [if_pos c2] at H
     have c2b0 : decide (x6_1 < (a0.size : Int)) = true := decide_eq_true c2
     clear c2
     by_cases c3 : 0 ≤ x6_1
     · rw [if_pos c3] at H
       have c3b0 : decide (0 ≤ x6_1) = true := decide_eq_true c3
       clear c3
       by_cases c4 : x6_1 < (a0.size : Int)
       · rw [if_pos c4] at H
         have c4b0 : decide (x6_1 < (a0.size : Int)) = true := decide_eq_true c4
         clear c4
         by_cases c6 : (bt a0 x6_1) < 32
         · rw [if_pos c6] at H
           have c6b0 : decide ((bt a0 x6_1) < 32) = true := decide_eq_true c6
           clear c6
           obtain rfl := Option.some.inj H
           have p5 : 0 ≤ (x6_1 : Int) := of_decide_eq_true (by first | (with_reducible assumption) | assumption)
           have q5 : x6_1 < (a0.size : Int) := of_decide_eq_true (by first | (with_reducible assumption) | assumption)
           have hx5 := bt_at a0 x6_1
           replace p5 := eq_true p5
           replace q5 := eq_true q5
           go_wp2
           go_ret
           exact ⟨by first | rfl | (simp; done) | (simp [*]; done), by repeat (first | exact Drawn0.refl _ | apply Drawn0.step)⟩
         · rw [if_neg c6] at H
           have c6b0 : decide ((bt a0 x6_1) < 32) = false := decide_eq_false c6
           clear c6
           by_cases c8 : (bt a0 x6_1) > 126
           · rw [if_pos c8] at H
             have c8b0 : decide (126 < (bt a0 x6_1)) = true := decide_eq_true c8
             clear c8
             obtain rfl := Option.some.inj H
             have p5 : 0 ≤ (x6_1 : Int) := of_decide_eq_true (by first | (with_reducible assumption) | assumption)
             have q5 : x6_1 < (a0.size : Int) := of_decide_eq_true (by first | (with_reducible assumption) | assumption)
             have hx5 := bt_at a0 x6_1
             replace p5 := eq_true p5
             replace q5 := eq_true q5
             have p7 : 0 ≤ (x6_1 : Int) := of_decide_eq_true (by first | (with_reducible assumption) | assumption)
             have q7 : x6_1 < (a0.size : Int) := of_decide_eq_true (by first | (with_reducible assumption) | assumption)
             have hx7 := bt_at a0 x6_1
             replace p7 := eq_true p7
             replace q7 := eq_true q7
             go_wp2
             go_ret
             exact ⟨by first | rfl | (simp; done) | (simp [*]; done), by repeat (first | exact Drawn0.refl _ | apply Drawn0.step)⟩
           · rw [if_neg c8] at H
             have c8b0 : decide (126 < (bt a0 x6_1)) = false := decide_eq_false c8
             clear c8
             have H' := Aside0.mk H
             clear H
             have p5 : 0 ≤ (x6_1 : Int) := of_decide_eq_true (by first | (with_reducible assumption) | assumption)
             have q5 : x6_1 < (a0.size : Int) := of_decide_eq_true (by first | (with_reducible assumption) | assumption)
             have hx5 := bt_at a0 x6_1
             replace p5 := eq_true p5
             replace q5 := eq_true q5
             have p7 : 0 ≤ (x6_1 : Int) := of_decide_eq_true (by first | (with_reducible assumption) | assumption)
             have q7 : x6_1 < (a0.size : Int) := of_decide_eq_true (by first | (with_reducible assumption) | assumption)
             have hx7 := bt_at a0 x6_1
             replace p7 := eq_true p7
             replace q7 := eq_true q7
             go_wp2
             go_roundg k1
             case measure => have := HK1.out; omega
             case rel => exact ⟨(wrap64 (x6_1 + 1)), (by first | rfl | (simp; done) | (simp [*]; done)), H', ⟨by have := HK1.out; omega⟩, by repeat (first | exact Drawn0.refl _ | apply Drawn0.step)⟩
       · rw [if_neg c4] at H
         exact absurd H (by simp)
     · rw [if_neg c3] at H
       exact absurd H (by simp)
   · rw [if_neg c2] at H
     have c2b0 : decide (x6_1 < (a0.size : Int)) = false := decide_eq_false c2
     clear c2
     obtain rfl := Option.some.inj H
     go_wp2
     go_ret
     exact ⟨by first | rfl | (simp; done) | (simp [*]; done), by repeat (first | exact Drawn0.refl _ | apply Drawn0.step)⟩
mutual
def laws_cleanPath.j0 : Nat → ByteArray → Bool → Option (Bool)
 | 0, _, _ => none
 | k + 1, x0, x33 => if x33 = true then (some false) else (laws_cleanPath.l0 k x0 (⟨#[]⟩ : ByteArray) 1)
def laws_cleanPath.l0 : Nat → ByteArray → ByteArray → Int → Option (Bool)
 | 0, _, _, _ => none
 | k + 1, x0, x3, x4 => if x4 ≤ (x0.size : Int) then (if x4 = (x0.size : Int) then (laws_cleanPath.j2 k x0 x3 x4 true) else (if 0 ≤ x4 then (if x4 < (x0.size : Int) then (laws_cleanPath.j2 k x0 x3 x4 ((bt x0 x4) == 47)) else (none)) else (none))) else (some true)
def laws_cleanPath.j2 : Nat → ByteArray → ByteArray → Int → Bool → Option (Bool)
 | 0, _, _, _, _ => none
 | k + 1, x0, x3, x4, x49 => if x49 = true then (if x0.toList = ([47] : List UInt8) then (laws_cleanPath.l0 k x0 (⟨#[]⟩ : ByteArray) (wrap64 (x4 + 1))) else (if x3.toList = ([] : List UInt8) then (some false) else (if x3.toList = ([46] : List UInt8) then (some false) else (if x3.toList = ([46, 46] : List UInt8) then (some false) else (laws_cleanPath.l0 k x0 (⟨#[]⟩ : ByteArray) (wrap64 (x4 + 1))))))) else (if 0 ≤ x4 then (if x4 ≤ (wrap64 (x4 + 1)) then (if (wrap64 (x4 + 1)) ≤ (x0.size : Int) then (if x3.size + (x0.extract (x4 : Int).toNat ((wrap64 (x4 + 1)) : Int).toNat).size ≤ 9223372036854775807 then (laws_cleanPath.l0 k x0 (x3 ++ (x0.extract (x4 : Int).toNat ((wrap64 (x4 + 1)) : Int).toNat)) (wrap64 (x4 + 1))) else (none)) else (none)) else (none)) else (none))
end
def laws_cleanPath.f (k : Nat) (a0 : ByteArray) : Option (Bool) := (laws_printable.f k a0).bind fun t241 => (if t241 = true then (if a0.toList = ([] : List UInt8) then (laws_cleanPath.j0 k a0 true) else (if 0 < (a0.size : Int) then (if (bt a0 0) = 47 then (if a0.toList = ([47] : List UInt8) then (laws_cleanPath.j0 k a0 (decide ((a0.size : Int) > 200))) else (if 0 ≤ (wrap64 ((a0.size : Int) - 1)) then (if (wrap64 ((a0.size : Int) - 1)) < (a0.size : Int) then (if (bt a0 (wrap64 ((a0.size : Int) - 1))) = 47 then (laws_cleanPath.j0 k a0 true) else (laws_cleanPath.j0 k a0 (decide ((a0.size : Int) > 200)))) else (none)) else (none))) else (laws_cleanPath.j0 k a0 true)) else (none))) else (laws_cleanPath.j0 k a0 true))
set_option maxHeartbeats 8000000 in
set_option maxRecDepth 100000 in
theorem laws_cleanPath.calls (k : Nat) (a0 : ByteArray) (r : Bool) (w : World) (h : laws_cleanPath.f k a0 = some r) :
 Calls Tryd.prog 17 #[.string a0] w fun e w' => e = .returned (.bool r) ∧ Drawn0 w w' := by
 have H : ((laws_printable.f k a0).bind fun t241 => (if t241 = true then (if a0.toList = ([] : List UInt8) then (laws_cleanPath.j0 k a0 true) else (if 0 < (a0.size : Int) then (if (bt a0 0) = 47 then (if a0.toList = ([47] : List UInt8) then (laws_cleanPath.j0 k a0 (decide ((a0.size : Int) > 200))) else (if 0 ≤ (wrap64 ((a0.size : Int) - 1)) then (if (wrap64 ((a0.size : Int) - 1)) < (a0.size : Int) then (if (bt a0 (wrap64 ((a0.size : Int) - 1))) = 47 then (laws_cleanPath.j0 k a0 true) else (laws_cleanPath.j0 k a0 (decide ((a0.size : Int) > 200)))) else (none)) else (none))) else (laws_cleanPath.j0 k a0 true)) else (none))) else (laws_cleanPath.j0 k a0 true))) = some r := h
 clear h
 have HC2 := Aside0.mk H
 clear H
 go_enter Tryd.func17, Tryd.ntmps17
 go_upto_region 1 with (fail)
 go_cut [33] (fun v33 wc => ∃ (kq : Nat) (x33_1 : Bool), v33 = .bool x33_1 ∧ Aside0 (laws_cleanPath.j0 kq a0 x33_1 = some r) ∧ Aside0 (kq ≤ k) ∧ Drawn0 w wc)
 case first =>
  have H := HC2.out
  clear HC2
  replace H := Option.bind_eq_some_iff.mp H
  obtain ⟨t241, A30, H⟩ := H
  replace H : (if t241 = true then (if a0.toList = ([] : List UInt8) then (laws_cleanPath.j0 k a0 true) else (if 0 < (a0.size : Int) then (if (bt a0 0) = 47 then (if a0.toList = ([47] : List UInt8) then (laws_cleanPath.j0 k a0 (decide ((a0.size : Int) > 200))) else (if 0 ≤ (wrap64 ((a0.size : Int) - 1)) then (if (wrap64 ((a0.size : Int) - 1)) < (a0.size : Int) then (if (bt a0 (wrap64 ((a0.size : Int) - 1))) = 47 then (laws_cleanPath.j0 k a0 true) else (laws_cleanPath.j0 k a0 (decide ((a0.size : Int) > 200)))) else (none)) else (none))) else (laws_cleanPath.j0 k a0 true)) else (none))) else (laws_cleanPath.j0 k a0 true)) = some r := H
  have A3 := Aside0.mk A30
  clear A30
  by_cases c4 : t241 = true
  · subst c4
    have H1 : (if a0.toList = ([] : List UInt8) then (laws_cleanPath.j0 k a0 true) else (if 0 < (a0.size : Int) then (if (bt a0 0) = 47 then (if a0.toList = ([47] : List UInt8) then (laws_cleanPath.j0 k a0 (decide ((a0.size : Int) > 200))) else (if 0 ≤ (wrap64 ((a0.size : Int) - 1)) then (if (wrap64 ((a0.size : Int) - 1)) < (a0.size : Int) then (if (bt a0 (wrap64 ((a0.size : Int) - 1))) = 47 then (laws_cleanPath.j0 k a0 true) else (laws_cleanPath.j0 k a0 (decide ((a0.size : Int) > 200)))) else (none)) else (none))) else (laws_cleanPath.j0 k a0 true)) else (none))) = some r := by rw [if_pos rfl] at H; exact H
    clear H
    have H := H1
    clear H1
    by_cases c5 : a0.toList = ([] : List UInt8)
    · rw [if_pos c5] at H
      have c5b0 : (a0.toList == ([] : List UInt8)) = true := beq_iff_eq.mpr c5
      have c5b1 : (a0.toList != ([] : List UInt8)) = false := bne_eq_false_iff_eq.mpr c5
      clear c5
      (first | rw [c5b0] | (simp only [i64_w, i32_w]; rw [c5b0]) | skip)
      have H' := Aside0.mk H
      clear H
      go_wp2_with (first | ((with_reducible refine gate_callee (f := 29) rfl ?_); refine goesL_ (some 6) rfl rfl Tryd.func29 (by kernel_rfl) rfl #[.string a0] rfl (by (try simp only [List.map_toArray, List.map_cons, List.map_nil]); first | done | rfl | (simp only [List.length_drop, List.length_take]; rfl)) ?_; (with_reducible refine (laws_printable.calls k a0 true _ A3.out).mono ?_); rintro e w' ⟨rfl, ⟨nd, rfl⟩⟩; refine ⟨_, rfl, ?_⟩))
      go_meet
      case rel => exact ⟨_, (true), (by first | rfl | (simp; done) | (simp [*]; done)), H', ⟨by first | omega | exact Nat.le_refl _⟩, by repeat (first | exact Drawn0.refl _ | apply Drawn0.step)⟩
    · rw [if_neg c5] at H
      have c5b0 : (a0.toList == ([] : List UInt8)) = false := beq_eq_false_iff_ne.mpr c5
      have c5b1 : (a0.toList != ([] : List UInt8)) = true := bne_iff_ne.mpr c5
      (first | rw [c5b0] | (simp only [i64_w, i32_w]; rw [c5b0]) | skip)
      by_cases c6 : 0 < (a0.size : Int)
      · rw [if_pos c6] at H
        have c6b0 : decide (0 < (a0.size : Int)) = true := decide_eq_true c6
        have c6b1 : decide (0 < a0.size) = true := decide_eq_true (by omega)
        clear c6
        by_cases c8 : (bt a0 0) = 47
        · rw [if_pos c8] at H
          have c8b0 : ((bt a0 0) == 47) = true := beq_iff_eq.mpr c8
          have c8b1 : ((bt a0 0) != 47) = false := bne_eq_false_iff_eq.mpr c8
          clear c8
          by_cases c9 : a0.toList = ([47] : List UInt8)
          · rw [if_pos c9] at H
            have c9b0 : (a0.toList == ([47] : List UInt8)) = true := beq_iff_eq.mpr c9
            have c9b1 : (a0.toList != ([47] : List UInt8)) = false := bne_eq_false_iff_eq.mpr c9
            clear c9
            have H' := Aside0.mk H
            clear H
            go_wp2_with (first | ((with_reducible refine gate_callee (f := 29) rfl ?_); refine goesL_ (some 6) rfl rfl Tryd.func29 (by kernel_rfl) rfl #[.string a0] rfl (by (try simp only [List.map_toArray, List.map_cons, List.map_nil]); first | done | rfl | (simp only [List.length_drop, List.length_take]; rfl)) ?_; (with_reducible refine (laws_printable.calls k a0 true _ A3.out).mono ?_); rintro e w' ⟨rfl, ⟨nd, rfl⟩⟩; refine ⟨_, rfl, ?_⟩; have p7 : 0 ≤ (0 : Int) := (by omega); have q7 : 0 < a0.size := (by have : (0 : Int) < (a0.size : Int) := of_decide_eq_true (by first | (with_reducible assumption) | assumption); omega); have hx7 : ∀ h : 0 < a0.size, ((a0[0]'h).toNat : Int) = bt a0 0 := bt_at a0 0; clear p7; have qi7 : (0 < (a0.size : Int)) = True := eq_true (of_decide_eq_true (by first | (with_reducible assumption) | assumption)); replace q7 := eq_true q7))
            go_meet
            case rel => exact ⟨_, (decide ((a0.size : Int) > 200)), (by first | rfl | (simp; done) | (simp [*]; done)), H', ⟨by first | omega | exact Nat.le_refl _⟩, by repeat (first | exact Drawn0.refl _ | apply Drawn0.step)⟩
          · rw [if_neg c9] at H
            have c9b0 : (a0.toList == ([47] : List UInt8)) = false := beq_eq_false_iff_ne.mpr c9
            have c9b1 : (a0.toList != ([47] : List UInt8)) = true := bne_iff_ne.mpr c9
            obtain ⟨ji10, hji10⟩ : ∃ j_ : Int, (wrap64 ((a0.size : Int) - 1)) = j_ := ⟨_, rfl⟩
            replace H : (if 0 ≤ (ji10) then (if (ji10) < (a0.size : Int) then (if (bt a0 (ji10)) = 47 then (laws_cleanPath.j0 k a0 true) else (laws_cleanPath.j0 k a0 (decide ((a0.size : Int) > 200)))) else (none)) else (none)) = some r := by first | (rw [hji10] at H; exact H) | (simp only [hji10] at H ⊢; exact H)
            (try rw [hji10] at A3)
            have hji10w : (IntKind.i64.wrap ((a0.size : Int) - 1)) = ji10 := (i64_w _).trans hji10
            by_cases c11 : 0 ≤ (ji10)
            · rw [if_pos c11] at H
              have c11b0 : decide (0 ≤ (ji10)) = true := decide_eq_true c11
              clear c11
              by_cases c12 : (ji10) < (a0.size : Int)
              · rw [if_pos c12] at H
                have c12b0 : decide ((ji10) < (a0.size : Int)) = true := decide_eq_true c12
                clear c12
                by_cases c14 : (bt a0 (ji10)) = 47
                · rw [if_pos c14] at H
                  have c14b0 : ((bt a0 (ji10)) == 47) = true := beq_iff_eq.mpr c14
                  have c14b1 : ((bt a0 (ji10)) != 47) = false := bne_eq_false_iff_eq.mpr c14
                  clear c14
                  have H' := Aside0.mk H
                  clear H
                  go_wp2_with (first | ((with_reducible refine gate_callee (f := 29) rfl ?_); refine goesL_ (some 6) rfl rfl Tryd.func29 (by kernel_rfl) rfl #[.string a0] rfl (by (try simp only [List.map_toArray, List.map_cons, List.map_nil]); first | done | rfl | (simp only [List.length_drop, List.length_take]; rfl)) ?_; (with_reducible refine (laws_printable.calls k a0 true _ A3.out).mono ?_); rintro e w' ⟨rfl, ⟨nd, rfl⟩⟩; refine ⟨_, rfl, ?_⟩; have p7 : 0 ≤ (0 : Int) := (by omega); have q7 : 0 < a0.size := (by have : (0 : Int) < (a0.size : Int) := of_decide_eq_true (by first | (with_reducible assumption) | assumption); omega); have hx7 : ∀ h : 0 < a0.size, ((a0[0]'h).toNat : Int) = bt a0 0 := bt_at a0 0; clear p7; have qi7 : (0 < (a0.size : Int)) = True := eq_true (of_decide_eq_true (by first | (with_reducible assumption) | assumption)); replace q7 := eq_true q7; have p13 : 0 ≤ ((ji10) : Int) := of_decide_eq_true (by first | (with_reducible assumption) | assumption); have q13 : (ji10) < (a0.size : Int) := of_decide_eq_true (by first | (with_reducible assumption) | assumption); have hx13 := bt_at a0 (ji10); replace p13 := eq_true p13; replace q13 := eq_true q13))
                  go_meet
                  case rel => exact ⟨_, (true), (by first | rfl | (simp; done) | (simp [*]; done)), H', ⟨by first | omega | exact Nat.le_refl _⟩, by repeat (first | exact Drawn0.refl _ | apply Drawn0.step)⟩
                · rw [if_neg c14] at H
                  have c14b0 : ((bt a0 (ji10)) == 47) = false := beq_eq_false_iff_ne.mpr c14
                  have c14b1 : ((bt a0 (ji10)) != 47) = true := bne_iff_ne.mpr c14
                  have H' := Aside0.mk H
                  clear H
                  go_wp2_with (first | ((with_reducible refine gate_callee (f := 29) rfl ?_); refine goesL_ (some 6) rfl rfl Tryd.func29 (by kernel_rfl) rfl #[.string a0] rfl (by (try simp only [List.map_toArray, List.map_cons, List.map_nil]); first | done | rfl | (simp only [List.length_drop, List.length_take]; rfl)) ?_; (with_reducible refine (laws_printable.calls k a0 true _ A3.out).mono ?_); rintro e w' ⟨rfl, ⟨nd, rfl⟩⟩; refine ⟨_, rfl, ?_⟩; have p7 : 0 ≤ (0 : Int) := (by omega); have q7 : 0 < a0.size := (by have : (0 : Int) < (a0.size : Int) := of_decide_eq_true (by first | (with_reducible assumption) | assumption); omega); have hx7 : ∀ h : 0 < a0.size, ((a0[0]'h).toNat : Int) = bt a0 0 := bt_at a0 0; clear p7; have qi7 : (0 < (a0.size : Int)) = True := eq_true (of_decide_eq_true (by first | (with_reducible assumption) | assumption)); replace q7 := eq_true q7; have p13 : 0 ≤ ((ji10) : Int) := of_decide_eq_true (by first | (with_reducible assumption) | assumption); have q13 : (ji10) < (a0.size : Int) := of_decide_eq_true (by first | (with_reducible assumption) | assumption); have hx13 := bt_at a0 (ji10); replace p13 := eq_true p13; replace q13 := eq_true q13))
                  go_meet
                  case rel => exact ⟨_, (decide ((a0.size : Int) > 200)), (by first | rfl | (simp; done) | (simp [*]; done)), H', ⟨by first | omega | exact Nat.le_refl _⟩, by repeat (first | exact Drawn0.refl _ | apply Drawn0.step)⟩
              · rw [if_neg c12] at H
                exact absurd H (by simp)
            · rw [if_neg c11] at H
              exact absurd H (by simp)
        · rw [if_neg c8] at H
          have c8b0 : ((bt a0 0) == 47) = false := beq_eq_false_iff_ne.mpr c8
          have c8b1 : ((bt a0 0) != 47) = true := bne_iff_ne.mpr c8
          have H' := Aside0.mk H
          clear H
          go_wp2_with (first | ((with_reducible refine gate_callee (f := 29) rfl ?_); refine goesL_ (some 6) rfl rfl Tryd.func29 (by kernel_rfl) rfl #[.string a0] rfl (by (try simp only [List.map_toArray, List.map_cons, List.map_nil]); first | done | rfl | (simp only [List.length_drop, List.length_take]; rfl)) ?_; (with_reducible refine (laws_printable.calls k a0 true _ A3.out).mono ?_); rintro e w' ⟨rfl, ⟨nd, rfl⟩⟩; refine ⟨_, rfl, ?_⟩; have p7 : 0 ≤ (0 : Int) := (by omega); have q7 : 0 < a0.size := (by have : (0 : Int) < (a0.size : Int) := of_decide_eq_true (by first | (with_reducible assumption) | assumption); omega); have hx7 : ∀ h : 0 < a0.size, ((a0[0]'h).toNat : Int) = bt a0 0 := bt_at a0 0; clear p7; have qi7 : (0 < (a0.size : Int)) = True := eq_true (of_decide_eq_true (by first | (with_reducible assumption) | assumption)); replace q7 := eq_true q7))
          go_meet
          case rel => exact ⟨_, (true), (by first | rfl | (simp; done) | (simp [*]; done)), H', ⟨by first | omega | exact Nat.le_refl _⟩, by repeat (first | exact Drawn0.refl _ | apply Drawn0.step)⟩
      · rw [if_neg c6] at H
        exact absurd H (by simp)
  · replace c4 := Bool.eq_false_iff.mpr c4
    subst c4
    have H1 : (laws_cleanPath.j0 k a0 true) = some r := by rw [if_neg (show ¬ (false = true) by decide)] at H; exact H
    clear H
    have H := H1
    clear H1
    have H' := Aside0.mk H
    clear H
    go_wp2_with (first | ((with_reducible refine gate_callee (f := 29) rfl ?_); refine goesL_ (some 6) rfl rfl Tryd.func29 (by kernel_rfl) rfl #[.string a0] rfl (by (try simp only [List.map_toArray, List.map_cons, List.map_nil]); first | done | rfl | (simp only [List.length_drop, List.length_take]; rfl)) ?_; (with_reducible refine (laws_printable.calls k a0 false _ A3.out).mono ?_); rintro e w' ⟨rfl, ⟨nd, rfl⟩⟩; refine ⟨_, rfl, ?_⟩))
    go_meet
    case rel => exact ⟨_, (true), (by first | rfl | (simp; done) | (simp [*]; done)), H', ⟨by first | omega | exact Nat.le_refl _⟩, by repeat (first | exact Drawn0.refl _ | apply Drawn0.step)⟩
 case rest =>
  clear HC2
  try clear c1
  try clear p1
  try clear q1
  try clear hx1
  try clear c2
  try clear p2
  try clear c4
  try clear c5
  try clear c5b0
  try clear c5b1
  try clear c6
  try clear c6b0
  try clear c6b1
  try clear p6
  try clear p7
  try clear q7
  try clear hx7
  try clear qi7
  try clear c8
  try clear c8b0
  try clear c8b1
  try clear c9
  try clear c9b0
  try clear c9b1
  try clear c11
  try clear c11b0
  try clear c12
  try clear c12b0
  try clear p13
  try clear q13
  try clear hx13
  try clear c14
  try clear c14b0
  try clear c14b1
  try clear p13
  try clear p7
  try clear q13
  try clear q7
  obtain ⟨kq, x33_1, rfl, HA, HJ1, ⟨mc1, rfl⟩⟩ := hcut
  cases kq with
  | zero => exact absurd HA.out (by simp [laws_cleanPath.j0])
  | succ kj1 =>
   have H := HA.out
   clear HA
   simp only [laws_cleanPath.j0] at H
   by_cases c15 : x33_1 = true
   · subst c15
     have H1 : (some false) = some r := by rw [if_pos rfl] at H; exact H
     clear H
     have H := H1
     clear H1
     obtain rfl := Option.some.inj H
     go_wp2
     go_ret
     exact ⟨by first | rfl | (simp; done) | (simp [*]; done), by repeat (first | exact Drawn0.refl _ | apply Drawn0.step)⟩
   · replace c15 := Bool.eq_false_iff.mpr c15
     subst c15
     have H1 : (laws_cleanPath.l0 kj1 a0 (⟨#[]⟩ : ByteArray) 1) = some r := by rw [if_neg (show ¬ (false = true) by decide)] at H; exact H
     clear H
     have H := H1
     clear H1
     have H' := Aside0.mk H
     clear H
     go_wp2
     go_loopg [3, 4] kj1 (fun kq v3 v4 w' => ∃ (x3_2 : ByteArray) (x4_2 : Int), v3 = .string x3_2 ∧ v4 = .int .i64 x4_2 ∧ Aside0 (laws_cleanPath.l0 kq a0 x3_2 x4_2 = some r) ∧ Aside0 (kq ≤ kj1) ∧ Drawn0 w w')
     case atStart => exact ⟨((⟨#[]⟩ : ByteArray)), (1), (by first | rfl | (simp; done) | (simp [*]; done)), (by first | rfl | (simp; done) | (simp [*]; done)), H', ⟨Nat.le_refl _⟩, by repeat (first | exact Drawn0.refl _ | apply Drawn0.step)⟩
     case round =>
      clear H'
      try clear c1
      try clear p1
      try clear q1
      try clear hx1
      try clear c2
      try clear p2
      try clear c4
      try clear c5
      try clear c5b0
      try clear c5b1
      try clear c6
      try clear c6b0
      try clear c6b1
      try clear p6
      try clear p7
      try clear q7
      try clear hx7
      try clear qi7
      try clear c8
      try clear c8b0
      try clear c8b1
      try clear c9
      try clear c9b0
      try clear c9b1
      try clear c11
      try clear c11b0
      try clear c12
      try clear c12b0
      try clear p13
      try clear q13
      try clear hx13
      try clear c14
      try clear c14b0
      try clear c14b1
      try clear c15
      try clear p1
      try clear p13
      try clear p2
      try clear p6
      try clear p7
      try clear q1
      try clear q13
      try clear q7
      obtain ⟨x3_2, x4_2, rfl, rfl, HA, HK2, ⟨m2, rfl⟩⟩ := hrel
      cases gk with
      | zero => exact absurd HA.out (by simp [laws_cleanPath.l0])
      | succ k2 =>
       have H := HA.out
       clear HA
       simp only [laws_cleanPath.l0] at H
       by_cases c16 : x4_2 ≤ (a0.size : Int)
       · rw [if_pos c16] at H
         have c16b0 : decide (x4_2 ≤ (a0.size : Int)) = true := decide_eq_true c16
         clear c16
         have HC17 := Aside0.mk H
         clear H
         go_upto_region 7 with (fail)
         go_cut [49] (fun v49 wc => ∃ (kq : Nat) (x49_16 : Bool), v49 = .bool x49_16 ∧ Aside0 (laws_cleanPath.j2 kq a0 x3_2 x4_2 x49_16 = some r) ∧ Aside0 (kq ≤ k2) ∧ Drawn0 w wc)
         case first =>
          have H := HC17.out
          clear HC17
          by_cases c18 : x4_2 = (a0.size : Int)
          · rw [if_pos c18] at H
            have c18b0 : (x4_2 == (a0.size : Int)) = true := beq_iff_eq.mpr c18
            have c18b1 : (x4_2 != (a0.size : Int)) = false := bne_eq_false_iff_eq.mpr c18
            clear c18
            (first | rw [c18b0] | (simp only [i64_w, i32_w]; rw [c18b0]) | skip)
            have H' := Aside0.mk H
            clear H
            go_wp2
            go_meet
            case rel => exact ⟨_, (true), (by first | rfl | (simp; done) | (simp [*]; done)), H', ⟨by have := HJ1.out; have := HK2.out; first | omega | exact Nat.le_refl _⟩, by repeat (first | exact Drawn0.refl _ | apply Drawn0.step)⟩
          · rw [if_neg c18] at H
            have c18b0 : (x4_2 == (a0.size : Int)) = false := beq_eq_false_iff_ne.mpr c18
            have c18b1 : (x4_2 != (a0.size : Int)) = true := bne_iff_ne.mpr c18
            (first | rw [c18b0] | (simp only [i64_w, i32_w]; rw [c18b0]) | skip)
            by_cases c19 : 0 ≤ x4_2
            · rw [if_pos c19] at H
              have c19b0 : decide (0 ≤ x4_2) = true := decide_eq_true c19
              clear c19
              by_cases c20 : x4_2 < (a0.size : Int)
              · rw [if_pos c20] at H
                have c20b0 : decide (x4_2 < (a0.size : Int)) = true := decide_eq_true c20
                clear c20
                have H' := Aside0.mk H
                clear H
                have p21 : 0 ≤ (x4_2 : Int) := of_decide_eq_true (by first | (with_reducible assumption) | assumption)
                have q21 : x4_2 < (a0.size : Int) := of_decide_eq_true (by first | (with_reducible assumption) | assumption)
                have hx21 := bt_at a0 x4_2
                replace p21 := eq_true p21
                replace q21 := eq_true q21
                go_wp2
                go_meet
                case rel => exact ⟨_, (((bt a0 x4_2) == 47)), (by first | rfl | (simp; done) | (simp [*]; done)), H', ⟨by have := HJ1.out; have := HK2.out; first | omega | exact Nat.le_refl _⟩, by repeat (first | exact Drawn0.refl _ | apply Drawn0.step)⟩
              · rw [if_neg c20] at H
                exact absurd H (by simp)
            · rw [if_neg c19] at H
              exact absurd H (by simp)
         case rest =>
          clear HC17
          try clear c1
          try clear p1
          try clear q1
          try clear hx1
          try clear c2
          try clear p2
          try clear q2
          try clear hx2
          try clear c4
          try clear c5
          try clear c5b0
          try clear c5b1
          try clear c6
          try clear c6b0
          try clear c6b1
          try clear p6
          try clear p7
          try clear q7
          try clear hx7
          try clear qi7
          try clear c8
          try clear c8b0
          try clear c8b1
          try clear c9
          try clear c9b0
          try clear c9b1
          try clear c11
          try clear c11b0
          try clear c12
          try clear c12b0
          try clear p13
          try clear q13
          try clear hx13
          try clear c14
          try clear c14b0
          try clear c14b1
          try clear c15
          try clear c16
          try clear c16b0
          try clear c17
          try clear c18
          try clear c18b0
          try clear c18b1
          try clear c19
          try clear c19b0
          try clear c20
          try clear c20b0
          try clear p21
          try clear q21
          try clear hx21
          try clear p1
          try clear p13
          try clear p2
          try clear p21
          try clear p6
          try clear p7
          try clear q1
          try clear q13
          try clear q21
          try clear q7
          obtain ⟨kq, x49_16, rfl, HA, HJ16, ⟨mc16, rfl⟩⟩ := hcut
          cases kq with
          | zero => exact absurd HA.out (by simp [laws_cleanPath.j2])
          | succ kj16 =>
           have H := HA.out
           clear HA
           simp only [laws_cleanPath.j2] at H
           by_cases c22 : x49_16 = true
           · subst c22
             have H1 : (if a0.toList = ([47] : List UInt8) then (laws_cleanPath.l0 kj16 a0 (⟨#[]⟩ : ByteArray) (wrap64 (x4_2 + 1))) else (if x3_2.toList = ([] : List UInt8) then (some false) else (if x3_2.toList = ([46] : List UInt8) then (some false) else (if x3_2.toList = ([46, 46] : List UInt8) then (some false) else (laws_cleanPath.l0 kj16 a0 (⟨#[]⟩ : ByteArray) (wrap64 (x4_2 + 1))))))) = some r := by rw [if_pos rfl] at H; exact H
             clear H
             have H := H1
             clear H1
             by_cases c23 : a0.toList = ([47] : List UInt8)
             · rw [if_pos c23] at H
               have c23b0 : (a0.toList == ([47] : List UInt8)) = true := beq_iff_eq.mpr c23
               have c23b1 : (a0.toList != ([47] : List UInt8)) = false := bne_eq_false_iff_eq.mpr c23
               clear c23
               have H' := Aside0.mk H
               clear H
               go_wp2
               go_roundg kj16
               case measure => have := HJ1.out; have := HK2.out; have := HJ16.out; omega
               case rel => exact ⟨((⟨#[]⟩ : ByteArray)), (wrap64 (x4_2 + 1)), (by first | rfl | (simp; done) | (simp [*]; done)), (by first | rfl | (simp; done) | (simp [*]; done)), H', ⟨by have := HJ1.out; have := HK2.out; have := HJ16.out; omega⟩, by repeat (first | exact Drawn0.refl _ | apply Drawn0.step)⟩
             · rw [if_neg c23] at H
               have c23b0 : (a0.toList == ([47] : List UInt8)) = false := beq_eq_false_iff_ne.mpr c23
               have c23b1 : (a0.toList != ([47] : List UInt8)) = true := bne_iff_ne.mpr c23
               by_cases c24 : x3_2.toList = ([] : List UInt8)
               · rw [if_pos c24] at H
                 have c24b0 : (x3_2.toList == ([] : List UInt8)) = true := beq_iff_eq.mpr c24
                 have c24b1 : (x3_2.toList != ([] : List UInt8)) = false := bne_eq_false_iff_eq.mpr c24
                 clear c24
                 obtain rfl := Option.some.inj H
                 go_wp2
                 go_ret
                 exact ⟨by first | rfl | (simp; done) | (simp [*]; done), by repeat (first | exact Drawn0.refl _ | apply Drawn0.step)⟩
               · rw [if_neg c24] at H
                 have c24b0 : (x3_2.toList == ([] : List UInt8)) = false := beq_eq_false_iff_ne.mpr c24
                 have c24b1 : (x3_2.toList != ([] : List UInt8)) = true := bne_iff_ne.mpr c24
                 by_cases c25 : x3_2.toList = ([46] : List UInt8)
                 · rw [if_pos c25] at H
                   have c25b0 : (x3_2.toList == ([46] : List UInt8)) = true := beq_iff_eq.mpr c25
                   have c25b1 : (x3_2.toList != ([46] : List UInt8)) = false := bne_eq_false_iff_eq.mpr c25
                   clear c25
                   obtain rfl := Option.some.inj H
                   go_wp2
                   go_ret
                   exact ⟨by first | rfl | (simp; done) | (simp [*]; done), by repeat (first | exact Drawn0.refl _ | apply Drawn0.step)⟩
                 · rw [if_neg c25] at H
                   have c25b0 : (x3_2.toList == ([46] : List UInt8)) = false := beq_eq_false_iff_ne.mpr c25
                   have c25b1 : (x3_2.toList != ([46] : List UInt8)) = true := bne_iff_ne.mpr c25
                   by_cases c26 : x3_2.toList = ([46, 46] : List UInt8)
                   · rw [if_pos c26] at H
                     have c26b0 : (x3_2.toList == ([46, 46] : List UInt8)) = true := beq_iff_eq.mpr c26
                     have c26b1 : (x3_2.toList != ([46, 46] : List UInt8)) = false := bne_eq_false_iff_eq.mpr c26
                     clear c26
                     obtain rfl := Option.some.inj H
                     go_wp2
                     go_ret
                     exact ⟨by first | rfl | (simp; done) | (simp [*]; done), by repeat (first | exact Drawn0.refl _ | apply Drawn0.step)⟩
                   · rw [if_neg c26] at H
                     have c26b0 : (x3_2.toList == ([46, 46] : List UInt8)) = false := beq_eq_false_iff_ne.mpr c26
                     have c26b1 : (x3_2.toList != ([46, 46] : List UInt8)) = true := bne_iff_ne.mpr c26
                     have H' := Aside0.mk H
                     clear H
                     go_wp2
                     go_roundg kj16
                     case measure => have := HJ1.out; have := HK2.out; have := HJ16.out; omega
                     case rel => exact ⟨((⟨#[]⟩ : ByteArray)), (wrap64 (x4_2 + 1)), (by first | rfl | (simp; done) | (simp [*]; done)), (by first | rfl | (simp; done) | (simp [*]; done)), H', ⟨by have := HJ1.out; have := HK2.out; have := HJ16.out; omega⟩, by repeat (first | exact Drawn0.refl _ | apply Drawn0.step)⟩
           · replace c22 := Bool.eq_false_iff.mpr c22
             subst c22
             have H1 : (if 0 ≤ x4_2 then (if x4_2 ≤ (wrap64 (x4_2 + 1)) then (if (wrap64 (x4_2 + 1)) ≤ (a0.size : Int) then (if x3_2.size + (a0.extract (x4_2 : Int).toNat ((wrap64 (x4_2 + 1)) : Int).toNat).size ≤ 9223372036854775807 then (laws_cleanPath.l0 kj16 a0 (x3_2 ++ (a0.extract (x4_2 : Int).toNat ((wrap64 (x4_2 + 1)) : Int).toNat)) (wrap64 (x4_2 + 1))) else (none)) else (none)) else (none)) else (none)) = some r := by rw [if_neg (show ¬ (false = true) by decide)] at H; exact H
             clear H
             have H := H1
             clear H1
             by_cases c27 : 0 ≤ x4_2
             · rw [if_pos c27] at H
               have c27b0 := eq_true c27
               have c27b1 : decide (0 ≤ x4_2) = true := decide_eq_true c27
               clear c27
               by_cases c28 : x4_2 ≤ (wrap64 (x4_2 + 1))
               · rw [if_pos c28] at H
                 have c28b0 := eq_true c28
                 have c28b1 : decide (x4_2 ≤ (wrap64 (x4_2 + 1))) = true := decide_eq_true c28
                 by_cases c29 : (wrap64 (x4_2 + 1)) ≤ (a0.size : Int)
                 · rw [if_pos c29] at H
                   have c29b0 := eq_true c29
                   have c29b1 : decide ((wrap64 (x4_2 + 1)) ≤ (a0.size : Int)) = true := decide_eq_true c29
                   by_cases c30 : x3_2.size + (a0.extract (x4_2 : Int).toNat ((wrap64 (x4_2 + 1)) : Int).toNat).size ≤ 9223372036854775807
                   · rw [if_pos c30] at H
                     have c30b0 := eq_true c30
                     have c30b1 : decide (x3_2.size + (a0.extract (x4_2 : Int).toNat ((wrap64 (x4_2 + 1)) : Int).toNat).size ≤ 9223372036854775807) = true := decide_eq_true c30
                     try have c30b2 : (9223372036854775807 < x3_2.size + (a0.extract (x4_2 : Int).toNat ((wrap64 (x4_2 + 1)) : Int).toNat).size) = False := eq_false (Nat.not_lt.2 c30)
                     have H' := Aside0.mk H
                     clear H
                     go_wp2
                     go_roundg kj16
                     case measure => have := HJ1.out; have := HK2.out; have := HJ16.out; omega
                     case rel => exact ⟨(x3_2 ++ (a0.extract (x4_2 : Int).toNat ((wrap64 (x4_2 + 1)) : Int).toNat)), (wrap64 (x4_2 + 1)), (by first | rfl | (simp; done) | (simp [*]; done)), (by first | rfl | (simp; done) | (simp [*]; done)), H', ⟨by have := HJ1.out; have := HK2.out; have := HJ16.out; omega⟩, by repeat (first | exact Drawn0.refl _ | apply Drawn0.step)⟩
                   · rw [if_neg c30] at H
                     exact absurd H (by simp)
                 · rw [if_neg c29] at H
                   exact absurd H (by simp)
               · rw [if_neg c28] at H
                 exact absurd H (by simp)
             · rw [if_neg c27] at H
               exact absurd H (by simp)
       · rw [if_neg c16] at H
         have c16b0 : decide (x4_2 ≤ (a0.size : Int)) = false := decide_eq_false c16
         clear c16
         obtain rfl := Option.some.inj H
         go_wp2
         go_ret
         exact ⟨by first | rfl | (simp; done) | (simp [*]; done), by repeat (first | exact Drawn0.refl _ | apply Drawn0.step)⟩
end Go.Proofs.YtcpldcndhijecaaDoor.QM0
namespace Go.Proofs.YtcpldcndhijecaaDoor.QM0
open Go.RowKit Go.Proofs.YtcpldcndhijecaaDoorW.PrintWords Go.Proofs.YtcpldcndhijecaaDoorW.PrintLast Go.Proofs.YtcpldcndhijecaaDoorW.PrintMore
attribute [local go_sem] max2_int min2_int max_two min_two max_three min_three max_four min_four
set_option linter.unusedVariables false
set_option linter.unusedSimpArgs false
mutual
def laws_FnMountsSingle.j0 : Nat → List (S44) → ByteArray → Bool → Option (Bool)
 | 0, _, _, _ => none
 | k + 1, x0, x1, x19 => if x19 = true then (some true) else ((laws_printed.f k x0).bind fun bt264 => (if bt264.2 = true then ((laws_cleanPath.f k x1).bind fun t266 => (laws_FnMountsSingle.j1 k x0 x1 bt264.1 (!t266))) else (laws_FnMountsSingle.j1 k x0 x1 bt264.1 true)))
def laws_FnMountsSingle.j1 : Nat → List (S44) → ByteArray → ByteArray → Bool → Option (Bool)
 | 0, _, _, _, _ => none
 | k + 1, x0, x1, x5, x31 => if x31 = true then (some true) else (laws_FnMountsSingle.l0 k x1 x5 ([] : List (S44)) x0 (x0.length : Int) 0)
def laws_FnMountsSingle.l0 : Nat → ByteArray → ByteArray → List (S44) → List (S44) → Int → Int → Option (Bool)
 | 0, _, _, _, _, _, _ => none
 | k + 1, x1, x5, x7, x32, x33, x34 => if x34 < x33 then (if 0 ≤ x34 then (if x34 < (x32.length : Int) then ((laws_cleanPath.f k ((rd_T44 x32 x34).f5)).bind fun t278 => (if t278 = true then (if ((rd_T44 x32 x34).f5).toList = x1.toList then (if (x7.length : Int) = 0 then (if x7.length < 977343669134 then (laws_FnMountsSingle.l0 k x1 x5 (x7 ++ [(⟨(rd_T44 x32 x34).f0, (rd_T44 x32 x34).f1, (rd_T44 x32 x34).f2, (rd_T44 x32 x34).f3, (rd_T44 x32 x34).f4, (rd_T44 x32 x34).f5, (rd_T44 x32 x34).f6, (rd_T44 x32 x34).f7, (rd_T44 x32 x34).f8, (rd_T44 x32 x34).f9, (rd_T44 x32 x34).f10⟩ : S44)]) x32 x33 (wrap64 (x34 + 1))) else (none)) else (laws_FnMountsSingle.l0 k x1 x5 x7 x32 x33 (wrap64 (x34 + 1)))) else (laws_FnMountsSingle.l0 k x1 x5 x7 x32 x33 (wrap64 (x34 + 1)))) else (some true))) else (none)) else (none)) else ((impl_Mounts.f x5 4 (([x1] : List ByteArray))).bind fun bt270 => (if bt270.2 = 0 then ((laws_sameMounts.f k bt270.1 x7).bind fun t274 => (if t274 = true then ((laws_mounts.f).bind fun t275 => (some t275)) else (some false))) else (some false)))
end
def laws_FnMountsSingle.f (k : Nat) (l0 : List (S44)) (a1 : ByteArray) : Option (Bool) := (laws_zzFits1.f k l0).bind fun t263 => (if t263 = true then (laws_FnMountsSingle.j0 k l0 a1 (decide ((a1.size : Int) > 2147483647))) else (laws_FnMountsSingle.j0 k l0 a1 true))
set_option maxHeartbeats 8000000 in
set_option maxRecDepth 100000 in
theorem laws_FnMountsSingle.calls (k : Nat) (A0 : Option Addr) (c0 : Nat) (l0 : List (S44)) (a1 : ByteArray) (r : Bool) (w : World) (hr0 : Kd.C k44 w A0 l0.length l0) (hc0 : l0.length ≤ c0) (h : laws_FnMountsSingle.f k l0 a1 = some r) :
 Calls Tryd.prog 6 #[.slice A0 l0.length c0, .string a1] w fun e w' => e = .returned (.bool r) ∧ Below w.heap.size w w' := by
 have hu44 := Tryd.underlying44
 have hu30 := Tryd.underlying30
 have HR0 := Aside0.mk hr0
 have HC0 := Aside0.mk hc0
 clear hr0 hc0
 have HB := Aside0.mk (Below.refl w.heap.size w)
 have H : ((laws_zzFits1.f k l0).bind fun t263 => (if t263 = true then (laws_FnMountsSingle.j0 k l0 a1 (decide ((a1.size : Int) > 2147483647))) else (laws_FnMountsSingle.j0 k l0 a1 true))) = some r := h
 clear h
 have HC3 := Aside0.mk H
 clear H
 go_enter Tryd.func6, Tryd.ntmps6
 go_upto_region 1 with (fail)
 go_cut [19] (fun v19 wc => ∃ (kq : Nat) (x19_2 : Bool), v19 = .bool x19_2 ∧ Aside0 (laws_FnMountsSingle.j0 kq l0 a1 x19_2 = some r) ∧ Aside0 (kq ≤ k) ∧ Aside0 (Below w.heap.size w wc))
 case first =>
  have H := HC3.out
  clear HC3
  replace H := Option.bind_eq_some_iff.mp H
  obtain ⟨t263, A40, H⟩ := H
  replace H : (if t263 = true then (laws_FnMountsSingle.j0 k l0 a1 (decide ((a1.size : Int) > 2147483647))) else (laws_FnMountsSingle.j0 k l0 a1 true)) = some r := H
  have A4 := Aside0.mk A40
  clear A40
  by_cases c5 : t263 = true
  · subst c5
    have H1 : (laws_FnMountsSingle.j0 k l0 a1 (decide ((a1.size : Int) > 2147483647))) = some r := by rw [if_pos rfl] at H; exact H
    clear H
    have H := H1
    clear H1
    have H' := Aside0.mk H
    clear H
    go_wp2_with (first | ((with_reducible refine gate_callee (f := 7) rfl ?_); refine goesL_ (some 13) rfl rfl Tryd.func7 (by kernel_rfl) rfl #[.slice A0 l0.length c0] rfl (by (try simp only [List.map_toArray, List.map_cons, List.map_nil]); first | done | rfl | (simp only [List.length_drop, List.length_take]; rfl)) ?_; (with_reducible refine (laws_zzFits1.calls k _ _ l0 true _ ?side1 ?side2 A4.out).mono ?_); (case side1 => repeat (first | exact (Kd.C_below HR0.out HB.out) | (with_reducible refine Kd.C_alloc ?_ _) | (with_reducible refine Kd.C_drewN ?_ _) | (with_reducible refine Kd.C_drew ?_))); (case side2 => exact HC0.out); rintro e w6 ⟨rfl, hb⟩; refine ⟨_, rfl, ?_⟩; have n0_ := Aside0.mk (below_step (by repeat (first | (with_reducible first | exact HB.out | apply below_alloc | apply pw_below_drewN | apply below_drew1) | exact HB.out)) hb); clear HB; have HB := n0_; clear n0_; (try clear hb); (try clear hb2); (try clear hk); (try clear hi)))
    go_meet
    case rel => exact ⟨_, (decide ((a1.size : Int) > 2147483647)), (by first | rfl | (simp; done) | (simp [*]; done)), H', ⟨by first | omega | exact Nat.le_refl _⟩, ⟨by repeat (first | (with_reducible first | exact HB.out | apply below_alloc | apply pw_below_drewN | apply below_drew1) | exact HB.out)⟩⟩
  · replace c5 := Bool.eq_false_iff.mpr c5
    subst c5
    have H1 : (laws_FnMountsSingle.j0 k l0 a1 true) = some r := by rw [if_neg (show ¬ (false = true) by decide)] at H; exact H
    clear H
    have H := H1
    clear H1
    have H' := Aside0.mk H
    clear H
    go_wp2_with (first | ((with_reducible refine gate_callee (f := 7) rfl ?_); refine goesL_ (some 13) rfl rfl Tryd.func7 (by kernel_rfl) rfl #[.slice A0 l0.length c0] rfl (by (try simp only [List.map_toArray, List.map_cons, List.map_nil]); first | done | rfl | (simp only [List.length_drop, List.length_take]; rfl)) ?_; (with_reducible refine (laws_zzFits1.calls k _ _ l0 false _ ?side1 ?side2 A4.out).mono ?_); (case side1 => repeat (first | exact (Kd.C_below HR0.out HB.out) | (with_reducible refine Kd.C_alloc ?_ _) | (with_reducible refine Kd.C_drewN ?_ _) | (with_reducible refine Kd.C_drew ?_))); (case side2 => exact HC0.out); rintro e w7 ⟨rfl, hb⟩; refine ⟨_, rfl, ?_⟩; have n0_ := Aside0.mk (below_step (by repeat (first | (with_reducible first | exact HB.out | apply below_alloc | apply pw_below_drewN | apply below_drew1) | exact HB.out)) hb); clear HB; have HB := n0_; clear n0_; (try clear hb); (try clear hb2); (try clear hk); (try clear hi)))
    go_meet
    case rel => exact ⟨_, (true), (by first | rfl | (simp; done) | (simp [*]; done)), H', ⟨by first | omega | exact Nat.le_refl _⟩, ⟨by repeat (first | (with_reducible first | exact HB.out | apply below_alloc | apply pw_below_drewN | apply below_drew1) | exact HB.out)⟩⟩
 case rest =>
  clear HC3
  try clear p2
  try clear c5
  try clear c6
  try clear c7
  obtain ⟨kq, x19_2, rfl, HA, HJ2, HB⟩ := hcut
  cases kq with
  | zero => exact absurd HA.out (by simp [laws_FnMountsSingle.j0])
  | succ kj2 =>
   have H := HA.out
   clear HA
   simp only [laws_FnMountsSingle.j0] at H
   by_cases c8 : x19_2 = true
   · subst c8
     have H1 : (some true) = some r := by rw [if_pos rfl] at H; exact H
     clear H
     have H := H1
     clear H1
     obtain rfl := Option.some.inj H
     go_wp2
     go_ret
     exact ⟨by first | rfl | (simp [errW_none, errW_some] <;> rfl) | (simp [*, errW_none, errW_some] <;> rfl), by repeat (first | (with_reducible first | exact HB.out | apply below_alloc | apply pw_below_drewN | apply below_drew1) | exact HB.out)⟩
   · replace c8 := Bool.eq_false_iff.mpr c8
     subst c8
     have H1 : ((laws_printed.f kj2 l0).bind fun bt264 => (if bt264.2 = true then ((laws_cleanPath.f kj2 a1).bind fun t266 => (laws_FnMountsSingle.j1 kj2 l0 a1 bt264.1 (!t266))) else (laws_FnMountsSingle.j1 kj2 l0 a1 bt264.1 true))) = some r := by rw [if_neg (show ¬ (false = true) by decide)] at H; exact H
     clear H
     have H := H1
     clear H1
     replace H := Option.bind_eq_some_iff.mp H
     obtain ⟨⟨t264, t265⟩, A90, H⟩ := H
     replace H : (if t265 = true then ((laws_cleanPath.f kj2 a1).bind fun t266 => (laws_FnMountsSingle.j1 kj2 l0 a1 t264 (!t266))) else (laws_FnMountsSingle.j1 kj2 l0 a1 t264 true)) = some r := H
     have A9 := Aside0.mk A90
     clear A90
     have HC10 := Aside0.mk H
     clear H
     go_upto_region 4 with (first | ((with_reducible refine gate_callee (f := 8) rfl ?_); refine goesL_ (some 22) rfl rfl Tryd.func8 (by kernel_rfl) rfl #[.slice A0 l0.length c0] rfl (by (try simp only [List.map_toArray, List.map_cons, List.map_nil]); first | done | rfl | (simp only [List.length_drop, List.length_take]; rfl)) ?_; (with_reducible refine (laws_printed.calls kj2 _ _ l0 t264 t265 _ ?side1 ?side2 A9.out).mono ?_); (case side1 => repeat (first | exact (Kd.C_below HR0.out HB.out) | (with_reducible refine Kd.C_alloc ?_ _) | (with_reducible refine Kd.C_drewN ?_ _) | (with_reducible refine Kd.C_drew ?_))); (case side2 => exact HC0.out); rintro e w11 ⟨rfl, hb⟩; refine ⟨_, rfl, ?_⟩; have n0_ := Aside0.mk (below_step (by repeat (first | (with_reducible first | exact HB.out | apply below_alloc | apply pw_below_drewN | apply below_drew1) | exact HB.out)) hb); clear HB; have HB := n0_; clear n0_; (try clear hb); (try clear hb2); (try clear hk); (try clear hi)))
     (try simp only [Act.put, List.setIfInBounds_toArray, List.set_cons_zero, List.set_cons_succ])
     go_cut [31] (fun v31 wc => ∃ (kq : Nat) (x31_9 : Bool), v31 = .bool x31_9 ∧ Aside0 (laws_FnMountsSingle.j1 kq l0 a1 t264 x31_9 = some r) ∧ Aside0 (kq ≤ kj2) ∧ Aside0 (Below w.heap.size w wc))
     case first =>
      have H := HC10.out
      clear HC10
      by_cases c12 : t265 = true
      · subst c12
        have H1 : ((laws_cleanPath.f kj2 a1).bind fun t266 => (laws_FnMountsSingle.j1 kj2 l0 a1 t264 (!t266))) = some r := by rw [if_pos rfl] at H; exact H
        clear H
        have H := H1
        clear H1
        replace H := Option.bind_eq_some_iff.mp H
        obtain ⟨t266, A130, H⟩ := H
        replace H : (laws_FnMountsSingle.j1 kj2 l0 a1 t264 (!t266)) = some r := H
        have A13 := Aside0.mk A130
        clear A130
        have H' := Aside0.mk H
        clear H
        go_wp2_with (first | (go_at_call 17; (with_reducible refine (laws_cleanPath.calls kj2 a1 t266 _ A13.out).mono ?_); rintro e w' ⟨rfl, ⟨nd, rfl⟩⟩))
        go_meet
        case rel => exact ⟨_, (!t266), (by first | rfl | (simp; done) | (simp [*]; done)), H', ⟨by have := HJ2.out; first | omega | exact Nat.le_refl _⟩, ⟨by repeat (first | (with_reducible first | exact HB.out | apply below_alloc | apply pw_below_drewN | apply below_drew1) | exact HB.out)⟩⟩
      · replace c12 := Bool.eq_false_iff.mpr c12
        subst c12
        have H1 : (laws_FnMountsSingle.j1 kj2 l0 a1 t264 true) = some r := by rw [if_neg (show ¬ (false = true) by decide)] at H; exact H
        clear H
        have H := H1
        clear H1
        have H' := Aside0.mk H
        clear H
        go_wp2
        go_meet
        case rel => exact ⟨_, (true), (by first | rfl | (simp; done) | (simp [*]; done)), H', ⟨by have := HJ2.out; first | omega | exact Nat.le_refl _⟩, ⟨by repeat (first | (with_reducible first | exact HB.out | apply below_alloc | apply pw_below_drewN | apply below_drew1) | exact HB.out)⟩⟩
     case rest =>
      clear HC10
      try clear c1
      try clear p2
      try clear c5
      try clear c6
      try clear c7
      try clear c8
      try clear c12
      try clear p2
      obtain ⟨kq, x31_9, rfl, HA, HJ9, HB⟩ := hcut
      cases kq with
      | zero => exact absurd HA.out (by simp [laws_FnMountsSingle.j1])
      | succ kj9 =>
       have H := HA.out
       clear HA
       simp only [laws_FnMountsSingle.j1] at H
       by_cases c14 : x31_9 = true
       · subst c14
         have H1 : (some true) = some r := by rw [if_pos rfl] at H; exact H
         clear H
         have H := H1
         clear H1
         obtain rfl := Option.some.inj H
         go_wp2
         go_ret
         exact ⟨by first | rfl | (simp [errW_none, errW_some] <;> rfl) | (simp [*, errW_none, errW_some] <;> rfl), by repeat (first | (with_reducible first | exact HB.out | apply below_alloc | apply pw_below_drewN | apply below_drew1) | exact HB.out)⟩
       · replace c14 := Bool.eq_false_iff.mpr c14
         subst c14
         have H1 : (laws_FnMountsSingle.l0 kj9 a1 t264 ([] : List (S44)) l0 (l0.length : Int) 0) = some r := by rw [if_neg (show ¬ (false = true) by decide)] at H; exact H
         clear H
         have H := H1
         clear H1
         have H' := Aside0.mk H
         clear H
         go_wp2
         go_loopg [7, 34] kj9 (fun kq v7 v34 w' => ∃ (x7_3 : List (S44)) (x34_3 : Int), v34 = .int .i64 x34_3 ∧ Aside0 (laws_FnMountsSingle.l0 kq a1 t264 x7_3 l0 (l0.length : Int) x34_3 = some r) ∧ Aside0 (kq ≤ kj9) ∧ Aside0 (Kd.R k44 44 w' w.heap.size (fun _ => True) v7 x7_3) ∧ Aside0 (Below w.heap.size w w'))
         case atStart => exact ⟨(([] : List (S44))), (0), (by first | rfl | (simp; done) | (simp [*]; done)), H', ⟨Nat.le_refl _⟩, ⟨by first | exact Kd.R_nil _ _ _ _ _ | exact Kd.N_nil _ _ _ _ _ | exact Kd.V_nil _ _ _ _ _ | exact Kd.Q_nil _ _ _ _ _ | exact Kd.S_nil _ _ _ _ _⟩, ⟨by repeat (first | (with_reducible first | exact HB.out | apply below_alloc | apply pw_below_drewN | apply below_drew1) | exact HB.out)⟩⟩
         case round =>
          clear H'
          try clear c1
          try clear p2
          try clear c5
          try clear c6
          try clear c7
          try clear c8
          try clear c12
          try clear c14
          try clear p2
          obtain ⟨x7_3, x34_3, rfl, HA, HK3, HO_7, HB⟩ := hrel
          cases gk with
          | zero => exact absurd HA.out (by simp [laws_FnMountsSingle.l0])
          | succ k3 =>
           have H := HA.out
           clear HA
           simp only [laws_FnMountsSingle.l0] at H
           by_cases c15 : x34_3 < (l0.length : Int)
           · rw [if_pos c15] at H
             have c15b0 : decide (x34_3 < (l0.length : Int)) = true := decide_eq_true c15
             clear c15
             by_cases c16 : 0 ≤ x34_3
             · rw [if_pos c16] at H
               have c16b0 : decide (0 ≤ x34_3) = true := decide_eq_true c16
               clear c16
               by_cases c17 : x34_3 < (l0.length : Int)
               · rw [if_pos c17] at H
                 have c17b0 : decide (x34_3 < (l0.length : Int)) = true := decide_eq_true c17
                 clear c17
                 replace H := Option.bind_eq_some_iff.mp H
                 obtain ⟨t278, A180, H⟩ := H
                 replace H : (if t278 = true then (if ((rd_T44 l0 x34_3).f5).toList = a1.toList then (if (x7_3.length : Int) = 0 then (if x7_3.length < 977343669134 then (laws_FnMountsSingle.l0 k3 a1 t264 (x7_3 ++ [(⟨(rd_T44 l0 x34_3).f0, (rd_T44 l0 x34_3).f1, (rd_T44 l0 x34_3).f2, (rd_T44 l0 x34_3).f3, (rd_T44 l0 x34_3).f4, (rd_T44 l0 x34_3).f5, (rd_T44 l0 x34_3).f6, (rd_T44 l0 x34_3).f7, (rd_T44 l0 x34_3).f8, (rd_T44 l0 x34_3).f9, (rd_T44 l0 x34_3).f10⟩ : S44)]) l0 (l0.length : Int) (wrap64 (x34_3 + 1))) else (none)) else (laws_FnMountsSingle.l0 k3 a1 t264 x7_3 l0 (l0.length : Int) (wrap64 (x34_3 + 1)))) else (laws_FnMountsSingle.l0 k3 a1 t264 x7_3 l0 (l0.length : Int) (wrap64 (x34_3 + 1)))) else (some true)) = some r := H
                 have A18 := Aside0.mk A180
                 clear A180
                 by_cases c19 : t278 = true
                 · subst c19
                   have H1 : (if ((rd_T44 l0 x34_3).f5).toList = a1.toList then (if (x7_3.length : Int) = 0 then (if x7_3.length < 977343669134 then (laws_FnMountsSingle.l0 k3 a1 t264 (x7_3 ++ [(⟨(rd_T44 l0 x34_3).f0, (rd_T44 l0 x34_3).f1, (rd_T44 l0 x34_3).f2, (rd_T44 l0 x34_3).f3, (rd_T44 l0 x34_3).f4, (rd_T44 l0 x34_3).f5, (rd_T44 l0 x34_3).f6, (rd_T44 l0 x34_3).f7, (rd_T44 l0 x34_3).f8, (rd_T44 l0 x34_3).f9, (rd_T44 l0 x34_3).f10⟩ : S44)]) l0 (l0.length : Int) (wrap64 (x34_3 + 1))) else (none)) else (laws_FnMountsSingle.l0 k3 a1 t264 x7_3 l0 (l0.length : Int) (wrap64 (x34_3 + 1)))) else (laws_FnMountsSingle.l0 k3 a1 t264 x7_3 l0 (l0.length : Int) (wrap64 (x34_3 + 1)))) = some r := by rw [if_pos rfl] at H; exact H
                   clear H
                   have H := H1
                   clear H1
                   by_cases c20 : ((rd_T44 l0 x34_3).f5).toList = a1.toList
                   · rw [if_pos c20] at H
                     have c20b0 : (((rd_T44 l0 x34_3).f5).toList == a1.toList) = true := beq_iff_eq.mpr c20
                     have c20b1 : (((rd_T44 l0 x34_3).f5).toList != a1.toList) = false := bne_eq_false_iff_eq.mpr c20
                     clear c20
                     by_cases c21 : (x7_3.length : Int) = 0
                     · rw [if_pos c21] at H
                       have c21b0 : ((x7_3.length : Int) == 0) = true := beq_iff_eq.mpr c21
                       have c21b1 : ((x7_3.length : Int) != 0) = false := bne_eq_false_iff_eq.mpr c21
                       clear c21
                       by_cases c22 : x7_3.length < 977343669134
                       · rw [if_pos c22] at H
                         have LMc22 := Aside0.mk c22
                         clear c22
                         obtain ⟨y279, hy279⟩ : ∃ y_ : List (S44), y_ = (x7_3 ++ [(⟨(rd_T44 l0 x34_3).f0, (rd_T44 l0 x34_3).f1, (rd_T44 l0 x34_3).f2, (rd_T44 l0 x34_3).f3, (rd_T44 l0 x34_3).f4, (rd_T44 l0 x34_3).f5, (rd_T44 l0 x34_3).f6, (rd_T44 l0 x34_3).f7, (rd_T44 l0 x34_3).f8, (rd_T44 l0 x34_3).f9, (rd_T44 l0 x34_3).f10⟩ : S44)]) := ⟨_, rfl⟩
                         replace H : (laws_FnMountsSingle.l0 k3 a1 t264 y279 l0 (l0.length : Int) (wrap64 (x34_3 + 1))) = some r := by first | (rw [hy279]; with_reducible exact H) | (have H2_ := (Option.bind_some _ _).symm.trans H; rw [hy279]; with_reducible exact H2_) | (have H2_ := (Option.bind_some _ _).symm.trans H; with_reducible exact H2_) | with_reducible exact H | (rw [hy279]; exact H) | exact H
                         have Ny279 := Aside0.mk hy279
                         clear hy279
                         have H' := Aside0.mk H
                         clear H
                         have p276 : 0 ≤ (x34_3 : Int) := of_decide_eq_true (by first | (with_reducible assumption) | assumption)
                         have q276 : x34_3 < (l0.length : Int) := of_decide_eq_true (by first | (with_reducible assumption) | assumption)
                         obtain ⟨ad276, e276, hx276_0, hx276_1, hx276_2, hx276_3, hx276_4, hx276_5, hx276_6, hx276_7, hx276_8, hx276_9, hx276_10⟩ := at_T44 HR0.out x34_3 p276 q276
                         cases e276
                         replace hx276_0 := (HB.out.cell (World.block_lt_of_cell? w _ hx276_0)).trans hx276_0
                         replace hx276_1 := (HB.out.cell (World.block_lt_of_cell? w _ hx276_1)).trans hx276_1
                         replace hx276_2 := (HB.out.cell (World.block_lt_of_cell? w _ hx276_2)).trans hx276_2
                         replace hx276_3 := (HB.out.cell (World.block_lt_of_cell? w _ hx276_3)).trans hx276_3
                         replace hx276_4 := (HB.out.cell (World.block_lt_of_cell? w _ hx276_4)).trans hx276_4
                         replace hx276_5 := (HB.out.cell (World.block_lt_of_cell? w _ hx276_5)).trans hx276_5
                         replace hx276_6 := (HB.out.cell (World.block_lt_of_cell? w _ hx276_6)).trans hx276_6
                         replace hx276_7 := (HB.out.cell (World.block_lt_of_cell? w _ hx276_7)).trans hx276_7
                         replace hx276_8 := (HB.out.cell (World.block_lt_of_cell? w _ hx276_8)).trans hx276_8
                         replace hx276_9 := (HB.out.cell (World.block_lt_of_cell? w _ hx276_9)).trans hx276_9
                         replace hx276_10 := (HB.out.cell (World.block_lt_of_cell? w _ hx276_10)).trans hx276_10
                         replace p276 := eq_true p276
                         replace q276 := eq_true q276
                         go_wp2_with (first | ((with_reducible refine gate_dst (N := 9) rfl ?_); (try (refine gate_guard (by rfl) ?_; dsimp only)); refine Go.Last.box_store_event ?hg (N := 9) ?hd (c0 := #[.int .i64 0, .int .i64 0, .int .i64 0, .int .i64 0, .string (⟨#[]⟩ : ByteArray), .string (⟨#[]⟩ : ByteArray), .string (⟨#[]⟩ : ByteArray), .string (⟨#[]⟩ : ByteArray), .string (⟨#[]⟩ : ByteArray), .string (⟨#[]⟩ : ByteArray), .string (⟨#[]⟩ : ByteArray)]) (cs := #[.int .i64 ((rd_T44 l0 x34_3).f0), .int .i64 ((rd_T44 l0 x34_3).f1), .int .i64 ((rd_T44 l0 x34_3).f2), .int .i64 ((rd_T44 l0 x34_3).f3), .string ((rd_T44 l0 x34_3).f4), .string ((rd_T44 l0 x34_3).f5), .string ((rd_T44 l0 x34_3).f6), .string ((rd_T44 l0 x34_3).f7), .string ((rd_T44 l0 x34_3).f8), .string ((rd_T44 l0 x34_3).f9), .string ((rd_T44 l0 x34_3).f10)]) (t := 44) (P := Tryd.prog) ?hr rfl rfl (by first | (go_simp; done) | (go_simp; rfl)) (by first | (go_simp; done) | (go_simp; rfl)) (by kernel_rfl) rfl (by first | rfl | (simp [Value.oneCell']; done)) ?_; (case hd => rfl); (case hg => rfl); (case hr => first | (go_simp; done) | (go_simp; rfl)); intro gb277 hg w23 hbox hb; have n0_ := Aside0.mk (Kd.R_below (Kd.R_elderB (by (with_reducible repeat (first | apply Kd.R_alloc | apply Kd.R_drewN | apply Kd.R_drew)); exact HO_7.out) gb277 (Nat.le_of_eq hg.symm)) hb); have n1_ := Aside0.mk (below_step (by repeat (first | (with_reducible first | exact HB.out | apply below_alloc | apply pw_below_drewN | apply below_drew1) | exact HB.out)) hb); have n2_ := Aside0.mk (hbox); have n3_ := Aside0.mk ((by rw [hg]; exact (below_size (by repeat (first | (with_reducible first | exact HB.out | apply below_alloc | apply pw_below_drewN | apply below_drew1) | exact HB.out))) : w.heap.size ≤ gb277)); have n4_ := Aside0.mk ((by rw [hg]; exact (below_size (by repeat (first | (with_reducible first | exact HB.out | apply below_alloc | apply pw_below_drewN | apply below_drew1) | exact HB.out))) : w.heap.size ≤ gb277)); clear HO_7; clear HB; have HO_7 := n0_; have HB := n1_; have BK277 := n2_; have GW277 := n3_; have GE277 := n4_; clear n0_ n1_ n2_ n3_ n4_; clear hb hbox hg; have hcz24_0 : w23.cell? ⟨gb277, 0, none⟩ = some (.int .i64 ((rd_T44 l0 x34_3).f0)) := (blk_cell BK277.out 0).trans rfl; have hcz24_1 : w23.cell? ⟨gb277, 1, none⟩ = some (.int .i64 ((rd_T44 l0 x34_3).f1)) := (blk_cell BK277.out 1).trans rfl; have hcz24_2 : w23.cell? ⟨gb277, 2, none⟩ = some (.int .i64 ((rd_T44 l0 x34_3).f2)) := (blk_cell BK277.out 2).trans rfl; have hcz24_3 : w23.cell? ⟨gb277, 3, none⟩ = some (.int .i64 ((rd_T44 l0 x34_3).f3)) := (blk_cell BK277.out 3).trans rfl; have hcz24_4 : w23.cell? ⟨gb277, 4, none⟩ = some (.string ((rd_T44 l0 x34_3).f4)) := (blk_cell BK277.out 4).trans rfl; have hcz24_5 : w23.cell? ⟨gb277, 5, none⟩ = some (.string ((rd_T44 l0 x34_3).f5)) := (blk_cell BK277.out 5).trans rfl; have hcz24_6 : w23.cell? ⟨gb277, 6, none⟩ = some (.string ((rd_T44 l0 x34_3).f6)) := (blk_cell BK277.out 6).trans rfl; have hcz24_7 : w23.cell? ⟨gb277, 7, none⟩ = some (.string ((rd_T44 l0 x34_3).f7)) := (blk_cell BK277.out 7).trans rfl; have hcz24_8 : w23.cell? ⟨gb277, 8, none⟩ = some (.string ((rd_T44 l0 x34_3).f8)) := (blk_cell BK277.out 8).trans rfl; have hcz24_9 : w23.cell? ⟨gb277, 9, none⟩ = some (.string ((rd_T44 l0 x34_3).f9)) := (blk_cell BK277.out 9).trans rfl; have hcz24_10 : w23.cell? ⟨gb277, 10, none⟩ = some (.string ((rd_T44 l0 x34_3).f10)) := (blk_cell BK277.out 10).trans rfl; have hfz24_0 := blk_frozen BK277.out 0; have hfz24_1 := blk_frozen BK277.out 1; have hfz24_2 := blk_frozen BK277.out 2; have hfz24_3 := blk_frozen BK277.out 3; have hfz24_4 := blk_frozen BK277.out 4; have hfz24_5 := blk_frozen BK277.out 5; have hfz24_6 := blk_frozen BK277.out 6; have hfz24_7 := blk_frozen BK277.out 7; have hfz24_8 := blk_frozen BK277.out 8; have hfz24_9 := blk_frozen BK277.out 9; have hfz24_10 := blk_frozen BK277.out 10) | ((with_reducible refine gate_callee (f := 17) rfl ?_); refine goesL_ (some 40) rfl rfl Tryd.func17 (by kernel_rfl) rfl #[.string ((rd_T44 l0 x34_3).f5)] rfl (by (try simp only [List.map_toArray, List.map_cons, List.map_nil]); first | done | rfl | (simp only [List.length_drop, List.length_take]; rfl)) ?_; (with_reducible refine (laws_cleanPath.calls k3 ((rd_T44 l0 x34_3).f5) true _ A18.out).mono ?_); rintro e w' ⟨rfl, ⟨nd, rfl⟩⟩; refine ⟨_, rfl, ?_⟩; obtain ⟨Ao25, co25, eo25⟩ := Kd.R_slice HO_7.out; subst eo25) | ((with_reducible refine gate_builtin (b := .append) (xs := #[.tmp 51, .tmp 53]) rfl ?_); (try (refine gate_guard (by rfl) ?_; dsimp only)); at_builtin; refine Kd.R_append k44 (w0 := w) w.heap.size rfl (.tmp 51) (.tmp 53) 22 44 (.agg #[(.int .i64 0), (.int .i64 0), (.int .i64 0), (.int .i64 0), (.string ⟨#[]⟩), (.string ⟨#[]⟩), (.string ⟨#[]⟩), (.string ⟨#[]⟩), (.string ⟨#[]⟩), (.string ⟨#[]⟩), (.string ⟨#[]⟩)]) 144 rfl Tryd.underlying22 info44 rfl (by decide) (by omega) (.slice Ao25 x7_3.length co25) x7_3 (⟨(rd_T44 l0 x34_3).f0, (rd_T44 l0 x34_3).f1, (rd_T44 l0 x34_3).f2, (rd_T44 l0 x34_3).f3, (rd_T44 l0 x34_3).f4, (rd_T44 l0 x34_3).f5, (rd_T44 l0 x34_3).f6, (rd_T44 l0 x34_3).f7, (rd_T44 l0 x34_3).f8, (rd_T44 l0 x34_3).f9, (rd_T44 l0 x34_3).f10⟩ : S44) [.int .i64 ((rd_T44 l0 x34_3).f0), .int .i64 ((rd_T44 l0 x34_3).f1), .int .i64 ((rd_T44 l0 x34_3).f2), .int .i64 ((rd_T44 l0 x34_3).f3), .string ((rd_T44 l0 x34_3).f4), .string ((rd_T44 l0 x34_3).f5), .string ((rd_T44 l0 x34_3).f6), .string ((rd_T44 l0 x34_3).f7), .string ((rd_T44 l0 x34_3).f8), .string ((rd_T44 l0 x34_3).f9), .string ((rd_T44 l0 x34_3).f10)] (fun k_ => k_ ≠ gb277) (fun _ => False) rfl rfl ?aP (fun _ hk => hk.elim) ?aF ?aO ?aB ?aS ?aL ?_; (case aP => exact k44_mkM _ _ _ (⟨(rd_T44 l0 x34_3).f0, (rd_T44 l0 x34_3).f1, (rd_T44 l0 x34_3).f2, (rd_T44 l0 x34_3).f3, (rd_T44 l0 x34_3).f4, (rd_T44 l0 x34_3).f5, (rd_T44 l0 x34_3).f6, (rd_T44 l0 x34_3).f7, (rd_T44 l0 x34_3).f8, (rd_T44 l0 x34_3).f9, (rd_T44 l0 x34_3).f10⟩ : S44)); (case aB => exact (by repeat (first | (with_reducible first | exact HB.out | apply below_alloc | apply pw_below_drewN | apply below_drew1 | refine below_set ?_ GE277.out) | exact HB.out))); (case aF => exact (fun k_ hk => Kd.freshB (g := gb277) (o := .cells #[.int .i64 ((rd_T44 l0 x34_3).f0), .int .i64 ((rd_T44 l0 x34_3).f1), .int .i64 ((rd_T44 l0 x34_3).f2), .int .i64 ((rd_T44 l0 x34_3).f3), .string ((rd_T44 l0 x34_3).f4), .string ((rd_T44 l0 x34_3).f5), .string ((rd_T44 l0 x34_3).f6), .string ((rd_T44 l0 x34_3).f7), .string ((rd_T44 l0 x34_3).f8), .string ((rd_T44 l0 x34_3).f9), .string ((rd_T44 l0 x34_3).f10)] 44 (0, 0)) (by (with_reducible repeat (first | refine blk_drewN ?_ _ | refine blk_drew ?_ | refine blk_alloc ?_ _)); exact BK277.out) k_ hk)); (case aO => exact (by (with_reducible repeat (first | apply Kd.R_alloc | apply Kd.R_drewN | apply Kd.R_drew)); exact Kd.R_mono HO_7.out (fun _ hk => hk.2))); (case aS => exact (below_size (by repeat (first | (with_reducible first | exact HB.out | apply below_alloc | apply pw_below_drewN | apply below_drew1 | refine below_set ?_ GE277.out) | exact HB.out)))); (case aL => have := LMc22.out; omega); intro v280 w26 ho hb hg hat; rw [← Ny279.out] at ho; have n0_ := Aside0.mk (blk_grown (g := gb277) (o := .cells #[.int .i64 ((rd_T44 l0 x34_3).f0), .int .i64 ((rd_T44 l0 x34_3).f1), .int .i64 ((rd_T44 l0 x34_3).f2), .int .i64 ((rd_T44 l0 x34_3).f3), .string ((rd_T44 l0 x34_3).f4), .string ((rd_T44 l0 x34_3).f5), .string ((rd_T44 l0 x34_3).f6), .string ((rd_T44 l0 x34_3).f7), .string ((rd_T44 l0 x34_3).f8), .string ((rd_T44 l0 x34_3).f9), .string ((rd_T44 l0 x34_3).f10)] 44 (0, 0)) (by (with_reducible repeat (first | refine blk_drewN ?_ _ | refine blk_drew ?_ | refine blk_alloc ?_ _)); exact BK277.out) hg (Kd.R_away HO_7.out (fun _ hk => hk.2))); have n1_ := Aside0.mk (hb); have n2_ := Aside0.mk (ho); clear BK277; clear HB; clear HO_7; have BK277 := n0_; have HB := n1_; have HO281 := n2_; clear n0_ n1_ n2_; clear ho hb hg hat))
                         go_roundg k3
                         case measure => have := HJ2.out; have := HJ9.out; have := HK3.out; omega
                         case rel => exact ⟨(y279), (wrap64 (x34_3 + 1)), (by first | rfl | (simp; done) | (simp [*]; done)), H', ⟨by have := HJ2.out; have := HJ9.out; have := HK3.out; omega⟩, ⟨by (with_reducible repeat (first | apply Kd.R_alloc | apply Kd.R_drewN | apply Kd.R_drew)); exact Kd.R_mono HO281.out (fun _ hk => trivial)⟩, ⟨by repeat (first | (with_reducible first | exact HB.out | apply below_alloc | apply pw_below_drewN | apply below_drew1 | refine below_set ?_ GE277.out) | exact HB.out)⟩⟩
                       · rw [if_neg c22] at H
                         exact absurd H (by simp)
                     · rw [if_neg c21] at H
                       have c21b0 : ((x7_3.length : Int) == 0) = false := beq_eq_false_iff_ne.mpr c21
                       have c21b1 : ((x7_3.length : Int) != 0) = true := bne_iff_ne.mpr c21
                       have c21b2 : ¬ (x7_3 = []) := fun h_ => c21 (by rw [h_]; rfl)
                       have H' := Aside0.mk H
                       clear H
                       have p276 : 0 ≤ (x34_3 : Int) := of_decide_eq_true (by first | (with_reducible assumption) | assumption)
                       have q276 : x34_3 < (l0.length : Int) := of_decide_eq_true (by first | (with_reducible assumption) | assumption)
                       obtain ⟨ad276, e276, hx276_0, hx276_1, hx276_2, hx276_3, hx276_4, hx276_5, hx276_6, hx276_7, hx276_8, hx276_9, hx276_10⟩ := at_T44 HR0.out x34_3 p276 q276
                       cases e276
                       replace hx276_0 := (HB.out.cell (World.block_lt_of_cell? w _ hx276_0)).trans hx276_0
                       replace hx276_1 := (HB.out.cell (World.block_lt_of_cell? w _ hx276_1)).trans hx276_1
                       replace hx276_2 := (HB.out.cell (World.block_lt_of_cell? w _ hx276_2)).trans hx276_2
                       replace hx276_3 := (HB.out.cell (World.block_lt_of_cell? w _ hx276_3)).trans hx276_3
                       replace hx276_4 := (HB.out.cell (World.block_lt_of_cell? w _ hx276_4)).trans hx276_4
                       replace hx276_5 := (HB.out.cell (World.block_lt_of_cell? w _ hx276_5)).trans hx276_5
                       replace hx276_6 := (HB.out.cell (World.block_lt_of_cell? w _ hx276_6)).trans hx276_6
                       replace hx276_7 := (HB.out.cell (World.block_lt_of_cell? w _ hx276_7)).trans hx276_7
                       replace hx276_8 := (HB.out.cell (World.block_lt_of_cell? w _ hx276_8)).trans hx276_8
                       replace hx276_9 := (HB.out.cell (World.block_lt_of_cell? w _ hx276_9)).trans hx276_9
                       replace hx276_10 := (HB.out.cell (World.block_lt_of_cell? w _ hx276_10)).trans hx276_10
                       replace p276 := eq_true p276
                       replace q276 := eq_true q276
                       go_wp2_with (first | ((with_reducible refine gate_dst (N := 9) rfl ?_); (try (refine gate_guard (by rfl) ?_; dsimp only)); refine Go.Last.box_store_event ?hg (N := 9) ?hd (c0 := #[.int .i64 0, .int .i64 0, .int .i64 0, .int .i64 0, .string (⟨#[]⟩ : ByteArray), .string (⟨#[]⟩ : ByteArray), .string (⟨#[]⟩ : ByteArray), .string (⟨#[]⟩ : ByteArray), .string (⟨#[]⟩ : ByteArray), .string (⟨#[]⟩ : ByteArray), .string (⟨#[]⟩ : ByteArray)]) (cs := #[.int .i64 ((rd_T44 l0 x34_3).f0), .int .i64 ((rd_T44 l0 x34_3).f1), .int .i64 ((rd_T44 l0 x34_3).f2), .int .i64 ((rd_T44 l0 x34_3).f3), .string ((rd_T44 l0 x34_3).f4), .string ((rd_T44 l0 x34_3).f5), .string ((rd_T44 l0 x34_3).f6), .string ((rd_T44 l0 x34_3).f7), .string ((rd_T44 l0 x34_3).f8), .string ((rd_T44 l0 x34_3).f9), .string ((rd_T44 l0 x34_3).f10)]) (t := 44) (P := Tryd.prog) ?hr rfl rfl (by first | (go_simp; done) | (go_simp; rfl)) (by first | (go_simp; done) | (go_simp; rfl)) (by kernel_rfl) rfl (by first | rfl | (simp [Value.oneCell']; done)) ?_; (case hd => rfl); (case hg => rfl); (case hr => first | (go_simp; done) | (go_simp; rfl)); intro gb277 hg w27 hbox hb; have n0_ := Aside0.mk (Kd.R_below (Kd.R_elderB (by (with_reducible repeat (first | apply Kd.R_alloc | apply Kd.R_drewN | apply Kd.R_drew)); exact HO_7.out) gb277 (Nat.le_of_eq hg.symm)) hb); have n1_ := Aside0.mk (below_step (by repeat (first | (with_reducible first | exact HB.out | apply below_alloc | apply pw_below_drewN | apply below_drew1) | exact HB.out)) hb); have n2_ := Aside0.mk (hbox); have n3_ := Aside0.mk ((by rw [hg]; exact (below_size (by repeat (first | (with_reducible first | exact HB.out | apply below_alloc | apply pw_below_drewN | apply below_drew1) | exact HB.out))) : w.heap.size ≤ gb277)); have n4_ := Aside0.mk ((by rw [hg]; exact (below_size (by repeat (first | (with_reducible first | exact HB.out | apply below_alloc | apply pw_below_drewN | apply below_drew1) | exact HB.out))) : w.heap.size ≤ gb277)); clear HO_7; clear HB; have HO_7 := n0_; have HB := n1_; have BK277 := n2_; have GW277 := n3_; have GE277 := n4_; clear n0_ n1_ n2_ n3_ n4_; clear hb hbox hg; have hcz28_0 : w27.cell? ⟨gb277, 0, none⟩ = some (.int .i64 ((rd_T44 l0 x34_3).f0)) := (blk_cell BK277.out 0).trans rfl; have hcz28_1 : w27.cell? ⟨gb277, 1, none⟩ = some (.int .i64 ((rd_T44 l0 x34_3).f1)) := (blk_cell BK277.out 1).trans rfl; have hcz28_2 : w27.cell? ⟨gb277, 2, none⟩ = some (.int .i64 ((rd_T44 l0 x34_3).f2)) := (blk_cell BK277.out 2).trans rfl; have hcz28_3 : w27.cell? ⟨gb277, 3, none⟩ = some (.int .i64 ((rd_T44 l0 x34_3).f3)) := (blk_cell BK277.out 3).trans rfl; have hcz28_4 : w27.cell? ⟨gb277, 4, none⟩ = some (.string ((rd_T44 l0 x34_3).f4)) := (blk_cell BK277.out 4).trans rfl; have hcz28_5 : w27.cell? ⟨gb277, 5, none⟩ = some (.string ((rd_T44 l0 x34_3).f5)) := (blk_cell BK277.out 5).trans rfl; have hcz28_6 : w27.cell? ⟨gb277, 6, none⟩ = some (.string ((rd_T44 l0 x34_3).f6)) := (blk_cell BK277.out 6).trans rfl; have hcz28_7 : w27.cell? ⟨gb277, 7, none⟩ = some (.string ((rd_T44 l0 x34_3).f7)) := (blk_cell BK277.out 7).trans rfl; have hcz28_8 : w27.cell? ⟨gb277, 8, none⟩ = some (.string ((rd_T44 l0 x34_3).f8)) := (blk_cell BK277.out 8).trans rfl; have hcz28_9 : w27.cell? ⟨gb277, 9, none⟩ = some (.string ((rd_T44 l0 x34_3).f9)) := (blk_cell BK277.out 9).trans rfl; have hcz28_10 : w27.cell? ⟨gb277, 10, none⟩ = some (.string ((rd_T44 l0 x34_3).f10)) := (blk_cell BK277.out 10).trans rfl; have hfz28_0 := blk_frozen BK277.out 0; have hfz28_1 := blk_frozen BK277.out 1; have hfz28_2 := blk_frozen BK277.out 2; have hfz28_3 := blk_frozen BK277.out 3; have hfz28_4 := blk_frozen BK277.out 4; have hfz28_5 := blk_frozen BK277.out 5; have hfz28_6 := blk_frozen BK277.out 6; have hfz28_7 := blk_frozen BK277.out 7; have hfz28_8 := blk_frozen BK277.out 8; have hfz28_9 := blk_frozen BK277.out 9; have hfz28_10 := blk_frozen BK277.out 10) | ((with_reducible refine gate_callee (f := 17) rfl ?_); refine goesL_ (some 40) rfl rfl Tryd.func17 (by kernel_rfl) rfl #[.string ((rd_T44 l0 x34_3).f5)] rfl (by (try simp only [List.map_toArray, List.map_cons, List.map_nil]); first | done | rfl | (simp only [List.length_drop, List.length_take]; rfl)) ?_; (with_reducible refine (laws_cleanPath.calls k3 ((rd_T44 l0 x34_3).f5) true _ A18.out).mono ?_); rintro e w' ⟨rfl, ⟨nd, rfl⟩⟩; refine ⟨_, rfl, ?_⟩; obtain ⟨Ao29, co29, eo29⟩ := Kd.R_slice HO_7.out; subst eo29))
                       go_roundg k3
                       case measure => have := HJ2.out; have := HJ9.out; have := HK3.out; omega
                       case rel => exact ⟨(x7_3), (wrap64 (x34_3 + 1)), (by first | rfl | (simp; done) | (simp [*]; done)), H', ⟨by have := HJ2.out; have := HJ9.out; have := HK3.out; omega⟩, ⟨by (with_reducible repeat (first | apply Kd.R_alloc | apply Kd.R_drewN | apply Kd.R_drew)); exact Kd.R_mono HO_7.out (fun _ hk => trivial)⟩, ⟨by repeat (first | (with_reducible first | exact HB.out | apply below_alloc | apply pw_below_drewN | apply below_drew1 | refine below_set ?_ GE277.out) | exact HB.out)⟩⟩
                   · rw [if_neg c20] at H
                     have c20b0 : (((rd_T44 l0 x34_3).f5).toList == a1.toList) = false := beq_eq_false_iff_ne.mpr c20
                     have c20b1 : (((rd_T44 l0 x34_3).f5).toList != a1.toList) = true := bne_iff_ne.mpr c20
                     have H' := Aside0.mk H
                     clear H
                     have p276 : 0 ≤ (x34_3 : Int) := of_decide_eq_true (by first | (with_reducible assumption) | assumption)
                     have q276 : x34_3 < (l0.length : Int) := of_decide_eq_true (by first | (with_reducible assumption) | assumption)
                     obtain ⟨ad276, e276, hx276_0, hx276_1, hx276_2, hx276_3, hx276_4, hx276_5, hx276_6, hx276_7, hx276_8, hx276_9, hx276_10⟩ := at_T44 HR0.out x34_3 p276 q276
                     cases e276
                     replace hx276_0 := (HB.out.cell (World.block_lt_of_cell? w _ hx276_0)).trans hx276_0
                     replace hx276_1 := (HB.out.cell (World.block_lt_of_cell? w _ hx276_1)).trans hx276_1
                     replace hx276_2 := (HB.out.cell (World.block_lt_of_cell? w _ hx276_2)).trans hx276_2
                     replace hx276_3 := (HB.out.cell (World.block_lt_of_cell? w _ hx276_3)).trans hx276_3
                     replace hx276_4 := (HB.out.cell (World.block_lt_of_cell? w _ hx276_4)).trans hx276_4
                     replace hx276_5 := (HB.out.cell (World.block_lt_of_cell? w _ hx276_5)).trans hx276_5
                     replace hx276_6 := (HB.out.cell (World.block_lt_of_cell? w _ hx276_6)).trans hx276_6
                     replace hx276_7 := (HB.out.cell (World.block_lt_of_cell? w _ hx276_7)).trans hx276_7
                     replace hx276_8 := (HB.out.cell (World.block_lt_of_cell? w _ hx276_8)).trans hx276_8
                     replace hx276_9 := (HB.out.cell (World.block_lt_of_cell? w _ hx276_9)).trans hx276_9
                     replace hx276_10 := (HB.out.cell (World.block_lt_of_cell? w _ hx276_10)).trans hx276_10
                     replace p276 := eq_true p276
                     replace q276 := eq_true q276
                     go_wp2_with (first | ((with_reducible refine gate_dst (N := 9) rfl ?_); (try (refine gate_guard (by rfl) ?_; dsimp only)); refine Go.Last.box_store_event ?hg (N := 9) ?hd (c0 := #[.int .i64 0, .int .i64 0, .int .i64 0, .int .i64 0, .string (⟨#[]⟩ : ByteArray), .string (⟨#[]⟩ : ByteArray), .string (⟨#[]⟩ : ByteArray), .string (⟨#[]⟩ : ByteArray), .string (⟨#[]⟩ : ByteArray), .string (⟨#[]⟩ : ByteArray), .string (⟨#[]⟩ : ByteArray)]) (cs := #[.int .i64 ((rd_T44 l0 x34_3).f0), .int .i64 ((rd_T44 l0 x34_3).f1), .int .i64 ((rd_T44 l0 x34_3).f2), .int .i64 ((rd_T44 l0 x34_3).f3), .string ((rd_T44 l0 x34_3).f4), .string ((rd_T44 l0 x34_3).f5), .string ((rd_T44 l0 x34_3).f6), .string ((rd_T44 l0 x34_3).f7), .string ((rd_T44 l0 x34_3).f8), .string ((rd_T44 l0 x34_3).f9), .string ((rd_T44 l0 x34_3).f10)]) (t := 44) (P := Tryd.prog) ?hr rfl rfl (by first | (go_simp; done) | (go_simp; rfl)) (by first | (go_simp; done) | (go_simp; rfl)) (by kernel_rfl) rfl (by first | rfl | (simp [Value.oneCell']; done)) ?_; (case hd => rfl); (case hg => rfl); (case hr => first | (go_simp; done) | (go_simp; rfl)); intro gb277 hg w30 hbox hb; have n0_ := Aside0.mk (Kd.R_below (Kd.R_elderB (by (with_reducible repeat (first | apply Kd.R_alloc | apply Kd.R_drewN | apply Kd.R_drew)); exact HO_7.out) gb277 (Nat.le_of_eq hg.symm)) hb); have n1_ := Aside0.mk (below_step (by repeat (first | (with_reducible first | exact HB.out | apply below_alloc | apply pw_below_drewN | apply below_drew1) | exact HB.out)) hb); have n2_ := Aside0.mk (hbox); have n3_ := Aside0.mk ((by rw [hg]; exact (below_size (by repeat (first | (with_reducible first | exact HB.out | apply below_alloc | apply pw_below_drewN | apply below_drew1) | exact HB.out))) : w.heap.size ≤ gb277)); have n4_ := Aside0.mk ((by rw [hg]; exact (below_size (by repeat (first | (with_reducible first | exact HB.out | apply below_alloc | apply pw_below_drewN | apply below_drew1) | exact HB.out))) : w.heap.size ≤ gb277)); clear HO_7; clear HB; have HO_7 := n0_; have HB := n1_; have BK277 := n2_; have GW277 := n3_; have GE277 := n4_; clear n0_ n1_ n2_ n3_ n4_; clear hb hbox hg; have hcz31_0 : w30.cell? ⟨gb277, 0, none⟩ = some (.int .i64 ((rd_T44 l0 x34_3).f0)) := (blk_cell BK277.out 0).trans rfl; have hcz31_1 : w30.cell? ⟨gb277, 1, none⟩ = some (.int .i64 ((rd_T44 l0 x34_3).f1)) := (blk_cell BK277.out 1).trans rfl; have hcz31_2 : w30.cell? ⟨gb277, 2, none⟩ = some (.int .i64 ((rd_T44 l0 x34_3).f2)) := (blk_cell BK277.out 2).trans rfl; have hcz31_3 : w30.cell? ⟨gb277, 3, none⟩ = some (.int .i64 ((rd_T44 l0 x34_3).f3)) := (blk_cell BK277.out 3).trans rfl; have hcz31_4 : w30.cell? ⟨gb277, 4, none⟩ = some (.string ((rd_T44 l0 x34_3).f4)) := (blk_cell BK277.out 4).trans rfl; have hcz31_5 : w30.cell? ⟨gb277, 5, none⟩ = some (.string ((rd_T44 l0 x34_3).f5)) := (blk_cell BK277.out 5).trans rfl; have hcz31_6 : w30.cell? ⟨gb277, 6, none⟩ = some (.string ((rd_T44 l0 x34_3).f6)) := (blk_cell BK277.out 6).trans rfl; have hcz31_7 : w30.cell? ⟨gb277, 7, none⟩ = some (.string ((rd_T44 l0 x34_3).f7)) := (blk_cell BK277.out 7).trans rfl; have hcz31_8 : w30.cell? ⟨gb277, 8, none⟩ = some (.string ((rd_T44 l0 x34_3).f8)) := (blk_cell BK277.out 8).trans rfl; have hcz31_9 : w30.cell? ⟨gb277, 9, none⟩ = some (.string ((rd_T44 l0 x34_3).f9)) := (blk_cell BK277.out 9).trans rfl; have hcz31_10 : w30.cell? ⟨gb277, 10, none⟩ = some (.string ((rd_T44 l0 x34_3).f10)) := (blk_cell BK277.out 10).trans rfl; have hfz31_0 := blk_frozen BK277.out 0; have hfz31_1 := blk_frozen BK277.out 1; have hfz31_2 := blk_frozen BK277.out 2; have hfz31_3 := blk_frozen BK277.out 3; have hfz31_4 := blk_frozen BK277.out 4; have hfz31_5 := blk_frozen BK277.out 5; have hfz31_6 := blk_frozen BK277.out 6; have hfz31_7 := blk_frozen BK277.out 7; have hfz31_8 := blk_frozen BK277.out 8; have hfz31_9 := blk_frozen BK277.out 9; have hfz31_10 := blk_frozen BK277.out 10) | ((with_reducible refine gate_callee (f := 17) rfl ?_); refine goesL_ (some 40) rfl rfl Tryd.func17 (by kernel_rfl) rfl #[.string ((rd_T44 l0 x34_3).f5)] rfl (by (try simp only [List.map_toArray, List.map_cons, List.map_nil]); first | done | rfl | (simp only [List.length_drop, List.length_take]; rfl)) ?_; (with_reducible refine (laws_cleanPath.calls k3 ((rd_T44 l0 x34_3).f5) true _ A18.out).mono ?_); rintro e w' ⟨rfl, ⟨nd, rfl⟩⟩; refine ⟨_, rfl, ?_⟩))
                     go_roundg k3
                     case measure => have := HJ2.out; have := HJ9.out; have := HK3.out; omega
                     case rel => exact ⟨(x7_3), (wrap64 (x34_3 + 1)), (by first | rfl | (simp; done) | (simp [*]; done)), H', ⟨by have := HJ2.out; have := HJ9.out; have := HK3.out; omega⟩, ⟨by (with_reducible repeat (first | apply Kd.R_alloc | apply Kd.R_drewN | apply Kd.R_drew)); exact Kd.R_mono HO_7.out (fun _ hk => trivial)⟩, ⟨by repeat (first | (with_reducible first | exact HB.out | apply below_alloc | apply pw_below_drewN | apply below_drew1 | refine below_set ?_ GE277.out) | exact HB.out)⟩⟩
                 · replace c19 := Bool.eq_false_iff.mpr c19
                   subst c19
                   have H1 : (some true) = some r := by rw [if_neg (show ¬ (false = true) by decide)] at H; exact H
                   clear H
                   have H := H1
                   clear H1
                   obtain rfl := Option.some.inj H
                   have p276 : 0 ≤ (x34_3 : Int) := of_decide_eq_true (by first | (with_reducible assumption) | assumption)
                   have q276 : x34_3 < (l0.length : Int) := of_decide_eq_true (by first | (with_reducible assumption) | assumption)
                   obtain ⟨ad276, e276, hx276_0, hx276_1, hx276_2, hx276_3, hx276_4, hx276_5, hx276_6, hx276_7, hx276_8, hx276_9, hx276_10⟩ := at_T44 HR0.out x34_3 p276 q276
                   cases e276
                   replace hx276_0 := (HB.out.cell (World.block_lt_of_cell? w _ hx276_0)).trans hx276_0
                   replace hx276_1 := (HB.out.cell (World.block_lt_of_cell? w _ hx276_1)).trans hx276_1
                   replace hx276_2 := (HB.out.cell (World.block_lt_of_cell? w _ hx276_2)).trans hx276_2
                   replace hx276_3 := (HB.out.cell (World.block_lt_of_cell? w _ hx276_3)).trans hx276_3
                   replace hx276_4 := (HB.out.cell (World.block_lt_of_cell? w _ hx276_4)).trans hx276_4
                   replace hx276_5 := (HB.out.cell (World.block_lt_of_cell? w _ hx276_5)).trans hx276_5
                   replace hx276_6 := (HB.out.cell (World.block_lt_of_cell? w _ hx276_6)).trans hx276_6
                   replace hx276_7 := (HB.out.cell (World.block_lt_of_cell? w _ hx276_7)).trans hx276_7
                   replace hx276_8 := (HB.out.cell (World.block_lt_of_cell? w _ hx276_8)).trans hx276_8
                   replace hx276_9 := (HB.out.cell (World.block_lt_of_cell? w _ hx276_9)).trans hx276_9
                   replace hx276_10 := (HB.out.cell (World.block_lt_of_cell? w _ hx276_10)).trans hx276_10
                   replace p276 := eq_true p276
                   replace q276 := eq_true q276
                   go_wp2_with (first | ((with_reducible refine gate_dst (N := 9) rfl ?_); (try (refine gate_guard (by rfl) ?_; dsimp only)); refine Go.Last.box_store_event ?hg (N := 9) ?hd (c0 := #[.int .i64 0, .int .i64 0, .int .i64 0, .int .i64 0, .string (⟨#[]⟩ : ByteArray), .string (⟨#[]⟩ : ByteArray), .string (⟨#[]⟩ : ByteArray), .string (⟨#[]⟩ : ByteArray), .string (⟨#[]⟩ : ByteArray), .string (⟨#[]⟩ : ByteArray), .string (⟨#[]⟩ : ByteArray)]) (cs := #[.int .i64 ((rd_T44 l0 x34_3).f0), .int .i64 ((rd_T44 l0 x34_3).f1), .int .i64 ((rd_T44 l0 x34_3).f2), .int .i64 ((rd_T44 l0 x34_3).f3), .string ((rd_T44 l0 x34_3).f4), .string ((rd_T44 l0 x34_3).f5), .string ((rd_T44 l0 x34_3).f6), .string ((rd_T44 l0 x34_3).f7), .string ((rd_T44 l0 x34_3).f8), .string ((rd_T44 l0 x34_3).f9), .string ((rd_T44 l0 x34_3).f10)]) (t := 44) (P := Tryd.prog) ?hr rfl rfl (by first | (go_simp; done) | (go_simp; rfl)) (by first | (go_simp; done) | (go_simp; rfl)) (by kernel_rfl) rfl (by first | rfl | (simp [Value.oneCell']; done)) ?_; (case hd => rfl); (case hg => rfl); (case hr => first | (go_simp; done) | (go_simp; rfl)); intro gb277 hg w32 hbox hb; have n0_ := Aside0.mk (Kd.R_below (Kd.R_elderB (by (with_reducible repeat (first | apply Kd.R_alloc | apply Kd.R_drewN | apply Kd.R_drew)); exact HO_7.out) gb277 (Nat.le_of_eq hg.symm)) hb); have n1_ := Aside0.mk (below_step (by repeat (first | (with_reducible first | exact HB.out | apply below_alloc | apply pw_below_drewN | apply below_drew1) | exact HB.out)) hb); have n2_ := Aside0.mk (hbox); have n3_ := Aside0.mk ((by rw [hg]; exact (below_size (by repeat (first | (with_reducible first | exact HB.out | apply below_alloc | apply pw_below_drewN | apply below_drew1) | exact HB.out))) : w.heap.size ≤ gb277)); have n4_ := Aside0.mk ((by rw [hg]; exact (below_size (by repeat (first | (with_reducible first | exact HB.out | apply below_alloc | apply pw_below_drewN | apply below_drew1) | exact HB.out))) : w.heap.size ≤ gb277)); clear HO_7; clear HB; have HO_7 := n0_; have HB := n1_; have BK277 := n2_; have GW277 := n3_; have GE277 := n4_; clear n0_ n1_ n2_ n3_ n4_; clear hb hbox hg; have hcz33_0 : w32.cell? ⟨gb277, 0, none⟩ = some (.int .i64 ((rd_T44 l0 x34_3).f0)) := (blk_cell BK277.out 0).trans rfl; have hcz33_1 : w32.cell? ⟨gb277, 1, none⟩ = some (.int .i64 ((rd_T44 l0 x34_3).f1)) := (blk_cell BK277.out 1).trans rfl; have hcz33_2 : w32.cell? ⟨gb277, 2, none⟩ = some (.int .i64 ((rd_T44 l0 x34_3).f2)) := (blk_cell BK277.out 2).trans rfl; have hcz33_3 : w32.cell? ⟨gb277, 3, none⟩ = some (.int .i64 ((rd_T44 l0 x34_3).f3)) := (blk_cell BK277.out 3).trans rfl; have hcz33_4 : w32.cell? ⟨gb277, 4, none⟩ = some (.string ((rd_T44 l0 x34_3).f4)) := (blk_cell BK277.out 4).trans rfl; have hcz33_5 : w32.cell? ⟨gb277, 5, none⟩ = some (.string ((rd_T44 l0 x34_3).f5)) := (blk_cell BK277.out 5).trans rfl; have hcz33_6 : w32.cell? ⟨gb277, 6, none⟩ = some (.string ((rd_T44 l0 x34_3).f6)) := (blk_cell BK277.out 6).trans rfl; have hcz33_7 : w32.cell? ⟨gb277, 7, none⟩ = some (.string ((rd_T44 l0 x34_3).f7)) := (blk_cell BK277.out 7).trans rfl; have hcz33_8 : w32.cell? ⟨gb277, 8, none⟩ = some (.string ((rd_T44 l0 x34_3).f8)) := (blk_cell BK277.out 8).trans rfl; have hcz33_9 : w32.cell? ⟨gb277, 9, none⟩ = some (.string ((rd_T44 l0 x34_3).f9)) := (blk_cell BK277.out 9).trans rfl; have hcz33_10 : w32.cell? ⟨gb277, 10, none⟩ = some (.string ((rd_T44 l0 x34_3).f10)) := (blk_cell BK277.out 10).trans rfl; have hfz33_0 := blk_frozen BK277.out 0; have hfz33_1 := blk_frozen BK277.out 1; have hfz33_2 := blk_frozen BK277.out 2; have hfz33_3 := blk_frozen BK277.out 3; have hfz33_4 := blk_frozen BK277.out 4; have hfz33_5 := blk_frozen BK277.out 5; have hfz33_6 := blk_frozen BK277.out 6; have hfz33_7 := blk_frozen BK277.out 7; have hfz33_8 := blk_frozen BK277.out 8; have hfz33_9 := blk_frozen BK277.out 9; have hfz33_10 := blk_frozen BK277.out 10) | ((with_reducible refine gate_callee (f := 17) rfl ?_); refine goesL_ (some 40) rfl rfl Tryd.func17 (by kernel_rfl) rfl #[.string ((rd_T44 l0 x34_3).f5)] rfl (by (try simp only [List.map_toArray, List.map_cons, List.map_nil]); first | done | rfl | (simp only [List.length_drop, List.length_take]; rfl)) ?_; (with_reducible refine (laws_cleanPath.calls k3 ((rd_T44 l0 x34_3).f5) false _ A18.out).mono ?_); rintro e w' ⟨rfl, ⟨nd, rfl⟩⟩; refine ⟨_, rfl, ?_⟩))
                   go_ret
                   exact ⟨by first | rfl | (simp [errW_none, errW_some] <;> rfl) | (simp [*, errW_none, errW_some] <;> rfl), by repeat (first | (with_reducible first | exact HB.out | apply below_alloc | apply pw_below_drewN | apply below_drew1 | refine below_set ?_ GE277.out) | exact HB.out)⟩
               · rw [if_neg c17] at H
                 exact absurd H (by simp)
             · rw [if_neg c16] at H
               exact absurd H (by simp)
           · rw [if_neg c15] at H
             have c15b0 : decide (x34_3 < (l0.length : Int)) = false := decide_eq_false c15
             clear c15
             obtain ⟨y267, hy267⟩ : ∃ y_ : List ByteArray, y_ = (([a1] : List ByteArray)) := ⟨_, rfl⟩
             replace H : ((impl_Mounts.f t264 4 y267).bind fun bt270 => (if bt270.2 = 0 then ((laws_sameMounts.f k3 bt270.1 x7_3).bind fun t274 => (if t274 = true then ((laws_mounts.f).bind fun t275 => (some t275)) else (some false))) else (some false))) = some r := by first | (rw [hy267]; with_reducible exact H) | (have H2_ := (Option.bind_some _ _).symm.trans H; rw [hy267]; with_reducible exact H2_) | (have H2_ := (Option.bind_some _ _).symm.trans H; with_reducible exact H2_) | with_reducible exact H | (rw [hy267]; exact H) | exact H
             have Ny267 := Aside0.mk hy267
             clear hy267
             replace H := Option.bind_eq_some_iff.mp H
             obtain ⟨⟨t270, t273⟩, A340, H⟩ := H
             replace H : (if t273 = 0 then ((laws_sameMounts.f k3 t270 x7_3).bind fun t274 => (if t274 = true then ((laws_mounts.f).bind fun t275 => (some t275)) else (some false))) else (some false)) = some r := H
             have A34 := Aside0.mk A340
             clear A340
             by_cases c35 : t273 = 0
             · rw [if_pos c35] at H
               have c35b0 : (t273 == 0) = true := beq_iff_eq.mpr c35
               have c35b1 : (t273 != 0) = false := bne_eq_false_iff_eq.mpr c35
               clear c35
               replace H := Option.bind_eq_some_iff.mp H
               obtain ⟨t274, A360, H⟩ := H
               replace H : (if t274 = true then ((laws_mounts.f).bind fun t275 => (some t275)) else (some false)) = some r := H
               have A36 := Aside0.mk A360
               clear A360
               by_cases c37 : t274 = true
               · subst c37
                 have H1 : ((laws_mounts.f).bind fun t275 => (some t275)) = some r := by rw [if_pos rfl] at H; exact H
                 clear H
                 have H := H1
                 clear H1
                 replace H := Option.bind_eq_some_iff.mp H
                 obtain ⟨t275, A380, H⟩ := H
                 replace H : (some t275) = some r := H
                 have A38 := Aside0.mk A380
                 clear A380
                 obtain rfl := Option.some.inj H
                 go_wp2_with (first | ((with_reducible refine gate_dst (N := 59) rfl ?_); (try (refine gate_guard (by rfl) ?_; dsimp only)); refine Kd.R_lit Kd.string _ 9 ?hg (N := 59) ?hd (xs := ([a1] : List ByteArray)) (inner := [.string a1]) (ok := fun _ => True) (okp := fun _ => True) ?hr ?hp (fun _ hk => hk) trivial (Below.refl _ _) (Nat.le_refl _) (by simp) ?_; (case hd => rfl); (case hg => rfl); (case hr => first | (go_simp; done) | (go_simp; rfl)); (case hp => exact (Reps.one (show Kd.M Kd.string _ _ _ a1 [.string a1] from rfl) (Reps.none _ _))); intro v268 w39 ho40 hb hg_ hnew_; clear hg_ hnew_; (first | rw [← Ny267.out] at ho40 | (simp only [Int.reduceToNat] at ho40; rw [← Ny267.out] at ho40)); have n0_ := Aside0.mk (Kd.R_below (by (with_reducible repeat (first | apply Kd.R_alloc | apply Kd.R_drewN | apply Kd.R_drew)); exact HO_7.out) hb); have n1_ := Aside0.mk (Kd.R_lower ho40 (below_size (by repeat (first | (with_reducible first | exact HB.out | apply below_alloc | apply pw_below_drewN | apply below_drew1) | exact HB.out)))); have n2_ := Aside0.mk (below_step (by repeat (first | (with_reducible first | exact HB.out | apply below_alloc | apply pw_below_drewN | apply below_drew1) | exact HB.out)) hb); clear HO_7; clear HB; have HO_7 := n0_; have HO269 := n1_; have HB := n2_; clear n0_ n1_ n2_; clear hb ho40; obtain ⟨Ao41, co41, eo41⟩ := Kd.R_slice HO269.out; subst eo41) | ((with_reducible refine gate_callee (f := 9) rfl ?_); refine goesL_ (some 61) rfl rfl Tryd.func9 (by kernel_rfl) rfl #[.string t264, .agg #[.int .i64 4, .slice Ao41 y267.length co41]] rfl (by (try simp only [List.map_toArray, List.map_cons, List.map_nil]); first | done | rfl | (simp only [List.length_drop, List.length_take]; rfl)) ?_; (with_reducible refine (impl_Mounts.calls t264 4 _ _ y267 t270 t273 _ ?side1 ?side2 A34.out).mono ?_); (case side1 => repeat (first | exact (Kd.R_reads' HO269.out).2.2 | (with_reducible refine Kd.C_alloc ?_ _) | (with_reducible refine Kd.C_drewN ?_ _) | (with_reducible refine Kd.C_drew ?_))); (case side2 => exact (Kd.R_reads' HO269.out).2.1); rintro e w42 ⟨v271, rfl, ho0, hb⟩; refine ⟨_, rfl, ?_⟩; have n0_ := Aside0.mk (Kd.R_elder' (by (with_reducible repeat (first | apply Kd.R_alloc | apply Kd.R_drewN | apply Kd.R_drew)); exact HO_7.out) (Kd.R_base ho0) hb); have n1_ := Aside0.mk (Kd.R_below (by (with_reducible repeat (first | apply Kd.R_alloc | apply Kd.R_drewN | apply Kd.R_drew)); exact HO269.out) hb); have n2_ := Aside0.mk (Kd.R_lower (Kd.R_new' ho0 (Kd.R_lt (by (with_reducible repeat (first | apply Kd.R_alloc | apply Kd.R_drewN | apply Kd.R_drew)); exact HO_7.out))) (below_size (by repeat (first | (with_reducible first | exact HB.out | apply below_alloc | apply pw_below_drewN | apply below_drew1) | exact HB.out)))); have n3_ := Aside0.mk (below_step (by repeat (first | (with_reducible first | exact HB.out | apply below_alloc | apply pw_below_drewN | apply below_drew1) | exact HB.out)) hb); clear HO_7; clear HO269; clear HB; have HO_7 := n0_; have HO269 := n1_; have HO272 := n2_; have HB := n3_; clear n0_ n1_ n2_ n3_; (try clear hb); (try clear hb2); (try clear hk); (try clear hi); (try clear ho0); obtain ⟨Ao43, co43, eo43⟩ := Kd.R_slice HO272.out; subst eo43; obtain ⟨Ao44, co44, eo44⟩ := Kd.R_slice HO_7.out; subst eo44) | (go_at_call 11; (with_reducible refine (laws_sameMounts.calls k3 _ _ t270 _ _ x7_3 true _ ?side1 ?side2 ?side3 ?side4 A36.out).mono ?_); (case side1 => repeat (first | exact (Kd.R_reads' HO272.out).2.2 | (with_reducible refine Kd.C_alloc ?_ _) | (with_reducible refine Kd.C_drewN ?_ _) | (with_reducible refine Kd.C_drew ?_))); (case side2 => exact (Kd.R_reads' HO272.out).2.1); (case side3 => repeat (first | exact (Kd.R_reads' HO_7.out).2.2 | (with_reducible refine Kd.C_alloc ?_ _) | (with_reducible refine Kd.C_drewN ?_ _) | (with_reducible refine Kd.C_drew ?_))); (case side4 => exact (Kd.R_reads' HO_7.out).2.1); rintro e w' ⟨rfl, ⟨nd, rfl⟩⟩) | (go_at_call 12; (with_reducible refine (laws_mounts.calls  t275 _ A38.out).mono ?_); rintro e w45 ⟨rfl, hb⟩; have n0_ := Aside0.mk (Kd.R_below (by (with_reducible repeat (first | apply Kd.R_alloc | apply Kd.R_drewN | apply Kd.R_drew)); exact HO_7.out) hb); have n1_ := Aside0.mk (Kd.R_below (by (with_reducible repeat (first | apply Kd.R_alloc | apply Kd.R_drewN | apply Kd.R_drew)); exact HO269.out) hb); have n2_ := Aside0.mk (Kd.R_below (by (with_reducible repeat (first | apply Kd.R_alloc | apply Kd.R_drewN | apply Kd.R_drew)); exact HO272.out) hb); have n3_ := Aside0.mk (below_step (by repeat (first | (with_reducible first | exact HB.out | apply below_alloc | apply pw_below_drewN | apply below_drew1) | exact HB.out)) hb); clear HO_7; clear HO269; clear HO272; clear HB; have HO_7 := n0_; have HO269 := n1_; have HO272 := n2_; have HB := n3_; clear n0_ n1_ n2_ n3_; (try clear hb); (try clear hb2); (try clear hk); (try clear hi)))
                 go_ret
                 exact ⟨by first | rfl | (simp [errW_none, errW_some] <;> rfl) | (simp [*, errW_none, errW_some] <;> rfl), by repeat (first | (with_reducible first | exact HB.out | apply below_alloc | apply pw_below_drewN | apply below_drew1) | exact HB.out)⟩
               · replace c37 := Bool.eq_false_iff.mpr c37
                 subst c37
                 have H1 : (some false) = some r := by rw [if_neg (show ¬ (false = true) by decide)] at H; exact H
                 clear H
                 have H := H1
                 clear H1
                 obtain rfl := Option.some.inj H
                 go_wp2_with (first | ((with_reducible refine gate_dst (N := 59) rfl ?_); (try (refine gate_guard (by rfl) ?_; dsimp only)); refine Kd.R_lit Kd.string _ 9 ?hg (N := 59) ?hd (xs := ([a1] : List ByteArray)) (inner := [.string a1]) (ok := fun _ => True) (okp := fun _ => True) ?hr ?hp (fun _ hk => hk) trivial (Below.refl _ _) (Nat.le_refl _) (by simp) ?_; (case hd => rfl); (case hg => rfl); (case hr => first | (go_simp; done) | (go_simp; rfl)); (case hp => exact (Reps.one (show Kd.M Kd.string _ _ _ a1 [.string a1] from rfl) (Reps.none _ _))); intro v268 w46 ho47 hb hg_ hnew_; clear hg_ hnew_; (first | rw [← Ny267.out] at ho47 | (simp only [Int.reduceToNat] at ho47; rw [← Ny267.out] at ho47)); have n0_ := Aside0.mk (Kd.R_below (by (with_reducible repeat (first | apply Kd.R_alloc | apply Kd.R_drewN | apply Kd.R_drew)); exact HO_7.out) hb); have n1_ := Aside0.mk (Kd.R_lower ho47 (below_size (by repeat (first | (with_reducible first | exact HB.out | apply below_alloc | apply pw_below_drewN | apply below_drew1) | exact HB.out)))); have n2_ := Aside0.mk (below_step (by repeat (first | (with_reducible first | exact HB.out | apply below_alloc | apply pw_below_drewN | apply below_drew1) | exact HB.out)) hb); clear HO_7; clear HB; have HO_7 := n0_; have HO269 := n1_; have HB := n2_; clear n0_ n1_ n2_; clear hb ho47; obtain ⟨Ao48, co48, eo48⟩ := Kd.R_slice HO269.out; subst eo48) | ((with_reducible refine gate_callee (f := 9) rfl ?_); refine goesL_ (some 61) rfl rfl Tryd.func9 (by kernel_rfl) rfl #[.string t264, .agg #[.int .i64 4, .slice Ao48 y267.length co48]] rfl (by (try simp only [List.map_toArray, List.map_cons, List.map_nil]); first | done | rfl | (simp only [List.length_drop, List.length_take]; rfl)) ?_; (with_reducible refine (impl_Mounts.calls t264 4 _ _ y267 t270 t273 _ ?side1 ?side2 A34.out).mono ?_); (case side1 => repeat (first | exact (Kd.R_reads' HO269.out).2.2 | (with_reducible refine Kd.C_alloc ?_ _) | (with_reducible refine Kd.C_drewN ?_ _) | (with_reducible refine Kd.C_drew ?_))); (case side2 => exact (Kd.R_reads' HO269.out).2.1); rintro e w49 ⟨v271, rfl, ho0, hb⟩; refine ⟨_, rfl, ?_⟩; have n0_ := Aside0.mk (Kd.R_elder' (by (with_reducible repeat (first | apply Kd.R_alloc | apply Kd.R_drewN | apply Kd.R_drew)); exact HO_7.out) (Kd.R_base ho0) hb); have n1_ := Aside0.mk (Kd.R_below (by (with_reducible repeat (first | apply Kd.R_alloc | apply Kd.R_drewN | apply Kd.R_drew)); exact HO269.out) hb); have n2_ := Aside0.mk (Kd.R_lower (Kd.R_new' ho0 (Kd.R_lt (by (with_reducible repeat (first | apply Kd.R_alloc | apply Kd.R_drewN | apply Kd.R_drew)); exact HO_7.out))) (below_size (by repeat (first | (with_reducible first | exact HB.out | apply below_alloc | apply pw_below_drewN | apply below_drew1) | exact HB.out)))); have n3_ := Aside0.mk (below_step (by repeat (first | (with_reducible first | exact HB.out | apply below_alloc | apply pw_below_drewN | apply below_drew1) | exact HB.out)) hb); clear HO_7; clear HO269; clear HB; have HO_7 := n0_; have HO269 := n1_; have HO272 := n2_; have HB := n3_; clear n0_ n1_ n2_ n3_; (try clear hb); (try clear hb2); (try clear hk); (try clear hi); (try clear ho0); obtain ⟨Ao50, co50, eo50⟩ := Kd.R_slice HO272.out; subst eo50; obtain ⟨Ao51, co51, eo51⟩ := Kd.R_slice HO_7.out; subst eo51) | (go_at_call 11; (with_reducible refine (laws_sameMounts.calls k3 _ _ t270 _ _ x7_3 false _ ?side1 ?side2 ?side3 ?side4 A36.out).mono ?_); (case side1 => repeat (first | exact (Kd.R_reads' HO272.out).2.2 | (with_reducible refine Kd.C_alloc ?_ _) | (with_reducible refine Kd.C_drewN ?_ _) | (with_reducible refine Kd.C_drew ?_))); (case side2 => exact (Kd.R_reads' HO272.out).2.1); (case side3 => repeat (first | exact (Kd.R_reads' HO_7.out).2.2 | (with_reducible refine Kd.C_alloc ?_ _) | (with_reducible refine Kd.C_drewN ?_ _) | (with_reducible refine Kd.C_drew ?_))); (case side4 => exact (Kd.R_reads' HO_7.out).2.1); rintro e w' ⟨rfl, ⟨nd, rfl⟩⟩))
                 go_ret
                 exact ⟨by first | rfl | (simp [errW_none, errW_some] <;> rfl) | (simp [*, errW_none, errW_some] <;> rfl), by repeat (first | (with_reducible first | exact HB.out | apply below_alloc | apply pw_below_drewN | apply below_drew1) | exact HB.out)⟩
             · rw [if_neg c35] at H
               have c35b0 : (t273 == 0) = false := beq_eq_false_iff_ne.mpr c35
               have c35b1 : (t273 != 0) = true := bne_iff_ne.mpr c35
               obtain rfl := Option.some.inj H
               go_wp2_with (first | ((with_reducible refine gate_dst (N := 59) rfl ?_); (try (refine gate_guard (by rfl) ?_; dsimp only)); refine Kd.R_lit Kd.string _ 9 ?hg (N := 59) ?hd (xs := ([a1] : List ByteArray)) (inner := [.string a1]) (ok := fun _ => True) (okp := fun _ => True) ?hr ?hp (fun _ hk => hk) trivial (Below.refl _ _) (Nat.le_refl _) (by simp) ?_; (case hd => rfl); (case hg => rfl); (case hr => first | (go_simp; done) | (go_simp; rfl)); (case hp => exact (Reps.one (show Kd.M Kd.string _ _ _ a1 [.string a1] from rfl) (Reps.none _ _))); intro v268 w52 ho53 hb hg_ hnew_; clear hg_ hnew_; (first | rw [← Ny267.out] at ho53 | (simp only [Int.reduceToNat] at ho53; rw [← Ny267.out] at ho53)); have n0_ := Aside0.mk (Kd.R_below (by (with_reducible repeat (first | apply Kd.R_alloc | apply Kd.R_drewN | apply Kd.R_drew)); exact HO_7.out) hb); have n1_ := Aside0.mk (Kd.R_lower ho53 (below_size (by repeat (first | (with_reducible first | exact HB.out | apply below_alloc | apply pw_below_drewN | apply below_drew1) | exact HB.out)))); have n2_ := Aside0.mk (below_step (by repeat (first | (with_reducible first | exact HB.out | apply below_alloc | apply pw_below_drewN | apply below_drew1) | exact HB.out)) hb); clear HO_7; clear HB; have HO_7 := n0_; have HO269 := n1_; have HB := n2_; clear n0_ n1_ n2_; clear hb ho53; obtain ⟨Ao54, co54, eo54⟩ := Kd.R_slice HO269.out; subst eo54) | ((with_reducible refine gate_callee (f := 9) rfl ?_); refine goesL_ (some 61) rfl rfl Tryd.func9 (by kernel_rfl) rfl #[.string t264, .agg #[.int .i64 4, .slice Ao54 y267.length co54]] rfl (by (try simp only [List.map_toArray, List.map_cons, List.map_nil]); first | done | rfl | (simp only [List.length_drop, List.length_take]; rfl)) ?_; (with_reducible refine (impl_Mounts.calls t264 4 _ _ y267 t270 t273 _ ?side1 ?side2 A34.out).mono ?_); (case side1 => repeat (first | exact (Kd.R_reads' HO269.out).2.2 | (with_reducible refine Kd.C_alloc ?_ _) | (with_reducible refine Kd.C_drewN ?_ _) | (with_reducible refine Kd.C_drew ?_))); (case side2 => exact (Kd.R_reads' HO269.out).2.1); rintro e w55 ⟨v271, rfl, ho0, hb⟩; refine ⟨_, rfl, ?_⟩; have n0_ := Aside0.mk (Kd.R_elder' (by (with_reducible repeat (first | apply Kd.R_alloc | apply Kd.R_drewN | apply Kd.R_drew)); exact HO_7.out) (Kd.R_base ho0) hb); have n1_ := Aside0.mk (Kd.R_below (by (with_reducible repeat (first | apply Kd.R_alloc | apply Kd.R_drewN | apply Kd.R_drew)); exact HO269.out) hb); have n2_ := Aside0.mk (Kd.R_lower (Kd.R_new' ho0 (Kd.R_lt (by (with_reducible repeat (first | apply Kd.R_alloc | apply Kd.R_drewN | apply Kd.R_drew)); exact HO_7.out))) (below_size (by repeat (first | (with_reducible first | exact HB.out | apply below_alloc | apply pw_below_drewN | apply below_drew1) | exact HB.out)))); have n3_ := Aside0.mk (below_step (by repeat (first | (with_reducible first | exact HB.out | apply below_alloc | apply pw_below_drewN | apply below_drew1) | exact HB.out)) hb); clear HO_7; clear HO269; clear HB; have HO_7 := n0_; have HO269 := n1_; have HO272 := n2_; have HB := n3_; clear n0_ n1_ n2_ n3_; (try clear hb); (try clear hb2); (try clear hk); (try clear hi); (try clear ho0)))
               go_ret
               exact ⟨by first | rfl | (simp [errW_none, errW_some] <;> rfl) | (simp [*, errW_none, errW_some] <;> rfl), by repeat (first | (with_reducible first | exact HB.out | apply below_alloc | apply pw_below_drewN | apply below_drew1) | exact HB.out)⟩
end Go.Proofs.YtcpldcndhijecaaDoor.QM0
namespace Go.Proofs.YtcpldcndhijecaaDoor.Pu
open Go.RowKit Go.Proofs.YtcpldcndhijecaaDoorW.PrintWords Go.Proofs.YtcpldcndhijecaaDoorW.PrintLast
open Go.Proofs.YtcpldcndhijecaaDoor.QM0
set_option linter.unusedVariables false
set_option linter.unusedSimpArgs false
theorem son_B (xs : List Int) : strOfNums xs = B (xs.map fun n => UInt8.ofNat n.toNat) := rfl
theorem natural_f : ∀ (k n : Nat), n < k → n ≤ 2147483647 → spec_natural.f k (n : Int) = some (B (natL n))
  | 0, n, h, _ => by omega
  | k + 1, n, h, hn => by
    rw [spec_natural.f, natL]
    by_cases h10 : n < 10
    · rw [if_pos (by omega), if_pos h10]
      have : (wrap64 (48 + (n : Int))) % 256 = ((48 + n : Nat) : Int) := by unfold wrap64; omega
      rw [this, son_B]
      rfl
    · rw [if_neg (by omega), if_neg h10]
      have e1 : wrap64 (Int.tdiv (n : Int) 10) = ((n / 10 : Nat) : Int) := by
        have : Int.tdiv (n : Int) 10 = ((n / 10 : Nat) : Int) := rfl
        rw [this]
        unfold wrap64
        omega
      have e2 : (wrap64 (48 + (Int.tmod (n : Int) 10))) % 256 = ((48 + n % 10 : Nat) : Int) := by
        have : Int.tmod (n : Int) 10 = ((n % 10 : Nat) : Int) := rfl
        rw [this]
        unfold wrap64
        omega
      rw [e1, natural_f k (n / 10) (by omega) (by omega)]
      simp only [Option.bind_some]
      rw [e2, son_B]
      have hl := natL_len 9 (n / 10) (by omega)
      have h1 : (B (natL (n / 10))).size + (B (List.map (fun n => UInt8.ofNat n.toNat) [((48 + n % 10 : Nat) : Int)])).size ≤ 9223372036854775807 := by
        rw [B_size, B_size]
        simp only [List.length_map, List.length_cons, List.length_nil]
        omega
      rw [if_pos h1, B_append]
      rfl
theorem octal_step (s : Bs) (p : Nat) (c : UInt8) (acc : Bs) (k : Nat) (hp : s[p]? = some c) (hs : s.length ≤ 4611686018427387904) (ha : acc.length ≤ 4611686018427387904) :
    spec_octal.l0 (k + 1) (B s) (B acc) (s.length : Int) (p : Int) = spec_octal.l0 k (B s) (B (acc ++ octc c)) (s.length : Int) ((p + 1 : Nat) : Int) := by
  obtain ⟨hlt, hc⟩ := List.getElem?_eq_some_iff.1 hp
  have q1 : (p : Int) < (s.length : Int) := by omega
  have q2 : (p : Int) < ((B s).size : Int) := by rw [B_size]; omega
  have z0 : (0 : Int) ≤ (p : Int) := by omega
  have q3 : (p : Int) ≤ ((p + 1 : Nat) : Int) := by omega
  have q4 : ((p + 1 : Nat) : Int) ≤ ((B s).size : Int) := by rw [B_size]; omega
  have q5 : (B acc).size + (B [c]).size ≤ 9223372036854775807 := by rw [B_size, B_size]; simp only [List.length_singleton]; omega
  have q6 : ∀ a b d : UInt8, 1 + (B [a, b, d]).size ≤ 9223372036854775807 := fun a b d => by rw [B_size]; simp only [List.length_cons, List.length_nil]; omega
  have q7 : ∀ a b d : UInt8, (B acc).size + (B [92, a, b, d]).size ≤ 9223372036854775807 := fun a b d => by rw [B_size, B_size]; simp only [List.length_cons, List.length_nil]; omega
  have w1 := wr1 p (by omega)
  have b0 := bt_B' s p c hp
  have lit : (⟨#[92]⟩ : ByteArray) = B [92] := rfl
  have ex : (B s).extract p (p + 1) = B [c] := by rw [B_extract, (one_win s p c).2 hp]
  have hb : ∀ d : UInt8, (((c.toNat : Nat) : Int) = ((d.toNat : Nat) : Int)) ↔ c = d := fun d => ⟨u8_eq, fun h => by rw [h]⟩
  rw [spec_octal.l0, if_pos q1, if_pos z0, if_pos q2]
  simp only [b0, w1]
  rcases octc_cases c with h | ⟨rfl, h⟩ | ⟨rfl, h⟩ | ⟨rfl, h⟩ | ⟨rfl, h⟩
  · have n32 : ¬ ((c.toNat : Nat) : Int) = 32 := fun e => h.2.2.1 ((hb 32).1 e)
    have n92 : ¬ ((c.toNat : Nat) : Int) = 92 := fun e => h.2.1 ((hb 92).1 e)
    have n10 : ¬ ((c.toNat : Nat) : Int) = 10 := fun e => h.2.2.2 ((hb 10).1 e)
    have n9 : ¬ ((c.toNat : Nat) : Int) = 9 := fun e => by
      have := (hb 9).1 e
      rw [this] at h
      exact absurd h.1 (by decide)
    rw [if_neg n32, if_neg n9, if_neg n10, if_neg n92, if_pos q3, if_pos q4]
    simp only [Int.toNat_natCast]
    rw [ex, if_pos q5, B_append, h.1]
  · have e : strOfNums [(48 + ((((32 : UInt8).toNat : Nat) : Int) / 64)) % 256, (48 + (Go.bits .and .u8 ((((32 : UInt8).toNat : Nat) : Int) / 8) 7)) % 256, (48 + (Go.bits .and .u8 (((32 : UInt8).toNat : Nat) : Int) 7)) % 256] = B [48, 52, 48] := by decide
    rw [if_pos (by decide)]
    simp only [Option.bind_some, e, lit, B_append]
    rw [if_pos (q6 _ _ _), List.cons_append, List.nil_append, if_pos (q7 _ _ _), h]
  · have e : strOfNums [(48 + ((((9 : UInt8).toNat : Nat) : Int) / 64)) % 256, (48 + (Go.bits .and .u8 ((((9 : UInt8).toNat : Nat) : Int) / 8) 7)) % 256, (48 + (Go.bits .and .u8 (((9 : UInt8).toNat : Nat) : Int) 7)) % 256] = B [48, 49, 49] := by decide
    rw [if_neg (by decide), if_pos (by decide)]
    simp only [Option.bind_some, e, lit, B_append]
    rw [if_pos (q6 _ _ _), List.cons_append, List.nil_append, if_pos (q7 _ _ _), h]
  · have e : strOfNums [(48 + ((((10 : UInt8).toNat : Nat) : Int) / 64)) % 256, (48 + (Go.bits .and .u8 ((((10 : UInt8).toNat : Nat) : Int) / 8) 7)) % 256, (48 + (Go.bits .and .u8 (((10 : UInt8).toNat : Nat) : Int) 7)) % 256] = B [48, 49, 50] := by decide
    rw [if_neg (by decide), if_neg (by decide), if_pos (by decide)]
    simp only [Option.bind_some, e, lit, B_append]
    rw [if_pos (q6 _ _ _), List.cons_append, List.nil_append, if_pos (q7 _ _ _), h]
  · have e : strOfNums [(48 + ((((92 : UInt8).toNat : Nat) : Int) / 64)) % 256, (48 + (Go.bits .and .u8 ((((92 : UInt8).toNat : Nat) : Int) / 8) 7)) % 256, (48 + (Go.bits .and .u8 (((92 : UInt8).toNat : Nat) : Int) 7)) % 256] = B [49, 51, 52] := by decide
    rw [if_neg (by decide), if_neg (by decide), if_neg (by decide), if_pos (by decide)]
    simp only [Option.bind_some, e, lit, B_append]
    rw [if_pos (q6 _ _ _), List.cons_append, List.nil_append, if_pos (q7 _ _ _), h]
theorem octal_l0 (s : Bs) (hs : s.length ≤ 1000000000000000000) : ∀ (d p : Nat) (acc : Bs) (k : Nat), p + d = s.length → acc.length ≤ 4 * p → d < k →
    spec_octal.l0 k (B s) (B acc) (s.length : Int) (p : Int) = some (B (acc ++ octL (s.drop p)))
  | 0, p, acc, k, hd, ha, hk => by
    obtain ⟨k, rfl⟩ : ∃ m, k = m + 1 := ⟨k - 1, by omega⟩
    rw [spec_octal.l0, if_neg (by omega), List.drop_eq_nil_of_le (by omega)]
    simp [octL]
  | d + 1, p, acc, k, hd, ha, hk => by
    obtain ⟨k, rfl⟩ : ∃ m, k = m + 1 := ⟨k - 1, by omega⟩
    have hlt : p < s.length := by omega
    have hc := octc_len s[p]
    rw [octal_step s p s[p] acc k (List.getElem?_eq_getElem hlt) (by omega) (by omega), octal_l0 s hs d (p + 1) (acc ++ octc s[p]) k (by omega) (by rw [List.length_append]; omega) (by omega)]
    rw [List.drop_eq_getElem_cons hlt, octL_cons, List.append_assoc]
theorem octal_f (s : Bs) (k : Nat) (hs : s.length ≤ 1000000000000000000) (hk : s.length < k) : spec_octal.f k (B s) = some (B (octL s)) := by
  unfold spec_octal.f
  rw [B_nil]
  have := octal_l0 s hs s.length 0 [] k (by omega) (by simp) hk
  rw [B_size]
  simpa using this
def prnN (wide : Bool) (n : Nat) : Bool := (decide (32 < n) && decide (n < 127)) || (wide && (decide (n = 32) || decide (n = 9) || decide (n = 10)))
def prn (wide : Bool) (c : UInt8) : Bool := prnN wide c.toNat
theorem printable_step (s : Bs) (p : Nat) (c : UInt8) (w : Bool) (k : Nat) (hp : s[p]? = some c) (hs : s.length ≤ 4611686018427387904) :
    spec_printable.l0 (k + 1) (B s) w (s.length : Int) (p : Int) = if prn w c = true then spec_printable.l0 k (B s) w (s.length : Int) ((p + 1 : Nat) : Int) else some false := by
  obtain ⟨hlt, hc⟩ := List.getElem?_eq_some_iff.1 hp
  have q1 : (p : Int) < (s.length : Int) := by omega
  have q2 : (p : Int) < ((B s).size : Int) := by rw [B_size]; omega
  have z0 : (0 : Int) ≤ (p : Int) := by omega
  have w1 := wr1 p (by omega)
  have b0 := bt_B' s p c hp
  rw [spec_printable.l0, if_pos q1, if_pos z0, if_pos q2]
  simp only [b0, w1]
  clear b0 w1 hc hp
  unfold prn
  generalize c.toNat = n
  have e1 : ((n : Int) > 32) = (32 < n) := by apply propext; omega
  have e2 : ((n : Int) < 127) = (n < 127) := by apply propext; omega
  have e3 : ((n : Int) = 32) = (n = 32) := by apply propext; omega
  have e4 : ((n : Int) = 9) = (n = 9) := by apply propext; omega
  have e5 : ((n : Int) = 10) = (n = 10) := by apply propext; omega
  simp only [e1, e2, e3, e4, e5]
  unfold prnN
  by_cases h1 : 32 < n <;> by_cases h2 : n < 127 <;> cases w <;> by_cases h3 : n = 32 <;> by_cases h4 : n = 9 <;> by_cases h5 : n = 10 <;> simp [h1, h2, h3, h4, h5]
theorem printable_l0 (s : Bs) (w : Bool) (hs : s.length ≤ 4611686018427387904) : ∀ (d p k : Nat), p + d = s.length → d < k →
    spec_printable.l0 k (B s) w (s.length : Int) (p : Int) = some ((s.drop p).all (prn w))
  | 0, p, k, hd, hk => by
    obtain ⟨k, rfl⟩ : ∃ m, k = m + 1 := ⟨k - 1, by omega⟩
    rw [spec_printable.l0, if_neg (by omega), List.drop_eq_nil_of_le (by omega)]
    rfl
  | d + 1, p, k, hd, hk => by
    obtain ⟨k, rfl⟩ : ∃ m, k = m + 1 := ⟨k - 1, by omega⟩
    have hlt : p < s.length := by omega
    rw [printable_step s p s[p] w k (List.getElem?_eq_getElem hlt) hs, List.drop_eq_getElem_cons hlt, List.all_cons]
    by_cases h : prn w s[p] = true
    · rw [if_pos h, h, printable_l0 s w hs d (p + 1) k (by omega) (by omega)]
      rfl
    · rw [if_neg h]
      simp [h]
theorem printable_f (s : Bs) (w : Bool) (k : Nat) (hs : s.length ≤ 4611686018427387904) (hk : s.length < k) : spec_printable.f k (B s) w = some (s.all (prn w)) := by
  unfold spec_printable.f
  have := printable_l0 s w hs s.length 0 k (by omega) hk
  rw [B_size]
  simpa using this
theorem word_l0 (s : Bs) (hs : s.length ≤ 4611686018427387904) : ∀ (d p k : Nat), p + d = s.length → d + s.length + 1 < k →
    spec_word.l0 k (B s) (s.length : Int) (p : Int) = some ((s.drop p).all (fun c => c != 92) && (!s.isEmpty && s.all (prn false)))
  | 0, p, k, hd, hk => by
    obtain ⟨k, rfl⟩ : ∃ m, k = m + 1 := ⟨k - 1, by omega⟩
    rw [spec_word.l0, if_neg (by omega), List.drop_eq_nil_of_le (by omega)]
    simp only [B_toList]
    by_cases h : s = []
    · rw [if_pos h, h]; rfl
    · rw [if_neg h, printable_f s false k hs (by omega)]
      have : s.isEmpty = false := by simpa using h
      simp [this]
  | d + 1, p, k, hd, hk => by
    obtain ⟨k, rfl⟩ : ∃ m, k = m + 1 := ⟨k - 1, by omega⟩
    have hlt : p < s.length := by omega
    have q1 : (p : Int) < (s.length : Int) := by omega
    have q2 : (p : Int) < ((B s).size : Int) := by rw [B_size]; omega
    have z0 : (0 : Int) ≤ (p : Int) := by omega
    have w1 := wr1 p (by omega)
    have b0 := bt_B' s p s[p] (List.getElem?_eq_getElem hlt)
    rw [spec_word.l0, if_pos q1, if_pos z0, if_pos q2, b0, w1, List.drop_eq_getElem_cons hlt, List.all_cons]
    by_cases h : s[p] = 92
    · have : (((s[p]).toNat : Nat) : Int) = 92 := by rw [h]; rfl
      rw [if_pos this]
      simp [h]
    · have : ¬ (((s[p]).toNat : Nat) : Int) = 92 := fun e => h (u8_eq (b := 92) e)
      rw [if_neg this, word_l0 s hs d (p + 1) k (by omega) (by omega), show (s[p] != 92) = true from by simpa using h, Bool.true_and]
theorem word_f (s : Bs) (k : Nat) (hs : s.length ≤ 4611686018427387904) (hk : 2 * s.length + 1 < k) : ∃ b, spec_word.f k (B s) = some b ∧ (b = true ↔ wordL s) := by
  unfold spec_word.f
  have := word_l0 s hs s.length 0 k (by omega) (by omega)
  rw [B_size]
  refine ⟨_, by simpa using this, ?_⟩
  unfold wordL prn prnN
  constructor
  · intro h
    simp only [Bool.and_eq_true, List.all_eq_true, Bool.not_eq_true', bne_iff_ne] at h
    refine ⟨by intro e; rw [e] at h; exact absurd h.2.1 (by decide), fun c hc => ⟨?_, h.1 c hc⟩⟩
    have := h.2.2 c hc
    simpa using this
  · rintro ⟨h0, h1⟩
    simp only [Bool.and_eq_true, List.all_eq_true, Bool.not_eq_true', bne_iff_ne]
    refine ⟨fun c hc => (h1 c hc).2, by simpa using h0, fun c hc => ?_⟩
    have := (h1 c hc).1
    simp [this]
def pieces : Bs → List Bs
  | [] => [[]]
  | c :: r => if c = 32 then [] :: pieces r else match pieces r with
    | [] => [[c]]
    | h :: t => (c :: h) :: t
theorem pieces_ne : ∀ s : Bs, pieces s ≠ []
  | [] => by simp [pieces]
  | c :: r => by
    unfold pieces
    split
    · simp
    · split <;> simp
theorem pieces_join : ∀ s : Bs, joinc 32 (pieces s) = s
  | [] => rfl
  | c :: r => by
    have ih := pieces_join r
    unfold pieces
    split
    · rename_i h
      cases hp : pieces r with
      | nil => exact absurd hp (pieces_ne r)
      | cons x t =>
        rw [hp] at ih
        show [] ++ 32 :: joinc 32 (x :: t) = _
        rw [ih, h]
        rfl
    · cases hp : pieces r with
      | nil => exact absurd hp (pieces_ne r)
      | cons x t =>
        rw [hp] at ih
        simp only
        cases t with
        | nil => simp only [joinc] at ih ⊢; rw [ih]
        | cons y t => simp only [joinc] at ih ⊢; rw [List.cons_append, ih]
theorem pieces_len (s : Bs) : (pieces s).length ≤ s.length + 1 := by
  have := joinc_len 32 (pieces s)
  rwa [pieces_join] at this
def gl (cur : Bs) : List Bs → List Bs
  | [] => [cur]
  | h :: t => (cur ++ h) :: t
theorem gl_nil (ps : List Bs) (h : ps ≠ []) : gl [] ps = ps := by
  cases ps with
  | nil => exact absurd rfl h
  | cons x t => rfl
theorem fields_l0 (s : Bs) (hs : s.length ≤ 4611686018427387904) : ∀ (rest cur pre : Bs) (acc : List ByteArray) (k : Nat), s = pre ++ (cur ++ rest) → acc.length + rest.length + 1 < 8796093022208 → rest.length < k →
    spec_fields.l0 k (B s) acc (pre.length : Int) (s.length : Int) ((pre.length + cur.length : Nat) : Int) = some (acc ++ (gl cur (pieces rest)).map B)
  | [], cur, pre, acc, k, hS, ha, hk => by
    obtain ⟨k, rfl⟩ : ∃ m, k = m + 1 := ⟨k - 1, by omega⟩
    have hlen : s.length = pre.length + cur.length := by rw [hS]; simp
    simp only [List.length_nil] at ha
    have q1 : ¬ ((pre.length + cur.length : Nat) : Int) < (s.length : Int) := by omega
    have q2 : (0 : Int) ≤ (pre.length : Int) := by omega
    have q3 : (pre.length : Int) ≤ ((B s).size : Int) := by rw [B_size]; omega
    have q4 : acc.length < 8796093022208 := by omega
    have ex : (B s).extract pre.length (B s).size = B cur := by
      rw [B_extract, B_size, hS]
      simp
    rw [spec_fields.l0, if_neg q1, if_pos q2, if_pos q3, if_pos q4]
    simp only [Int.toNat_natCast]
    rw [ex]
    simp [pieces, gl]
  | c :: r, cur, pre, acc, k, hS, ha, hk => by
    simp only [List.length_cons] at ha hk
    obtain ⟨k, rfl⟩ : ∃ m, k = m + 1 := ⟨k - 1, by omega⟩
    have hlen : s.length = pre.length + cur.length + 1 + r.length := by rw [hS]; simp; omega
    have q1 : ((pre.length + cur.length : Nat) : Int) < (s.length : Int) := by omega
    have z1 : (0 : Int) ≤ ((pre.length + cur.length : Nat) : Int) := by omega
    have q2 : ((pre.length + cur.length : Nat) : Int) < ((B s).size : Int) := by rw [B_size]; omega
    have z0 : (0 : Int) ≤ (pre.length : Int) := by omega
    have q3 : (pre.length : Int) ≤ ((pre.length + cur.length : Nat) : Int) := by omega
    have q4 : ((pre.length + cur.length : Nat) : Int) ≤ ((B s).size : Int) := by rw [B_size]; omega
    have q5 : acc.length < 8796093022208 := by omega
    have w1 := wr1 (pre.length + cur.length) (by omega)
    have hc : s[pre.length + cur.length]? = some c := by
      rw [hS, ← List.append_assoc, List.getElem?_append_right (by simp)]
      simp
    have b0 := bt_B' s _ c hc
    have ex : (B s).extract pre.length (pre.length + cur.length) = B cur := by
      rw [B_extract, hS]
      simp
    rw [spec_fields.l0, if_pos q1, if_pos z1, if_pos q2, b0, w1]
    unfold pieces
    by_cases h : c = 32
    · have e : ((c.toNat : Nat) : Int) = 32 := by rw [h]; rfl
      rw [if_pos e, if_pos z0, if_pos q3, if_pos q4, if_pos q5, if_pos h]
      simp only [Int.toNat_natCast]
      rw [ex]
      have ih := fields_l0 s hs r [] (pre ++ (cur ++ [c])) (acc ++ [B cur]) k (by rw [hS]; simp) (by simp only [List.length_append, List.length_cons, List.length_nil]; omega) (by omega)
      have e2 : (pre ++ (cur ++ [c])).length = pre.length + cur.length + 1 := by simp; omega
      rw [e2, List.length_nil, Nat.add_zero, gl_nil _ (pieces_ne r)] at ih
      rw [ih]
      simp [gl]
    · have e : ¬ ((c.toNat : Nat) : Int) = 32 := fun e => h (u8_eq (b := 32) e)
      rw [if_neg e, if_neg h]
      have ih := fields_l0 s hs r (cur ++ [c]) pre acc k (by rw [hS]; simp) (by omega) (by omega)
      rw [show pre.length + (cur ++ [c]).length = pre.length + cur.length + 1 by simp; omega] at ih
      rw [ih]
      cases hp : pieces r with
      | nil => exact absurd hp (pieces_ne r)
      | cons x t => simp [gl]
theorem fields_f (s : Bs) (k : Nat) (hs : s.length ≤ 4000000000) (hk : s.length < k) : spec_fields.f k (B s) = some ((pieces s).map B) := by
  unfold spec_fields.f
  have := fields_l0 s (by omega) s [] [] [] k (by simp) (by simp only [List.length_nil]; omega) hk
  rw [B_size]
  rw [gl_nil _ (pieces_ne s)] at this
  simpa using this
end Go.Proofs.YtcpldcndhijecaaDoor.Pu
namespace Go.Proofs.YtcpldcndhijecaaDoor.Pu
open Go.RowKit Go.Proofs.YtcpldcndhijecaaDoorW.PrintWords Go.Proofs.YtcpldcndhijecaaDoorW.PrintLast
open Go.Proofs.YtcpldcndhijecaaDoor.QM0
set_option linter.unusedVariables false
set_option linter.unusedSimpArgs false
abbrev Inf := QT0.Inf
theorem words_l1 (L : List Bs) (hL : L.length ≤ 2147483648) (hw : ∀ f ∈ L, f.length ≤ 2147483647) : ∀ (d p k : Nat), p + d = L.length → d + 10000000000 ≤ k →
    ∃ b, spec_mountValid.l1 k (L.map B) (L.length : Int) (p : Int) = some b ∧ (b = true → ∀ f ∈ L.drop p, wordL f)
  | 0, p, k, hd, hk => by
    obtain ⟨k, rfl⟩ : ∃ m, k = m + 1 := ⟨k - 1, by omega⟩
    rw [spec_mountValid.l1, if_neg (by omega), List.drop_eq_nil_of_le (by omega)]
    exact ⟨true, rfl, fun _ f hf => by simp at hf⟩
  | d + 1, p, k, hd, hk => by
    obtain ⟨k, rfl⟩ : ∃ m, k = m + 1 := ⟨k - 1, by omega⟩
    have hlt : p < L.length := by omega
    have hm : L[p] ∈ L := List.getElem_mem hlt
    have hr : rdOf ByteArray.empty (L.map B) (p : Int) = B L[p] := by
      unfold rdOf
      simp only [Int.toNat_natCast, List.getD_eq_getElem?_getD, List.getElem?_map, List.getElem?_eq_getElem hlt]
      rfl
    have q1 : (p : Int) < (L.length : Int) := by omega
    have q2 : (p : Int) < ((L.map B).length : Int) := by rw [List.length_map]; omega
    have z0 : (0 : Int) ≤ (p : Int) := by omega
    have w1 := wr1 p (by omega)
    obtain ⟨b, hb, hbw⟩ := word_f L[p] k (by have := hw _ hm; omega) (by have := hw _ hm; omega)
    rw [spec_mountValid.l1, if_pos q1, if_pos z0, if_pos q2, hr, hb, w1]
    simp only [Option.bind_some]
    by_cases h : b = true
    · rw [if_pos h]
      by_cases h2 : (B L[p]).toList = [45]
      · rw [if_pos h2]
        exact ⟨false, rfl, by simp⟩
      · rw [if_neg h2]
        obtain ⟨b', hb', hw'⟩ := words_l1 L hL hw d (p + 1) k (by omega) (by omega)
        refine ⟨b', hb', fun e => ?_⟩
        rw [List.drop_eq_getElem_cons hlt]
        intro f hf
        rcases List.mem_cons.1 hf with rfl | hf
        · exact hbw.1 h
        · exact hw' e f hf
    · rw [if_neg h]
      exact ⟨false, rfl, by simp⟩
theorem valid_j1 (m : Inf) (bad : Bool) (k : Nat) (hk : 20000000000 ≤ k) (h7 : m.f7.size ≤ 2147483647) :
    ∃ b, spec_mountValid.j1 k bad m.f0 m.f1 m.f2 m.f3 m.f4 m.f5 m.f6 m.f7 m.f8 m.f9 m.f10 = some b ∧ (b = true → bad = false ∧ ∃ os, dl m.f7 = joinc 32 os ∧ (∀ f ∈ os, wordL f) ∧ (dl m.f7 = [] → os = []) ∧ (dl m.f7 ≠ [] → os ≠ [])) := by
  obtain ⟨k, rfl⟩ : ∃ j, k = j + 1 := ⟨k - 1, by omega⟩
  rw [spec_mountValid.j1]
  by_cases hb : bad = true
  · rw [if_pos hb]
    exact ⟨false, rfl, by simp⟩
  · have hb' : bad = false := by simpa using hb
    rw [if_neg hb]
    rw [Lib.toList_data]
    by_cases h0 : m.f7.data.toList = []
    · rw [if_pos h0]
      exact ⟨true, rfl, fun _ => ⟨hb', [], h0, by simp, fun _ => rfl, fun h => absurd h0 h⟩⟩
    · rw [if_neg h0]
      have hf := fields_f (dl m.f7) k (by rw [dl_len]; omega) (by rw [dl_len]; omega)
      rw [B_dl] at hf
      rw [hf]
      simp only [Option.bind_some, List.length_map]
      have hp := pieces_len (dl m.f7)
      rw [dl_len] at hp
      obtain ⟨b, hb1, hb2⟩ := words_l1 (pieces (dl m.f7)) (by omega) (fun f hf => by
        have := joinc_mem 32 _ f hf
        rw [pieces_join, dl_len] at this
        omega) (pieces (dl m.f7)).length 0 k (by omega) (by omega)
      exact ⟨b, hb1, fun e => ⟨hb', _, (pieces_join _).symm, by simpa using hb2 e, fun h => absurd h h0, fun _ => pieces_ne _⟩⟩
theorem valid_num (a0 a1 a2 a3 : Int) (m : Inf) (i : Nat) (x : Int) (k : Nat) (hx : [a0, a1, a2, a3][i]? = some x) :
    spec_mountValid.l0 (k + 1) [a0, a1, a2, a3] 4 (i : Int) m.f0 m.f1 m.f2 m.f3 m.f4 m.f5 m.f6 m.f7 m.f8 m.f9 m.f10 =
      if x < 0 then some false else if x > 2147483647 then some false else spec_mountValid.l0 k [a0, a1, a2, a3] 4 ((i + 1 : Nat) : Int) m.f0 m.f1 m.f2 m.f3 m.f4 m.f5 m.f6 m.f7 m.f8 m.f9 m.f10 := by
  have hi : i < 4 := by
    obtain ⟨h, _⟩ := List.getElem?_eq_some_iff.1 hx
    simpa using h
  have hr : rd [a0, a1, a2, a3] (i : Int) = x := by
    unfold rd
    simp only [Int.toNat_natCast, List.getD_eq_getElem?_getD, hx]
    rfl
  have w1 := wr1 i (by omega)
  rw [spec_mountValid.l0, if_pos (by omega), if_pos (by omega), if_pos (by simp only [List.length_cons, List.length_nil]; omega), hr, w1]
theorem valid_f (m : Inf) (k : Nat) (hk : 30000000000 ≤ k) (h4 : m.f4.size ≤ 2147483647) (h5 : m.f5.size ≤ 2147483647) (h6 : m.f6.size ≤ 2147483647) (h7 : m.f7.size ≤ 2147483647) (h8 : m.f8.size ≤ 2147483647) (h9 : m.f9.size ≤ 2147483647) (h10 : m.f10.size ≤ 2147483647) :
    ∃ b, spec_mountValid.f k m.f0 m.f1 m.f2 m.f3 m.f4 m.f5 m.f6 m.f7 m.f8 m.f9 m.f10 = some b ∧ (b = true → ∃ os, Good m os ∧ (dl m.f7 = [] → os = []) ∧ (dl m.f7 ≠ [] → os ≠ [])) := by
  obtain ⟨k, rfl⟩ : ∃ j, k = j + 5 := ⟨k - 5, by omega⟩
  unfold spec_mountValid.f
  simp only [Option.bind_some]
  have hl4 : (([m.f0, m.f1, m.f2, m.f3] : List Int).length : Int) = 4 := rfl
  rw [hl4, show (0 : Int) = ((0 : Nat) : Int) from rfl, valid_num m.f0 m.f1 m.f2 m.f3 m 0 m.f0 (k + 4) rfl]
  have no : ∀ P : Prop, ∃ b, some false = some b ∧ (b = true → P) := fun P => ⟨false, rfl, by simp⟩
  by_cases a0 : m.f0 < 0
  · rw [if_pos a0]; exact no _
  rw [if_neg a0]
  by_cases c0 : m.f0 > 2147483647
  · rw [if_pos c0]; exact no _
  rw [if_neg c0, valid_num m.f0 m.f1 m.f2 m.f3 m (0 + 1) m.f1 (k + 3) rfl]
  by_cases a1 : m.f1 < 0
  · rw [if_pos a1]; exact no _
  rw [if_neg a1]
  by_cases c1 : m.f1 > 2147483647
  · rw [if_pos c1]; exact no _
  rw [if_neg c1, valid_num m.f0 m.f1 m.f2 m.f3 m (0 + 1 + 1) m.f2 (k + 2) rfl]
  by_cases a2 : m.f2 < 0
  · rw [if_pos a2]; exact no _
  rw [if_neg a2]
  by_cases c2 : m.f2 > 2147483647
  · rw [if_pos c2]; exact no _
  rw [if_neg c2, valid_num m.f0 m.f1 m.f2 m.f3 m (0 + 1 + 1 + 1) m.f3 (k + 1) rfl]
  by_cases a3 : m.f3 < 0
  · rw [if_pos a3]; exact no _
  rw [if_neg a3]
  by_cases c3 : m.f3 > 2147483647
  · rw [if_pos c3]; exact no _
  rw [if_neg c3, spec_mountValid.l0, if_neg (by decide)]
  obtain ⟨bT, hT, hTf⟩ := valid_j1 m true k (by omega) h7
  have hTf' : bT = false := by
    cases bT with
    | false => rfl
    | true => exact absurd (hTf rfl).1 (by simp)
  subst hTf'
  simp only [hT]
  have pr : ∀ (T : ByteArray) (w : Bool), T.size ≤ 2147483647 → spec_printable.f k T w = some ((dl T).all (prn w)) := fun T w h => by
    have := printable_f (dl T) w k (by rw [dl_len]; omega) (by rw [dl_len]; omega)
    rwa [B_dl] at this
  have wd : ∀ (T : ByteArray), T.size ≤ 2147483647 → ∃ b, spec_word.f k T = some b ∧ (b = true ↔ wordL (dl T)) := fun T h => by
    have := word_f (dl T) k (by rw [dl_len]; omega) (by rw [dl_len]; omega)
    rwa [B_dl] at this
  rw [pr _ _ h4, pr _ _ h5, pr _ _ h9]
  obtain ⟨b6, e6, i6⟩ := wd _ h6
  obtain ⟨b8, e8, i8⟩ := wd _ h8
  obtain ⟨b10, e10, i10⟩ := wd _ h10
  rw [e6, e8, e10]
  simp only [Option.bind_some]
  split
  · exact no _
  split
  · exact no _
  split
  · exact no _
  split
  · split
    · split
      · split
        · rename_i t6
          split
          · rename_i t8
            obtain ⟨b, hb, hg⟩ := valid_j1 m (!b10) k (by omega) h7
            refine ⟨b, hb, fun e => ?_⟩
            obtain ⟨hbad, os, ho, how, hn1, hn2⟩ := hg e
            refine ⟨os, ⟨⟨by omega, by omega⟩, ⟨by omega, by omega⟩, ⟨by omega, by omega⟩, ⟨by omega, by omega⟩, i6.1 t6, i8.1 t8, i10.1 (by simpa using hbad), ho, how⟩, hn1, hn2⟩
          · exact no _
        · exact no _
      · exact no _
    · exact no _
  · exact no _
def lineX (a0 a1 a2 a3 : Nat) (s4 s5 s6 s7 s8 s9 s10 : Bs) : Bs :=
  (natL a0 ++ [32] ++ natL a1 ++ [32] ++ natL a2 ++ [58] ++ natL a3 ++ [32] ++ octL s4 ++ [32] ++ octL s5 ++ [32] ++ s6) ++ ((if s7 = [] then [] else [32] ++ s7) ++ ([32, 45, 32] ++ s8 ++ [32] ++ octL s9 ++ [32] ++ s10 ++ [10]))
theorem lineX_lineL (a0 a1 a2 a3 : Nat) (s4 s5 s6 s7 s8 s9 s10 : Bs) (os : List Bs) (ho : s7 = joinc 32 os) (h1 : s7 = [] → os = []) (h2 : s7 ≠ [] → os ≠ []) :
    lineX a0 a1 a2 a3 s4 s5 s6 s7 s8 s9 s10 = lineL ⟨(a0 : Int), (a1 : Int), (a2 : Int), (a3 : Int), B s4, B s5, B s6, B s7, B s8, B s9, B s10⟩ os ++ [10] := by
  unfold lineL lineFs
  have ht : joinc 32 (tailFs ⟨(a0 : Int), (a1 : Int), (a2 : Int), (a3 : Int), B s4, B s5, B s6, B s7, B s8, B s9, B s10⟩) = [45, 32] ++ s8 ++ [32] ++ octL s9 ++ [32] ++ s10 := by
    simp [tailFs, joinc, dl, B_data]
  have hh : joinc 32 (headFs ⟨(a0 : Int), (a1 : Int), (a2 : Int), (a3 : Int), B s4, B s5, B s6, B s7, B s8, B s9, B s10⟩) = natL a0 ++ [32] ++ natL a1 ++ [32] ++ natL a2 ++ [58] ++ natL a3 ++ [32] ++ octL s4 ++ [32] ++ octL s5 ++ [32] ++ s6 := by
    simp [headFs, joinc, dl, B_data]
  rw [joinc_append 32 _ _ (by simp [headFs]) (by simp [tailFs]), hh]
  unfold lineX
  by_cases h : s7 = []
  · rw [if_pos h, h1 h, List.nil_append, List.nil_append, ht]
    simp
  · rw [if_neg h, joinc_append 32 _ _ (h2 h) (by simp [tailFs]), ← ho, ht]
    simp
theorem print_valid (ms : List S63) (p : Nat) (a0 a1 a2 a3 : Nat) (s4 s5 s6 s7 s8 s9 s10 acc : Bs) (k : Nat) (hk : 3000000000 ≤ k)
    (hp : ms[p]? = some ⟨(a0 : Int), (a1 : Int), (a2 : Int), (a3 : Int), B s4, B s5, B s6, B s7, B s8, B s9, B s10⟩) (hms : ms.length ≤ 1000000)
    (b0 : a0 ≤ 2147483647) (b1 : a1 ≤ 2147483647) (b2 : a2 ≤ 2147483647) (b3 : a3 ≤ 2147483647)
    (h4 : s4.length ≤ 2147483647) (h5 : s5.length ≤ 2147483647) (h6 : s6.length ≤ 2147483647) (h7 : s7.length ≤ 2147483647) (h8 : s8.length ≤ 2147483647) (h9 : s9.length ≤ 2147483647) (h10 : s10.length ≤ 2147483647)
    (ha : acc.length ≤ 1000000000000000000)
    (hv : spec_mountValid.f k (a0 : Int) (a1 : Int) (a2 : Int) (a3 : Int) (B s4) (B s5) (B s6) (B s7) (B s8) (B s9) (B s10) = some true) :
    spec_MountsPrint.l0 (k + 1) (B acc) ms (ms.length : Int) (p : Int) = spec_MountsPrint.l0 k (B (acc ++ lineX a0 a1 a2 a3 s4 s5 s6 s7 s8 s9 s10)) ms (ms.length : Int) ((p + 1 : Nat) : Int) := by
  obtain ⟨hlt, hx⟩ := List.getElem?_eq_some_iff.1 hp
  have hr : rd_T63 ms (p : Int) = ⟨(a0 : Int), (a1 : Int), (a2 : Int), (a3 : Int), B s4, B s5, B s6, B s7, B s8, B s9, B s10⟩ := by
    unfold rd_T63
    simp only [Int.toNat_natCast, List.getD_eq_getElem?_getD, hp]
    rfl
  have l0 := natL_len 9 a0 (by omega)
  have l1 := natL_len 9 a1 (by omega)
  have l2 := natL_len 9 a2 (by omega)
  have l3 := natL_len 9 a3 (by omega)
  have l4 := octL_len s4
  have l5 := octL_len s5
  have l9 := octL_len s9
  have n0 := natural_f k a0 (by omega) b0
  have n1 := natural_f k a1 (by omega) b1
  have n2 := natural_f k a2 (by omega) b2
  have n3 := natural_f k a3 (by omega) b3
  have o4 := octal_f s4 k (by omega) (by omega)
  have o5 := octal_f s5 k (by omega) (by omega)
  have o9 := octal_f s9 k (by omega) (by omega)
  have q1 : (p : Int) < (ms.length : Int) := by omega
  have z0 : (0 : Int) ≤ (p : Int) := by omega
  have w1 := wr1 p (by omega)
  have L32 : (⟨#[32]⟩ : ByteArray) = B [32] := rfl
  have L58 : (⟨#[58]⟩ : ByteArray) = B [58] := rfl
  have L10 : (⟨#[10]⟩ : ByteArray) = B [10] := rfl
  have LD : (⟨#[32, 45, 32]⟩ : ByteArray) = B [32, 45, 32] := rfl
  rw [spec_MountsPrint.l0, if_pos q1, if_pos z0, if_pos q1, hr]
  dsimp only
  rw [hv, n0, n1, n2, n3, o4, o5, o9]
  simp only [Option.bind_some, L32, L58, L10, LD, B_append, B_toList, w1, B_size, List.length_append, List.length_cons, List.length_nil]
  clear hv n0 n1 n2 n3 o4 o5 o9 w1 hr hp hx
  rw [if_pos trivial]
  rw [if_pos (by omega), if_pos (by omega), if_pos (by omega), if_pos (by omega), if_pos (by omega), if_pos (by omega), if_pos (by omega), if_pos (by omega), if_pos (by omega), if_pos (by omega), if_pos (by omega), if_pos (by omega), if_pos (by omega)]
  unfold lineX
  by_cases h : s7 = []
  · rw [if_pos h, if_pos h]
    rw [if_pos (by omega), if_pos (by omega), if_pos (by omega), if_pos (by omega), if_pos (by omega), if_pos (by omega), if_pos (by omega)]
    simp only [List.append_assoc, List.nil_append]
  · rw [if_neg h, if_neg h]
    rw [if_pos (by omega), if_pos (by omega), if_pos (by omega), if_pos (by omega), if_pos (by omega), if_pos (by omega), if_pos (by omega), if_pos (by omega), if_pos (by omega)]
    simp only [List.append_assoc, List.nil_append]
def i63 (x : S63) : Inf := ⟨x.f0, x.f1, x.f2, x.f3, x.f4, x.f5, x.f6, x.f7, x.f8, x.f9, x.f10⟩
structure Fits (m : Inf) : Prop where
  h4 : m.f4.size ≤ 2147483647
  h5 : m.f5.size ≤ 2147483647
  h6 : m.f6.size ≤ 2147483647
  h7 : m.f7.size ≤ 2147483647
  h8 : m.f8.size ≤ 2147483647
  h9 : m.f9.size ≤ 2147483647
  h10 : m.f10.size ≤ 2147483647
theorem lineX_len (a0 a1 a2 a3 : Nat) (s4 s5 s6 s7 s8 s9 s10 : Bs)
    (b0 : a0 ≤ 2147483647) (b1 : a1 ≤ 2147483647) (b2 : a2 ≤ 2147483647) (b3 : a3 ≤ 2147483647)
    (h4 : s4.length ≤ 2147483647) (h5 : s5.length ≤ 2147483647) (h6 : s6.length ≤ 2147483647) (h7 : s7.length ≤ 2147483647) (h8 : s8.length ≤ 2147483647) (h9 : s9.length ≤ 2147483647) (h10 : s10.length ≤ 2147483647) :
    (lineX a0 a1 a2 a3 s4 s5 s6 s7 s8 s9 s10).length ≤ 40000000000 := by
  have l0 := natL_len 9 a0 (by omega)
  have l1 := natL_len 9 a1 (by omega)
  have l2 := natL_len 9 a2 (by omega)
  have l3 := natL_len 9 a3 (by omega)
  have l4 := octL_len s4
  have l5 := octL_len s5
  have l9 := octL_len s9
  unfold lineX
  by_cases h : s7 = []
  · rw [if_pos h]
    simp only [List.length_append, List.length_cons, List.length_nil]
    omega
  · rw [if_neg h]
    simp only [List.length_append, List.length_cons, List.length_nil]
    omega
theorem print_l0 (ms : List S63) (hms : ms.length ≤ 200) (hf : ∀ x ∈ ms, Fits (i63 x)) : ∀ (d p : Nat) (acc : Bs) (k : Nat), p + d = ms.length → acc.length ≤ p * 40000000000 → d + 40000000000 ≤ k →
    ∃ t c, spec_MountsPrint.l0 k (B acc) ms (ms.length : Int) (p : Int) = some (t, c) ∧ (c = 1 → ∃ ps : List (Inf × List Bs), ps.map (·.1) = (ms.drop p).map i63 ∧ (∀ y ∈ ps, Good y.1 y.2) ∧ t = B (acc ++ textL ps))
  | 0, p, acc, k, hd, ha, hk => by
    obtain ⟨k, rfl⟩ : ∃ m, k = m + 1 := ⟨k - 1, by omega⟩
    rw [spec_MountsPrint.l0, if_neg (by omega), List.drop_eq_nil_of_le (by omega)]
    exact ⟨_, _, rfl, fun _ => ⟨[], rfl, by simp, by simp [textL]⟩⟩
  | d + 1, p, acc, k, hd, ha, hk => by
    obtain ⟨k, rfl⟩ : ∃ m, k = m + 1 := ⟨k - 1, by omega⟩
    have hlt : p < ms.length := by omega
    have hp := List.getElem?_eq_getElem hlt
    have hF := hf _ (List.getElem_mem hlt)
    obtain ⟨b, hb, hg⟩ := valid_f (i63 ms[p]) k (by omega) hF.h4 hF.h5 hF.h6 hF.h7 hF.h8 hF.h9 hF.h10
    have hdrop := List.drop_eq_getElem_cons hlt
    have hr : rd_T63 ms (p : Int) = ms[p] := by
      unfold rd_T63
      simp only [Int.toNat_natCast, List.getD_eq_getElem?_getD, hp]
      rfl
    have q1 : (p : Int) < (ms.length : Int) := by omega
    have z0 : (0 : Int) ≤ (p : Int) := by omega
    generalize ms[p] = x at *
    by_cases h : b = true
    · subst h
      obtain ⟨os, hG, hn1, hn2⟩ := hg rfl
      obtain ⟨i0, i1, i2, i3, T4, T5, T6, T7, T8, T9, T10⟩ := x
      have g0 := hG.n0
      have g1 := hG.n1
      have g2 := hG.n2
      have g3 := hG.n3
      obtain ⟨a0, ha0⟩ := Int.eq_ofNat_of_zero_le g0.1
      obtain ⟨a1, ha1⟩ := Int.eq_ofNat_of_zero_le g1.1
      obtain ⟨a2, ha2⟩ := Int.eq_ofNat_of_zero_le g2.1
      obtain ⟨a3, ha3⟩ := Int.eq_ofNat_of_zero_le g3.1
      simp only [i63] at ha0 ha1 ha2 ha3 g0 g1 g2 g3
      subst ha0 ha1 ha2 ha3
      obtain ⟨s4, rfl⟩ : ∃ s, T4 = B s := ⟨_, B_of T4⟩
      obtain ⟨s5, rfl⟩ : ∃ s, T5 = B s := ⟨_, B_of T5⟩
      obtain ⟨s6, rfl⟩ : ∃ s, T6 = B s := ⟨_, B_of T6⟩
      obtain ⟨s7, rfl⟩ : ∃ s, T7 = B s := ⟨_, B_of T7⟩
      obtain ⟨s8, rfl⟩ : ∃ s, T8 = B s := ⟨_, B_of T8⟩
      obtain ⟨s9, rfl⟩ : ∃ s, T9 = B s := ⟨_, B_of T9⟩
      obtain ⟨s10, rfl⟩ : ∃ s, T10 = B s := ⟨_, B_of T10⟩
      have h4 := hF.h4
      have h5 := hF.h5
      have h6 := hF.h6
      have h7 := hF.h7
      have h8 := hF.h8
      have h9 := hF.h9
      have h10 := hF.h10
      simp only [i63, B_size] at h4 h5 h6 h7 h8 h9 h10
      have b0 : a0 ≤ 2147483647 := by omega
      have b1 : a1 ≤ 2147483647 := by omega
      have b2 : a2 ≤ 2147483647 := by omega
      have b3 : a3 ≤ 2147483647 := by omega
      have hl := lineX_len a0 a1 a2 a3 s4 s5 s6 s7 s8 s9 s10 b0 b1 b2 b3 h4 h5 h6 h7 h8 h9 h10
      have hle := lineX_lineL a0 a1 a2 a3 s4 s5 s6 s7 s8 s9 s10 os hG.o hn1 hn2
      rw [print_valid ms p a0 a1 a2 a3 s4 s5 s6 s7 s8 s9 s10 acc k (by omega) hp (by omega) b0 b1 b2 b3 h4 h5 h6 h7 h8 h9 h10 (by omega) hb]
      obtain ⟨t, c, e, hc⟩ := print_l0 ms hms hf d (p + 1) (acc ++ lineX a0 a1 a2 a3 s4 s5 s6 s7 s8 s9 s10) k (by omega) (by rw [List.length_append]; omega) (by omega)
      refine ⟨t, c, e, fun h1 => ?_⟩
      obtain ⟨ps, hps, hgd, ht⟩ := hc h1
      refine ⟨(i63 ⟨(a0 : Int), (a1 : Int), (a2 : Int), (a3 : Int), B s4, B s5, B s6, B s7, B s8, B s9, B s10⟩, os) :: ps, ?_, ?_, ?_⟩
      · rw [hdrop, List.map_cons, List.map_cons, hps]
      · intro y hy
        rcases List.mem_cons.1 hy with rfl | hy
        · exact hG
        · exact hgd y hy
      · rw [ht, hle]
        congr 1
        show _ = acc ++ (lineL _ os ++ 10 :: textL ps)
        rw [List.append_assoc, List.append_assoc]
        rfl
    · have h' : b = false := by simpa using h
      subst h'
      rw [spec_MountsPrint.l0, if_pos q1, if_pos z0, if_pos q1, hr]
      have hb' : spec_mountValid.f k x.f0 x.f1 x.f2 x.f3 x.f4 x.f5 x.f6 x.f7 x.f8 x.f9 x.f10 = some false := hb
      rw [hb']
      simp only [Option.bind_some]
      rw [if_neg (by simp)]
      exact ⟨_, _, rfl, fun h => absurd h (by decide)⟩
theorem print_f (ms : List S63) (k : Nat) (hms : ms.length ≤ 200) (hf : ∀ x ∈ ms, Fits (i63 x)) (hk : 50000000000 ≤ k) :
    ∃ t c, spec_MountsPrint.f k ms = some (t, c) ∧ (c = 1 → ∃ ps : List (Inf × List Bs), ps.map (·.1) = ms.map i63 ∧ (∀ y ∈ ps, Good y.1 y.2) ∧ t = B (textL ps)) := by
  obtain ⟨t, c, e, h⟩ := print_l0 ms hms hf ms.length 0 [] k (by omega) (by simp) (by omega)
  refine ⟨t, c, e, fun h1 => ?_⟩
  obtain ⟨ps, h2, h3, h4⟩ := h h1
  exact ⟨ps, by simpa using h2, h3, by simpa using h4⟩
end Go.Proofs.YtcpldcndhijecaaDoor.Pu
namespace Go.Proofs.YtcpldcndhijecaaDoor.Pu
open Go.RowKit Go.Proofs.YtcpldcndhijecaaDoorW.PrintWords Go.Proofs.YtcpldcndhijecaaDoorW.PrintLast
open Go.Proofs.YtcpldcndhijecaaDoor.QM0
set_option linter.unusedVariables false
set_option linter.unusedSimpArgs false
def i44 (x : S44) : Inf := ⟨x.f0, x.f1, x.f2, x.f3, x.f4, x.f5, x.f6, x.f7, x.f8, x.f9, x.f10⟩
def to63 (x : S44) : S63 := ⟨x.f0, x.f1, x.f2, x.f3, x.f4, x.f5, x.f6, x.f7, x.f8, x.f9, x.f10⟩
theorem rd44 (l : List S44) (p : Nat) (x : S44) (h : l[p]? = some x) : rd_T44 l (p : Int) = x := by
  unfold rd_T44
  simp only [Int.toNat_natCast, List.getD_eq_getElem?_getD, h]
  rfl
theorem fits2_f (x : S44) : ∃ b, laws_zzFits2.f x.f0 x.f1 x.f2 x.f3 x.f4 x.f5 x.f6 x.f7 x.f8 x.f9 x.f10 = some b ∧ (b = true → Fits (i44 x)) := by
  unfold laws_zzFits2.f
  have no : ∀ P : Prop, ∃ b, some false = some b ∧ (b = true → P) := fun P => ⟨false, rfl, by simp⟩
  by_cases h4 : (x.f4.size : Int) > 2147483647
  · rw [if_pos h4]; exact no _
  rw [if_neg h4]
  by_cases h5 : (x.f5.size : Int) > 2147483647
  · rw [if_pos h5]; exact no _
  rw [if_neg h5]
  by_cases h6 : (x.f6.size : Int) > 2147483647
  · rw [if_pos h6]; exact no _
  rw [if_neg h6]
  by_cases h7 : (x.f7.size : Int) > 2147483647
  · rw [if_pos h7]; exact no _
  rw [if_neg h7]
  by_cases h8 : (x.f8.size : Int) > 2147483647
  · rw [if_pos h8]; exact no _
  rw [if_neg h8]
  by_cases h9 : (x.f9.size : Int) > 2147483647
  · rw [if_pos h9]; exact no _
  rw [if_neg h9]
  by_cases h10 : (x.f10.size : Int) > 2147483647
  · rw [if_pos h10]; exact no _
  rw [if_neg h10]
  exact ⟨true, rfl, fun _ => ⟨by show x.f4.size ≤ _; omega, by show x.f5.size ≤ _; omega, by show x.f6.size ≤ _; omega, by show x.f7.size ≤ _; omega, by show x.f8.size ≤ _; omega, by show x.f9.size ≤ _; omega, by show x.f10.size ≤ _; omega⟩⟩
theorem fits1_l0 (l : List S44) (hl : l.length ≤ 2147483647) : ∀ (d p k : Nat), p + d = l.length → d < k →
    ∃ b, laws_zzFits1.l0 k l (l.length : Int) (p : Int) = some b ∧ (b = true → ∀ x ∈ l.drop p, Fits (i44 x))
  | 0, p, k, hd, hk => by
    obtain ⟨k, rfl⟩ : ∃ m, k = m + 1 := ⟨k - 1, by omega⟩
    rw [laws_zzFits1.l0, if_neg (by omega), List.drop_eq_nil_of_le (by omega)]
    exact ⟨true, rfl, fun _ x hx => by simp at hx⟩
  | d + 1, p, k, hd, hk => by
    obtain ⟨k, rfl⟩ : ∃ m, k = m + 1 := ⟨k - 1, by omega⟩
    have hlt : p < l.length := by omega
    have q1 : (p : Int) < (l.length : Int) := by omega
    have z0 : (0 : Int) ≤ (p : Int) := by omega
    obtain ⟨b', hb', hw'⟩ := fits1_l0 l hl d (p + 1) k (by omega) (by omega)
    have w1 := wr1 p (by omega)
    obtain ⟨b, hb, hg⟩ := fits2_f l[p]
    rw [laws_zzFits1.l0, if_pos q1, if_pos z0, if_pos q1, rd44 l p l[p] (List.getElem?_eq_getElem hlt), hb, w1]
    simp only [Option.bind_some]
    by_cases h : b = true
    · rw [if_pos h]
      refine ⟨b', hb', fun e => ?_⟩
      rw [List.drop_eq_getElem_cons hlt]
      intro x hx
      rcases List.mem_cons.1 hx with rfl | hx
      · exact hg h
      · exact hw' e x hx
    · rw [if_neg h]
      exact ⟨false, rfl, by simp⟩
theorem fits1_f (l : List S44) (k : Nat) (hk : l.length < k) : ∃ b, laws_zzFits1.f k l = some b ∧ (b = true → ∀ x ∈ l, Fits (i44 x)) := by
  unfold laws_zzFits1.f
  by_cases h : (l.length : Int) > 2147483647
  · rw [if_pos h]
    exact ⟨false, rfl, by simp⟩
  · rw [if_neg h]
    obtain ⟨b, hb, hw⟩ := fits1_l0 l (by omega) l.length 0 k (by omega) hk
    exact ⟨b, hb, by simpa using hw⟩
theorem mountsTo_l0 (l : List S44) (hl : l.length ≤ 1000000) : ∀ (d p : Nat) (acc : List S63) (k : Nat), p + d = l.length → acc.length ≤ 1000000 + p → d < k →
    laws_mountsTo.l0 k acc l (l.length : Int) (p : Int) = some (acc ++ (l.drop p).map to63)
  | 0, p, acc, k, hd, ha, hk => by
    obtain ⟨k, rfl⟩ : ∃ m, k = m + 1 := ⟨k - 1, by omega⟩
    rw [laws_mountsTo.l0, if_neg (by omega), List.drop_eq_nil_of_le (by omega)]
    simp
  | d + 1, p, acc, k, hd, ha, hk => by
    obtain ⟨k, rfl⟩ : ∃ m, k = m + 1 := ⟨k - 1, by omega⟩
    have hlt : p < l.length := by omega
    have q1 : (p : Int) < (l.length : Int) := by omega
    have z0 : (0 : Int) ≤ (p : Int) := by omega
    have q2 : acc.length < 977343669134 := by omega
    have ih := mountsTo_l0 l hl d (p + 1) (acc ++ [to63 l[p]]) k (by omega) (by rw [List.length_append, List.length_singleton]; omega) (by omega)
    have w1 := wr1 p (by omega)
    rw [laws_mountsTo.l0, if_pos q1, if_pos z0, if_pos q1, if_pos q2, rd44 l p l[p] (List.getElem?_eq_getElem hlt), w1]
    show laws_mountsTo.l0 k (acc ++ [to63 l[p]]) l (l.length : Int) ((p + 1 : Nat) : Int) = _
    rw [ih, List.drop_eq_getElem_cons hlt, List.map_cons, List.append_assoc]
    rfl
theorem mountsTo_f (l : List S44) (k : Nat) (hl : l.length ≤ 200) (hk : l.length < k) : laws_mountsTo.f k l = some (l.map to63) := by
  unfold laws_mountsTo.f
  have := mountsTo_l0 l (by omega) l.length 0 [] k (by omega) (by simp) hk
  simpa using this
theorem same_l0 (l : List S44) (hl : l.length ≤ 1000000) : ∀ (d p k : Nat), p + d = l.length → d < k →
    laws_sameMounts.l0 k l l (l.length : Int) (p : Int) = some true
  | 0, p, k, hd, hk => by
    obtain ⟨k, rfl⟩ : ∃ m, k = m + 1 := ⟨k - 1, by omega⟩
    rw [laws_sameMounts.l0, if_neg (by omega)]
  | d + 1, p, k, hd, hk => by
    obtain ⟨k, rfl⟩ : ∃ m, k = m + 1 := ⟨k - 1, by omega⟩
    have q1 : (p : Int) < (l.length : Int) := by omega
    have z0 : (0 : Int) ≤ (p : Int) := by omega
    have ih := same_l0 l hl d (p + 1) k (by omega) (by omega)
    have w1 := wr1 p (by omega)
    rw [laws_sameMounts.l0, if_pos q1, if_pos z0, if_pos q1, if_pos q1, w1, if_neg (by simp), ih]
theorem same_f (l : List S44) (k : Nat) (hl : l.length ≤ 1000000) (hk : l.length < k) : laws_sameMounts.f k l l = some true := by
  unfold laws_sameMounts.f
  rw [if_pos rfl]
  exact same_l0 l hl l.length 0 k (by omega) hk
def m0 : Inf := ⟨36, 35, 98, 0, B [47, 109, 110, 116, 49], B [47, 109, 110, 116, 50], B [114, 119, 44, 110, 111, 97, 116, 105, 109, 101], B [109, 97, 115, 116, 101, 114, 58, 49], B [101, 120, 116, 51], B [47, 100, 101, 118, 47, 114, 111, 111, 116], B [114, 119, 44, 101, 114, 114, 111, 114, 115, 61, 99, 111, 110, 116, 105, 110, 117, 101]⟩
def os0 : List Bs := [[109, 97, 115, 116, 101, 114, 58, 49]]
theorem good0 : Good m0 os0 where
  n0 := by decide
  n1 := by decide
  n2 := by decide
  n3 := by decide
  w6 := by unfold wordL; decide
  w8 := by unfold wordL; decide
  w10 := by unfold wordL; decide
  o := rfl
  ow := by unfold os0 wordL; decide
theorem text0 : textL [(m0, os0)] = [51, 54, 32, 51, 53, 32, 57, 56, 58, 48, 32, 47, 109, 110, 116, 49, 32, 47, 109, 110, 116, 50, 32, 114, 119, 44, 110, 111, 97, 116, 105, 109, 101, 32, 109, 97, 115, 116, 101, 114, 58, 49, 32, 45, 32, 101, 120, 116, 51, 32, 47, 100, 101, 118, 47, 114, 111, 111, 116, 32, 114, 119, 44, 101, 114, 114, 111, 114, 115, 61, 99, 111, 110, 116, 105, 110, 117, 101, 10] := by
  have a : natL 36 = [51, 54] := by rw [natL, if_neg (by decide), natL, if_pos (by decide)]; rfl
  have b : natL 35 = [51, 53] := by rw [natL, if_neg (by decide), natL, if_pos (by decide)]; rfl
  have c : natL 98 = [57, 56] := by rw [natL, if_neg (by decide), natL, if_pos (by decide)]; rfl
  have d : natL 0 = [48] := by rw [natL, if_pos (by decide)]; rfl
  have e : lineFs m0 os0 = [natL 36, natL 35, natL 98 ++ 58 :: natL 0, octL (dl m0.f4), octL (dl m0.f5), dl m0.f6] ++ (os0 ++ tailFs m0) := rfl
  show joinc 32 (lineFs m0 os0) ++ 10 :: [] = _
  rw [e, a, b, c, d]
  decide
theorem mounts_ok : laws_mounts.f = some true := by
  have h := mountsF_text 0 [] _ rfl [(m0, os0)] (by intro x hx; rw [List.mem_singleton.1 hx]; exact good0) (by rw [text0]; decide)
  rw [text0, runF_all] at h
  unfold laws_mounts.f laws_all.f impl_Mounts.f
  simp only [Option.bind_some]
  rw [show (⟨#[51, 54, 32, 51, 53, 32, 57, 56, 58, 48, 32, 47, 109, 110, 116, 49, 32, 47, 109, 110, 116, 50, 32, 114, 119, 44, 110, 111, 97, 116, 105, 109, 101, 32, 109, 97, 115, 116, 101, 114, 58, 49, 32, 45, 32, 101, 120, 116, 51, 32, 47, 100, 101, 118, 47, 114, 111, 111, 116, 32, 114, 119, 44, 101, 114, 114, 111, 114, 115, 61, 99, 111, 110, 116, 105, 110, 117, 101, 10]⟩ : ByteArray) = B [51, 54, 32, 51, 53, 32, 57, 56, 58, 48, 32, 47, 109, 110, 116, 49, 32, 47, 109, 110, 116, 50, 32, 114, 119, 44, 110, 111, 97, 116, 105, 109, 101, 32, 109, 97, 115, 116, 101, 114, 58, 49, 32, 45, 32, 101, 120, 116, 51, 32, 47, 100, 101, 118, 47, 114, 111, 111, 116, 32, 114, 119, 44, 101, 114, 114, 111, 114, 115, 61, 99, 111, 110, 116, 105, 110, 117, 101, 10] from rfl, h]
  simp only [Option.map_some, Option.bind_some]
  rw [if_pos trivial]
  have e : rd_T44 (List.map impl_Mounts.of (List.map (fun x => x.fst) [(m0, os0)])) 0 = impl_Mounts.of m0 := rfl
  rw [e]
  simp only [List.map_cons, List.map_nil, List.length_cons, List.length_nil]
  rw [if_pos (by decide), if_pos (by decide)]
  simp only [impl_Mounts.of, m0, B_toList]
  decide
end Go.Proofs.YtcpldcndhijecaaDoor.Pu
namespace Go.Proofs.YtcpldcndhijecaaDoor.Ck
open Go.ChangeShapes Go.WideShapes Go.ChangeAt Go.RowKit Go.Deep
open Go.Proofs.YtcpldcndhijecaaDoorW.PrintWords Go.Proofs.YtcpldcndhijecaaDoor.QM0
set_option linter.unusedVariables false
set_option linter.unusedSimpArgs false
theorem own : ownKnob Tryd.prog.godebug = none := by kernel_rfl
theorem laidOut : laidOutB Tryd.prog = true := by kernel_rfl
noncomputable def laidWorld (os : Os) : World :=
  let N := (World.settled Tryd.prog os).heap.size
  let w0 := World.holding Tryd.prog os ⟨#[.cells #[.string ⟨#[105, 110, 118, 97, 108, 105, 100, 32, 115, 121, 110, 116, 97, 120]⟩] 90, .cells #[.string ⟨#[118, 97, 108, 117, 101, 32, 111, 117, 116, 32, 111, 102, 32, 114, 97, 110, 103, 101]⟩] 90], #[], []⟩
  let put (h : Array Obj) (g : Nat) (cs : Array Value) : Array Obj := h.modify g fun
    | .cells _ t frozen => .cells cs t frozen
    | o => o
  let h0 := put (put w0.heap 0 #[.iface 88 (.pointer (some ⟨N, 0, none⟩))]) 1 #[.iface 88 (.pointer (some ⟨N + 1, 0, none⟩))]
  let h1 := put h0 3 #[.int .u64 1, .int .u64 10, .int .u64 100, .int .u64 1000, .int .u64 10000, .int .u64 100000, .int .u64 1000000, .int .u64 10000000, .int .u64 100000000, .int .u64 1000000000, .int .u64 10000000000, .int .u64 100000000000, .int .u64 1000000000000, .int .u64 10000000000000, .int .u64 100000000000000, .int .u64 1000000000000000, .int .u64 10000000000000000, .int .u64 100000000000000000, .int .u64 1000000000000000000, .int .u64 10000000000000000000]
  let h2 := put h1 4 (([0, 1, 28, 2, 29, 14, 24, 3, 30, 22, 20, 15, 25, 17, 4, 8, 31, 27, 13, 23, 21, 19, 16, 7, 26, 12, 18, 6, 11, 5, 10, 9] : List Int).map fun z => Value.int .u8 z).toArray
  let h3 := put h2 5 (([0, 1, 56, 2, 57, 49, 28, 3, 61, 58, 42, 50, 38, 29, 17, 4, 62, 47, 59, 36, 45, 43, 51, 22, 53, 39, 33, 30, 24, 18, 12, 5, 63, 55, 48, 27, 60, 41, 37, 16, 46, 35, 44, 21, 52, 32, 23, 11, 54, 26, 40, 15, 34, 20, 31, 10, 25, 14, 19, 9, 13, 8, 7, 6] : List Int).map fun z => Value.int .u8 z).toArray
  { w0 with heap := h3 }
noncomputable abbrev N0 : Nat := (World.settled Tryd.prog default).heap.size
theorem choose_lt' {α : Type} [Inhabited α] {n : Nat} {p : Nat → α → Prop} (h : ∀ i, i < n → ∃ q, p i q) : ∃ f : Nat → α, ∀ i, i < n → p i (f i) :=
  ⟨fun i => if hi : i < n then (h i hi).choose else default, fun i hi => by simp only [dif_pos hi]; exact (h i hi).choose_spec⟩
instance : Inhabited S44 := ⟨z44⟩
set_option maxRecDepth 100000 in
theorem open_mount {H : Type} {enc : TypeId × Value → H} {W : World} {base : Nat} {spare : Nat → Bool} {held : Bool} {n : Nat} {cs : List Value} {y : DataW H × List MemPlace} (hl : cs.length = 11)
    (h : DataW.trod enc Tryd.prog W base spare held n 44 cs = some y) : ∃ x : S44, cs = [.int .i64 x.f0, .int .i64 x.f1, .int .i64 x.f2, .int .i64 x.f3, .string x.f4, .string x.f5, .string x.f6, .string x.f7, .string x.f8, .string x.f9, .string x.f10] := by
  obtain ⟨xs, k, _, _, _, hxl, hf⟩ := DataW.trod_struct Tryd.underlying44 h
  match cs, hl with
  | [c0, c1, c2, c3, c4, c5, c6, c7, c8, c9, c10], _ =>
    have hxl' : xs.length = 11 := hxl
    match xs, hxl' with
    | [y0, y1, y2, y3, y4, y5, y6, y7, y8, y9, y10], _ =>
      have k3 : Tryd.prog.cellsOf 3 = 1 := by kernel_rfl
      have k9 : Tryd.prog.cellsOf 9 = 1 := by kernel_rfl
      have g0 := hf 0 _ rfl
      have g1 := hf 1 _ rfl
      have g2 := hf 2 _ rfl
      have g3 := hf 3 _ rfl
      have g4 := hf 4 _ rfl
      have g5 := hf 5 _ rfl
      have g6 := hf 6 _ rfl
      have g7 := hf 7 _ rfl
      have g8 := hf 8 _ rfl
      have g9 := hf 9 _ rfl
      have g10 := hf 10 _ rfl
      simp [k3, k9] at g0 g1 g2 g3 g4 g5 g6 g7 g8 g9 g10
      obtain ⟨a0, e0, _⟩ := DataW.trod_int Tryd.underlying3 g0
      obtain ⟨a1, e1, _⟩ := DataW.trod_int Tryd.underlying3 g1
      obtain ⟨a2, e2, _⟩ := DataW.trod_int Tryd.underlying3 g2
      obtain ⟨a3, e3, _⟩ := DataW.trod_int Tryd.underlying3 g3
      obtain ⟨s4, e4, _⟩ := DataW.trod_string Tryd.underlying9 g4
      obtain ⟨s5, e5, _⟩ := DataW.trod_string Tryd.underlying9 g5
      obtain ⟨s6, e6, _⟩ := DataW.trod_string Tryd.underlying9 g6
      obtain ⟨s7, e7, _⟩ := DataW.trod_string Tryd.underlying9 g7
      obtain ⟨s8, e8, _⟩ := DataW.trod_string Tryd.underlying9 g8
      obtain ⟨s9, e9, _⟩ := DataW.trod_string Tryd.underlying9 g9
      obtain ⟨s10, e10, _⟩ := DataW.trod_string Tryd.underlying9 g10
      simp at e0 e1 e2 e3 e4 e5 e6 e7 e8 e9 e10
      subst e0 e1 e2 e3 e4 e5 e6 e7 e8 e9 e10
      exact ⟨⟨a0, a1, a2, a3, s4, s5, s6, s7, s8, s9, s10⟩, rfl⟩
theorem open_mounts {H : Type} {enc : TypeId × Value → H} {W : World} {base : Nat} {a : Option Addr} {len cap : Nat} {fuel : Nat} {x : DataW H × List MemPlace} {spare : Nat → Bool} {held : Bool}
    (hf : DataW.trod enc Tryd.prog W base spare held fuel 22 [.slice a len cap] = some x) : ∃ l : List S44, l.length = len ∧ len ≤ cap ∧ Kd.C k44 W a l.length l := by
  rcases open_slice Tryd.underlying22 hf with ⟨hcs, _⟩ | ⟨ad, l', c', m, n, D, Pl, hcs, _, hl, hm, hmm, _, hx⟩
  · simp at hcs
    obtain ⟨rfl, rfl, rfl⟩ := hcs
    exact ⟨[], rfl, Nat.le_refl _, rfl, by decide, fun h => absurd h (by decide)⟩
  · simp at hcs
    obtain ⟨rfl, rfl, rfl⟩ := hcs
    have hle : len ≤ m := by rw [hmm]; split <;> omega
    have k44c : Tryd.prog.cellsOf 44 = 11 := by kernel_rfl
    have each : ∀ i, i < m → ∃ q : S44, ∀ j u, [Value.int .i64 q.f0, .int .i64 q.f1, .int .i64 q.f2, .int .i64 q.f3, .string q.f4, .string q.f5, .string q.f6, .string q.f7, .string q.f8, .string q.f9, .string q.f10][j]? = some u → W.cell? (ad.add (i * 11 + j)) = some u := by
      intro i hi
      obtain ⟨cs', h1, h2⟩ := hx i hi
      rw [k44c] at h1
      obtain ⟨_, hlen, hcell⟩ := World.cells?_some h1
      obtain ⟨q, rfl⟩ := open_mount hlen h2
      refine ⟨q, fun j u hu => ?_⟩
      have hj : j < 11 := (List.getElem?_eq_some_iff.1 hu).1
      have := hcell j hj
      rw [Deep.add_add] at this
      rw [this, hu]
    obtain ⟨q, hq⟩ := choose_lt' each
    refine ⟨(List.range len).map q, by simp, hl, by simp, by simp only [List.length_map, List.length_range]; unfold maxLen at hm; omega, fun _ => ⟨ad, rfl, fun j p hj => ?_⟩⟩
    have hj' : j < len := by
      have := (List.getElem?_eq_some_iff.1 hj).1
      simpa using this
    rw [List.getElem?_map, List.getElem?_range hj'] at hj
    obtain rfl := Option.some.inj hj
    exact ⟨_, rfl, k44_mk W (q j), fun i u hu => hq j (by omega) i u hu⟩
end Go.Proofs.YtcpldcndhijecaaDoor.Ck
namespace Go.Proofs.YtcpldcndhijecaaDoor.Pu
open Go.RowKit Go.Proofs.YtcpldcndhijecaaDoorW.PrintWords Go.Proofs.YtcpldcndhijecaaDoorW.PrintLast
open Go.Proofs.YtcpldcndhijecaaDoor.QM0
set_option linter.unusedVariables false
set_option linter.unusedSimpArgs false
theorem lprintable_l0 (s : Bs) (hs : s.length ≤ 4611686018427387904) : ∀ (d p k : Nat), p + d = s.length → d < k → ∃ b, laws_printable.l0 k (B s) (s.length : Int) (p : Int) = some b
  | 0, p, k, hd, hk => by
    obtain ⟨k, rfl⟩ : ∃ m, k = m + 1 := ⟨k - 1, by omega⟩
    rw [laws_printable.l0, if_neg (by omega)]
    exact ⟨_, rfl⟩
  | d + 1, p, k, hd, hk => by
    obtain ⟨k, rfl⟩ : ∃ m, k = m + 1 := ⟨k - 1, by omega⟩
    have q1 : (p : Int) < (s.length : Int) := by omega
    have q2 : (p : Int) < ((B s).size : Int) := by rw [B_size]; omega
    have z0 : (0 : Int) ≤ (p : Int) := by omega
    obtain ⟨b, hb⟩ := lprintable_l0 s hs d (p + 1) k (by omega) (by omega)
    have w1 := wr1 p (by omega)
    rw [laws_printable.l0, if_pos q1, if_pos z0, if_pos q2, w1, hb]
    split
    · exact ⟨_, rfl⟩
    · split <;> exact ⟨_, rfl⟩
theorem lprintable_f (s : Bs) (k : Nat) (hs : s.length ≤ 4611686018427387904) (hk : s.length < k) : ∃ b, laws_printable.f k (B s) = some b := by
  unfold laws_printable.f
  rw [B_size]
  exact lprintable_l0 s hs s.length 0 k (by omega) hk
theorem clean_l0 (s : Bs) (hs : s.length ≤ 2147483647) : ∀ (d i k : Nat) (part : Bs), i + d = s.length + 1 → part.length ≤ i → 2 * d < k → ∃ b, laws_cleanPath.l0 k (B s) (B part) (i : Int) = some b
  | 0, i, k, part, hd, hp, hk => by
    obtain ⟨k, rfl⟩ : ∃ m, k = m + 1 := ⟨k - 1, by omega⟩
    rw [laws_cleanPath.l0, if_neg (by rw [B_size]; omega)]
    exact ⟨_, rfl⟩
  | d + 1, i, k, part, hd, hp, hk => by
    obtain ⟨k, rfl⟩ : ∃ m, k = m + 2 := ⟨k - 2, by omega⟩
    have q0 : (i : Int) ≤ ((B s).size : Int) := by rw [B_size]; omega
    have z0 : (0 : Int) ≤ (i : Int) := by omega
    have q3 : (i : Int) ≤ ((i + 1 : Nat) : Int) := by omega
    obtain ⟨b0, hb0⟩ := clean_l0 s hs d (i + 1) k [] (by omega) (by simp) (by omega)
    by_cases hi : i = s.length
    · have q1 : (i : Int) = ((B s).size : Int) := by rw [B_size]; omega
      have w1 := wr1 i (by omega)
      rw [laws_cleanPath.l0, if_pos q0, if_pos q1, laws_cleanPath.j2, if_pos rfl, w1, B_nil, hb0]
      split
      · exact ⟨_, rfl⟩
      · split
        · exact ⟨_, rfl⟩
        · split
          · exact ⟨_, rfl⟩
          · split <;> exact ⟨_, rfl⟩
    · have q1 : ¬ (i : Int) = ((B s).size : Int) := by rw [B_size]; omega
      have q2 : (i : Int) < ((B s).size : Int) := by rw [B_size]; omega
      have q4 : ((i + 1 : Nat) : Int) ≤ ((B s).size : Int) := by rw [B_size]; omega
      have hlt : i < s.length := by omega
      have ex : (B s).extract i (i + 1) = B [s[i]] := by rw [B_extract, (one_win s i s[i]).2 (List.getElem?_eq_getElem hlt)]
      have q5 : (B part).size + (B [s[i]]).size ≤ 9223372036854775807 := by rw [B_size, B_size]; simp only [List.length_singleton]; omega
      obtain ⟨b1, hb1⟩ := clean_l0 s hs d (i + 1) k (part ++ [s[i]]) (by omega) (by rw [List.length_append, List.length_singleton]; omega) (by omega)
      have w1 := wr1 i (by omega)
      rw [laws_cleanPath.l0, if_pos q0, if_neg q1, if_pos z0, if_pos q2, laws_cleanPath.j2, w1, B_nil, hb0, if_pos z0, if_pos q3, if_pos q4]
      simp only [Int.toNat_natCast]
      rw [ex, if_pos q5, B_append, hb1]
      split
      · split
        · exact ⟨_, rfl⟩
        · split
          · exact ⟨_, rfl⟩
          · split
            · exact ⟨_, rfl⟩
            · split <;> exact ⟨_, rfl⟩
      · exact ⟨_, rfl⟩
theorem clean_j0 (s : Bs) (hs : s.length ≤ 2147483647) (b : Bool) (k : Nat) (hk : 2 * s.length + 1 < k) : ∃ r, laws_cleanPath.j0 k (B s) b = some r := by
  obtain ⟨k, rfl⟩ : ∃ m, k = m + 1 := ⟨k - 1, by omega⟩
  rw [laws_cleanPath.j0]
  split
  · exact ⟨_, rfl⟩
  · rw [B_nil]
    exact clean_l0 s hs s.length 1 k [] (by omega) (by simp) (by omega)
theorem clean_f (T : ByteArray) (k : Nat) (hs : T.size ≤ 2147483647) (hk : 5000000000 ≤ k) : ∃ r, laws_cleanPath.f k T = some r := by
  obtain ⟨s, rfl⟩ : ∃ s, T = B s := ⟨_, B_of T⟩
  rw [B_size] at hs
  unfold laws_cleanPath.f
  obtain ⟨b, hb⟩ := lprintable_f s k (by omega) (by omega)
  rw [hb, Option.bind_some]
  obtain ⟨r1, h1⟩ := clean_j0 s hs true k (by omega)
  obtain ⟨r2, h2⟩ := clean_j0 s hs (decide (((B s).size : Int) > 200)) k (by omega)
  rw [h1, h2]
  simp only [B_toList]
  split
  · split
    · exact ⟨_, rfl⟩
    · rename_i hne
      have hl : 0 < s.length := List.length_pos_iff.2 hne
      rw [if_pos (by rw [B_size]; omega)]
      split
      · split
        · exact ⟨_, rfl⟩
        · have w : wrap64 (((B s).size : Int) - 1) = ((s.length - 1 : Nat) : Int) := by
            rw [B_size]
            unfold wrap64
            omega
          rw [w, if_pos (by omega), if_pos (by rw [B_size]; omega)]
          split <;> exact ⟨_, rfl⟩
      · exact ⟨_, rfl⟩
  · exact ⟨_, rfl⟩
theorem printed_f (l : List S44) (k : Nat) (hk : 60000000000 ≤ k) (hF : ∀ x ∈ l, Fits (i44 x)) :
    ∃ t b, laws_printed.f k l = some (t, b) ∧ (b = true → l.length ≤ 200 ∧ ∃ ps : List (Inf × List Bs), ps.map (·.1) = l.map i44 ∧ (∀ y ∈ ps, Good y.1 y.2) ∧ t = B (textL ps) ∧ (textL ps).length ≤ 65000) := by
  unfold laws_printed.f
  by_cases hl : (l.length : Int) > 200
  · rw [if_pos hl]
    exact ⟨_, _, rfl, by simp⟩
  rw [if_neg hl, mountsTo_f l k (by omega) (by omega), Option.bind_some]
  obtain ⟨t, c, ht, hc⟩ := print_f (l.map to63) k (by rw [List.length_map]; omega) (by
    intro x hx
    obtain ⟨y, hy, rfl⟩ := List.mem_map.1 hx
    exact hF y hy) (by omega)
  rw [ht, Option.bind_some]
  by_cases h1 : c = 1
  rotate_left
  · rw [if_neg h1]
    exact ⟨_, _, rfl, by simp⟩
  rw [if_pos h1]
  refine ⟨_, _, rfl, fun h6 => ?_⟩
  have h6' : (t.size : Int) ≤ 60000 := by simpa using h6
  obtain ⟨ps, hps, hgd, rfl⟩ := hc h1
  rw [B_size] at h6'
  refine ⟨by omega, ps, ?_, hgd, rfl, by omega⟩
  rw [hps, List.map_map]
  rfl
theorem impl_f (kind : Int) (paths : List ByteArray) (F : Inf → Bool × Bool) (hF : QT0.filterOf kind paths = some F) (l : List S44) (ps : List (Inf × List Bs)) (hps : ps.map (·.1) = l.map i44) (hg : ∀ y ∈ ps, Good y.1 y.2) (hl : (textL ps).length ≤ 65000) :
    impl_Mounts.f (B (textL ps)) kind paths = some ((runF F (l.map i44)).map impl_Mounts.of, 0) := by
  unfold impl_Mounts.f
  rw [mountsF_text kind paths F hF ps hg hl, hps]
  rfl
theorem filter_map_of (g : Inf → Bool) (l : List S44) : ((l.map i44).filter g).map impl_Mounts.of = l.filter fun x => g (i44 x) := by
  rw [List.filter_map, List.map_map]
  conv => rhs; rw [← List.map_id (List.filter _ l)]
  rfl
theorem filter_4 (p : ByteArray) (h : p.size ≤ 4611686018427387904) : QT0.filterOf 4 [p] = some (QT0.single p) := by
  unfold QT0.filterOf
  rw [if_neg (by decide), if_neg (by decide)]
  show (if p.size ≤ 4611686018427387904 then _ else none) = _
  rw [if_pos h]
  rfl
theorem run_first (F : Inf → Bool × Bool) (g : Inf → Bool) (hF : ∀ m, F m = (!(g m), g m)) : ∀ ms : List Inf, runF F ms = (ms.filter g).take 1
  | [] => rfl
  | m :: r => by
    unfold runF
    rw [hF m, run_first F g hF r]
    cases h : g m <;> simp [h]
theorem single_l0 (l : List S44) (path t : ByteArray) (hfin : impl_Mounts.f t 4 [path] = some ((l.filter fun x => x.f5.toList == path.toList).take 1, 0)) (hl : l.length ≤ 200) (hF : ∀ x ∈ l, Fits (i44 x)) :
    ∀ (d p : Nat) (acc : List S44) (k : Nat), p + d = l.length → (acc = [] ∧ ((l.drop p).filter fun x => x.f5.toList == path.toList).take 1 = (l.filter fun x => x.f5.toList == path.toList).take 1 ∨ acc = (l.filter fun x => x.f5.toList == path.toList).take 1 ∧ acc.length = 1) → d + 10000000000 ≤ k →
    laws_FnMountsSingle.l0 k path t acc l (l.length : Int) (p : Int) = some true
  | 0, p, acc, k, hd, hacc, hk => by
    obtain ⟨k, rfl⟩ : ∃ m, k = m + 1 := ⟨k - 1, by omega⟩
    have e : acc = (l.filter fun x => x.f5.toList == path.toList).take 1 := by
      rcases hacc with ⟨h1, h2⟩ | ⟨h1, _⟩
      · rw [List.drop_eq_nil_of_le (by omega)] at h2
        rw [h1, ← h2]
        rfl
      · exact h1
    have hal : acc.length ≤ 1 := by rw [e]; exact List.length_take_le _ _
    rw [laws_FnMountsSingle.l0, if_neg (by omega), hfin, Option.bind_some, if_pos rfl, ← e, same_f acc k (by omega) (by omega), Option.bind_some, if_pos rfl, mounts_ok, Option.bind_some]
  | d + 1, p, acc, k, hd, hacc, hk => by
    obtain ⟨k, rfl⟩ : ∃ m, k = m + 1 := ⟨k - 1, by omega⟩
    have hlt : p < l.length := by omega
    have q1 : (p : Int) < (l.length : Int) := by omega
    have z0 : (0 : Int) ≤ (p : Int) := by omega
    have hFx := hF _ (List.getElem_mem hlt)
    have hx5 : (l[p]).f5.size ≤ 2147483647 := hFx.h5
    obtain ⟨b, hb⟩ := clean_f (l[p]).f5 k hx5 (by omega)
    have ih := fun acc' h1 => single_l0 l path t hfin hl hF d (p + 1) acc' k (by omega) h1 (by omega)
    rw [List.drop_eq_getElem_cons hlt, List.filter_cons] at hacc
    have w1 := wr1 p (by omega)
    rw [laws_FnMountsSingle.l0, if_pos q1, if_pos z0, if_pos q1, rd44 l p l[p] (List.getElem?_eq_getElem hlt), hb, Option.bind_some, w1]
    by_cases hbt : b = true
    · rw [if_pos hbt]
      by_cases hu : (l[p]).f5.toList = path.toList
      · have hu' : ((l[p]).f5.toList == path.toList) = true := by simpa using hu
        rw [if_pos hu]
        rw [if_pos hu'] at hacc
        rcases hacc with ⟨h1, h2⟩ | ⟨h1, h2⟩
        · subst h1
          rw [if_pos (show (((([] : List S44)).length : Nat) : Int) = 0 from rfl), if_pos (show (([] : List S44)).length < 977343669134 by decide)]
          refine ih _ (.inr ⟨?_, rfl⟩)
          rw [← h2]
          rfl
        · have : ¬ ((acc.length : Nat) : Int) = 0 := by rw [h2]; decide
          rw [if_neg this]
          exact ih acc (.inr ⟨h1, h2⟩)
      · have hu' : ¬ ((l[p]).f5.toList == path.toList) = true := by simpa using hu
        rw [if_neg hu]
        rw [if_neg hu'] at hacc
        exact ih acc hacc
    · rw [if_neg hbt]
theorem take_map_of (g : Inf → Bool) (l : List S44) : (((l.map i44).filter g).take 1).map impl_Mounts.of = (l.filter fun x => g (i44 x)).take 1 := by
  rw [List.map_take, filter_map_of]
theorem FnMountsSingle (l : List S44) (path : ByteArray) : ∃ k, laws_FnMountsSingle.f k l path = some true := by
  refine ⟨l.length + 1000000000000, ?_⟩
  generalize hK : l.length + 1000000000000 = k
  unfold laws_FnMountsSingle.f
  obtain ⟨b, hb, hF⟩ := fits1_f l k (by omega)
  obtain ⟨k, rfl⟩ : ∃ m, k = m + 2 := ⟨k - 2, by omega⟩
  rw [hb, Option.bind_some]
  by_cases h : b = true
  rotate_left
  · rw [if_neg h, laws_FnMountsSingle.j0, if_pos rfl]
  rw [if_pos h, laws_FnMountsSingle.j0]
  replace hF := hF h
  by_cases hp : (path.size : Int) > 2147483647
  · rw [if_pos (by simpa using hp)]
  rw [if_neg (by simpa using hp)]
  obtain ⟨t, bb, ht, hc⟩ := printed_f l (k + 1) (by omega) hF
  rw [ht, Option.bind_some]
  by_cases hbb : bb = true
  rotate_left
  · rw [if_neg hbb, laws_FnMountsSingle.j1, if_pos rfl]
  rw [if_pos hbb]
  obtain ⟨hl, ps, hps, hgd, rfl, hlen⟩ := hc hbb
  obtain ⟨r, hr⟩ := clean_f path (k + 1) (by omega) (by omega)
  rw [hr, Option.bind_some, laws_FnMountsSingle.j1]
  split
  · rfl
  · have hfin := impl_f 4 [path] (QT0.single path) (filter_4 path (by omega)) l ps hps hgd hlen
    rw [run_first (QT0.single path) (fun m => m.f5.toList == path.toList) (fun m => rfl), take_map_of] at hfin
    exact single_l0 l path _ hfin hl hF l.length 0 [] k (by omega) (.inl ⟨rfl, by simp⟩) (by omega)
end Go.Proofs.YtcpldcndhijecaaDoor.Pu
namespace Go.Proofs.YtcpldcndhijecaaDoor.fnMountsSingle
open Go.ChangeShapes Go.WideShapes Go.ChangeAt Go.RowKit
open Go.Proofs.YtcpldcndhijecaaDoorW.PrintWords Go.Proofs.YtcpldcndhijecaaDoor.QM0 Go.Proofs.YtcpldcndhijecaaDoor.Ck
set_option linter.unusedVariables false
set_option linter.unusedSimpArgs false
theorem laid_met (os : Os) (args : Array Value) : laidMet Tryd.prog Rows.fnMountsSingleRow.laid ((laidWorld os).forCall (fun _ _ => 0) ⟨#[], args, []⟩).memory :=
  (LaidIn.of_run [4, 5, 3, 1, N0 + 1, 0, N0] 8 (by kernel_rfl) (by kernel_rfl) (by kernel_rfl) (by kernel_rfl)).met
theorem witness_row (os : Os) {H : Type} (enc : TypeId × Value → H) :
    (OpenSpec.ofChange Rows.fnMountsSingleSpec).preRow enc Tryd.prog Tryd.f6 Rows.fnMountsSingleRow.domain false Rows.fnMountsSingleRow.laid ((laidWorld os).forCall (fun _ _ => 0) ⟨#[], #[.slice none 0 0, .string ⟨#[]⟩], []⟩).memory #[.slice none 0 0, .string ⟨#[]⟩] := by
  have hw : (DataW.whole enc Tryd.prog ((laidWorld os).forCall (fun _ _ => 0) ⟨#[], #[.slice none 0 0, .string ⟨#[]⟩], []⟩).memory Tryd.f6.params.toList Rows.fnMountsSingleSpec.vars false (#[.slice none 0 0, .string ⟨#[]⟩] : Array Value).toList 8).map (fun x => (x.1, x.2.1)) =
      some ([.nil, .lit (.string [])], []) := by kernel_rfl
  obtain ⟨⟨x1, x2, x3⟩, hx, hx1⟩ := Option.map_eq_some_iff.1 hw
  simp only [Prod.mk.injEq] at hx1
  obtain ⟨rfl, rfl⟩ := hx1
  exact OpenSpec.preRow_of_cond 8 hx (by kernel_rfl) (fun k hk => by cases hk) (by kernel_rfl) (laid_met os _)
set_option maxRecDepth 100000 in
theorem lifted (os : Os) (started : os.Started) (H : Type) (enc : TypeId × Value → H) (F : Stop.Interp) :
    ReturnsInHanded {} Tryd.checked os 6 .any ((OpenSpec.ofChange Rows.fnMountsSingleSpec).preRow enc Tryd.prog Tryd.f6 Rows.fnMountsSingleRow.domain false Rows.fnMountsSingleRow.laid) (((OpenSpec.ofChange Rows.fnMountsSingleSpec).at F).post enc Tryd.prog Tryd.f6 false true false false) := by
  refine returnsInHanded_of_row (C := Tryd.checked) (s := OpenSpec.ofChange Rows.fnMountsSingleSpec) own started (by kernel_rfl) Tryd.func6
    (witness_row_atRef (enc := enc) (C := Tryd.checked) false (laidWorld os) #[.slice none 0 0, .string ⟨#[]⟩] rfl (by kernel_rfl) (by kernel_rfl) (by kernel_rfl) (witness_row os enc)) ?_
  intro W base args ds gs before hval0 hW hcnd _ hsz0 hL hsh _
  have hsz : (DataW.weightsEach Tryd.prog (Tryd.f6.params.toList ++ (OpenSpec.ofChange Rows.fnMountsSingleSpec).bare.plain.varTypes Tryd.prog) (ds ++ gs)).all (· ≤ reachBytes) = true := hsz0
  have hval : ∀ (j : Nat) t v, Tryd.f6.params[j]? = some t → args[j]? = some v → Value.okWide Tryd.prog W .any base t v := hval0
  have hW' := hW
  obtain ⟨p, q, hA0, hV, rfl, hfz, hnd⟩ := hW
  have hA : DataW.TrodAll enc Tryd.prog W 0 (fun _ => true) true Tryd.f6.params.toList args.toList ds p := hA0
  rw [Tryd.params6] at hA hval hsz
  obtain ⟨v0, vs0, d0, ds0, p0, q0, hargs, rfl, rfl, h0, r0⟩ := trodAll_cons hA
  obtain ⟨v1, vs1, d1, ds1, p1, q1, hargs1, rfl, rfl, h1, r1⟩ := trodAll_cons r0
  obtain ⟨rfl, rfl, rfl⟩ := trodAll_nil r1
  obtain rfl : args = #[v0, v1] := by cases args; simp_all
  obtain ⟨rfl, rfl⟩ := trodVars_none hV
  obtain ⟨a0, len0, cap0, rfl⟩ := okWide_slice Tryd.underlying22 (hval 0 22 v0 rfl rfl)
  have k0 := h0
  have k1 := h1
  have lt0 : ∀ x ∈ p0, x.block < W.heap.size := by obtain ⟨m, hm⟩ := k0; exact DataW.trod_lt m _ _ _ hm
  have lt1 : ∀ x ∈ p1, x.block < W.heap.size := by obtain ⟨m, hm⟩ := k1; exact DataW.trod_lt m _ _ _ hm
  obtain ⟨l, hlen, hcap, hC⟩ : ∃ l : List S44, l.length = len0 ∧ len0 ≤ cap0 ∧ Kd.C k44 W a0 l.length l := by
    obtain ⟨fuel, hf⟩ := h0
    exact open_mounts hf
  subst hlen
  obtain ⟨s, rfl⟩ := okWide_string Tryd.underlying9 (hval 1 9 v1 rfl rfl)
  clear hA0 hval0 hsz0 hsz
  obtain ⟨k, hk⟩ := Pu.FnMountsSingle l s
  refine (laws_FnMountsSingle.calls k a0 cap0 l s true W hC hcap hk).mono fun e W' ⟨he, bel⟩ => ?_
  subst he
  exact ⟨_, rfl, _, _, _, [], _, [], hW', trodAll_mk1 (shut_bool Tryd.underlying4 _), (trodAll_cons_mk (Below.trod laidOut (by kernel_rfl) (of_decide_eq_true (by kernel_rfl)) k0 bel lt0) (trodAll_cons_mk (Below.trod laidOut (by kernel_rfl) (of_decide_eq_true (by kernel_rfl)) k1 bel lt1) trodAll_mk0)), rfl, bel.frame _, fun h => by cases h⟩
theorem said : Rows.FnMountsSingleSaid :=
  OpenClaim.holds_of_cond 6 Tryd.f6 rfl rfl rfl rfl rfl rfl rfl ⟨rfl, rfl, rfl, rfl, rfl⟩ rfl rfl rfl rfl rfl (by kernel_rfl) Tryd.func6 (by kernel_rfl)
    (of_decide_eq_true (by kernel_rfl)) (by unfold Func.isWrapper; first | (rw [if_pos (by decide +kernel)]; kernel_rfl) | (rw [if_neg (by decide +kernel)]; exact ⟨rfl, rfl⟩))
    (fun os started H enc _ F => by rw [OpenClaim.pre_eq_preRow]; exact lifted os started H enc F)
theorem plain (f : FuncId) (fn : Func) (hf : Tryd.pinned.checked.prog.funcNamed "pub-frontispiece/laws.FnMountsSingle" = some f) (hfn : Tryd.pinned.checked.prog.funcs[f]? = some fn) :
    true = Tryd.pinned.checked.prog.looks [] ∧ ∀ (j : Nat) t, fn.params[j]? = some t → Tryd.pinned.checked.prog.wantsStandIn t = false := by
  obtain rfl : f = 6 := Option.some.inj ((show Tryd.prog.funcNamed "pub-frontispiece/laws.FnMountsSingle" = some 6 by kernel_rfl).symm.trans hf) |>.symm
  obtain rfl : fn = Tryd.f6 := (Option.some.inj (Tryd.func6.symm.trans hfn)).symm
  refine ⟨by kernel_rfl, fun j t ht => ?_⟩
  rw [Tryd.params6] at ht
  have hm : t = 22 ∨ t = 9 := by simpa using Array.mem_of_getElem? ht
  rcases hm with rfl | rfl
  · exact (show Tryd.prog.wantsStandIn 22 = false by kernel_rfl)
  · exact (show Tryd.prog.wantsStandIn 9 = false by kernel_rfl)
theorem card : Rows.FnMountsSingleCardSaid :=
  Claim7.holds_tied_plain_at .later [] _ _ _ _ said (fun _ h => by cases h) (by kernel_rfl) (fun _ h => by cases h) fnMountsSingle_row_tie rfl ⟨rfl, rfl⟩ (by kernel_rfl) rfl plain (by kernel_rfl)
#print axioms card
end Go.Proofs.YtcpldcndhijecaaDoor.fnMountsSingle
namespace Go.Proofs.YtcpldcndhijecaaDoor
theorem fnMountsSingle_card_holds : Rows.FnMountsSingleCardSaid := fnMountsSingle.card
end Go.Proofs.YtcpldcndhijecaaDoor
