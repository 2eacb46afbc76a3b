/- The texts QA0x2, Ps, BStatm, QA0x10, QA0x11, QA0x12, QA0x13, without what the claims do not use, laid together by a program of this session (wip/tools/bundle.py). Conditions: those of each theorem. -/
import Derived.Test.YtabfehcpcjcomaaGreatDoorZc2
import Derived.Outline
namespace Go.Proofs.YtabfehcpcjcomaaGreatDoor.QA0
open Go.RowKit Go.Proofs.YtabfehcpcjcomaaGreatDoorW.PrintWords Go.Proofs.YtabfehcpcjcomaaGreatDoorW.PrintLast Go.Proofs.YtabfehcpcjcomaaGreatDoorW.PrintMore
attribute [local go_sem] max2_int min2_int max_two min_two max_three min_three max_four min_four
set_option linter.unusedVariables false
set_option linter.unusedSimpArgs false
def impl_Statm_1.f (a0_0 : Int) (a0_1 : Int) (a0_2 : Int) (a0_3 : Int) (a0_4 : Int) (a0_5 : Int) (a0_6 : Int) (a0_7 : Int) : Option (ByteArray × Int × Bool × Int × Int × Nat × ByteArray × (List (S34))) := (impl_procfsProcStatm.f (⟨#[]⟩ : ByteArray) a0_0 a0_1 a0_2 a0_3 a0_4 a0_5 a0_6 a0_7).bind fun bt142 => (some (bt142.1, bt142.2.1, bt142.2.2.1, bt142.2.2.2.1, bt142.2.2.2.2.1, bt142.2.2.2.2.2.1, bt142.2.2.2.2.2.2.1, bt142.2.2.2.2.2.2.2))
set_option maxHeartbeats 8000000 in
set_option maxRecDepth 100000 in
theorem impl_Statm_1.calls (a0_0 : Int) (a0_1 : Int) (a0_2 : Int) (a0_3 : Int) (a0_4 : Int) (a0_5 : Int) (a0_6 : Int) (a0_7 : Int) (r1 : ByteArray) (r2 : Int) (r3 : Bool) (r4 : Int) (r5 : Int) (r6 : Nat) (r7 : ByteArray) (r8 : List (S34)) (w : World) (h : impl_Statm_1.f a0_0 a0_1 a0_2 a0_3 a0_4 a0_5 a0_6 a0_7 = some (r1, r2, r3, r4, r5, r6, r7, r8)) :
 Calls Tryz.prog 64 #[.agg #[.int .i64 a0_0, .int .u64 a0_1, .int .u64 a0_2, .int .u64 a0_3, .int .u64 a0_4, .int .u64 a0_5, .int .u64 a0_6, .int .u64 a0_7]] w fun e w' => ∃ v7_ : Value, e = .returned (.agg #[.string r1, .int .i64 r2, .bool r3, .int .i64 r4, .int .u64 r5, .float .f64 r6, .string r7, v7_]) ∧ Kd.R k34 34 w' w.heap.size (fun _ => True) v7_ r8 ∧ Below w.heap.size w w' := by
 have hu87 := Tryz.underlying87
 have hu34 := Tryz.underlying34
 have HB := Aside0.mk (Below.refl w.heap.size w)
 have H : ((impl_procfsProcStatm.f (⟨#[]⟩ : ByteArray) a0_0 a0_1 a0_2 a0_3 a0_4 a0_5 a0_6 a0_7).bind fun bt142 => (some (bt142.1, bt142.2.1, bt142.2.2.1, bt142.2.2.2.1, bt142.2.2.2.2.1, bt142.2.2.2.2.2.1, bt142.2.2.2.2.2.2.1, bt142.2.2.2.2.2.2.2))) = some (r1, r2, r3, r4, r5, r6, r7, r8) := h
 clear h
 replace H := Option.bind_eq_some_iff.mp H
 obtain ⟨⟨t142, t143, t144, t145, t146, t147, t148, t149⟩, A20, H⟩ := H
 replace H : (some (t142, t143, t144, t145, t146, t147, t148, t149)) = some (r1, r2, r3, r4, r5, r6, r7, r8) := H
 have A2 := Aside0.mk A20
 clear A20
 simp only [Option.some.injEq, Prod.mk.injEq] at H
 obtain ⟨rfl, rfl, rfl, rfl, rfl, rfl, rfl, rfl⟩ := H
 go_enter Tryz.func64, Tryz.ntmps64
 go_wp2_with (first | ((with_reducible refine gate_dst (N := 1) rfl ?_); refine box_event ?hg (N := 1) ?hd (cs := #[.int .i64 a0_0, .int .u64 a0_1, .int .u64 a0_2, .int .u64 a0_3, .int .u64 a0_4, .int .u64 a0_5, .int .u64 a0_6, .int .u64 a0_7]) (t := 87) ?hr ?_; (case hd => rfl); (case hg => rfl); (case hr => first | (go_simp; done) | (go_simp; rfl)); intro gb140 hg w3 hbox hb; have n0_ := Aside0.mk (below_step (by repeat (first | (with_reducible first | exact HB.out | apply below_alloc | apply pw_below_drewN | apply below_drew1) | exact HB.out)) hb); have n1_ := Aside0.mk (hbox); have n2_ := Aside0.mk ((by rw [hg]; exact (below_size (by repeat (first | (with_reducible first | exact HB.out | apply below_alloc | apply pw_below_drewN | apply below_drew1) | exact HB.out))) : w.heap.size ≤ gb140)); have n3_ := Aside0.mk ((by rw [hg]; exact (below_size (by repeat (first | (with_reducible first | exact HB.out | apply below_alloc | apply pw_below_drewN | apply below_drew1) | exact HB.out))) : w.heap.size ≤ gb140)); clear HB; have HB := n0_; have BK140 := n1_; have GW140 := n2_; have GE140 := n3_; clear n0_ n1_ n2_ n3_; clear hb hbox hg) | ((with_reducible refine gate_dst (N := 2) rfl ?_); refine box_event ?hg (N := 2) ?hd (cs := #[.string (⟨#[]⟩ : ByteArray), .int .i64 0, .bool false, .int .i64 0, .int .u64 0, .float .f64 0, .string (⟨#[]⟩ : ByteArray), .slice none 0 0]) (t := 34) ?hr ?_; (case hd => rfl); (case hg => rfl); (case hr => first | (go_simp; done) | (go_simp; rfl)); intro gb141 hg w4 hbox hb; have n0_ := Aside0.mk (blk_below (g := gb140) (o := .cells #[.int .i64 a0_0, .int .u64 a0_1, .int .u64 a0_2, .int .u64 a0_3, .int .u64 a0_4, .int .u64 a0_5, .int .u64 a0_6, .int .u64 a0_7] 87 (0, 0)) (by (with_reducible repeat (first | refine blk_drewN ?_ _ | refine blk_drew ?_ | refine blk_alloc ?_ _)); exact BK140.out) hb); have n1_ := Aside0.mk (below_step (by repeat (first | (with_reducible first | exact HB.out | apply below_alloc | apply pw_below_drewN | apply below_drew1 | refine below_set ?_ GE140.out) | exact HB.out)) hb); have n2_ := Aside0.mk (hbox); have n3_ := Aside0.mk ((by rw [hg]; exact (below_size (by repeat (first | (with_reducible first | exact HB.out | apply below_alloc | apply pw_below_drewN | apply below_drew1 | refine below_set ?_ GE140.out) | exact HB.out))) : w.heap.size ≤ gb141)); have n4_ := Aside0.mk ((by rw [hg]; exact (below_size (by repeat (first | (with_reducible first | exact HB.out | apply below_alloc | apply pw_below_drewN | apply below_drew1 | refine below_set ?_ GE140.out) | exact HB.out))) : w.heap.size ≤ gb141)); have n5_ := Aside0.mk ((by rw [hg]; exact Nat.ne_of_lt (blk_lt (g := gb140) (o := .cells #[.int .i64 a0_0, .int .u64 a0_1, .int .u64 a0_2, .int .u64 a0_3, .int .u64 a0_4, .int .u64 a0_5, .int .u64 a0_6, .int .u64 a0_7] 87 (0, 0)) (by (with_reducible repeat (first | refine blk_drewN ?_ _ | refine blk_drew ?_ | refine blk_alloc ?_ _)); exact BK140.out)) : gb140 ≠ gb141)); have n6_ := Aside0.mk ((by rw [hg]; exact Nat.ne_of_gt (blk_lt (g := gb140) (o := .cells #[.int .i64 a0_0, .int .u64 a0_1, .int .u64 a0_2, .int .u64 a0_3, .int .u64 a0_4, .int .u64 a0_5, .int .u64 a0_6, .int .u64 a0_7] 87 (0, 0)) (by (with_reducible repeat (first | refine blk_drewN ?_ _ | refine blk_drew ?_ | refine blk_alloc ?_ _)); exact BK140.out)) : gb141 ≠ gb140)); clear BK140; clear HB; have BK140 := n0_; have HB := n1_; have BK141 := n2_; have GW141 := n3_; have GE141 := n4_; have NB140_141 := n5_; have NB141_140 := n6_; clear n0_ n1_ n2_ n3_ n4_ n5_ n6_; clear hb hbox hg; have hnb5 := NB140_141.out; have hnc5 := NB141_140.out; have hcz6_0 : w4.cell? ⟨gb140, 0, none⟩ = some (.int .i64 a0_0) := (blk_cell BK140.out 0).trans rfl; have hcz6_1 : w4.cell? ⟨gb140, 1, none⟩ = some (.int .u64 a0_1) := (blk_cell BK140.out 1).trans rfl; have hcz6_2 : w4.cell? ⟨gb140, 2, none⟩ = some (.int .u64 a0_2) := (blk_cell BK140.out 2).trans rfl; have hcz6_3 : w4.cell? ⟨gb140, 3, none⟩ = some (.int .u64 a0_3) := (blk_cell BK140.out 3).trans rfl; have hcz6_4 : w4.cell? ⟨gb140, 4, none⟩ = some (.int .u64 a0_4) := (blk_cell BK140.out 4).trans rfl; have hcz6_5 : w4.cell? ⟨gb140, 5, none⟩ = some (.int .u64 a0_5) := (blk_cell BK140.out 5).trans rfl; have hcz6_6 : w4.cell? ⟨gb140, 6, none⟩ = some (.int .u64 a0_6) := (blk_cell BK140.out 6).trans rfl; have hcz6_7 : w4.cell? ⟨gb140, 7, none⟩ = some (.int .u64 a0_7) := (blk_cell BK140.out 7).trans rfl; have hfz6_0 := blk_frozen BK140.out 0; have hfz6_1 := blk_frozen BK140.out 1; have hfz6_2 := blk_frozen BK140.out 2; have hfz6_3 := blk_frozen BK140.out 3; have hfz6_4 := blk_frozen BK140.out 4; have hfz6_5 := blk_frozen BK140.out 5; have hfz6_6 := blk_frozen BK140.out 6; have hfz6_7 := blk_frozen BK140.out 7) | ((with_reducible refine gate_callee (f := 65) rfl ?_); refine goesL_ (some 4) rfl rfl Tryz.func65 (by kernel_rfl) rfl #[.string (⟨#[]⟩ : ByteArray), .agg #[.int .i64 a0_0, .int .u64 a0_1, .int .u64 a0_2, .int .u64 a0_3, .int .u64 a0_4, .int .u64 a0_5, .int .u64 a0_6, .int .u64 a0_7]] rfl (by (try simp only [List.map_toArray, List.map_cons, List.map_nil]); first | done | rfl | (simp only [List.length_drop, List.length_take]; rfl)) ?_; (with_reducible refine (impl_procfsProcStatm.calls (⟨#[]⟩ : ByteArray) a0_0 a0_1 a0_2 a0_3 a0_4 a0_5 a0_6 a0_7 t142 t143 t144 t145 t146 t147 t148 t149 _ A2.out).mono ?_); rintro e w7 ⟨v150, rfl, ho0, hb⟩; refine ⟨_, rfl, ?_⟩; have n0_ := Aside0.mk (Kd.R_lower (Kd.R_newB ho0 (g := gb141) (o := .cells #[.string (⟨#[]⟩ : ByteArray), .int .i64 0, .bool false, .int .i64 0, .int .u64 0, .float .f64 0, .string (⟨#[]⟩ : ByteArray), .slice none 0 0] 34 (0, 0)) (by (with_reducible repeat (first | refine blk_drewN ?_ _ | refine blk_drew ?_ | refine blk_alloc ?_ _)); exact BK141.out)) (below_size (by repeat (first | (with_reducible first | exact HB.out | apply below_alloc | apply pw_below_drewN | apply below_drew1 | refine below_set ?_ GE140.out | refine below_set ?_ GE141.out) | exact HB.out)))); have n1_ := Aside0.mk (blk_below (g := gb140) (o := .cells #[.int .i64 a0_0, .int .u64 a0_1, .int .u64 a0_2, .int .u64 a0_3, .int .u64 a0_4, .int .u64 a0_5, .int .u64 a0_6, .int .u64 a0_7] 87 (0, 0)) (by (with_reducible repeat (first | refine blk_drewN ?_ _ | refine blk_drew ?_ | refine blk_alloc ?_ _)); exact BK140.out) hb); have n2_ := Aside0.mk (blk_below (g := gb141) (o := .cells #[.string (⟨#[]⟩ : ByteArray), .int .i64 0, .bool false, .int .i64 0, .int .u64 0, .float .f64 0, .string (⟨#[]⟩ : ByteArray), .slice none 0 0] 34 (0, 0)) (by (with_reducible repeat (first | refine blk_drewN ?_ _ | refine blk_drew ?_ | refine blk_alloc ?_ _)); exact BK141.out) hb); have n3_ := Aside0.mk (below_step (by repeat (first | (with_reducible first | exact HB.out | apply below_alloc | apply pw_below_drewN | apply below_drew1 | refine below_set ?_ GE140.out | refine below_set ?_ GE141.out) | exact HB.out)) hb); clear BK140; clear BK141; clear HB; have HO151 := n0_; have BK140 := n1_; have BK141 := n2_; have HB := n3_; clear n0_ n1_ n2_ n3_; (try clear hb); (try clear hb2); (try clear hk); (try clear hi); (try clear ho0); have hcz8_0 : w7.cell? ⟨gb141, 0, none⟩ = some (.string (⟨#[]⟩ : ByteArray)) := (blk_cell BK141.out 0).trans rfl; have hcz8_1 : w7.cell? ⟨gb141, 1, none⟩ = some (.int .i64 0) := (blk_cell BK141.out 1).trans rfl; have hcz8_2 : w7.cell? ⟨gb141, 2, none⟩ = some (.bool false) := (blk_cell BK141.out 2).trans rfl; have hcz8_3 : w7.cell? ⟨gb141, 3, none⟩ = some (.int .i64 0) := (blk_cell BK141.out 3).trans rfl; have hcz8_4 : w7.cell? ⟨gb141, 4, none⟩ = some (.int .u64 0) := (blk_cell BK141.out 4).trans rfl; have hcz8_5 : w7.cell? ⟨gb141, 5, none⟩ = some (.float .f64 0) := (blk_cell BK141.out 5).trans rfl; have hcz8_6 : w7.cell? ⟨gb141, 6, none⟩ = some (.string (⟨#[]⟩ : ByteArray)) := (blk_cell BK141.out 6).trans rfl; have hcz8_7 : w7.cell? ⟨gb141, 7, none⟩ = some (.slice none 0 0) := (blk_cell BK141.out 7).trans rfl; have hfz8_0 := blk_frozen BK141.out 0; have hfz8_1 := blk_frozen BK141.out 1; have hfz8_2 := blk_frozen BK141.out 2; have hfz8_3 := blk_frozen BK141.out 3; have hfz8_4 := blk_frozen BK141.out 4; have hfz8_5 := blk_frozen BK141.out 5; have hfz8_6 := blk_frozen BK141.out 6; have hfz8_7 := blk_frozen BK141.out 7; obtain ⟨Ao9, co9, eo9⟩ := Kd.R_slice HO151.out; subst eo9))
 refine bodyPost_ret (results_cell_row rfl _ _ gb141 34 #[.string t142, .int .i64 t143, .bool t144, .int .i64 t145, .int .u64 t146, .float .f64 t147, .string t148, .slice Ao9 t149.length co9] (0, 0) _ rfl (by (with_reducible repeat (first | refine blk_drewN ?_ _ | refine blk_drew ?_ | refine blk_alloc ?_ _)); refine blk_put (cs := #[.string t142, .int .i64 t143, .bool t144, .int .i64 t145, .int .u64 t146, .float .f64 t147, .string t148, .slice none 0 0]) ?_ 7 _ rfl; (with_reducible repeat (first | refine blk_drewN ?_ _ | refine blk_drew ?_ | refine blk_alloc ?_ _)); refine blk_put (cs := #[.string t142, .int .i64 t143, .bool t144, .int .i64 t145, .int .u64 t146, .float .f64 t147, .string (⟨#[]⟩ : ByteArray), .slice none 0 0]) ?_ 6 _ rfl; (with_reducible repeat (first | refine blk_drewN ?_ _ | refine blk_drew ?_ | refine blk_alloc ?_ _)); refine blk_put (cs := #[.string t142, .int .i64 t143, .bool t144, .int .i64 t145, .int .u64 t146, .float .f64 0, .string (⟨#[]⟩ : ByteArray), .slice none 0 0]) ?_ 5 _ rfl; (with_reducible repeat (first | refine blk_drewN ?_ _ | refine blk_drew ?_ | refine blk_alloc ?_ _)); refine blk_put (cs := #[.string t142, .int .i64 t143, .bool t144, .int .i64 t145, .int .u64 0, .float .f64 0, .string (⟨#[]⟩ : ByteArray), .slice none 0 0]) ?_ 4 _ rfl; (with_reducible repeat (first | refine blk_drewN ?_ _ | refine blk_drew ?_ | refine blk_alloc ?_ _)); refine blk_put (cs := #[.string t142, .int .i64 t143, .bool t144, .int .i64 0, .int .u64 0, .float .f64 0, .string (⟨#[]⟩ : ByteArray), .slice none 0 0]) ?_ 3 _ rfl; (with_reducible repeat (first | refine blk_drewN ?_ _ | refine blk_drew ?_ | refine blk_alloc ?_ _)); refine blk_put (cs := #[.string t142, .int .i64 t143, .bool false, .int .i64 0, .int .u64 0, .float .f64 0, .string (⟨#[]⟩ : ByteArray), .slice none 0 0]) ?_ 2 _ rfl; (with_reducible repeat (first | refine blk_drewN ?_ _ | refine blk_drew ?_ | refine blk_alloc ?_ _)); refine blk_put (cs := #[.string t142, .int .i64 0, .bool false, .int .i64 0, .int .u64 0, .float .f64 0, .string (⟨#[]⟩ : ByteArray), .slice none 0 0]) ?_ 1 _ rfl; (with_reducible repeat (first | refine blk_drewN ?_ _ | refine blk_drew ?_ | refine blk_alloc ?_ _)); refine blk_put (cs := #[.string (⟨#[]⟩ : ByteArray), .int .i64 0, .bool false, .int .i64 0, .int .u64 0, .float .f64 0, .string (⟨#[]⟩ : ByteArray), .slice none 0 0]) ?_ 0 _ rfl; (with_reducible repeat (first | refine blk_drewN ?_ _ | refine blk_drew ?_ | refine blk_alloc ?_ _)); exact BK141.out) Tryz.underlying34 rfl (by kernel_rfl)) rfl ?_
 exact ⟨_, by first | rfl | (simp [errW_none, errW_some] <;> rfl) | (simp [*, errW_none, errW_some] <;> rfl), by (with_reducible repeat (first | apply Kd.R_alloc | apply Kd.R_drewN | apply Kd.R_drew)); exact Kd.R_mono (Kd.R_far (p := ⟨gb141, 7, none⟩) (Kd.R_far (p := ⟨gb141, 6, none⟩) (Kd.R_far (p := ⟨gb141, 5, none⟩) (Kd.R_far (p := ⟨gb141, 4, none⟩) (Kd.R_far (p := ⟨gb141, 3, none⟩) (Kd.R_far (p := ⟨gb141, 2, none⟩) (Kd.R_far (p := ⟨gb141, 1, none⟩) (Kd.R_far (p := ⟨gb141, 0, none⟩) (Kd.R_mono HO151.out (fun k_ hk => (⟨hk, hk.2⟩ : _ ∧ k_ ≠ gb141))) (fun _ hk => hk.2) (.string t142)) (fun _ hk => hk.2) (.int .i64 t143)) (fun _ hk => hk.2) (.bool t144)) (fun _ hk => hk.2) (.int .i64 t145)) (fun _ hk => hk.2) (.int .u64 t146)) (fun _ hk => hk.2) (.float .f64 t147)) (fun _ hk => hk.2) (.string t148)) (fun _ hk => hk.2) (.slice Ao9 t149.length co9)) (fun _ hk => trivial), by repeat (first | (with_reducible first | exact HB.out | apply below_alloc | apply pw_below_drewN | apply below_drew1 | refine below_set ?_ GE140.out | refine below_set ?_ GE141.out) | exact HB.out)⟩
def strings_Fields.f (a0 : ByteArray) : Option (List ByteArray) := R.fieldsF a0
theorem strings_Fields.calls (a0 : ByteArray) (r : List ByteArray) (w : World) (h : strings_Fields.f a0 = some r) (ht : R.LTabs w := by first | assumption | exact Aside0.out ‹Aside0 (R.LTabs _)› | exact R.LTabs.below (Aside0.out ‹Aside0 (R.LTabs _)›) (by repeat (first | (with_reducible first | exact Aside0.out ‹Aside0 (Below _ _ _)› | exact Below.refl _ _ | apply below_alloc | apply pw_below_drewN | apply below_drew1)))) :
 Calls Tryz.prog 132 #[.string a0] w fun e w' => ∃ v0_ : Value, e = .returned (v0_) ∧ Kd.R Kd.string 9 w' w.heap.size (fun _ => True) v0_ r ∧ Below w.heap.size w w' :=
 R.fields_calls a0 r w h ht
def strconv_ParseUint.f (a0 : ByteArray) (a1 a2 : Int) : Option (Int × Option Int) := R.uintF a0 a1 a2
theorem strconv_ParseUint.calls (a0 : ByteArray) (a1 a2 : Int) (r1 : Int) (r2 : Option Int) (w : World) (h : strconv_ParseUint.f a0 a1 a2 = some (r1, r2)) :
 Calls Tryz.prog 140 #[.string a0, .int .i64 a1, .int .i64 a2] w fun e w' => e = .returned (.tuple #[.int .u64 r1, errW r2]) ∧ Below w.heap.size w w' :=
 (R.uint_calls a0 a1 a2 r1 r2 w h).mono fun e w' ⟨he, hr, hb⟩ => ⟨by rw [he, hr, errW_none], hb⟩
def procfs_parseStatm.l0 : Nat → List Int → List ByteArray → Int → Int → Option (List Int × Option Int)
 | 0, _, _, _, _ => none
 | k + 1, x4, x5, x13, x14 => if x14 < x13 then (if 0 ≤ x14 then (if x14 < (x5.length : Int) then ((strconv_ParseUint.f (rdOf ByteArray.empty x5 x14) 10 64).bind fun bt156 => (if bt156.2.isNone = true then (if x4.length < 17592186044416 then (procfs_parseStatm.l0 k (x4 ++ [bt156.1]) x5 x13 (wrap64 (x14 + 1))) else (none)) else (some (([] : List Int), some (bt156.2.getD 0))))) else (none)) else (none)) else (some (x4, none))
def procfs_parseStatm.f (k : Nat) (l0 : List Int) : Option (List Int × Option Int) := (strings_Fields.f (strOfNums l0)).bind fun t152 => (procfs_parseStatm.l0 k ([] : List Int) t152 (t152.length : Int) 0)
set_option maxHeartbeats 8000000 in
set_option maxRecDepth 100000 in
theorem procfs_parseStatm.calls (k : Nat) (A0 : Option Addr) (c0 : Nat) (l0 : List Int) (r1 : List Int) (r2 : Option Int) (w : World) (hr0 : Kd.C (Kd.int .u8) w A0 l0.length l0) (hc0 : l0.length ≤ c0) (h : procfs_parseStatm.f k l0 = some (r1, r2)) (hTabs : R.LTabs w := by first | assumption | exact Aside0.out ‹Aside0 (R.LTabs _)› | exact R.LTabs.below (Aside0.out ‹Aside0 (R.LTabs _)›) (by repeat (first | (with_reducible first | exact Aside0.out ‹Aside0 (Below _ _ _)› | exact Below.refl _ _ | apply below_alloc | apply pw_below_drewN | apply below_drew1)))) :
 Calls Tryz.prog 118 #[.slice A0 l0.length c0] w fun e w' => ∃ v0_ : Value, e = .returned (.tuple #[v0_, errW r2]) ∧ Kd.R (Kd.int .u64) 30 w' w.heap.size (fun _ => True) v0_ r1 ∧ Below w.heap.size w w' := by
 have HTabs := Aside0.mk hTabs
 clear hTabs
 have hu133 := Tryz.underlying133
 have HR0 := Aside0.mk hr0
 have HC0 := Aside0.mk hc0
 clear hr0 hc0
 have HB := Aside0.mk (Below.refl w.heap.size w)
 have H : ((strings_Fields.f (strOfNums l0)).bind fun t152 => (procfs_parseStatm.l0 k ([] : List Int) t152 (t152.length : Int) 0)) = some (r1, r2) := h
 clear h
 replace H := Option.bind_eq_some_iff.mp H
 obtain ⟨t152, A20, H⟩ := H
 replace H : (procfs_parseStatm.l0 k ([] : List Int) t152 (t152.length : Int) 0) = some (r1, r2) := H
 have A2 := Aside0.mk A20
 clear A20
 have H' := Aside0.mk H
 clear H
 have hcv3 := Kd.C_string (P := Tryz.prog) (A := A0) (c := c0) Tryz.underlying136 Tryz.underlying5 Tryz.underlying9 HR0.out
 go_enter Tryz.func118, Tryz.ntmps118
 go_wp2_with (first | ((with_reducible refine gate_callee (f := 132) rfl ?_); refine goesL_ (some 11) rfl rfl Tryz.func132 (by kernel_rfl) rfl #[.string (strOfNums l0)] rfl (by (try simp only [List.map_toArray, List.map_cons, List.map_nil]); first | done | rfl | (simp only [List.length_drop, List.length_take]; rfl)) ?_; (with_reducible refine (strings_Fields.calls (strOfNums l0) t152 _ A2.out).mono ?_); rintro e w4 ⟨v153, rfl, ho0, hb⟩; refine ⟨_, rfl, ?_⟩; have n0_ := Aside0.mk (Kd.R_lower ho0 (below_size (by repeat (first | (with_reducible first | exact HB.out | apply below_alloc | apply pw_below_drewN | apply below_drew1) | exact HB.out)))); have n1_ := Aside0.mk (below_step (by repeat (first | (with_reducible first | exact HB.out | apply below_alloc | apply pw_below_drewN | apply below_drew1) | exact HB.out)) hb); clear HB; have HO154 := n0_; have HB := n1_; clear n0_ n1_; (try clear hb); (try clear hb2); (try clear hk); (try clear hi); (try clear ho0); obtain ⟨Ao5, co5, eo5⟩ := Kd.R_slice HO154.out; subst eo5))
 go_loopg [4, 14] k (fun kq v4 v14 w' => ∃ (x4_1 : List Int) (x14_1 : Int), v14 = .int .i64 x14_1 ∧ Aside0 (procfs_parseStatm.l0 kq x4_1 t152 (t152.length : Int) x14_1 = some (r1, r2)) ∧ Aside0 (kq ≤ k) ∧ Aside0 (Kd.R (Kd.int .u64) 30 w' w.heap.size (fun _ => True) v4 x4_1) ∧ Aside0 (Kd.R Kd.string 9 w' w.heap.size (fun _ => True) (.slice Ao5 t152.length co5) t152) ∧ Aside0 (Below w.heap.size w w'))
 case atStart => exact ⟨(([] : List Int)), (0), (by first | rfl | (simp; done) | (simp [*]; done)), H', ⟨Nat.le_refl _⟩, ⟨by first | exact Kd.R_nil _ _ _ _ _ | exact Kd.N_nil _ _ _ _ _ | exact Kd.V_nil _ _ _ _ _ | exact Kd.Q_nil _ _ _ _ _ | exact Kd.S_nil _ _ _ _ _⟩, ⟨by (with_reducible repeat (first | apply Kd.R_alloc | apply Kd.R_drewN | apply Kd.R_drew)); exact HO154.out⟩, ⟨by repeat (first | (with_reducible first | exact HB.out | apply below_alloc | apply pw_below_drewN | apply below_drew1) | exact HB.out)⟩⟩
 case round =>
  clear H'
  try clear c1
  try clear p2
  try clear hcv3
  obtain ⟨x4_1, x14_1, rfl, HA, HK1, HO_4, HO_5, HB⟩ := hrel
  cases gk with
  | zero => exact absurd HA.out (by simp [procfs_parseStatm.l0])
  | succ k1 =>
   have H := HA.out
   clear HA
   simp only [procfs_parseStatm.l0] at H
   by_cases c6 : x14_1 < (t152.length : Int)
   · rw [if_pos c6] at H
     have c6b0 : decide (x14_1 < (t152.length : Int)) = true := decide_eq_true c6
     clear c6
     by_cases c7 : 0 ≤ x14_1
     · rw [if_pos c7] at H
       have c7b0 : decide (0 ≤ x14_1) = true := decide_eq_true c7
       clear c7
       by_cases c8 : x14_1 < (t152.length : Int)
       · rw [if_pos c8] at H
         have c8b0 : decide (x14_1 < (t152.length : Int)) = true := decide_eq_true c8
         clear c8
         replace H := Option.bind_eq_some_iff.mp H
         obtain ⟨⟨t156, t157⟩, A90, H⟩ := H
         replace H : (if t157.isNone = true then (if x4_1.length < 17592186044416 then (procfs_parseStatm.l0 k1 (x4_1 ++ [t156]) t152 (t152.length : Int) (wrap64 (x14_1 + 1))) else (none)) else (some (([] : List Int), some (t157.getD 0)))) = some (r1, r2) := H
         have A9 := Aside0.mk A90
         clear A90
         rcases t157 with _ | q158
         · have H1 : (if x4_1.length < 17592186044416 then (procfs_parseStatm.l0 k1 (x4_1 ++ [t156]) t152 (t152.length : Int) (wrap64 (x14_1 + 1))) else (none)) = some (r1, r2) := by rw [if_pos (show (none : Option Int).isNone = true by rfl)] at H; exact H
           clear H
           have H := H1
           clear H1
           try simp only [errW_none, errW_some]
           by_cases c10 : x4_1.length < 17592186044416
           · rw [if_pos c10] at H
             have LMc10 := Aside0.mk c10
             clear c10
             obtain ⟨y159, hy159⟩ : ∃ y_ : List Int, y_ = (x4_1 ++ [t156]) := ⟨_, rfl⟩
             replace H : (procfs_parseStatm.l0 k1 y159 t152 (t152.length : Int) (wrap64 (x14_1 + 1))) = some (r1, r2) := by first | (rw [hy159]; with_reducible exact H) | (have H2_ := (Option.bind_some _ _).symm.trans H; rw [hy159]; with_reducible exact H2_) | (have H2_ := (Option.bind_some _ _).symm.trans H; with_reducible exact H2_) | with_reducible exact H | (rw [hy159]; exact H) | exact H
             have Ny159 := Aside0.mk hy159
             clear hy159
             have H' := Aside0.mk H
             clear H
             have p155 : 0 ≤ (x14_1 : Int) := of_decide_eq_true (by first | (with_reducible assumption) | assumption)
             have q155 : x14_1 < (t152.length : Int) := of_decide_eq_true (by first | (with_reducible assumption) | assumption)
             obtain ⟨ad155, e155, hx155_0⟩ := Kd.at_string (Kd.R_reads' HO_5.out).2.2 x14_1 p155 q155
             cases e155
             replace p155 := eq_true p155
             replace q155 := eq_true q155
             go_wp2_with (first | ((with_reducible refine gate_callee (f := 140) rfl ?_); refine goesL_ (some 22) rfl rfl Tryz.func140 (by kernel_rfl) rfl #[.string (rdOf ByteArray.empty t152 x14_1), .int .i64 10, .int .i64 64] rfl (by (try simp only [List.map_toArray, List.map_cons, List.map_nil]); first | done | rfl | (simp only [List.length_drop, List.length_take]; rfl)) ?_; (with_reducible refine (strconv_ParseUint.calls (rdOf ByteArray.empty t152 x14_1) 10 64 t156 none _ A9.out).mono ?_); rintro e w11 ⟨rfl, hb⟩; refine ⟨_, rfl, ?_⟩; have n0_ := Aside0.mk (Kd.R_below (by (with_reducible repeat (first | apply Kd.R_alloc | apply Kd.R_drewN | apply Kd.R_drew)); exact HO_4.out) hb); have n1_ := Aside0.mk (Kd.R_below (by (with_reducible repeat (first | apply Kd.R_alloc | apply Kd.R_drewN | apply Kd.R_drew)); exact HO_5.out) hb); have n2_ := Aside0.mk (below_step (by repeat (first | (with_reducible first | exact HB.out | apply below_alloc | apply pw_below_drewN | apply below_drew1) | exact HB.out)) hb); clear HO_4; clear HO_5; clear HB; have HO_4 := n0_; have HO_5 := n1_; have HB := n2_; clear n0_ n1_ n2_; (try clear hb); (try clear hb2); (try clear hk); (try clear hi); (try simp only [errW_none, errW_some])) | ((with_reducible refine gate_builtin (b := .append) (xs := #[.tmp 28, .tmp 30]) rfl ?_); at_builtin; refine Kd.R_append (Kd.int .u64) (w0 := w) w.heap.size rfl (.tmp 28) (.tmp 30) 46 30 (.int .u64 0) 8 rfl Tryz.underlying46 info30 rfl (by decide) (by omega) u4 x4_1 t156 [.int .u64 t156] (fun _ => True) (fun _ => False) rfl rfl ?aP (fun _ hk => hk.elim) ?aF ?aO ?aB ?aS ?aL ?_; (case aP => exact rfl); (case aB => exact (by repeat (first | (with_reducible first | exact HB.out | apply below_alloc | apply pw_below_drewN | apply below_drew1) | exact HB.out))); (case aF => exact (fun _ _ => trivial)); (case aO => exact (by (with_reducible repeat (first | apply Kd.R_alloc | apply Kd.R_drewN | apply Kd.R_drew)); exact HO_4.out)); (case aS => exact (below_size (by repeat (first | (with_reducible first | exact HB.out | apply below_alloc | apply pw_below_drewN | apply below_drew1) | exact HB.out)))); (case aL => have := LMc10.out; omega); intro v160 w12 ho hb hg hat; rw [← Ny159.out] at ho; have n0_ := Aside0.mk (Kd.R_over' (by (with_reducible repeat (first | apply Kd.R_alloc | apply Kd.R_drewN | apply Kd.R_drew)); exact HO_5.out) (Kd.R_typed (by (with_reducible repeat (first | apply Kd.R_alloc | apply Kd.R_drewN | apply Kd.R_drew)); exact HO_4.out)) (by decide) hg); have n1_ := Aside0.mk (hb); have n2_ := Aside0.mk (ho); clear HO_5; clear HB; clear HO_4; have HO_5 := n0_; have HB := n1_; have HO161 := n2_; clear n0_ n1_ n2_; clear ho hb hg hat))
             go_roundg k1
             case measure => have := HK1.out; omega
             case rel => exact ⟨(y159), (wrap64 (x14_1 + 1)), (by first | rfl | (simp; done) | (simp [*]; done)), H', ⟨by have := HK1.out; omega⟩, ⟨by (with_reducible repeat (first | apply Kd.R_alloc | apply Kd.R_drewN | apply Kd.R_drew)); exact HO161.out⟩, ⟨by (with_reducible repeat (first | apply Kd.R_alloc | apply Kd.R_drewN | apply Kd.R_drew)); exact HO_5.out⟩, ⟨by repeat (first | (with_reducible first | exact HB.out | apply below_alloc | apply pw_below_drewN | apply below_drew1) | exact HB.out)⟩⟩
           · rw [if_neg c10] at H
             exact absurd H (by simp)
         · have H1 : (some (([] : List Int), some q158)) = some (r1, r2) := by rw [if_neg (show ¬ (some q158).isNone = true by simp)] at H; exact H
           clear H
           have H := H1
           clear H1
           try simp only [errW_none, errW_some]
           simp only [Option.some.injEq, Prod.mk.injEq] at H
           obtain ⟨rfl, rfl⟩ := H
           have p155 : 0 ≤ (x14_1 : Int) := of_decide_eq_true (by first | (with_reducible assumption) | assumption)
           have q155 : x14_1 < (t152.length : Int) := of_decide_eq_true (by first | (with_reducible assumption) | assumption)
           obtain ⟨ad155, e155, hx155_0⟩ := Kd.at_string (Kd.R_reads' HO_5.out).2.2 x14_1 p155 q155
           cases e155
           replace p155 := eq_true p155
           replace q155 := eq_true q155
           go_wp2_with (first | ((with_reducible refine gate_callee (f := 140) rfl ?_); refine goesL_ (some 22) rfl rfl Tryz.func140 (by kernel_rfl) rfl #[.string (rdOf ByteArray.empty t152 x14_1), .int .i64 10, .int .i64 64] rfl (by (try simp only [List.map_toArray, List.map_cons, List.map_nil]); first | done | rfl | (simp only [List.length_drop, List.length_take]; rfl)) ?_; (with_reducible refine (strconv_ParseUint.calls (rdOf ByteArray.empty t152 x14_1) 10 64 t156 (some q158) _ A9.out).mono ?_); rintro e w13 ⟨rfl, hb⟩; refine ⟨_, rfl, ?_⟩; have n0_ := Aside0.mk (Kd.R_below (by (with_reducible repeat (first | apply Kd.R_alloc | apply Kd.R_drewN | apply Kd.R_drew)); exact HO_4.out) hb); have n1_ := Aside0.mk (Kd.R_below (by (with_reducible repeat (first | apply Kd.R_alloc | apply Kd.R_drewN | apply Kd.R_drew)); exact HO_5.out) hb); have n2_ := Aside0.mk (below_step (by repeat (first | (with_reducible first | exact HB.out | apply below_alloc | apply pw_below_drewN | apply below_drew1) | exact HB.out)) hb); clear HO_4; clear HO_5; clear HB; have HO_4 := n0_; have HO_5 := n1_; have HB := n2_; clear n0_ n1_ n2_; (try clear hb); (try clear hb2); (try clear hk); (try clear hi); (try simp only [errW_none, errW_some])))
           go_ret2
           exact ⟨_, by first | rfl | (simp [errW_none, errW_some] <;> rfl) | (simp [*, errW_none, errW_some] <;> rfl), by first | exact Kd.R_nil _ _ _ _ _ | exact Kd.N_nil _ _ _ _ _ | exact Kd.V_nil _ _ _ _ _ | exact Kd.Q_nil _ _ _ _ _ | exact Kd.S_nil _ _ _ _ _, by repeat (first | (with_reducible first | exact HB.out | apply below_alloc | apply pw_below_drewN | apply below_drew1) | exact HB.out)⟩
       · rw [if_neg c8] at H
         exact absurd H (by simp)
     · rw [if_neg c7] at H
       exact absurd H (by simp)
   · rw [if_neg c6] at H
     have c6b0 : decide (x14_1 < (t152.length : Int)) = false := decide_eq_false c6
     clear c6
     simp only [Option.some.injEq, Prod.mk.injEq] at H
     obtain ⟨rfl, rfl⟩ := H
     go_wp2
     go_ret2
     exact ⟨_, by first | rfl | (simp [errW_none, errW_some] <;> rfl) | (simp [*, errW_none, errW_some] <;> rfl), by (with_reducible repeat (first | apply Kd.R_alloc | apply Kd.R_drewN | apply Kd.R_drew)); exact HO_4.out, by repeat (first | (with_reducible first | exact HB.out | apply below_alloc | apply pw_below_drewN | apply below_drew1) | exact HB.out)⟩
end Go.Proofs.YtabfehcpcjcomaaGreatDoor.QA0
namespace Go.Proofs.YtabfehcpcjcomaaGreatDoor.R
open Go.RowKit Go.Proofs.YtabfehcpcjcomaaGreatDoor.QA0 Go.Proofs.YtabfehcpcjcomaaGreatDoorW.PrintWords Go.Proofs.YtabfehcpcjcomaaGreatDoorW.PrintLast Go.Proofs.YtabfehcpcjcomaaGreatDoorW.PrintMore
set_option linter.unusedVariables false
set_option linter.unusedSimpArgs false
set_option maxHeartbeats 4000000 in
set_option maxRecDepth 100000 in
theorem proc_path (a : Int) (T : ByteArray) (v : Value) (w : World) :
    Calls Tryz.prog 117 #[.agg #[.int .i64 a, .string T], v] w fun e w' => e = .returned (.string T) ∧ Below w.heap.size w w' := by
  go_enter Tryz.func117, Tryz.ntmps117
  go_wp2
  go_ret
  exact ⟨rfl, below_alloc (Below.refl _ _) _⟩
def sL (n0 n1 n2 n3 n4 n5 n6 : Int) : List Value := [.int .i64 0, .int .u64 n0, .int .u64 n1, .int .u64 n2, .int .u64 n3, .int .u64 n4, .int .u64 n5, .int .u64 n6]
theorem store_statm {W : World} {b : Nat} {cur : Array Value} (n0 n1 n2 n3 n4 n5 n6 : Int) (hh : W.heap[b]? = some (.cells cur 87 (0, 0))) (hs : cur.size = 8) :
    (Instr.storeAt 87 (.pointer (some ⟨b, 0, none⟩)) (.agg #[.int .i64 0, .int .u64 n0, .int .u64 n1, .int .u64 n2, .int .u64 n3, .int .u64 n4, .int .u64 n5, .int .u64 n6])).run Tryz.prog W = .ok () (W.setCells b 0 (sL n0 n1 n2 n3 n4 n5 n6)) := by
  refine run_store_run (P := Tryz.prog) 87 _ (sL n0 n1 n2 n3 n4 n5 n6) hh rfl ?_ (by rw [hs]; exact Nat.le_refl _) ?_
  · kernel_rfl
  · intro q hq
    simp only [sL, List.mem_cons, List.not_mem_nil, or_false] at hq
    rcases hq with rfl | rfl | rfl | rfl | rfl | rfl | rfl | rfl <;> rfl
theorem statm_blk {W : World} {b : Nat} {cur : Array Value} (L : List Value) (hL : L.length = 8) (hh : W.heap[b]? = some (.cells cur 87 (0, 0))) (hs : cur.size = 8) :
    (W.setCells b 0 L).heap[b]? = some (.cells L.toArray 87 (0, 0)) := by
  obtain ⟨cur', h1, h2, h3⟩ := setCells_row L 0 W cur hh (by rw [hs, hL]; exact Nat.le_refl _)
  rw [h1]
  have : cur' = L.toArray := by
    apply Array.toList_inj.1
    rw [h3]
    have hd : cur.toList.drop (0 + L.length) = [] := List.drop_eq_nil_of_le (by rw [Array.length_toList, hs, hL]; exact Nat.le_refl _)
    rw [hd]
    simp
  rw [this]
section
variable {ops : Array Oper} {rest : List Oper} {o : Oper} {a : Act} {Q : Exit → Act → World → Prop}
theorem store_statm_event {W : World} (hgd : o.guard = none) (hd : o.dst = none) (p v : Operand) (ho : o.op = .store 87 p v) (b : Nat) {cur : Array Value} (n0 n1 n2 n3 n4 n5 n6 : Int)
    (hp : a.eval p = .pointer (some ⟨b, 0, none⟩)) (hv : a.eval v = .agg #[.int .i64 0, .int .u64 n0, .int .u64 n1, .int .u64 n2, .int .u64 n3, .int .u64 n4, .int .u64 n5, .int .u64 n6]) (hh : W.heap[b]? = some (.cells cur 87 (0, 0))) (hs : cur.size = 8)
    (h : ∀ W', W' = W.setCells b 0 (sL n0 n1 n2 n3 n4 n5 n6) → W'.heap[b]? = some (.cells (sL n0 n1 n2 n3 n4 n5 n6).toArray 87 (0, 0)) → wpList Tryz.prog ops Q rest a W') : wpList Tryz.prog ops Q (o :: rest) a W := by
  have hrun := store_statm n0 n1 n2 n3 n4 n5 n6 hh hs
  refine wpList_plain hgd fun K hK => ?_
  unfold Oper.wp execOp
  simp only [ho, hp, hv, Sem.run_bind, Sem.run_pure, Result.andThen_ok, hrun]
  show K (a.put o.dst undef) _
  rw [hd]
  exact hK _ _ (h _ rfl (statm_blk _ rfl hh hs))
end
theorem alloc_set (W : World) (x0 x1 x2 x3 x4 x5 x6 x7 a0 a1 a2 a3 a4 a5 a6 a7 : Value) : (W.alloc (.cells #[x0, x1, x2, x3, x4, x5, x6, x7] 87)).setCells W.heap.size 0 [a0, a1, a2, a3, a4, a5, a6, a7] = W.alloc (.cells #[a0, a1, a2, a3, a4, a5, a6, a7] 87) := by
  simp [World.setCells, World.setCell_alloc_at]
theorem results_ctl {fn : Func} {p q : Tmp} {ty : TypeId} (h : fn.results = #[.cell p ty, .tmp q]) (tmps : Array Value) (w : World) (b1 : Nat) (u v : Value) (hp : tmps.getD p undef = .pointer (some ⟨b1, 0, none⟩)) (hq : tmps.getD q undef = v)
    (h1 : Sem.run Tryz.prog (loadVar ty ⟨b1, 0, none⟩) w = .ok u w) : Sem.run Tryz.prog (results fn tmps) w = .ok (.tuple #[u, v]) w := by
  have hp' : tmps[p]?.getD undef = .pointer (some ⟨b1, 0, none⟩) := by simpa using hp
  have hq' : tmps[q]?.getD undef = v := by simpa using hq
  simp [results, h, hp', hq', asAddr, h1]
theorem load87 {W : World} {b : Nat} {cs : Array Value} (hb : W.heap[b]? = some (.cells cs 87 (0, 0))) (hs : cs.size = 8) : Sem.run Tryz.prog (loadVar 87 ⟨b, 0, none⟩) W = .ok (.agg cs) W :=
  run_loadVar_row (P := Tryz.prog) W b 87 87 cs (0, 0) _ hb Tryz.underlying87 rfl (by rw [hs]; kernel_rfl)
set_option maxHeartbeats 8000000 in
set_option maxRecDepth 100000 in
theorem proc_statm (T : ByteArray) (hs : T.size ≤ 1048576) (k : Nat) (n0 n1 n2 n3 n4 n5 n6 : Int) (h : procfs_parseStatm.f k (bytesOf T) = some ([n0, n1, n2, n3, n4, n5, n6], none)) (w : World) (hT : LTabs w) :
    Calls Tryz.prog 63 #[.agg #[.int .i64 0, .string T]] w fun e w' => e = .returned (.tuple #[.agg #[.int .i64 0, .int .u64 n0, .int .u64 n1, .int .u64 n2, .int .u64 n3, .int .u64 n4, .int .u64 n5, .int .u64 n6], .nilIface]) ∧ Below w.heap.size w w' := by
  have H := Aside0.mk h
  have HS := Aside0.mk hs
  have hnn : ∀ (w : World), (binOp .neq 133 .nilIface .nilIface).run Tryz.prog w = .ok (.bool false) w := fun _ => rfl
  obtain ⟨hb0, hb1, hb2⟩ := alloc2_facts w (.cells #[.int .i64 0, .string T] 90) (.cells #[.int .i64 0, .int .u64 0, .int .u64 0, .int .u64 0, .int .u64 0, .int .u64 0, .int .u64 0, .int .u64 0] 87)
  have HB := Aside0.mk hb0
  have Hb1 := Aside0.mk hb1
  have Hb2 := Aside0.mk hb2
  have HT := Aside0.mk hT
  clear hb0 hb1 hb2 h hs hT
  go_enter Tryz.func63, Tryz.ntmps63
  go_upto_region 1 with (fail)
  generalize ((w.alloc (.cells #[.int .i64 0, .string T] 90)).alloc (.cells #[.int .i64 0, .int .u64 0, .int .u64 0, .int .u64 0, .int .u64 0, .int .u64 0, .int .u64 0, .int .u64 0] 87)) = W at HB Hb1 Hb2 ⊢
  have c0 := cell_of_blk Hb1.out 0 (.int .i64 0) rfl
  have c1 := cell_of_blk Hb1.out 1 (.string T) rfl
  go_upto_region 4 with (first
    | (go_at_call 117; refine (proc_path 0 T _ _).mono ?_; rintro e w1 ⟨rfl, hb⟩; have HB1 := Aside0.mk (keepB (below_alloc (Below.refl _ _) _) hb (Nat.le_refl _) : Below W.heap.size W w1); clear hb)
    | (go_at_call 105; refine (read_calls T _ HS.out).mono ?_; rintro e w2 ⟨vd, rfl, hV, hb⟩; have HB2 := Aside0.mk (keepB HB1.out hb (Nat.le_refl _)); have HV := Aside0.mk hV; clear hb hV))
  obtain ⟨A, c, hv, hl, hF⟩ := HV.out
  subst hv
  have HC := Aside0.mk (Kd.F_now hF)
  have HL := Aside0.mk hl
  have HE := Aside0.mk (keepB HB.out HB2.out (Nat.le_refl _))
  have B1 := Aside0.mk (blk_below Hb1.out HB2.out)
  have B2 := Aside0.mk (blk_below Hb2.out HB2.out)
  clear hl hF HV c0 c1
  go_upto_region 7 with (first
    | (go_at_call 118; refine (procfs_parseStatm.calls k A c (bytesOf T) _ none _ HC.out HL.out H.out (HT.out.below HE.out)).mono ?_; rintro e w3 ⟨vn, rfl, hR, hb⟩; (try simp only [errW_none]); have HB3 := Aside0.mk hb; have HR := Aside0.mk hR; clear hb hR))
  obtain ⟨g, cap, hv, _⟩ := Kd.R_form HR.out (by simp)
  subst hv
  have hR := HR.out
  have m0 : w3.cell? ⟨g, 0, none⟩ = some (.int .u64 n0) := (Kd.R_cell (0 : Int) hR 0 (by decide) (by simp)).1
  have m1 : w3.cell? ⟨g, 1, none⟩ = some (.int .u64 n1) := (Kd.R_cell (0 : Int) hR 1 (by decide) (by simp)).1
  have m2 : w3.cell? ⟨g, 2, none⟩ = some (.int .u64 n2) := (Kd.R_cell (0 : Int) hR 2 (by decide) (by simp)).1
  have m3 : w3.cell? ⟨g, 3, none⟩ = some (.int .u64 n3) := (Kd.R_cell (0 : Int) hR 3 (by decide) (by simp)).1
  have m4 : w3.cell? ⟨g, 4, none⟩ = some (.int .u64 n4) := (Kd.R_cell (0 : Int) hR 4 (by decide) (by simp)).1
  have m5 : w3.cell? ⟨g, 5, none⟩ = some (.int .u64 n5) := (Kd.R_cell (0 : Int) hR 5 (by decide) (by simp)).1
  have m6 : w3.cell? ⟨g, 6, none⟩ = some (.int .u64 n6) := (Kd.R_cell (0 : Int) hR 6 (by decide) (by simp)).1
  have BB1 := Aside0.mk (blk_below B1.out HB3.out)
  have BB2 := Aside0.mk (blk_below B2.out HB3.out)
  have EE := Aside0.mk (keepB HE.out HB3.out (Nat.le_refl _))
  have p0 : w3.cell? ⟨w.heap.size, 0, none⟩ = some (.int .i64 0) := cell_of_blk BB1.out 0 (.int .i64 0) rfl
  clear hR HR HB HB1 HB2 HB3 HE B1 B2 Hb1 Hb2 HC HL
  generalize w2.heap.size = bt at *
  have hb0 : Below w3.heap.size w3 w3.drew := below_drew (Below.refl _ _)
  have hst : ∀ W : World, (Instr.storeAt 87 (.pointer (some ⟨W.heap.size, 0, none⟩)) (.agg #[.int .i64 0, .int .u64 n0, .int .u64 n1, .int .u64 n2, .int .u64 n3, .int .u64 n4, .int .u64 n5, .int .u64 n6])).run Tryz.prog (W.alloc (.cells #[.int .i64 0, .int .u64 0, .int .u64 0, .int .u64 0, .int .u64 0, .int .u64 0, .int .u64 0, .int .u64 0] 87)) = .ok () (W.alloc (.cells #[.int .i64 0, .int .u64 n0, .int .u64 n1, .int .u64 n2, .int .u64 n3, .int .u64 n4, .int .u64 n5, .int .u64 n6] 87)) := fun W => by
    have := store_statm n0 n1 n2 n3 n4 n5 n6 (blk_new W (.cells #[.int .i64 0, .int .u64 0, .int .u64 0, .int .u64 0, .int .u64 0, .int .u64 0, .int .u64 0, .int .u64 0] 87)) rfl
    rw [this]
    have h2 := alloc_set W (.int .i64 0) (.int .u64 0) (.int .u64 0) (.int .u64 0) (.int .u64 0) (.int .u64 0) (.int .u64 0) (.int .u64 0) (.int .i64 0) (.int .u64 n0) (.int .u64 n1) (.int .u64 n2) (.int .u64 n3) (.int .u64 n4) (.int .u64 n5) (.int .u64 n6)
    exact congrArg (Result.ok ()) h2
  go_wp2
  go_region_held3 (fun w' => Below w3.heap.size w3 w' ∧ w'.cell? ⟨w.heap.size, 0, none⟩ = some (.int .i64 0) ∧ w'.cell? ⟨g, 0, none⟩ = some (.int .u64 n0) ∧ w'.cell? ⟨g, 1, none⟩ = some (.int .u64 n1) ∧ w'.cell? ⟨g, 2, none⟩ = some (.int .u64 n2) ∧ w'.cell? ⟨g, 3, none⟩ = some (.int .u64 n3) ∧ w'.cell? ⟨g, 4, none⟩ = some (.int .u64 n4) ∧ w'.cell? ⟨g, 5, none⟩ = some (.int .u64 n5) ∧ w'.cell? ⟨g, 6, none⟩ = some (.int .u64 n6))
    (first
      | (go_split_ands; exact ⟨by assumption, by assumption, by assumption, by assumption, by assumption, by assumption, by assumption, by assumption, by assumption⟩)
      | (go_split_ands; exact ⟨below_alloc (by assumption) _, cell_below (below_alloc (Below.refl _ _) _) (by assumption), cell_below (below_alloc (Below.refl _ _) _) (by assumption), cell_below (below_alloc (Below.refl _ _) _) (by assumption), cell_below (below_alloc (Below.refl _ _) _) (by assumption), cell_below (below_alloc (Below.refl _ _) _) (by assumption), cell_below (below_alloc (Below.refl _ _) _) (by assumption), cell_below (below_alloc (Below.refl _ _) _) (by assumption), cell_below (below_alloc (Below.refl _ _) _) (by assumption)⟩)
      | (go_split_ands; refine ⟨?_, ?_, ?_, ?_, ?_, ?_, ?_, ?_, ?_⟩ <;> first | assumption | exact below_drew (below_alloc (Below.refl _ _) _) | exact cell_below (below_drew (below_alloc (Below.refl _ _) _)) (by assumption))
      | go_keep)
      (fail)
  rename_i hHeld
  clear hHeld m0 m1 m2 m3 m4 m5 m6 p0 hst hb0
  have hba : Below w3.heap.size w3 (w3.alloc (.cells #[.int .i64 0, .int .u64 n0, .int .u64 n1, .int .u64 n2, .int .u64 n3, .int .u64 n4, .int .u64 n5, .int .u64 n6] 87)).drew := below_drew (below_alloc (Below.refl _ _) _)
  have BN := Aside0.mk (blk_drew (blk_new w3 (.cells #[.int .i64 0, .int .u64 n0, .int .u64 n1, .int .u64 n2, .int .u64 n3, .int .u64 n4, .int .u64 n5, .int .u64 n6] 87)))
  have BB3 := Aside0.mk (blk_below BB2.out hba)
  have E4 := Aside0.mk (keepB EE.out hba (Nat.le_refl _))
  clear hba BB1 BB2 EE
  generalize (w3.alloc (.cells #[.int .i64 0, .int .u64 n0, .int .u64 n1, .int .u64 n2, .int .u64 n3, .int .u64 n4, .int .u64 n5, .int .u64 n6] 87)).drew = W4 at BN BB3 E4 ⊢
  generalize w3.heap.size = b7 at BN ⊢
  have x0 := cell_of_blk BN.out 0 (.int .i64 0) rfl
  have x1 := cell_of_blk BN.out 1 (.int .u64 n0) rfl
  have x2 := cell_of_blk BN.out 2 (.int .u64 n1) rfl
  have x3 := cell_of_blk BN.out 3 (.int .u64 n2) rfl
  have x4 := cell_of_blk BN.out 4 (.int .u64 n3) rfl
  have x5 := cell_of_blk BN.out 5 (.int .u64 n4) rfl
  have x6 := cell_of_blk BN.out 6 (.int .u64 n5) rfl
  have x7 := cell_of_blk BN.out 7 (.int .u64 n6) rfl
  go_wp2_with (first
    | ((with_reducible refine gate_ (.store 87 (.tmp 2) (.tmp 52)) rfl ?_); refine store_statm_event rfl rfl (.tmp 2) (.tmp 52) rfl (w.heap.size + 1) n0 n1 n2 n3 n4 n5 n6 rfl rfl BB3.out rfl ?_; intro w5 hw5 hbk5; have HW5 := Aside0.mk hw5; have HB5 := Aside0.mk hbk5; clear hw5 hbk5))
  have hE5 : Below w.heap.size w w5 := HW5.out ▸ below_cells E4.out (by omega) _
  exact bodyPost_ret (results_ctl rfl _ _ (w.heap.size + 1) _ _ rfl rfl (load87 HB5.out rfl)) rfl ⟨rfl, hE5⟩
end Go.Proofs.YtabfehcpcjcomaaGreatDoor.R
namespace Go.Proofs.YtabfehcpcjcomaaGreatDoor.R
open Go.RowKit Go.Proofs.YtabfehcpcjcomaaGreatDoor.QA0 Go.Proofs.YtabfehcpcjcomaaGreatDoorW.PrintWords Go.Proofs.YtabfehcpcjcomaaGreatDoorW.PrintLast Go.Proofs.YtabfehcpcjcomaaGreatDoorW.PrintMore
set_option linter.unusedVariables false
set_option linter.unusedSimpArgs false
set_option maxHeartbeats 4000000 in
set_option maxRecDepth 100000 in
theorem text_proc (T : ByteArray) (w : World) :
    Calls Tryz.prog 62 #[.string T] w fun e w' => e = .returned (.agg #[.int .i64 0, .string T]) ∧ Below w.heap.size w w' := by
  have hB := below_alloc (Below.refl w.heap.size w) (.cells #[.int .i64 0, .string ⟨#[]⟩] 90)
  have hb1 := blk_new w (.cells #[.int .i64 0, .string ⟨#[]⟩] 90)
  have HB := Aside0.mk hB
  have Hb1 := Aside0.mk hb1
  clear hB hb1
  go_enter Tryz.func62, Tryz.ntmps62
  go_upto_region 1 with (fail)
  generalize (w.alloc (.cells #[.int .i64 0, .string ⟨#[]⟩] 90)) = W at HB Hb1 ⊢
  go_wp2_with (first
    | (go_at_call 42; refine (text_fs T _).mono ?_; rintro e w1 ⟨rfl, hb⟩; have E := Aside0.mk (keepB HB.out hb (Nat.le_refl _)); have B2 := Aside0.mk (blk_below Hb1.out hb); clear hb; have y0 := cell_of_blk B2.out 0 (.int .i64 0) rfl; have y1 := cell_of_blk B2.out 1 (.string ⟨#[]⟩) rfl; have f0 := blk_frozen B2.out 0; have f1 := blk_frozen B2.out 1))
  have hp2 : ((w1.setCell ⟨w.heap.size, 0, none⟩ (.int .i64 0)).setCell ⟨w.heap.size, 1, none⟩ (.string T)).heap[w.heap.size]? = some (.cells #[.int .i64 0, .string T] 90 (0, 0)) := by
    have h1 := blk_set B2.out 0 (.int .i64 0); have h2 := blk_set h1 1 (.string T); rw [h2]; rfl
  exact bodyPost_ret (results_cell_row rfl _ _ w.heap.size 90 #[.int .i64 0, .string T] (0, 0) _ rfl hp2 Tryz.underlying90 rfl (by kernel_rfl)) rfl ⟨rfl, below_set (below_set E.out (Nat.le_refl _)) (Nat.le_refl _)⟩
theorem catch116 (p q : Addr) (w : World) :
    CallsD Tryz.prog 116 #[.pointer (some p), .pointer (some q)] .returning w fun e u' w' => e = .returned (.tuple #[]) ∧ u' = .returning ∧ w' = w := by
  refine callsD_of_wpS Tryz.func116 rfl fun c₀ cs hu => ?_
  apply wpS_seq
  apply wpS_region
  simp [wpOpsS, go_sem, recoverD, hu, Tryz.ntmps116, Exit.thenS]
  refine wpS_cond (t := false) (by simp [Act.eval, Array.replicate]) ?_
  simp only [Bool.false_eq_true, if_false]
  refine wpS_of_wp (wp_skip ?_)
  cases c₀
  simp_all [bodyPostS, results, Tryz.results116]
set_option maxHeartbeats 40000000 in
set_option maxRecDepth 100000 in
theorem tree_Statm (T : ByteArray) (x : S34) (r1 r2 r3 r4 r5 r6 r7 r8 : Int)
    (hread : ∀ W, LTabs W → Calls Tryz.prog 63 #[.agg #[.int .i64 0, .string T]] W fun e w' => e = .returned (.tuple #[.agg #[.int .i64 r1, .int .u64 r2, .int .u64 r3, .int .u64 r4, .int .u64 r5, .int .u64 r6, .int .u64 r7, .int .u64 r8], .nilIface]) ∧ Below W.heap.size W w')
    (hnode : ∀ W, Calls Tryz.prog 64 #[.agg #[.int .i64 r1, .int .u64 r2, .int .u64 r3, .int .u64 r4, .int .u64 r5, .int .u64 r6, .int .u64 r7, .int .u64 r8]] W fun e w' => ∃ u, e = .returned u ∧ IsNode w' W.heap.size u x ∧ Below W.heap.size W w')
    (w : World) (hT : LTabs w) :
    Calls Tryz.prog 61 #[.func (.func 63) #[.agg #[.int .i64 0, .string T]] #[], .func (.func 64) #[] #[]] w fun e w' => ∃ v, e = .returned (.tuple #[v, .int .i64 0]) ∧ IsNode w' w.heap.size v x ∧ Below w.heap.size w w' := by
  have HR0 := Aside0.mk hread
  have HN0 := Aside0.mk hnode
  have HTb := Aside0.mk hT
  have hnn : ∀ (w : World), (binOp .neq 133 .nilIface .nilIface).run Tryz.prog w = .ok (.bool false) w := fun _ => rfl
  clear hread hnode hT
  have hmf := hmf
  go_enter_defers Tryz.func61, Tryz.ntmps61
  go_upto_region 2 with (fail)
  clear hmf
  obtain ⟨hb0, hb1, hb2⟩ := alloc2_facts w (.cells z8 34) (.cells #[.int .i64 0] 3)
  have hs := (show ((w.alloc (.cells z8 34)).alloc (.cells #[.int .i64 0] 3)).heap.size = w.heap.size + 1 + 1 by simp)
  unfold z8 at hb0 hb1 hb2 hs
  have HB := Aside0.mk hb0
  have Hb1 := Aside0.mk hb1
  have Hb2 := Aside0.mk hb2
  have Hs := Aside0.mk hs
  have HTW := Aside0.mk (HTb.out.below hb0)
  clear hb0 hb1 hb2 hs
  generalize ((w.alloc (.cells #[.string ⟨#[]⟩, .int .i64 0, .bool false, .int .i64 0, .int .u64 0, .float .f64 0, .string ⟨#[]⟩, .slice none 0 0] 34)).alloc (.cells #[.int .i64 0] 3)) = W at HB Hb1 Hb2 HTW Hs ⊢
  go_upto_region 3 with (first
    | (go_at_call 63; refine (HR0.out _ HTW.out).mono ?_; rintro e w1 ⟨rfl, hb⟩; have HBW1 := Aside0.mk hb; clear hb))
  have hbn := blk_new w1 (.cells #[.int .i64 r1, .int .u64 r2, .int .u64 r3, .int .u64 r4, .int .u64 r5, .int .u64 r6, .int .u64 r7, .int .u64 r8] 87)
  have hba := below_alloc (Below.refl w1.heap.size w1) (.cells #[.int .i64 r1, .int .u64 r2, .int .u64 r3, .int .u64 r4, .int .u64 r5, .int .u64 r6, .int .u64 r7, .int .u64 r8] 87)
  have BN := Aside0.mk hbn
  have E2 := Aside0.mk (keepB (keepB HB.out HBW1.out (Nat.le_refl _)) hba (Nat.le_refl _))
  have B1 := Aside0.mk (blk_below (blk_below Hb1.out HBW1.out) hba)
  have B2 := Aside0.mk (blk_below (blk_below Hb2.out HBW1.out) hba)
  have S2 := Aside0.mk (show w.heap.size + 1 < (w1.alloc (.cells #[.int .i64 r1, .int .u64 r2, .int .u64 r3, .int .u64 r4, .int .u64 r5, .int .u64 r6, .int .u64 r7, .int .u64 r8] 87)).heap.size from blk_lt B2.out)
  clear hbn hba HB HBW1 Hb1 Hb2 Hs HTW
  generalize (w1.alloc (.cells #[.int .i64 r1, .int .u64 r2, .int .u64 r3, .int .u64 r4, .int .u64 r5, .int .u64 r6, .int .u64 r7, .int .u64 r8] 87)) = W2 at BN E2 B1 B2 S2 ⊢
  generalize w1.heap.size = bt6 at BN ⊢
  have c0 := cell_of_blk BN.out 0 (.int .i64 r1) rfl
  have c1 := cell_of_blk BN.out 1 (.int .u64 r2) rfl
  have c2 := cell_of_blk BN.out 2 (.int .u64 r3) rfl
  have c3 := cell_of_blk BN.out 3 (.int .u64 r4) rfl
  have c4 := cell_of_blk BN.out 4 (.int .u64 r5) rfl
  have c5 := cell_of_blk BN.out 5 (.int .u64 r6) rfl
  have c6 := cell_of_blk BN.out 6 (.int .u64 r7) rfl
  have c7 := cell_of_blk BN.out 7 (.int .u64 r8) rfl
  go_wp2_with (first
    | (go_at_call 64; refine (HN0.out _).mono ?_; rintro e w2 ⟨_, rfl, ⟨v7, rfl, hR⟩, hb2⟩; obtain ⟨A7, cc7, e7⟩ := Kd.R_slice hR; have HR := Aside0.mk hR; have HBW2 := Aside0.mk hb2; have E7 := Aside0.mk e7; have HBK := Aside0.mk (blk_below B1.out hb2); have HBI := Aside0.mk (blk_below B2.out hb2); clear hR hb2 e7)
    | ((with_reducible refine gate_ (.store 34 (.tmp 4) (.tmp 19)) rfl ?_); refine store_node_event rfl rfl (.tmp 4) (.tmp 19) rfl w.heap.size x E7.out rfl rfl HBK.out rfl ?_; intro w3 hw3 hbk3; have HI3 := Aside0.mk (by rw [hw3]; exact (setCells_far (nodeL x v7) 0 (w.heap.size + 1) (by omega)).trans HBI.out : w3.heap[w.heap.size + 1]? = some (.cells #[.int .i64 0] 3 (0, 0))); have HW3 := Aside0.mk hw3; have HB3 := Aside0.mk hbk3; clear hw3 hbk3; have hc5 := cell_of_blk HI3.out 0 _ rfl; have hf5 := blk_frozen HI3.out 0))
  refine leaves_cons (f := 116) (args := #[.pointer (some ⟨w.heap.size, 0, none⟩), .pointer (some ⟨w.heap.size + 1, 0, none⟩)]) (by simp) (by simp [go_sem]) ?_
  refine (catch116 ⟨w.heap.size, 0, none⟩ ⟨w.heap.size + 1, 0, none⟩ _).mono ?_
  rintro e u' w'' ⟨rfl, rfl, rfl⟩
  have hb1' : (w3.setCell ⟨w.heap.size + 1, 0, none⟩ (.int .i64 0)).heap[w.heap.size]? = some (.cells (nodeL x v7).toArray 34 (0, 0)) := (Below.heap_setCell w3 _ _ w.heap.size (by show w.heap.size ≠ w.heap.size + 1; omega)).trans HB3.out
  have hb2' : (w3.setCell ⟨w.heap.size + 1, 0, none⟩ (.int .i64 0)).heap[w.heap.size + 1]? = some (.cells #[.int .i64 0] 3 (0, 0)) := blk_set HI3.out 0 _
  have hnd := node_done2 E2.out S2.out HBW2.out HR.out (.int .i64 0)
  rw [← HW3.out] at hnd
  simp only [Leaves, settle]
  exact ⟨_, results_cc rfl _ _ w.heap.size (w.heap.size + 1) _ _ rfl rfl hb1' rfl hb2', _, rfl, hnd⟩
set_option maxHeartbeats 4000000 in
set_option maxRecDepth 100000 in
theorem door_Statm (T : ByteArray) (x : S34) (r1 r2 r3 r4 r5 r6 r7 r8 : Int)
    (hread : ∀ W, LTabs W → Calls Tryz.prog 63 #[.agg #[.int .i64 0, .string T]] W fun e w' => e = .returned (.tuple #[.agg #[.int .i64 r1, .int .u64 r2, .int .u64 r3, .int .u64 r4, .int .u64 r5, .int .u64 r6, .int .u64 r7, .int .u64 r8], .nilIface]) ∧ Below W.heap.size W w')
    (hnode : ∀ W, Calls Tryz.prog 64 #[.agg #[.int .i64 r1, .int .u64 r2, .int .u64 r3, .int .u64 r4, .int .u64 r5, .int .u64 r6, .int .u64 r7, .int .u64 r8]] W fun e w' => ∃ u, e = .returned u ∧ IsNode w' W.heap.size u x ∧ Below W.heap.size W w')
    (w : World) (hT : LTabs w) :
    Calls Tryz.prog 18 #[.string T] w fun e w' => ∃ v, e = .returned (.tuple #[v, .int .i64 0]) ∧ IsNode w' w.heap.size v x ∧ Below w.heap.size w w' := by
  have hb1 := blk_new w (.cells z8 34)
  have hB := below_alloc (Below.refl w.heap.size w) (.cells z8 34)
  have hs := (show (w.alloc (.cells z8 34)).heap.size = w.heap.size + 1 by simp)
  unfold z8 at hb1 hB hs
  have HB := Aside0.mk hB
  have Hb1 := Aside0.mk hb1
  have Hs := Aside0.mk hs
  have HR0 := Aside0.mk hread
  have HN0 := Aside0.mk hnode
  have HTW := Aside0.mk (hT.below hB)
  clear hb1 hB hs hread hnode hT
  have hmf := hmf
  go_enter Tryz.func18, Tryz.ntmps18
  go_upto_region 1 with (fail)
  generalize (w.alloc (.cells #[.string ⟨#[]⟩, .int .i64 0, .bool false, .int .i64 0, .int .u64 0, .float .f64 0, .string ⟨#[]⟩, .slice none 0 0] 34)) = W at HB Hb1 HTW Hs ⊢
  go_wp2_with (first
    | (go_at_call 62; refine (text_proc T _).mono ?_; rintro e w1 ⟨rfl, hb⟩; have HBW1 := Aside0.mk hb; clear hb)
    | (go_at_call 61; refine (tree_Statm T x r1 r2 r3 r4 r5 r6 r7 r8 HR0.out HN0.out _ (HTW.out.below HBW1.out)).mono ?_; rintro e w2 ⟨_, rfl, ⟨v7, rfl, hR⟩, hb2⟩; obtain ⟨A7, c7, e7⟩ := Kd.R_slice hR; have HR := Aside0.mk hR; have HBW2 := Aside0.mk hb2; have E7 := Aside0.mk e7; have HBK := Aside0.mk (blk_below (blk_below Hb1.out HBW1.out) hb2); clear hR hb2 e7)
    | ((with_reducible refine gate_ (.store 34 (.tmp 2) (.tmp 8)) rfl ?_); refine store_node_event rfl rfl (.tmp 2) (.tmp 8) rfl w.heap.size x E7.out rfl rfl HBK.out rfl ?_; intro w3 hw3 hbk3; have HW3 := Aside0.mk hw3; have HB3 := Aside0.mk hbk3; clear hw3 hbk3))
  have hnd := node_done (keepB HB.out HBW1.out (Nat.le_refl _)) (Nat.le_refl _) (by have := HBW1.out.size; have := Hs.out; omega) HBW2.out HR.out
  rw [← HW3.out] at hnd
  exact bodyPost_ret (results_ct rfl _ _ w.heap.size _ _ rfl rfl HB3.out rfl) rfl ⟨_, rfl, hnd⟩
end Go.Proofs.YtabfehcpcjcomaaGreatDoor.R
namespace Go.Proofs.YtabfehcpcjcomaaGreatDoor.QA0
open Go.RowKit Go.Proofs.YtabfehcpcjcomaaGreatDoorW.PrintWords Go.Proofs.YtabfehcpcjcomaaGreatDoorW.PrintLast Go.Proofs.YtabfehcpcjcomaaGreatDoorW.PrintMore
attribute [local go_sem] max2_int min2_int max_two min_two max_three min_three max_four min_four
set_option linter.unusedVariables false
set_option linter.unusedSimpArgs false
mutual
def spec_Fields.l0 : Nat → ByteArray → List ByteArray → Int → Int → Int → Option (List ByteArray)
 | 0, _, _, _, _, _ => none
 | k + 1, x0, x3, x4, x8, x9 => if x9 < x8 then (if 0 ≤ x9 then (if x9 < (x0.size : Int) then (if (bt x0 x9) = 32 then (spec_Fields.j1 k x0 x3 x4 x9 true x8 x9) else (spec_Fields.j1 k x0 x3 x4 x9 ((bt x0 x9) == 9) x8 x9)) else (none)) else (none)) else (if x4 ≥ 0 then (if 0 ≤ x4 then (if x4 ≤ (x0.size : Int) then (if x3.length < 8796093022208 then (some (x3 ++ [x0.extract (x4 : Int).toNat x0.size])) else (none)) else (none)) else (none)) else (some x3))
def spec_Fields.j1 : Nat → ByteArray → List ByteArray → Int → Int → Bool → Int → Int → Option (List ByteArray)
 | 0, _, _, _, _, _, _, _ => none
 | k + 1, x0, x3, x4, x5, x6, x8, x9 => if x6 = true then (spec_Fields.j2 k x0 x3 x4 x5 x6 x8 x9 (decide (x4 ≥ 0))) else (spec_Fields.j2 k x0 x3 x4 x5 x6 x8 x9 false)
def spec_Fields.j2 : Nat → ByteArray → List ByteArray → Int → Int → Bool → Int → Int → Bool → Option (List ByteArray)
 | 0, _, _, _, _, _, _, _, _ => none
 | k + 1, x0, x3, x4, x5, x6, x8, x9, x22 => if x22 = true then (if 0 ≤ x4 then (if x4 ≤ x5 then (if x5 ≤ (x0.size : Int) then (if x3.length < 8796093022208 then (spec_Fields.l0 k x0 (x3 ++ [x0.extract (x4 : Int).toNat (x5 : Int).toNat]) (-1) x8 (wrap64 (x9 + 1))) else (none)) else (none)) else (none)) else (none)) else (if x6 = true then (spec_Fields.l0 k x0 x3 x4 x8 (wrap64 (x9 + 1))) else (if x4 < 0 then (spec_Fields.l0 k x0 x3 x5 x8 (wrap64 (x9 + 1))) else (spec_Fields.l0 k x0 x3 x4 x8 (wrap64 (x9 + 1)))))
end
def spec_Fields.f (k : Nat) (a0 : ByteArray) : Option (List ByteArray) := spec_Fields.l0 k a0 ([] : List ByteArray) (-1) (a0.size : Int) 0
set_option maxHeartbeats 8000000 in
set_option maxRecDepth 100000 in
theorem spec_Fields.calls (k : Nat) (a0 : ByteArray) (r : List ByteArray) (w : World) (h : spec_Fields.f k a0 = some r) :
 Calls Tryz.prog 31 #[.string a0] w fun e w' => ∃ v0_ : Value, e = .returned (v0_) ∧ Kd.R Kd.string 9 w' w.heap.size (fun _ => True) v0_ r ∧ Below w.heap.size w w' := by
 have HB := Aside0.mk (Below.refl w.heap.size w)
 have H : (spec_Fields.l0 k a0 ([] : List ByteArray) (-1) (a0.size : Int) 0) = some r := h
 clear h
 have H' := Aside0.mk H
 clear H
 go_enter Tryz.func31, Tryz.ntmps31
 go_wp2
 go_loopg [3, 4, 9] k (fun kq v3 v4 v9 w' => ∃ (x3_1 : List ByteArray) (x4_1 : Int) (x9_1 : Int), v4 = .int .i64 x4_1 ∧ v9 = .int .i64 x9_1 ∧ Aside0 (spec_Fields.l0 kq a0 x3_1 x4_1 (a0.size : Int) x9_1 = some r) ∧ Aside0 (kq ≤ k) ∧ Aside0 (Kd.R Kd.string 9 w' w.heap.size (fun _ => True) v3 x3_1) ∧ Aside0 (Below w.heap.size w w'))
 case atStart => exact ⟨(([] : List ByteArray)), ((-1)), (0), (by first | rfl | (simp; done) | (simp [*]; done)), (by first | rfl | (simp; done) | (simp [*]; done)), H', ⟨Nat.le_refl _⟩, ⟨by first | exact Kd.R_nil _ _ _ _ _ | exact Kd.N_nil _ _ _ _ _ | exact Kd.V_nil _ _ _ _ _ | exact Kd.Q_nil _ _ _ _ _ | exact Kd.S_nil _ _ _ _ _⟩, ⟨by repeat (first | (with_reducible first | exact HB.out | apply below_alloc | apply pw_below_drewN | apply below_drew1) | exact HB.out)⟩⟩
 case round =>
  clear H'
  obtain ⟨x3_1, x4_1, x9_1, rfl, rfl, HA, HK1, HO_3, HB⟩ := hrel
  cases gk with
  | zero => exact absurd HA.out (by simp [spec_Fields.l0])
  | succ k1 =>
   have H := HA.out
   clear HA
   simp only [spec_Fields.l0] at H
   by_cases c2 : x9_1 < (a0.size : Int)
   · rw [if_pos c2] at H
     have c2b0 : decide (x9_1 < (a0.size : Int)) = true := decide_eq_true c2
     clear c2
     have HC3 := Aside0.mk H
     clear H
     go_upto_region 6 with (fail)
     go_cut [6] (fun v6 wc => ∃ (kq : Nat) (x6_2 : Bool), v6 = .bool x6_2 ∧ Aside0 (spec_Fields.j1 kq a0 x3_1 x4_1 x9_1 x6_2 (a0.size : Int) x9_1 = some r) ∧ Aside0 (kq ≤ k1) ∧ Aside0 (Kd.R Kd.string 9 wc w.heap.size (fun _ => True) u3 x3_1) ∧ Aside0 (Below w.heap.size w wc))
     case first =>
      have H := HC3.out
      clear HC3
      by_cases c4 : 0 ≤ x9_1
      · rw [if_pos c4] at H
        have c4b0 : decide (0 ≤ x9_1) = true := decide_eq_true c4
        clear c4
        (first | rw [c4b0] | (simp only [i64_w, i32_w]; rw [c4b0]) | skip)
        by_cases c5 : x9_1 < (a0.size : Int)
        · rw [if_pos c5] at H
          have c5b0 : decide (x9_1 < (a0.size : Int)) = true := decide_eq_true c5
          clear c5
          by_cases c7 : (bt a0 x9_1) = 32
          · rw [if_pos c7] at H
            have c7b0 : ((bt a0 x9_1) == 32) = true := beq_iff_eq.mpr c7
            have c7b1 : ((bt a0 x9_1) != 32) = false := bne_eq_false_iff_eq.mpr c7
            clear c7
            have H' := Aside0.mk H
            clear H
            have p6 : 0 ≤ (x9_1 : Int) := of_decide_eq_true (by first | (with_reducible assumption) | assumption)
            have q6 : x9_1 < (a0.size : Int) := of_decide_eq_true (by first | (with_reducible assumption) | assumption)
            have hx6 := bt_at a0 x9_1
            replace p6 := eq_true p6
            replace q6 := eq_true q6
            go_wp2
            go_meet
            case rel => exact ⟨_, (true), (by first | rfl | (simp; done) | (simp [*]; done)), H', ⟨by have := HK1.out; first | omega | exact Nat.le_refl _⟩, ⟨by (with_reducible repeat (first | apply Kd.R_alloc | apply Kd.R_drewN | apply Kd.R_drew)); exact HO_3.out⟩, ⟨by repeat (first | (with_reducible first | exact HB.out | apply below_alloc | apply pw_below_drewN | apply below_drew1) | exact HB.out)⟩⟩
          · rw [if_neg c7] at H
            have c7b0 : ((bt a0 x9_1) == 32) = false := beq_eq_false_iff_ne.mpr c7
            have c7b1 : ((bt a0 x9_1) != 32) = true := bne_iff_ne.mpr c7
            have H' := Aside0.mk H
            clear H
            have p6 : 0 ≤ (x9_1 : Int) := of_decide_eq_true (by first | (with_reducible assumption) | assumption)
            have q6 : x9_1 < (a0.size : Int) := of_decide_eq_true (by first | (with_reducible assumption) | assumption)
            have hx6 := bt_at a0 x9_1
            replace p6 := eq_true p6
            replace q6 := eq_true q6
            have p8 : 0 ≤ (x9_1 : Int) := of_decide_eq_true (by first | (with_reducible assumption) | assumption)
            have q8 : x9_1 < (a0.size : Int) := of_decide_eq_true (by first | (with_reducible assumption) | assumption)
            have hx8 := bt_at a0 x9_1
            replace p8 := eq_true p8
            replace q8 := eq_true q8
            go_wp2
            go_meet
            case rel => exact ⟨_, (((bt a0 x9_1) == 9)), (by first | rfl | (simp; done) | (simp [*]; done)), H', ⟨by have := HK1.out; first | omega | exact Nat.le_refl _⟩, ⟨by (with_reducible repeat (first | apply Kd.R_alloc | apply Kd.R_drewN | apply Kd.R_drew)); exact HO_3.out⟩, ⟨by repeat (first | (with_reducible first | exact HB.out | apply below_alloc | apply pw_below_drewN | apply below_drew1) | exact HB.out)⟩⟩
        · rw [if_neg c5] at H
          exact absurd H (by simp)
      · rw [if_neg c4] at H
        exact absurd H (by simp)
     case rest =>
      clear HC3
      try clear c2
      try clear c2b0
      try clear p2
      try clear c3
      try clear c4
      try clear c4b0
      try clear c5
      try clear c5b0
      try clear p6
      try clear q6
      try clear hx6
      try clear c7
      try clear c7b0
      try clear c7b1
      try clear p8
      try clear q8
      try clear hx8
      try clear p6
      try clear p8
      try clear q6
      try clear q8
      obtain ⟨kq, x6_2, rfl, HA, HJ2, HO_3, HB⟩ := hcut
      cases kq with
      | zero => exact absurd HA.out (by simp [spec_Fields.j1])
      | succ kj2 =>
       have H := HA.out
       clear HA
       simp only [spec_Fields.j1] at H
       have HC9 := Aside0.mk H
       clear H
       go_upto_region 7 with (fail)
       go_cut [22] (fun v22 wc => ∃ (kq : Nat) (x22_8 : Bool), v22 = .bool x22_8 ∧ Aside0 (spec_Fields.j2 kq a0 x3_1 x4_1 x9_1 x6_2 (a0.size : Int) x9_1 x22_8 = some r) ∧ Aside0 (kq ≤ kj2) ∧ Aside0 (Kd.R Kd.string 9 wc w.heap.size (fun _ => True) u3 x3_1) ∧ Aside0 (Below w.heap.size w wc))
       case first =>
        have H := HC9.out
        clear HC9
        by_cases c10 : x6_2 = true
        · subst c10
          have H1 : (spec_Fields.j2 kj2 a0 x3_1 x4_1 x9_1 true (a0.size : Int) x9_1 (decide (x4_1 ≥ 0))) = some r := by rw [if_pos rfl] at H; exact H
          clear H
          have H := H1
          clear H1
          have H' := Aside0.mk H
          clear H
          go_wp2
          go_meet
          case rel => exact ⟨_, (decide (x4_1 ≥ 0)), (by first | rfl | (simp; done) | (simp [*]; done)), H', ⟨by have := HK1.out; have := HJ2.out; first | omega | exact Nat.le_refl _⟩, ⟨by (with_reducible repeat (first | apply Kd.R_alloc | apply Kd.R_drewN | apply Kd.R_drew)); exact HO_3.out⟩, ⟨by repeat (first | (with_reducible first | exact HB.out | apply below_alloc | apply pw_below_drewN | apply below_drew1) | exact HB.out)⟩⟩
        · replace c10 := Bool.eq_false_iff.mpr c10
          subst c10
          have H1 : (spec_Fields.j2 kj2 a0 x3_1 x4_1 x9_1 false (a0.size : Int) x9_1 false) = some r := by rw [if_neg (show ¬ (false = true) by decide)] at H; exact H
          clear H
          have H := H1
          clear H1
          have H' := Aside0.mk H
          clear H
          go_wp2
          go_meet
          case rel => exact ⟨_, (false), (by first | rfl | (simp; done) | (simp [*]; done)), H', ⟨by have := HK1.out; have := HJ2.out; first | omega | exact Nat.le_refl _⟩, ⟨by (with_reducible repeat (first | apply Kd.R_alloc | apply Kd.R_drewN | apply Kd.R_drew)); exact HO_3.out⟩, ⟨by repeat (first | (with_reducible first | exact HB.out | apply below_alloc | apply pw_below_drewN | apply below_drew1) | exact HB.out)⟩⟩
       case rest =>
        clear HC9
        try clear c1
        try clear c2
        try clear c2b0
        try clear p2
        try clear c3
        try clear c4
        try clear c4b0
        try clear c5
        try clear c5b0
        try clear p6
        try clear q6
        try clear hx6
        try clear c7
        try clear c7b0
        try clear c7b1
        try clear p8
        try clear q8
        try clear hx8
        try clear c10
        try clear p2
        try clear p6
        try clear p8
        try clear q6
        try clear q8
        obtain ⟨kq, x22_8, rfl, HA, HJ8, HO_3, HB⟩ := hcut
        cases kq with
        | zero => exact absurd HA.out (by simp [spec_Fields.j2])
        | succ kj8 =>
         have H := HA.out
         clear HA
         simp only [spec_Fields.j2] at H
         by_cases c11 : x22_8 = true
         · subst c11
           have H1 : (if 0 ≤ x4_1 then (if x4_1 ≤ x9_1 then (if x9_1 ≤ (a0.size : Int) then (if x3_1.length < 8796093022208 then (spec_Fields.l0 kj8 a0 (x3_1 ++ [a0.extract (x4_1 : Int).toNat (x9_1 : Int).toNat]) (-1) (a0.size : Int) (wrap64 (x9_1 + 1))) else (none)) else (none)) else (none)) else (none)) = some r := by rw [if_pos rfl] at H; exact H
           clear H
           have H := H1
           clear H1
           by_cases c12 : 0 ≤ x4_1
           · rw [if_pos c12] at H
             have c12b0 := eq_true c12
             have c12b1 : decide (0 ≤ x4_1) = true := decide_eq_true c12
             clear c12
             by_cases c13 : x4_1 ≤ x9_1
             · rw [if_pos c13] at H
               have c13b0 := eq_true c13
               have c13b1 : decide (x4_1 ≤ x9_1) = true := decide_eq_true c13
               clear c13
               by_cases c14 : x9_1 ≤ (a0.size : Int)
               · rw [if_pos c14] at H
                 have c14b0 := eq_true c14
                 have c14b1 : decide (x9_1 ≤ (a0.size : Int)) = true := decide_eq_true c14
                 clear c14
                 by_cases c15 : x3_1.length < 8796093022208
                 · rw [if_pos c15] at H
                   have LMc15 := Aside0.mk c15
                   clear c15
                   obtain ⟨y554, hy554⟩ : ∃ y_ : List ByteArray, y_ = (x3_1 ++ [a0.extract (x4_1 : Int).toNat (x9_1 : Int).toNat]) := ⟨_, rfl⟩
                   replace H : (spec_Fields.l0 kj8 a0 y554 (-1) (a0.size : Int) (wrap64 (x9_1 + 1))) = some r := by first | (rw [hy554]; with_reducible exact H) | (have H2_ := (Option.bind_some _ _).symm.trans H; rw [hy554]; with_reducible exact H2_) | (have H2_ := (Option.bind_some _ _).symm.trans H; with_reducible exact H2_) | with_reducible exact H | (rw [hy554]; exact H) | exact H
                   have Ny554 := Aside0.mk hy554
                   clear hy554
                   have H' := Aside0.mk H
                   clear H
                   go_wp2_with (first | ((with_reducible refine gate_builtin (b := .append) (xs := #[.tmp 28, .tmp 33]) rfl ?_); at_builtin; refine Kd.R_append Kd.string (w0 := w) w.heap.size rfl (.tmp 28) (.tmp 33) 42 9 (.string ⟨#[]⟩) 16 rfl Tryz.underlying42 info9 rfl (by decide) (by omega) u3 x3_1 (a0.extract (x4_1 : Int).toNat (x9_1 : Int).toNat) [.string (a0.extract (x4_1 : Int).toNat (x9_1 : Int).toNat)] (fun _ => True) (fun _ => False) rfl rfl ?aP (fun _ hk => hk.elim) ?aF ?aO ?aB ?aS ?aL ?_; (case aP => exact rfl); (case aB => exact (by repeat (first | (with_reducible first | exact HB.out | apply below_alloc | apply pw_below_drewN | apply below_drew1) | exact HB.out))); (case aF => exact (fun _ _ => trivial)); (case aO => exact (by (with_reducible repeat (first | apply Kd.R_alloc | apply Kd.R_drewN | apply Kd.R_drew)); exact HO_3.out)); (case aS => exact (below_size (by repeat (first | (with_reducible first | exact HB.out | apply below_alloc | apply pw_below_drewN | apply below_drew1) | exact HB.out)))); (case aL => have := LMc15.out; omega); intro v555 w16 ho hb hg hat; rw [← Ny554.out] at ho; have n0_ := Aside0.mk (hb); have n1_ := Aside0.mk (ho); clear HB; clear HO_3; have HB := n0_; have HO556 := n1_; clear n0_ n1_; clear ho hb hg hat))
                   go_roundg kj8
                   case measure => have := HK1.out; have := HJ2.out; have := HJ8.out; omega
                   case rel => exact ⟨(y554), ((-1)), (wrap64 (x9_1 + 1)), (by first | rfl | (simp; done) | (simp [*]; done)), (by first | rfl | (simp; done) | (simp [*]; done)), H', ⟨by have := HK1.out; have := HJ2.out; have := HJ8.out; omega⟩, ⟨by (with_reducible repeat (first | apply Kd.R_alloc | apply Kd.R_drewN | apply Kd.R_drew)); exact HO556.out⟩, ⟨by repeat (first | (with_reducible first | exact HB.out | apply below_alloc | apply pw_below_drewN | apply below_drew1) | exact HB.out)⟩⟩
                 · rw [if_neg c15] at H
                   exact absurd H (by simp)
               · rw [if_neg c14] at H
                 exact absurd H (by simp)
             · rw [if_neg c13] at H
               exact absurd H (by simp)
           · rw [if_neg c12] at H
             exact absurd H (by simp)
         · replace c11 := Bool.eq_false_iff.mpr c11
           subst c11
           have H1 : (if x6_2 = true then (spec_Fields.l0 kj8 a0 x3_1 x4_1 (a0.size : Int) (wrap64 (x9_1 + 1))) else (if x4_1 < 0 then (spec_Fields.l0 kj8 a0 x3_1 x9_1 (a0.size : Int) (wrap64 (x9_1 + 1))) else (spec_Fields.l0 kj8 a0 x3_1 x4_1 (a0.size : Int) (wrap64 (x9_1 + 1))))) = some r := by rw [if_neg (show ¬ (false = true) by decide)] at H; exact H
           clear H
           have H := H1
           clear H1
           by_cases c17 : x6_2 = true
           · subst c17
             have H1 : (spec_Fields.l0 kj8 a0 x3_1 x4_1 (a0.size : Int) (wrap64 (x9_1 + 1))) = some r := by rw [if_pos rfl] at H; exact H
             clear H
             have H := H1
             clear H1
             have H' := Aside0.mk H
             clear H
             go_wp2
             go_roundg kj8
             case measure => have := HK1.out; have := HJ2.out; have := HJ8.out; omega
             case rel => exact ⟨(x3_1), (x4_1), (wrap64 (x9_1 + 1)), (by first | rfl | (simp; done) | (simp [*]; done)), (by first | rfl | (simp; done) | (simp [*]; done)), H', ⟨by have := HK1.out; have := HJ2.out; have := HJ8.out; omega⟩, ⟨by (with_reducible repeat (first | apply Kd.R_alloc | apply Kd.R_drewN | apply Kd.R_drew)); exact HO_3.out⟩, ⟨by repeat (first | (with_reducible first | exact HB.out | apply below_alloc | apply pw_below_drewN | apply below_drew1) | exact HB.out)⟩⟩
           · replace c17 := Bool.eq_false_iff.mpr c17
             subst c17
             have H1 : (if x4_1 < 0 then (spec_Fields.l0 kj8 a0 x3_1 x9_1 (a0.size : Int) (wrap64 (x9_1 + 1))) else (spec_Fields.l0 kj8 a0 x3_1 x4_1 (a0.size : Int) (wrap64 (x9_1 + 1)))) = some r := by rw [if_neg (show ¬ (false = true) by decide)] at H; exact H
             clear H
             have H := H1
             clear H1
             by_cases c18 : x4_1 < 0
             · rw [if_pos c18] at H
               have c18b0 : decide (x4_1 < 0) = true := decide_eq_true c18
               clear c18
               have H' := Aside0.mk H
               clear H
               go_wp2
               go_roundg kj8
               case measure => have := HK1.out; have := HJ2.out; have := HJ8.out; omega
               case rel => exact ⟨(x3_1), (x9_1), (wrap64 (x9_1 + 1)), (by first | rfl | (simp; done) | (simp [*]; done)), (by first | rfl | (simp; done) | (simp [*]; done)), H', ⟨by have := HK1.out; have := HJ2.out; have := HJ8.out; omega⟩, ⟨by (with_reducible repeat (first | apply Kd.R_alloc | apply Kd.R_drewN | apply Kd.R_drew)); exact HO_3.out⟩, ⟨by repeat (first | (with_reducible first | exact HB.out | apply below_alloc | apply pw_below_drewN | apply below_drew1) | exact HB.out)⟩⟩
             · rw [if_neg c18] at H
               have c18b0 : decide (x4_1 < 0) = false := decide_eq_false c18
               clear c18
               have H' := Aside0.mk H
               clear H
               go_wp2
               go_roundg kj8
               case measure => have := HK1.out; have := HJ2.out; have := HJ8.out; omega
               case rel => exact ⟨(x3_1), (x4_1), (wrap64 (x9_1 + 1)), (by first | rfl | (simp; done) | (simp [*]; done)), (by first | rfl | (simp; done) | (simp [*]; done)), H', ⟨by have := HK1.out; have := HJ2.out; have := HJ8.out; omega⟩, ⟨by (with_reducible repeat (first | apply Kd.R_alloc | apply Kd.R_drewN | apply Kd.R_drew)); exact HO_3.out⟩, ⟨by repeat (first | (with_reducible first | exact HB.out | apply below_alloc | apply pw_below_drewN | apply below_drew1) | exact HB.out)⟩⟩
   · rw [if_neg c2] at H
     have c2b0 : decide (x9_1 < (a0.size : Int)) = false := decide_eq_false c2
     clear c2
     by_cases c19 : x4_1 ≥ 0
     · rw [if_pos c19] at H
       have c19b0 : decide (0 ≤ x4_1) = true := decide_eq_true c19
       clear c19
       by_cases c20 : 0 ≤ x4_1
       · rw [if_pos c20] at H
         have c20b0 := eq_true c20
         have c20b1 : decide (0 ≤ x4_1) = true := decide_eq_true c20
         clear c20
         by_cases c21 : x4_1 ≤ (a0.size : Int)
         · rw [if_pos c21] at H
           have c21b0 := eq_true c21
           have c21b1 : decide (x4_1 ≤ (a0.size : Int)) = true := decide_eq_true c21
           clear c21
           by_cases c22 : x3_1.length < 8796093022208
           · rw [if_pos c22] at H
             have LMc22 := Aside0.mk c22
             clear c22
             obtain ⟨y551, hy551⟩ : ∃ y_ : List ByteArray, y_ = (x3_1 ++ [a0.extract (x4_1 : Int).toNat a0.size]) := ⟨_, rfl⟩
             replace H : (some y551) = some r := by first | (rw [hy551]; with_reducible exact H) | (have H2_ := (Option.bind_some _ _).symm.trans H; rw [hy551]; with_reducible exact H2_) | (have H2_ := (Option.bind_some _ _).symm.trans H; with_reducible exact H2_) | with_reducible exact H | (rw [hy551]; exact H) | exact H
             have Ny551 := Aside0.mk hy551
             clear hy551
             obtain rfl := Option.some.inj H
             go_wp2_with (first | ((with_reducible refine gate_builtin (b := .append) (xs := #[.tmp 46, .tmp 50]) rfl ?_); at_builtin; refine Kd.R_append Kd.string (w0 := w) w.heap.size rfl (.tmp 46) (.tmp 50) 42 9 (.string ⟨#[]⟩) 16 rfl Tryz.underlying42 info9 rfl (by decide) (by omega) u3 x3_1 (a0.extract (x4_1 : Int).toNat a0.size) [.string (a0.extract (x4_1 : Int).toNat a0.size)] (fun _ => True) (fun _ => False) rfl rfl ?aP (fun _ hk => hk.elim) ?aF ?aO ?aB ?aS ?aL ?_; (case aP => exact rfl); (case aB => exact (by repeat (first | (with_reducible first | exact HB.out | apply below_alloc | apply pw_below_drewN | apply below_drew1) | exact HB.out))); (case aF => exact (fun _ _ => trivial)); (case aO => exact (by (with_reducible repeat (first | apply Kd.R_alloc | apply Kd.R_drewN | apply Kd.R_drew)); exact HO_3.out)); (case aS => exact (below_size (by repeat (first | (with_reducible first | exact HB.out | apply below_alloc | apply pw_below_drewN | apply below_drew1) | exact HB.out)))); (case aL => have := LMc22.out; omega); intro v552 w23 ho hb hg hat; rw [← Ny551.out] at ho; have n0_ := Aside0.mk (hb); have n1_ := Aside0.mk (ho); clear HB; clear HO_3; have HB := n0_; have HO553 := n1_; clear n0_ n1_; clear ho hb hg hat))
             go_ret
             exact ⟨_, by first | rfl | (simp [errW_none, errW_some] <;> rfl) | (simp [*, errW_none, errW_some] <;> rfl), by (with_reducible repeat (first | apply Kd.R_alloc | apply Kd.R_drewN | apply Kd.R_drew)); exact HO553.out, by repeat (first | (with_reducible first | exact HB.out | apply below_alloc | apply pw_below_drewN | apply below_drew1) | exact HB.out)⟩
           · rw [if_neg c22] at H
             exact absurd H (by simp)
         · rw [if_neg c21] at H
           exact absurd H (by simp)
       · rw [if_neg c20] at H
         exact absurd H (by simp)
     · rw [if_neg c19] at H
       have c19b0 : decide (0 ≤ x4_1) = false := decide_eq_false c19
       clear c19
       obtain rfl := Option.some.inj H
       go_wp2
       go_ret
       exact ⟨_, by first | rfl | (simp [errW_none, errW_some] <;> rfl) | (simp [*, errW_none, errW_some] <;> rfl), by (with_reducible repeat (first | apply Kd.R_alloc | apply Kd.R_drewN | apply Kd.R_drew)); exact HO_3.out, by repeat (first | (with_reducible first | exact HB.out | apply below_alloc | apply pw_below_drewN | apply below_drew1) | exact HB.out)⟩
def spec_Lines.l0 : Nat → ByteArray → List ByteArray → Int → Int → Int → Option (List ByteArray)
 | 0, _, _, _, _, _ => none
 | k + 1, x0, x3, x4, x7, x8 => if x8 < x7 then (if 0 ≤ x8 then (if x8 < (x0.size : Int) then (if (bt x0 x8) = 10 then (if 0 ≤ x4 then (if x4 ≤ x8 then (if x8 ≤ (x0.size : Int) then (if x3.length < 8796093022208 then (spec_Lines.l0 k x0 (x3 ++ [x0.extract (x4 : Int).toNat (x8 : Int).toNat]) (wrap64 (x8 + 1)) x7 (wrap64 (x8 + 1))) else (none)) else (none)) else (none)) else (none)) else (spec_Lines.l0 k x0 x3 x4 x7 (wrap64 (x8 + 1)))) else (none)) else (none)) else (if x4 < (x0.size : Int) then (if 0 ≤ x4 then (if x4 ≤ (x0.size : Int) then (if x3.length < 8796093022208 then (some (x3 ++ [x0.extract (x4 : Int).toNat x0.size])) else (none)) else (none)) else (none)) else (some x3))
def spec_Lines.f (k : Nat) (a0 : ByteArray) : Option (List ByteArray) := spec_Lines.l0 k a0 ([] : List ByteArray) 0 (a0.size : Int) 0
set_option maxHeartbeats 8000000 in
set_option maxRecDepth 100000 in
theorem spec_Lines.calls (k : Nat) (a0 : ByteArray) (r : List ByteArray) (w : World) (h : spec_Lines.f k a0 = some r) :
 Calls Tryz.prog 47 #[.string a0] w fun e w' => ∃ v0_ : Value, e = .returned (v0_) ∧ Kd.R Kd.string 9 w' w.heap.size (fun _ => True) v0_ r ∧ Below w.heap.size w w' := by
 have HB := Aside0.mk (Below.refl w.heap.size w)
 have H : (spec_Lines.l0 k a0 ([] : List ByteArray) 0 (a0.size : Int) 0) = some r := h
 clear h
 have H' := Aside0.mk H
 clear H
 go_enter Tryz.func47, Tryz.ntmps47
 go_wp2
 go_loopg [3, 4, 8] k (fun kq v3 v4 v8 w' => ∃ (x3_1 : List ByteArray) (x4_1 : Int) (x8_1 : Int), v4 = .int .i64 x4_1 ∧ v8 = .int .i64 x8_1 ∧ Aside0 (spec_Lines.l0 kq a0 x3_1 x4_1 (a0.size : Int) x8_1 = some r) ∧ Aside0 (kq ≤ k) ∧ Aside0 (Kd.R Kd.string 9 w' w.heap.size (fun _ => True) v3 x3_1) ∧ Aside0 (Below w.heap.size w w'))
 case atStart => exact ⟨(([] : List ByteArray)), (0), (0), (by first | rfl | (simp; done) | (simp [*]; done)), (by first | rfl | (simp; done) | (simp [*]; done)), H', ⟨Nat.le_refl _⟩, ⟨by first | exact Kd.R_nil _ _ _ _ _ | exact Kd.N_nil _ _ _ _ _ | exact Kd.V_nil _ _ _ _ _ | exact Kd.Q_nil _ _ _ _ _ | exact Kd.S_nil _ _ _ _ _⟩, ⟨by repeat (first | (with_reducible first | exact HB.out | apply below_alloc | apply pw_below_drewN | apply below_drew1) | exact HB.out)⟩⟩
 case round =>
  clear H'
  obtain ⟨x3_1, x4_1, x8_1, rfl, rfl, HA, HK1, HO_3, HB⟩ := hrel
  cases gk with
  | zero => exact absurd HA.out (by simp [spec_Lines.l0])
  | succ k1 =>
   have H := HA.out
   clear HA
   simp only [spec_Lines.l0] at H
   by_cases c2 : x8_1 < (a0.size : Int)
   · rw [if_pos c2] at H
     have c2b0 : decide (x8_1 < (a0.size : Int)) = true := decide_eq_true c2
     clear c2
     by_cases c3 : 0 ≤ x8_1
     · rw [if_pos c3] at H
       have c3b0 : decide (0 ≤ x8_1) = true := decide_eq_true c3
       clear c3
       by_cases c4 : x8_1 < (a0.size : Int)
       · rw [if_pos c4] at H
         have c4b0 : decide (x8_1 < (a0.size : Int)) = true := decide_eq_true c4
         clear c4
         by_cases c6 : (bt a0 x8_1) = 10
         · rw [if_pos c6] at H
           have c6b0 : ((bt a0 x8_1) == 10) = true := beq_iff_eq.mpr c6
           have c6b1 : ((bt a0 x8_1) != 10) = false := bne_eq_false_iff_eq.mpr c6
           clear c6
           by_cases c7 : 0 ≤ x4_1
           · rw [if_pos c7] at H
             have c7b0 := eq_true c7
             have c7b1 : decide (0 ≤ x4_1) = true := decide_eq_true c7
             clear c7
             by_cases c8 : x4_1 ≤ x8_1
             · rw [if_pos c8] at H
               have c8b0 := eq_true c8
               have c8b1 : decide (x4_1 ≤ x8_1) = true := decide_eq_true c8
               clear c8
               by_cases c9 : x8_1 ≤ (a0.size : Int)
               · rw [if_pos c9] at H
                 have c9b0 := eq_true c9
                 have c9b1 : decide (x8_1 ≤ (a0.size : Int)) = true := decide_eq_true c9
                 clear c9
                 by_cases c10 : x3_1.length < 8796093022208
                 · rw [if_pos c10] at H
                   have LMc10 := Aside0.mk c10
                   clear c10
                   obtain ⟨y557, hy557⟩ : ∃ y_ : List ByteArray, y_ = (x3_1 ++ [a0.extract (x4_1 : Int).toNat (x8_1 : Int).toNat]) := ⟨_, rfl⟩
                   replace H : (spec_Lines.l0 k1 a0 y557 (wrap64 (x8_1 + 1)) (a0.size : Int) (wrap64 (x8_1 + 1))) = some r := by first | (rw [hy557]; with_reducible exact H) | (have H2_ := (Option.bind_some _ _).symm.trans H; rw [hy557]; with_reducible exact H2_) | (have H2_ := (Option.bind_some _ _).symm.trans H; with_reducible exact H2_) | with_reducible exact H | (rw [hy557]; exact H) | exact H
                   have Ny557 := Aside0.mk hy557
                   clear hy557
                   have H' := Aside0.mk H
                   clear H
                   have p5 : 0 ≤ (x8_1 : Int) := of_decide_eq_true (by first | (with_reducible assumption) | assumption)
                   have q5 : x8_1 < (a0.size : Int) := of_decide_eq_true (by first | (with_reducible assumption) | assumption)
                   have hx5 := bt_at a0 x8_1
                   replace p5 := eq_true p5
                   replace q5 := eq_true q5
                   go_wp2_with (first | ((with_reducible refine gate_builtin (b := .append) (xs := #[.tmp 15, .tmp 20]) rfl ?_); at_builtin; refine Kd.R_append Kd.string (w0 := w) w.heap.size rfl (.tmp 15) (.tmp 20) 42 9 (.string ⟨#[]⟩) 16 rfl Tryz.underlying42 info9 rfl (by decide) (by omega) u3 x3_1 (a0.extract (x4_1 : Int).toNat (x8_1 : Int).toNat) [.string (a0.extract (x4_1 : Int).toNat (x8_1 : Int).toNat)] (fun _ => True) (fun _ => False) rfl rfl ?aP (fun _ hk => hk.elim) ?aF ?aO ?aB ?aS ?aL ?_; (case aP => exact rfl); (case aB => exact (by repeat (first | (with_reducible first | exact HB.out | apply below_alloc | apply pw_below_drewN | apply below_drew1) | exact HB.out))); (case aF => exact (fun _ _ => trivial)); (case aO => exact (by (with_reducible repeat (first | apply Kd.R_alloc | apply Kd.R_drewN | apply Kd.R_drew)); exact HO_3.out)); (case aS => exact (below_size (by repeat (first | (with_reducible first | exact HB.out | apply below_alloc | apply pw_below_drewN | apply below_drew1) | exact HB.out)))); (case aL => have := LMc10.out; omega); intro v558 w11 ho hb hg hat; rw [← Ny557.out] at ho; have n0_ := Aside0.mk (hb); have n1_ := Aside0.mk (ho); clear HB; clear HO_3; have HB := n0_; have HO559 := n1_; clear n0_ n1_; clear ho hb hg hat))
                   go_roundg k1
                   case measure => have := HK1.out; omega
                   case rel => exact ⟨(y557), (wrap64 (x8_1 + 1)), (wrap64 (x8_1 + 1)), (by first | rfl | (simp; done) | (simp [*]; done)), (by first | rfl | (simp; done) | (simp [*]; done)), H', ⟨by have := HK1.out; omega⟩, ⟨by (with_reducible repeat (first | apply Kd.R_alloc | apply Kd.R_drewN | apply Kd.R_drew)); exact HO559.out⟩, ⟨by repeat (first | (with_reducible first | exact HB.out | apply below_alloc | apply pw_below_drewN | apply below_drew1) | exact HB.out)⟩⟩
                 · rw [if_neg c10] at H
                   exact absurd H (by simp)
               · rw [if_neg c9] at H
                 exact absurd H (by simp)
             · rw [if_neg c8] at H
               exact absurd H (by simp)
           · rw [if_neg c7] at H
             exact absurd H (by simp)
         · rw [if_neg c6] at H
           have c6b0 : ((bt a0 x8_1) == 10) = false := beq_eq_false_iff_ne.mpr c6
           have c6b1 : ((bt a0 x8_1) != 10) = true := bne_iff_ne.mpr c6
           have H' := Aside0.mk H
           clear H
           have p5 : 0 ≤ (x8_1 : Int) := of_decide_eq_true (by first | (with_reducible assumption) | assumption)
           have q5 : x8_1 < (a0.size : Int) := of_decide_eq_true (by first | (with_reducible assumption) | assumption)
           have hx5 := bt_at a0 x8_1
           replace p5 := eq_true p5
           replace q5 := eq_true q5
           go_wp2
           go_roundg k1
           case measure => have := HK1.out; omega
           case rel => exact ⟨(x3_1), (x4_1), (wrap64 (x8_1 + 1)), (by first | rfl | (simp; done) | (simp [*]; done)), (by first | rfl | (simp; done) | (simp [*]; done)), H', ⟨by have := HK1.out; omega⟩, ⟨by (with_reducible repeat (first | apply Kd.R_alloc | apply Kd.R_drewN | apply Kd.R_drew)); exact HO_3.out⟩, ⟨by repeat (first | (with_reducible first | exact HB.out | apply below_alloc | apply pw_below_drewN | apply below_drew1) | exact HB.out)⟩⟩
       · rw [if_neg c4] at H
         exact absurd H (by simp)
     · rw [if_neg c3] at H
       exact absurd H (by simp)
   · rw [if_neg c2] at H
     have c2b0 : decide (x8_1 < (a0.size : Int)) = false := decide_eq_false c2
     clear c2
     by_cases c12 : x4_1 < (a0.size : Int)
     · rw [if_pos c12] at H
       have c12b0 : decide (x4_1 < (a0.size : Int)) = true := decide_eq_true c12
       clear c12
       by_cases c13 : 0 ≤ x4_1
       · rw [if_pos c13] at H
         have c13b0 := eq_true c13
         have c13b1 : decide (0 ≤ x4_1) = true := decide_eq_true c13
         clear c13
         by_cases c14 : x4_1 ≤ (a0.size : Int)
         · rw [if_pos c14] at H
           have c14b0 := eq_true c14
           have c14b1 : decide (x4_1 ≤ (a0.size : Int)) = true := decide_eq_true c14
           clear c14
           by_cases c15 : x3_1.length < 8796093022208
           · rw [if_pos c15] at H
             have LMc15 := Aside0.mk c15
             clear c15
             obtain ⟨y560, hy560⟩ : ∃ y_ : List ByteArray, y_ = (x3_1 ++ [a0.extract (x4_1 : Int).toNat a0.size]) := ⟨_, rfl⟩
             replace H : (some y560) = some r := by first | (rw [hy560]; with_reducible exact H) | (have H2_ := (Option.bind_some _ _).symm.trans H; rw [hy560]; with_reducible exact H2_) | (have H2_ := (Option.bind_some _ _).symm.trans H; with_reducible exact H2_) | with_reducible exact H | (rw [hy560]; exact H) | exact H
             have Ny560 := Aside0.mk hy560
             clear hy560
             obtain rfl := Option.some.inj H
             go_wp2_with (first | ((with_reducible refine gate_builtin (b := .append) (xs := #[.tmp 29, .tmp 33]) rfl ?_); at_builtin; refine Kd.R_append Kd.string (w0 := w) w.heap.size rfl (.tmp 29) (.tmp 33) 42 9 (.string ⟨#[]⟩) 16 rfl Tryz.underlying42 info9 rfl (by decide) (by omega) u3 x3_1 (a0.extract (x4_1 : Int).toNat a0.size) [.string (a0.extract (x4_1 : Int).toNat a0.size)] (fun _ => True) (fun _ => False) rfl rfl ?aP (fun _ hk => hk.elim) ?aF ?aO ?aB ?aS ?aL ?_; (case aP => exact rfl); (case aB => exact (by repeat (first | (with_reducible first | exact HB.out | apply below_alloc | apply pw_below_drewN | apply below_drew1) | exact HB.out))); (case aF => exact (fun _ _ => trivial)); (case aO => exact (by (with_reducible repeat (first | apply Kd.R_alloc | apply Kd.R_drewN | apply Kd.R_drew)); exact HO_3.out)); (case aS => exact (below_size (by repeat (first | (with_reducible first | exact HB.out | apply below_alloc | apply pw_below_drewN | apply below_drew1) | exact HB.out)))); (case aL => have := LMc15.out; omega); intro v561 w16 ho hb hg hat; rw [← Ny560.out] at ho; have n0_ := Aside0.mk (hb); have n1_ := Aside0.mk (ho); clear HB; clear HO_3; have HB := n0_; have HO562 := n1_; clear n0_ n1_; clear ho hb hg hat))
             go_ret
             exact ⟨_, by first | rfl | (simp [errW_none, errW_some] <;> rfl) | (simp [*, errW_none, errW_some] <;> rfl), by (with_reducible repeat (first | apply Kd.R_alloc | apply Kd.R_drewN | apply Kd.R_drew)); exact HO562.out, by repeat (first | (with_reducible first | exact HB.out | apply below_alloc | apply pw_below_drewN | apply below_drew1) | exact HB.out)⟩
           · rw [if_neg c15] at H
             exact absurd H (by simp)
         · rw [if_neg c14] at H
           exact absurd H (by simp)
       · rw [if_neg c13] at H
         exact absurd H (by simp)
     · rw [if_neg c12] at H
       have c12b0 : decide (x4_1 < (a0.size : Int)) = false := decide_eq_false c12
       clear c12
       obtain rfl := Option.some.inj H
       go_wp2
       go_ret
       exact ⟨_, by first | rfl | (simp [errW_none, errW_some] <;> rfl) | (simp [*, errW_none, errW_some] <;> rfl), by (with_reducible repeat (first | apply Kd.R_alloc | apply Kd.R_drewN | apply Kd.R_drew)); exact HO_3.out, by repeat (first | (with_reducible first | exact HB.out | apply below_alloc | apply pw_below_drewN | apply below_drew1) | exact HB.out)⟩
def spec_single.f (k : Nat) (a0 : ByteArray) : Option (ByteArray) := (spec_Lines.f k a0).bind fun t563 => (if (t563.length : Int) = 1 then (if 0 < (t563.length : Int) then (some (rdOf ByteArray.empty t563 0)) else (none)) else (some (⟨#[]⟩ : ByteArray)))
set_option maxHeartbeats 8000000 in
set_option maxRecDepth 100000 in
theorem spec_single.calls (k : Nat) (a0 : ByteArray) (r : ByteArray) (w : World) (h : spec_single.f k a0 = some r) :
 Calls Tryz.prog 32 #[.string a0] w fun e w' => e = .returned (.string r) ∧ Below w.heap.size w w' := by
 have HB := Aside0.mk (Below.refl w.heap.size w)
 have H : ((spec_Lines.f k a0).bind fun t563 => (if (t563.length : Int) = 1 then (if 0 < (t563.length : Int) then (some (rdOf ByteArray.empty t563 0)) else (none)) else (some (⟨#[]⟩ : ByteArray)))) = some r := h
 clear h
 replace H := Option.bind_eq_some_iff.mp H
 obtain ⟨t563, A20, H⟩ := H
 replace H : (if (t563.length : Int) = 1 then (if 0 < (t563.length : Int) then (some (rdOf ByteArray.empty t563 0)) else (none)) else (some (⟨#[]⟩ : ByteArray))) = some r := H
 have A2 := Aside0.mk A20
 clear A20
 by_cases c3 : (t563.length : Int) = 1
 · rw [if_pos c3] at H
   have c3b0 : ((t563.length : Int) == 1) = true := beq_iff_eq.mpr c3
   have c3b1 : ((t563.length : Int) != 1) = false := bne_eq_false_iff_eq.mpr c3
   clear c3
   by_cases c4 : 0 < (t563.length : Int)
   · rw [if_pos c4] at H
     have c4b0 : decide (0 < (t563.length : Int)) = true := decide_eq_true c4
     have c4b1 : decide (0 < t563.length) = true := decide_eq_true (by omega)
     clear c4
     obtain rfl := Option.some.inj H
     go_enter Tryz.func32, Tryz.ntmps32
     go_wp2_with (first | ((with_reducible refine gate_callee (f := 47) rfl ?_); refine goesL_ (some 5) rfl rfl Tryz.func47 (by kernel_rfl) rfl #[.string a0] rfl (by (try simp only [List.map_toArray, List.map_cons, List.map_nil]); first | done | rfl | (simp only [List.length_drop, List.length_take]; rfl)) ?_; (with_reducible refine (spec_Lines.calls k a0 t563 _ A2.out).mono ?_); rintro e w5 ⟨v564, rfl, ho0, hb⟩; refine ⟨_, rfl, ?_⟩; have n0_ := Aside0.mk (Kd.R_lower ho0 (below_size (by repeat (first | (with_reducible first | exact HB.out | apply below_alloc | apply pw_below_drewN | apply below_drew1) | exact HB.out)))); have n1_ := Aside0.mk (below_step (by repeat (first | (with_reducible first | exact HB.out | apply below_alloc | apply pw_below_drewN | apply below_drew1) | exact HB.out)) hb); clear HB; have HO565 := n0_; have HB := n1_; clear n0_ n1_; (try clear hb); (try clear hb2); (try clear hk); (try clear hi); (try clear ho0); obtain ⟨Ao6, co6, eo6⟩ := Kd.R_slice HO565.out; subst eo6; have p566 : 0 ≤ (0 : Int) := (by omega); have q566 : 0 < (t563.length : Int) := of_decide_eq_true (by first | (with_reducible assumption) | assumption); obtain ⟨ad566, e566, hx566_0⟩ := Kd.at_string (Kd.R_reads' HO565.out).2.2 0 p566 q566; cases e566; have qi566 : (0 < t563.length) = True := eq_true (by omega); (try rw [show ((0 : Int)).toNat = 0 from rfl] at hx566_0); (try rw [Addr.add_zero'] at hx566_0); replace p566 := eq_true p566; replace q566 := eq_true q566))
     go_ret
     exact ⟨by first | rfl | (simp [errW_none, errW_some] <;> rfl) | (simp [*, errW_none, errW_some] <;> rfl), by repeat (first | (with_reducible first | exact HB.out | apply below_alloc | apply pw_below_drewN | apply below_drew1) | exact HB.out)⟩
   · rw [if_neg c4] at H
     exact absurd H (by simp)
 · rw [if_neg c3] at H
   have c3b0 : ((t563.length : Int) == 1) = false := beq_eq_false_iff_ne.mpr c3
   have c3b1 : ((t563.length : Int) != 1) = true := bne_iff_ne.mpr c3
   obtain rfl := Option.some.inj H
   go_enter Tryz.func32, Tryz.ntmps32
   go_wp2_with (first | ((with_reducible refine gate_callee (f := 47) rfl ?_); refine goesL_ (some 5) rfl rfl Tryz.func47 (by kernel_rfl) rfl #[.string a0] rfl (by (try simp only [List.map_toArray, List.map_cons, List.map_nil]); first | done | rfl | (simp only [List.length_drop, List.length_take]; rfl)) ?_; (with_reducible refine (spec_Lines.calls k a0 t563 _ A2.out).mono ?_); rintro e w7 ⟨v564, rfl, ho0, hb⟩; refine ⟨_, rfl, ?_⟩; have n0_ := Aside0.mk (Kd.R_lower ho0 (below_size (by repeat (first | (with_reducible first | exact HB.out | apply below_alloc | apply pw_below_drewN | apply below_drew1) | exact HB.out)))); have n1_ := Aside0.mk (below_step (by repeat (first | (with_reducible first | exact HB.out | apply below_alloc | apply pw_below_drewN | apply below_drew1) | exact HB.out)) hb); clear HB; have HO565 := n0_; have HB := n1_; clear n0_ n1_; (try clear hb); (try clear hb2); (try clear hk); (try clear hi); (try clear ho0); obtain ⟨Ao8, co8, eo8⟩ := Kd.R_slice HO565.out; subst eo8))
   go_ret
   exact ⟨by first | rfl | (simp [errW_none, errW_some] <;> rfl) | (simp [*, errW_none, errW_some] <;> rfl), by repeat (first | (with_reducible first | exact HB.out | apply below_alloc | apply pw_below_drewN | apply below_drew1) | exact HB.out)⟩
end Go.Proofs.YtabfehcpcjcomaaGreatDoor.QA0
namespace Go.Proofs.YtabfehcpcjcomaaGreatDoor.QA0
open Go.RowKit Go.Proofs.YtabfehcpcjcomaaGreatDoorW.PrintWords Go.Proofs.YtabfehcpcjcomaaGreatDoorW.PrintLast Go.Proofs.YtabfehcpcjcomaaGreatDoorW.PrintMore
attribute [local go_sem] max2_int min2_int max_two min_two max_three min_three max_four min_four
set_option linter.unusedVariables false
set_option linter.unusedSimpArgs false
def spec_Digits.f : Nat → Int → Int → Option (ByteArray)
 | 0, _, _ => none
 | k + 1, a0, a1 => if a1 = 0 then (none) else (if 0 ≤ (Int.tmod a0 a1) then (if (Int.tmod a0 a1) < 16 then (if a0 < a1 then (some (strOfNums (([bt (⟨#[48, 49, 50, 51, 52, 53, 54, 55, 56, 57, 97, 98, 99, 100, 101, 102]⟩ : ByteArray) (Int.tmod a0 a1)] : List Int)))) else ((spec_Digits.f k (IntKind.u64.wrap (Int.tdiv a0 a1)) a1).bind fun t570 => ((some (([bt (⟨#[48, 49, 50, 51, 52, 53, 54, 55, 56, 57, 97, 98, 99, 100, 101, 102]⟩ : ByteArray) (Int.tmod a0 a1)] : List Int) : List Int)).bind fun y571 => (if t570.size + (strOfNums y571).size ≤ 9223372036854775807 then (some (t570 ++ (strOfNums y571))) else (none))))) else (none)) else (none))
def spec_Digits.T4 : Bool × List (List Nat × List Nat) := (true, [([], []), ([], []), ([0, 1], [0, 1]), ([], []), ([2, 3], [2, 3]), ([], []), ([5], [5]), ([6], [6]), ([4, 7], [4, 7]), ([8, 4, 0, 1, 2, 3, 4, 5, 6, 7, 8], [8])])
def spec_Digits.B4 : List Nat := [0, 0, 3, 0, 15, 0, 32, 96, 255, 511]
theorem spec_Digits.tab4 : rtab .any (opsOf Tryz.f126 4) = spec_Digits.T4 := by kernel_rfl
theorem spec_Digits.bits4 : waitsOk spec_Digits.T4.2 spec_Digits.B4 = true := by kernel_rfl
set_option maxHeartbeats 8000000 in
set_option maxRecDepth 100000 in
theorem spec_Digits.calls (k : Nat) : ∀ (a0 : Int) (a1 : Int) (r : ByteArray) (w : World) (h : spec_Digits.f k a0 a1 = some r),
 Calls Tryz.prog 126 #[.int .u64 a0, .int .u64 a1] w fun e w' => e = .returned (.string r) ∧ Below w.heap.size w w' := by
 induction k using Nat.strongRecOn with
 | _ k ih =>
 intro a0 a1 r w h
 cases k with
 | zero => exact absurd h (by simp [spec_Digits.f])
 | succ k =>
 simp only [spec_Digits.f] at h
 have HB := Aside0.mk (Below.refl w.heap.size w)
 have H : (if a1 = 0 then (none) else (if 0 ≤ (Int.tmod a0 a1) then (if (Int.tmod a0 a1) < 16 then (if a0 < a1 then (some (strOfNums (([bt (⟨#[48, 49, 50, 51, 52, 53, 54, 55, 56, 57, 97, 98, 99, 100, 101, 102]⟩ : ByteArray) (Int.tmod a0 a1)] : List Int)))) else ((spec_Digits.f k (IntKind.u64.wrap (Int.tdiv a0 a1)) a1).bind fun t570 => ((some (([bt (⟨#[48, 49, 50, 51, 52, 53, 54, 55, 56, 57, 97, 98, 99, 100, 101, 102]⟩ : ByteArray) (Int.tmod a0 a1)] : List Int) : List Int)).bind fun y571 => (if t570.size + (strOfNums y571).size ≤ 9223372036854775807 then (some (t570 ++ (strOfNums y571))) else (none))))) else (none)) else (none))) = some r := h
 clear h
 by_cases c3 : a1 = 0
 · rw [if_pos c3] at H
   exact absurd H (by simp)
 · rw [if_neg c3] at H
   have c3b0 : (a1 == 0) = false := beq_eq_false_iff_ne.mpr c3
   have c3b1 : (a1 != 0) = true := bne_iff_ne.mpr c3
   obtain ⟨ji4, hji4⟩ : ∃ j_ : Int, (Int.tmod a0 a1) = j_ := ⟨_, rfl⟩
   replace H : (if 0 ≤ (ji4) then (if (ji4) < 16 then (if a0 < a1 then (some (strOfNums (([bt (⟨#[48, 49, 50, 51, 52, 53, 54, 55, 56, 57, 97, 98, 99, 100, 101, 102]⟩ : ByteArray) (ji4)] : List Int)))) else ((spec_Digits.f k (IntKind.u64.wrap (Int.tdiv a0 a1)) a1).bind fun t570 => ((some (([bt (⟨#[48, 49, 50, 51, 52, 53, 54, 55, 56, 57, 97, 98, 99, 100, 101, 102]⟩ : ByteArray) (ji4)] : List Int) : List Int)).bind fun y571 => (if t570.size + (strOfNums y571).size ≤ 9223372036854775807 then (some (t570 ++ (strOfNums y571))) else (none))))) else (none)) else (none)) = some r := by first | (rw [hji4] at H; exact H) | (simp only [hji4] at H ⊢; exact H)
   by_cases c5 : 0 ≤ (ji4)
   · rw [if_pos c5] at H
     have c5b0 : decide (0 ≤ (ji4)) = true := decide_eq_true c5
     clear c5
     by_cases c6 : (ji4) < 16
     · rw [if_pos c6] at H
       have c6b0 : decide ((ji4) < 16) = true := decide_eq_true c6
       clear c6
       by_cases c8 : a0 < a1
       · rw [if_pos c8] at H
         have c8b0 : decide (a0 < a1) = true := decide_eq_true c8
         clear c8
         obtain ⟨y567, hy567⟩ : ∃ y_ : List Int, y_ = (([bt (⟨#[48, 49, 50, 51, 52, 53, 54, 55, 56, 57, 97, 98, 99, 100, 101, 102]⟩ : ByteArray) (ji4)] : List Int)) := ⟨_, rfl⟩
         replace H : (some (strOfNums y567)) = some r := by first | (rw [hy567]; with_reducible exact H) | (have H2_ := (Option.bind_some _ _).symm.trans H; rw [hy567]; with_reducible exact H2_) | (have H2_ := (Option.bind_some _ _).symm.trans H; with_reducible exact H2_) | with_reducible exact H | (rw [hy567]; exact H) | exact H
         have Ny567 := Aside0.mk hy567
         clear hy567
         obtain rfl := Option.some.inj H
         have p7 : 0 ≤ ((ji4) : Int) := of_decide_eq_true (by first | (with_reducible assumption) | assumption)
         have q7 : (ji4) < (16 : Int) := of_decide_eq_true (by first | (with_reducible assumption) | assumption)
         have hx7 := bt_at (⟨#[48, 49, 50, 51, 52, 53, 54, 55, 56, 57, 97, 98, 99, 100, 101, 102]⟩ : ByteArray) (ji4)
         replace p7 := eq_true p7
         replace q7 := eq_true q7
         go_enter Tryz.func126, Tryz.ntmps126
         go_wp2_with (first | ((with_reducible refine gate_dst (N := 14) rfl ?_); refine Kd.R_lit (Kd.int .u8) _ 5 ?hg (N := 14) ?hd (xs := ([bt (⟨#[48, 49, 50, 51, 52, 53, 54, 55, 56, 57, 97, 98, 99, 100, 101, 102]⟩ : ByteArray) (ji4)] : List Int)) (inner := [.int .u8 (bt (⟨#[48, 49, 50, 51, 52, 53, 54, 55, 56, 57, 97, 98, 99, 100, 101, 102]⟩ : ByteArray) (ji4))]) (ok := fun _ => True) (okp := fun _ => True) ?hr ?hp (fun _ hk => hk) trivial (Below.refl _ _) (Nat.le_refl _) (by simp) ?_; (case hd => rfl); (case hg => rfl); (case hr => first | (go_simp; done) | (go_simp; rfl)); (case hp => exact (Reps.one (show Kd.M (Kd.int .u8) _ _ _ (bt (⟨#[48, 49, 50, 51, 52, 53, 54, 55, 56, 57, 97, 98, 99, 100, 101, 102]⟩ : ByteArray) (ji4)) [.int .u8 (bt (⟨#[48, 49, 50, 51, 52, 53, 54, 55, 56, 57, 97, 98, 99, 100, 101, 102]⟩ : ByteArray) (ji4))] from rfl) (Reps.none _ _))); intro v568 w9 ho10 hb hg_ hnew_; clear hg_ hnew_; (first | rw [← Ny567.out] at ho10 | (simp only [Int.reduceToNat] at ho10; rw [← Ny567.out] at ho10)); have n0_ := Aside0.mk (Kd.R_lower ho10 (below_size (by repeat (first | (with_reducible first | exact HB.out | apply below_alloc | apply pw_below_drewN | apply below_drew1) | exact HB.out)))); have n1_ := Aside0.mk (below_step (by repeat (first | (with_reducible first | exact HB.out | apply below_alloc | apply pw_below_drewN | apply below_drew1) | exact HB.out)) hb); clear HB; have HO569 := n0_; have HB := n1_; clear n0_ n1_; clear hb ho10; have hcv11 := own_string (P := Tryz.prog) Tryz.underlying136 Tryz.underlying5 Tryz.underlying9 (Kd.own_of_R HO569.out)))
         go_ret
         exact ⟨by first | rfl | (simp [errW_none, errW_some] <;> rfl) | (simp only [← hji4]; first | rfl | (simp [errW_none, errW_some] <;> rfl)) | (simp [*, errW_none, errW_some] <;> rfl), by repeat (first | (with_reducible first | exact HB.out | apply below_alloc | apply pw_below_drewN | apply below_drew1) | exact HB.out)⟩
       · rw [if_neg c8] at H
         have c8b0 : decide (a0 < a1) = false := decide_eq_false c8
         clear c8
         replace H := Option.bind_eq_some_iff.mp H
         obtain ⟨t570, A120, H⟩ := H
         replace H : ((some (([bt (⟨#[48, 49, 50, 51, 52, 53, 54, 55, 56, 57, 97, 98, 99, 100, 101, 102]⟩ : ByteArray) (ji4)] : List Int) : List Int)).bind fun y571 => (if t570.size + (strOfNums y571).size ≤ 9223372036854775807 then (some (t570 ++ (strOfNums y571))) else (none))) = some r := H
         have A12 := Aside0.mk A120
         clear A120
         obtain ⟨y571, hy571⟩ : ∃ y_ : List Int, y_ = (([bt (⟨#[48, 49, 50, 51, 52, 53, 54, 55, 56, 57, 97, 98, 99, 100, 101, 102]⟩ : ByteArray) (ji4)] : List Int)) := ⟨_, rfl⟩
         replace H : (if t570.size + (strOfNums y571).size ≤ 9223372036854775807 then (some (t570 ++ (strOfNums y571))) else (none)) = some r := by first | (rw [hy571]; with_reducible exact H) | (have H2_ := (Option.bind_some _ _).symm.trans H; rw [hy571]; with_reducible exact H2_) | (have H2_ := (Option.bind_some _ _).symm.trans H; with_reducible exact H2_) | with_reducible exact H | (rw [hy571]; exact H) | exact H
         have Ny571 := Aside0.mk hy571
         clear hy571
         by_cases c13 : t570.size + (strOfNums y571).size ≤ 9223372036854775807
         · rw [if_pos c13] at H
           have c13b0 := eq_true c13
           have c13b1 : decide (t570.size + (strOfNums y571).size ≤ 9223372036854775807) = true := decide_eq_true c13
           try have c13b2 : (9223372036854775807 < t570.size + (strOfNums y571).size) = False := eq_false (Nat.not_lt.2 c13)
           obtain rfl := Option.some.inj H
           have p7 : 0 ≤ ((ji4) : Int) := of_decide_eq_true (by first | (with_reducible assumption) | assumption)
           have q7 : (ji4) < (16 : Int) := of_decide_eq_true (by first | (with_reducible assumption) | assumption)
           have hx7 := bt_at (⟨#[48, 49, 50, 51, 52, 53, 54, 55, 56, 57, 97, 98, 99, 100, 101, 102]⟩ : ByteArray) (ji4)
           replace p7 := eq_true p7
           replace q7 := eq_true q7
           go_enter Tryz.func126, Tryz.ntmps126
           try go_wp2
           have n0_ := Aside0.mk (below_drew1 HB.out)
           clear HB
           have HB := n0_
           clear n0_
           refine start_ (n := 10) (S := fun w' => True) (ds := []) #[false, false, false, false, false, false, false, false, false, false] (by kernel_rfl) rfl rfl trivial (fun hHeld => ?_); refine with_tabW spec_Digits.tab4 spec_Digits.bits4 (fun HT_ HW_ => ?_)
           generalize w.drew = w14 at HB hHeld ⊢
           refine pure_ (i := 0) (N := some 16) (v := ?_) (a' := ?_) #[true, false, false, false, false, false, false, false, false, false] rfl rfl (any_of HT_.out (by kernel_rfl)) (fun _ _ _ h => h) (Or.inl ⟨by rfl, ?_⟩) ?_ ?_
           rotate_left
           · intro w'
             go_simp
             with_reducible rfl
           rotate_left
           · simp only [Act.put, List.setIfInBounds_toArray, List.set_cons_zero, List.set_cons_succ, i64_w, i32_w]
             rfl
           refine pure_ (i := 1) (N := some 17) (v := ?_) (a' := ?_) #[true, true, false, false, false, false, false, false, false, false] rfl rfl (any_of HT_.out (by kernel_rfl)) (fun _ _ _ h => h) (Or.inl ⟨by rfl, ?_⟩) ?_ ?_
           rotate_left
           · intro w'
             go_simp
             with_reducible rfl
           rotate_left
           · simp only [Act.put, List.setIfInBounds_toArray, List.set_cons_zero, List.set_cons_succ, i64_w, i32_w]
             rfl
           refine pure_ (i := 2) (N := some 18) (v := ?_) (a' := ?_) #[true, true, true, false, false, false, false, false, false, false] rfl rfl (any_of HT_.out (by kernel_rfl)) (fun _ _ _ h => h) (Or.inl ⟨by rfl, ?_⟩) ?_ ?_
           rotate_left
           · intro w'
             go_simp
             with_reducible rfl
           rotate_left
           · simp only [Act.put, List.setIfInBounds_toArray, List.set_cons_zero, List.set_cons_succ, i64_w, i32_w]
             rfl
           refine pure_ (i := 3) (N := some 19) (v := ?_) (a' := ?_) #[true, true, true, true, false, false, false, false, false, false] rfl rfl (any_of HT_.out (by kernel_rfl)) (fun _ _ _ h => h) (Or.inl ⟨by rfl, ?_⟩) ?_ ?_
           rotate_left
           · intro w'
             go_simp
             with_reducible rfl
           rotate_left
           · simp only [Act.put, List.setIfInBounds_toArray, List.set_cons_zero, List.set_cons_succ, i64_w, i32_w]
             rfl
           refine pure_ (i := 5) (N := some 21) (v := ?_) (a' := ?_) #[true, true, true, true, false, true, false, false, false, false] rfl rfl (any_of HT_.out (by kernel_rfl)) (fun _ _ _ h => h) (Or.inl ⟨by rfl, ?_⟩) ?_ ?_
           rotate_left
           · intro w'
             go_simp
             with_reducible rfl
           rotate_left
           · simp only [Act.put, List.setIfInBounds_toArray, List.set_cons_zero, List.set_cons_succ, i64_w, i32_w]
             rfl
           refine join_ (σ := Value) 2 #[true, true, true, true, true, true, true, true, false, false] (fun s_ => [(20, .string t570), (22, s_), (23, .string (strOfNums y571))]) (fun s_ w' => (Kd.R (Kd.int .u8) 5 w' w.heap.size (fun _ => True) s_ y571) ∧ (Below w.heap.size w w')) ?_ ?_
           rotate_left
           · intro hCont
             refine two_ (i := 4) (j := 6) (Ni := some 20) (Nj := some 22) #[true, true, true, true, true, true, false, false, false, false] #[true, true, true, true, false, true, true, false, false, false] rfl rfl rfl rfl (two_of HT_.out (by kernel_rfl)) (by decide) (by decide) (fun K hK => ?_) (fun K hK => ?_)
             · skip
               refine goes_ Tryz.func126 (by kernel_rfl) rfl #[.int .u64 (IntKind.u64.wrap (Int.tdiv a0 a1)), .int .u64 a1] (by rfl) rfl rfl (by (try simp only [List.map_toArray, List.map_cons, List.map_nil]); first | done | rfl | (simp only [List.length_drop, List.length_take]; rfl)) ?_
               with_reducible refine (ih k (by omega) (IntKind.u64.wrap (Int.tdiv a0 a1)) a1 t570 _ A12.out).mono ?_
               rintro e w15 ⟨rfl, hb⟩
               refine ⟨_, rfl, ?_⟩
               have n0_ := Aside0.mk (below_step (by repeat (first | (with_reducible first | exact HB.out | apply below_alloc | apply pw_below_drewN | apply below_drew1) | exact HB.out)) hb)
               clear HB
               have HB := n0_
               clear n0_
               (try clear hb)
               (try clear hb2)
               (try clear hk)
               (try clear hi)
               refine hK.out _ _ trivial (fun hHeld => ?_)
               clear hK K
               refine norm_ (a' := ?_) ?_ ?_
               rotate_left
               · show Act.put _ (some 20) _ = _
                 simp only [Act.put, List.setIfInBounds_toArray, List.set_cons_zero, List.set_cons_succ, i64_w, i32_w]
                 rfl
               refine one_ (i := 6) (N := some 22) #[true, true, true, true, true, true, true, false, false, false] rfl rfl (one_of HT_.out (by kernel_rfl)) (by decide) (fun K hK => ?_)
               refine Kd.R_lit_step (Kd.int .u8) _ 5 ?hg (N := 22) ?hd (xs := ([bt (⟨#[48, 49, 50, 51, 52, 53, 54, 55, 56, 57, 97, 98, 99, 100, 101, 102]⟩ : ByteArray) (ji4)] : List Int)) (inner := [.int .u8 (bt (⟨#[48, 49, 50, 51, 52, 53, 54, 55, 56, 57, 97, 98, 99, 100, 101, 102]⟩ : ByteArray) (ji4))]) (ok := fun _ => True) (okp := fun _ => True) ?hr ?hp (fun _ hk => hk) trivial (Below.refl _ _) (Nat.le_refl _) (by simp) ?_; (case hd => rfl); (case hg => rfl); (case hr => first | (go_simp; done) | (go_simp; rfl)); (case hp => exact (Reps.one (show Kd.M (Kd.int .u8) _ _ _ (bt (⟨#[48, 49, 50, 51, 52, 53, 54, 55, 56, 57, 97, 98, 99, 100, 101, 102]⟩ : ByteArray) (ji4)) [.int .u8 (bt (⟨#[48, 49, 50, 51, 52, 53, 54, 55, 56, 57, 97, 98, 99, 100, 101, 102]⟩ : ByteArray) (ji4))] from rfl) (Reps.none _ _)))
               intro v572 w16 ho17 hb hg_ hnew_
               clear hg_ hnew_
               (first | rw [← Ny571.out] at ho17 | (simp only [Int.reduceToNat] at ho17; rw [← Ny571.out] at ho17))
               have n0_ := Aside0.mk (Kd.R_lower ho17 (below_size (by repeat (first | (with_reducible first | exact HB.out | apply below_alloc | apply pw_below_drewN | apply below_drew1) | exact HB.out))))
               have n1_ := Aside0.mk (below_step (by repeat (first | (with_reducible first | exact HB.out | apply below_alloc | apply pw_below_drewN | apply below_drew1) | exact HB.out)) hb)
               clear HB
               have HO573 := n0_
               have HB := n1_
               clear n0_ n1_
               clear hb ho17
               refine hK.out _ _ trivial (fun hHeld => ?_)
               clear hK K
               refine norm_ (a' := ?_) ?_ ?_
               rotate_left
               · show Act.put _ (some 22) _ = _
                 simp only [Act.put, List.setIfInBounds_toArray, List.set_cons_zero, List.set_cons_succ, i64_w, i32_w]
                 rfl
               refine one_ (i := 7) (N := some 23) #[true, true, true, true, true, true, true, true, false, false] rfl rfl (one_of HT_.out (by kernel_rfl)) (by decide) (fun K hK => ?_)
               have hcv18 := own_string (P := Tryz.prog) Tryz.underlying136 Tryz.underlying5 Tryz.underlying9 (Kd.own_of_R HO573.out)
               refine value_ (w1 := ?_) (v := ?_) (by rfl) rfl ?_ ?_
               rotate_left 2
               · go_simp
                 constructor
                 · rfl
                 · rfl
               clear hcv18
               refine hK.out _ _ trivial (fun hHeld => ?_)
               clear hK K
               refine norm_ (a' := ?_) ?_ ?_
               rotate_left
               · show Act.put _ (some 23) _ = _
                 simp only [Act.put, List.setIfInBounds_toArray, List.set_cons_zero, List.set_cons_succ, i64_w, i32_w]
                 rfl
               exact norm_ (by simp only [putAll, Act.put, List.setIfInBounds_toArray, List.set_cons_zero, List.set_cons_succ]) (hCont (v572) _ ⟨(by (with_reducible repeat (first | apply Kd.R_alloc | apply Kd.R_drewN | apply Kd.R_drew)); exact HO573.out), (by repeat (first | (with_reducible first | exact HB.out | apply below_alloc | apply pw_below_drewN | apply below_drew1) | exact HB.out))⟩)
             · skip
               refine Kd.R_lit_step (Kd.int .u8) _ 5 ?hg (N := 22) ?hd (xs := ([bt (⟨#[48, 49, 50, 51, 52, 53, 54, 55, 56, 57, 97, 98, 99, 100, 101, 102]⟩ : ByteArray) (ji4)] : List Int)) (inner := [.int .u8 (bt (⟨#[48, 49, 50, 51, 52, 53, 54, 55, 56, 57, 97, 98, 99, 100, 101, 102]⟩ : ByteArray) (ji4))]) (ok := fun _ => True) (okp := fun _ => True) ?hr ?hp (fun _ hk => hk) trivial (Below.refl _ _) (Nat.le_refl _) (by simp) ?_; (case hd => rfl); (case hg => rfl); (case hr => first | (go_simp; done) | (go_simp; rfl)); (case hp => exact (Reps.one (show Kd.M (Kd.int .u8) _ _ _ (bt (⟨#[48, 49, 50, 51, 52, 53, 54, 55, 56, 57, 97, 98, 99, 100, 101, 102]⟩ : ByteArray) (ji4)) [.int .u8 (bt (⟨#[48, 49, 50, 51, 52, 53, 54, 55, 56, 57, 97, 98, 99, 100, 101, 102]⟩ : ByteArray) (ji4))] from rfl) (Reps.none _ _)))
               intro v572 w15 ho16 hb hg_ hnew_
               clear hg_ hnew_
               (first | rw [← Ny571.out] at ho16 | (simp only [Int.reduceToNat] at ho16; rw [← Ny571.out] at ho16))
               have n0_ := Aside0.mk (Kd.R_lower ho16 (below_size (by repeat (first | (with_reducible first | exact HB.out | apply below_alloc | apply pw_below_drewN | apply below_drew1) | exact HB.out))))
               have n1_ := Aside0.mk (below_step (by repeat (first | (with_reducible first | exact HB.out | apply below_alloc | apply pw_below_drewN | apply below_drew1) | exact HB.out)) hb)
               clear HB
               have HO573 := n0_
               have HB := n1_
               clear n0_ n1_
               clear hb ho16
               refine hK.out _ _ trivial (fun hHeld => ?_)
               clear hK K
               refine norm_ (a' := ?_) ?_ ?_
               rotate_left
               · show Act.put _ (some 22) _ = _
                 simp only [Act.put, List.setIfInBounds_toArray, List.set_cons_zero, List.set_cons_succ, i64_w, i32_w]
                 rfl
               refine two_ (i := 4) (j := 7) (Ni := some 20) (Nj := some 23) #[true, true, true, true, true, true, true, false, false, false] #[true, true, true, true, false, true, true, true, false, false] rfl rfl rfl rfl (two_of HT_.out (by kernel_rfl)) (by decide) (by decide) (fun K hK => ?_) (fun K hK => ?_)
               · skip
                 refine goes_ Tryz.func126 (by kernel_rfl) rfl #[.int .u64 (IntKind.u64.wrap (Int.tdiv a0 a1)), .int .u64 a1] (by rfl) rfl rfl (by (try simp only [List.map_toArray, List.map_cons, List.map_nil]); first | done | rfl | (simp only [List.length_drop, List.length_take]; rfl)) ?_
                 with_reducible refine (ih k (by omega) (IntKind.u64.wrap (Int.tdiv a0 a1)) a1 t570 _ A12.out).mono ?_
                 rintro e w17 ⟨rfl, hb⟩
                 refine ⟨_, rfl, ?_⟩
                 have n0_ := Aside0.mk (Kd.R_below (by (with_reducible repeat (first | apply Kd.R_alloc | apply Kd.R_drewN | apply Kd.R_drew)); exact HO573.out) hb)
                 have n1_ := Aside0.mk (below_step (by repeat (first | (with_reducible first | exact HB.out | apply below_alloc | apply pw_below_drewN | apply below_drew1) | exact HB.out)) hb)
                 clear HO573
                 clear HB
                 have HO573 := n0_
                 have HB := n1_
                 clear n0_ n1_
                 (try clear hb)
                 (try clear hb2)
                 (try clear hk)
                 (try clear hi)
                 refine hK.out _ _ trivial (fun hHeld => ?_)
                 clear hK K
                 refine norm_ (a' := ?_) ?_ ?_
                 rotate_left
                 · show Act.put _ (some 20) _ = _
                   simp only [Act.put, List.setIfInBounds_toArray, List.set_cons_zero, List.set_cons_succ, i64_w, i32_w]
                   rfl
                 refine one_ (i := 7) (N := some 23) #[true, true, true, true, true, true, true, true, false, false] rfl rfl (one_of HT_.out (by kernel_rfl)) (by decide) (fun K hK => ?_)
                 have hcv18 := own_string (P := Tryz.prog) Tryz.underlying136 Tryz.underlying5 Tryz.underlying9 (Kd.own_of_R HO573.out)
                 refine value_ (w1 := ?_) (v := ?_) (by rfl) rfl ?_ ?_
                 rotate_left 2
                 · go_simp
                   constructor
                   · rfl
                   · rfl
                 clear hcv18
                 refine hK.out _ _ trivial (fun hHeld => ?_)
                 clear hK K
                 refine norm_ (a' := ?_) ?_ ?_
                 rotate_left
                 · show Act.put _ (some 23) _ = _
                   simp only [Act.put, List.setIfInBounds_toArray, List.set_cons_zero, List.set_cons_succ, i64_w, i32_w]
                   rfl
                 exact norm_ (by simp only [putAll, Act.put, List.setIfInBounds_toArray, List.set_cons_zero, List.set_cons_succ]) (hCont (v572) _ ⟨(by (with_reducible repeat (first | apply Kd.R_alloc | apply Kd.R_drewN | apply Kd.R_drew)); exact HO573.out), (by repeat (first | (with_reducible first | exact HB.out | apply below_alloc | apply pw_below_drewN | apply below_drew1) | exact HB.out))⟩)
               · skip
                 have hcv17 := own_string (P := Tryz.prog) Tryz.underlying136 Tryz.underlying5 Tryz.underlying9 (Kd.own_of_R HO573.out)
                 refine value_ (w1 := ?_) (v := ?_) (by rfl) rfl ?_ ?_
                 rotate_left 2
                 · go_simp
                   constructor
                   · rfl
                   · rfl
                 clear hcv17
                 refine hK.out _ _ trivial (fun hHeld => ?_)
                 clear hK K
                 refine norm_ (a' := ?_) ?_ ?_
                 rotate_left
                 · show Act.put _ (some 23) _ = _
                   simp only [Act.put, List.setIfInBounds_toArray, List.set_cons_zero, List.set_cons_succ, i64_w, i32_w]
                   rfl
                 refine one_ (i := 4) (N := some 20) #[true, true, true, true, true, true, true, true, false, false] rfl rfl (one_of HT_.out (by kernel_rfl)) (by decide) (fun K hK => ?_)
                 refine goes_ Tryz.func126 (by kernel_rfl) rfl #[.int .u64 (IntKind.u64.wrap (Int.tdiv a0 a1)), .int .u64 a1] (by rfl) rfl rfl (by (try simp only [List.map_toArray, List.map_cons, List.map_nil]); first | done | rfl | (simp only [List.length_drop, List.length_take]; rfl)) ?_
                 with_reducible refine (ih k (by omega) (IntKind.u64.wrap (Int.tdiv a0 a1)) a1 t570 _ A12.out).mono ?_
                 rintro e w18 ⟨rfl, hb⟩
                 refine ⟨_, rfl, ?_⟩
                 have n0_ := Aside0.mk (Kd.R_below (by (with_reducible repeat (first | apply Kd.R_alloc | apply Kd.R_drewN | apply Kd.R_drew)); exact HO573.out) hb)
                 have n1_ := Aside0.mk (below_step (by repeat (first | (with_reducible first | exact HB.out | apply below_alloc | apply pw_below_drewN | apply below_drew1) | exact HB.out)) hb)
                 clear HO573
                 clear HB
                 have HO573 := n0_
                 have HB := n1_
                 clear n0_ n1_
                 (try clear hb)
                 (try clear hb2)
                 (try clear hk)
                 (try clear hi)
                 refine hK.out _ _ trivial (fun hHeld => ?_)
                 clear hK K
                 refine norm_ (a' := ?_) ?_ ?_
                 rotate_left
                 · show Act.put _ (some 20) _ = _
                   simp only [Act.put, List.setIfInBounds_toArray, List.set_cons_zero, List.set_cons_succ, i64_w, i32_w]
                   rfl
                 exact norm_ (by simp only [putAll, Act.put, List.setIfInBounds_toArray, List.set_cons_zero, List.set_cons_succ]) (hCont (v572) _ ⟨(by (with_reducible repeat (first | apply Kd.R_alloc | apply Kd.R_drewN | apply Kd.R_drew)); exact HO573.out), (by repeat (first | (with_reducible first | exact HB.out | apply below_alloc | apply pw_below_drewN | apply below_drew1) | exact HB.out))⟩)
           rintro v572 w19 ⟨h0_, h1_⟩
           have n0_ : Aside0 (Kd.R (Kd.int .u8) 5 w19 w.heap.size (fun _ => True) v572 y571) := ⟨h0_⟩
           have n1_ : Aside0 (Below w.heap.size w w19) := ⟨h1_⟩
           clear HB
           clear h0_ h1_
           have HO573 := n0_
           have HB := n1_
           clear n0_ n1_
           have hHeld := trivial
           refine norm_ (a' := ?_) ?_ ?_
           rotate_left
           · simp only [putAll, Act.put, List.setIfInBounds_toArray, List.set_cons_zero, List.set_cons_succ]
             rfl
           refine pure_ (i := 8) (N := some 24) (v := ?_) (a' := ?_) #[true, true, true, true, true, true, true, true, true, false] rfl rfl (any_of HT_.out (by kernel_rfl)) (fun _ _ _ h => h) (Or.inl ⟨by rfl, ?_⟩) ?_ ?_
           rotate_left
           · intro w'
             go_simp
             with_reducible rfl
           rotate_left
           · simp only [Act.put, List.setIfInBounds_toArray, List.set_cons_zero, List.set_cons_succ, i64_w, i32_w]
             rfl
           refine pure_ (i := 9) (N := some 4) (v := ?_) (a' := ?_) #[true, true, true, true, true, true, true, true, true, true] rfl rfl (any_of HT_.out (by kernel_rfl)) (fun _ _ _ h => h) (Or.inl ⟨by rfl, ?_⟩) ?_ ?_
           rotate_left
           · intro w'
             go_simp
             with_reducible rfl
           rotate_left
           · simp only [Act.put, List.setIfInBounds_toArray, List.set_cons_zero, List.set_cons_succ, i64_w, i32_w]
             rfl
           refine done_ (done_of HT_.out (by kernel_rfl)) ?_
           try go_wp2
           go_ret
           exact ⟨by first | rfl | (simp [errW_none, errW_some] <;> rfl) | (simp only [← hji4]; first | rfl | (simp [errW_none, errW_some] <;> rfl)) | (simp [*, errW_none, errW_some] <;> rfl), by repeat (first | (with_reducible first | exact HB.out | apply below_alloc | apply pw_below_drewN | apply below_drew1) | exact HB.out)⟩
         · rw [if_neg c13] at H
           exact absurd H (by simp)
     · rw [if_neg c6] at H
       exact absurd H (by simp)
   · rw [if_neg c5] at H
     exact absurd H (by simp)
def spec_Text.f (k : Nat) (a0 : Int) : Option (ByteArray) := (spec_Digits.f k a0 10).bind fun t574 => (some t574)
set_option maxHeartbeats 8000000 in
set_option maxRecDepth 100000 in
theorem spec_Text.calls (k : Nat) (a0 : Int) (r : ByteArray) (w : World) (h : spec_Text.f k a0 = some r) :
 Calls Tryz.prog 86 #[.int .u64 a0] w fun e w' => e = .returned (.string r) ∧ Below w.heap.size w w' := by
 have HB := Aside0.mk (Below.refl w.heap.size w)
 have H : ((spec_Digits.f k a0 10).bind fun t574 => (some t574)) = some r := h
 clear h
 replace H := Option.bind_eq_some_iff.mp H
 obtain ⟨t574, A20, H⟩ := H
 replace H : (some t574) = some r := H
 have A2 := Aside0.mk A20
 clear A20
 obtain rfl := Option.some.inj H
 go_enter Tryz.func86, Tryz.ntmps86
 go_wp2_with (first | ((with_reducible refine gate_callee (f := 126) rfl ?_); refine goesL_ (some 4) rfl rfl Tryz.func126 (by kernel_rfl) rfl #[.int .u64 a0, .int .u64 10] rfl (by (try simp only [List.map_toArray, List.map_cons, List.map_nil]); first | done | rfl | (simp only [List.length_drop, List.length_take]; rfl)) ?_; (with_reducible refine (spec_Digits.calls k a0 10 t574 _ A2.out).mono ?_); rintro e w3 ⟨rfl, hb⟩; refine ⟨_, rfl, ?_⟩; have n0_ := Aside0.mk (below_step (by repeat (first | (with_reducible first | exact HB.out | apply below_alloc | apply pw_below_drewN | apply below_drew1) | exact HB.out)) hb); clear HB; have HB := n0_; clear n0_; (try clear hb); (try clear hb2); (try clear hk); (try clear hi)))
 go_ret
 exact ⟨by first | rfl | (simp [errW_none, errW_some] <;> rfl) | (simp [*, errW_none, errW_some] <;> rfl), by repeat (first | (with_reducible first | exact HB.out | apply below_alloc | apply pw_below_drewN | apply below_drew1) | exact HB.out)⟩
mutual
def spec_digit.j0 : Nat → Int → Bool → Option (Int)
 | 0, _, _ => none
 | k + 1, x0, x3 => if x3 = true then (some ((x0 - 48) % 256)) else (if x0 ≥ 97 then (spec_digit.j1 k x0 (decide (x0 ≤ 102))) else (spec_digit.j1 k x0 false))
def spec_digit.j1 : Nat → Int → Bool → Option (Int)
 | 0, _, _ => none
 | k + 1, x0, x13 => if x13 = true then (some (((x0 - 97) % 256) + 10)) else (if x0 ≥ 65 then (if x0 ≤ 70 then (some (((x0 - 65) % 256) + 10)) else (some 99)) else (some 99))
end
def spec_digit.f (k : Nat) (a0 : Int) : Option (Int) := if a0 ≥ 48 then (spec_digit.j0 k a0 (decide (a0 ≤ 57))) else (spec_digit.j0 k a0 false)
set_option maxHeartbeats 8000000 in
set_option maxRecDepth 100000 in
theorem spec_digit.calls (k : Nat) (a0 : Int) (r : Int) (w : World) (h : spec_digit.f k a0 = some r) :
 Calls Tryz.prog 119 #[.int .u8 a0] w fun e w' => e = .returned (.int .u64 r) ∧ Drawn0 w w' := by
 have H : (if a0 ≥ 48 then (spec_digit.j0 k a0 (decide (a0 ≤ 57))) else (spec_digit.j0 k a0 false)) = some r := h
 clear h
 have HC2 := Aside0.mk H
 clear H
 go_enter Tryz.func119, Tryz.ntmps119
 go_upto_region 1 with (fail)
 go_cut [3] (fun v3 wc => ∃ (kq : Nat) (x3_1 : Bool), v3 = .bool x3_1 ∧ Aside0 (spec_digit.j0 kq a0 x3_1 = some r) ∧ Aside0 (kq ≤ k) ∧ Drawn0 w wc)
 case first =>
  have H := HC2.out
  clear HC2
  by_cases c3 : a0 ≥ 48
  · rw [if_pos c3] at H
    have c3b0 : decide (48 ≤ a0) = true := decide_eq_true c3
    clear c3
    (first | rw [c3b0] | (simp only [i64_w, i32_w]; rw [c3b0]) | skip)
    have H' := Aside0.mk H
    clear H
    go_wp2
    go_meet
    case rel => exact ⟨_, (decide (a0 ≤ 57)), (by first | rfl | (simp; done) | (simp [*]; done)), H', ⟨by first | omega | exact Nat.le_refl _⟩, by repeat (first | exact Drawn0.refl _ | apply Drawn0.step)⟩
  · rw [if_neg c3] at H
    have c3b0 : decide (48 ≤ a0) = false := decide_eq_false c3
    clear c3
    (first | rw [c3b0] | (simp only [i64_w, i32_w]; rw [c3b0]) | skip)
    have H' := Aside0.mk H
    clear H
    go_wp2
    go_meet
    case rel => exact ⟨_, (false), (by first | rfl | (simp; done) | (simp [*]; done)), H', ⟨by first | omega | exact Nat.le_refl _⟩, by repeat (first | exact Drawn0.refl _ | apply Drawn0.step)⟩
 case rest =>
  clear HC2
  try clear c1
  try clear p2
  try clear c3
  try clear c3b0
  obtain ⟨kq, x3_1, rfl, HA, HJ1, ⟨mc1, rfl⟩⟩ := hcut
  cases kq with
  | zero => exact absurd HA.out (by simp [spec_digit.j0])
  | succ kj1 =>
   have H := HA.out
   clear HA
   simp only [spec_digit.j0] at H
   by_cases c4 : x3_1 = true
   · subst c4
     have H1 : (some ((a0 - 48) % 256)) = some r := by rw [if_pos rfl] at H; exact H
     clear H
     have H := H1
     clear H1
     obtain rfl := Option.some.inj H
     go_wp2
     go_ret
     exact ⟨by first | rfl | (simp; done) | (simp [*]; done) | (simp; cases a0.toList <;> rfl), by repeat (first | exact Drawn0.refl _ | apply Drawn0.step)⟩
   · replace c4 := Bool.eq_false_iff.mpr c4
     subst c4
     have H1 : (if a0 ≥ 97 then (spec_digit.j1 kj1 a0 (decide (a0 ≤ 102))) else (spec_digit.j1 kj1 a0 false)) = some r := by rw [if_neg (show ¬ (false = true) by decide)] at H; exact H
     clear H
     have H := H1
     clear H1
     have HC5 := Aside0.mk H
     clear H
     go_upto_region 3 with (fail)
     go_cut [13] (fun v13 wc => ∃ (kq : Nat) (x13_4 : Bool), v13 = .bool x13_4 ∧ Aside0 (spec_digit.j1 kq a0 x13_4 = some r) ∧ Aside0 (kq ≤ kj1) ∧ Drawn0 w wc)
     case first =>
      have H := HC5.out
      clear HC5
      by_cases c6 : a0 ≥ 97
      · rw [if_pos c6] at H
        have c6b0 : decide (97 ≤ a0) = true := decide_eq_true c6
        clear c6
        (first | rw [c6b0] | (simp only [i64_w, i32_w]; rw [c6b0]) | skip)
        have H' := Aside0.mk H
        clear H
        go_wp2
        go_meet
        case rel => exact ⟨_, (decide (a0 ≤ 102)), (by first | rfl | (simp; done) | (simp [*]; done)), H', ⟨by have := HJ1.out; first | omega | exact Nat.le_refl _⟩, by repeat (first | exact Drawn0.refl _ | apply Drawn0.step)⟩
      · rw [if_neg c6] at H
        have c6b0 : decide (97 ≤ a0) = false := decide_eq_false c6
        clear c6
        (first | rw [c6b0] | (simp only [i64_w, i32_w]; rw [c6b0]) | skip)
        have H' := Aside0.mk H
        clear H
        go_wp2
        go_meet
        case rel => exact ⟨_, (false), (by first | rfl | (simp; done) | (simp [*]; done)), H', ⟨by have := HJ1.out; first | omega | exact Nat.le_refl _⟩, by repeat (first | exact Drawn0.refl _ | apply Drawn0.step)⟩
     case rest =>
      clear HC5
      try clear c1
      try clear p2
      try clear c3
      try clear c3b0
      try clear c4
      try clear c6
      try clear c6b0
      try clear p2
      obtain ⟨kq, x13_4, rfl, HA, HJ4, ⟨mc4, rfl⟩⟩ := hcut
      cases kq with
      | zero => exact absurd HA.out (by simp [spec_digit.j1])
      | succ kj4 =>
       have H := HA.out
       clear HA
       simp only [spec_digit.j1] at H
       by_cases c7 : x13_4 = true
       · subst c7
         have H1 : (some (((a0 - 97) % 256) + 10)) = some r := by rw [if_pos rfl] at H; exact H
         clear H
         have H := H1
         clear H1
         obtain rfl := Option.some.inj H
         go_wp2
         go_ret
         exact ⟨by first | rfl | (simp; done) | (simp [*]; done) | (simp; cases a0.toList <;> rfl), by repeat (first | exact Drawn0.refl _ | apply Drawn0.step)⟩
       · replace c7 := Bool.eq_false_iff.mpr c7
         subst c7
         have H1 : (if a0 ≥ 65 then (if a0 ≤ 70 then (some (((a0 - 65) % 256) + 10)) else (some 99)) else (some 99)) = some r := by rw [if_neg (show ¬ (false = true) by decide)] at H; exact H
         clear H
         have H := H1
         clear H1
         by_cases c8 : a0 ≥ 65
         · rw [if_pos c8] at H
           have c8b0 : decide (65 ≤ a0) = true := decide_eq_true c8
           clear c8
           by_cases c9 : a0 ≤ 70
           · rw [if_pos c9] at H
             have c9b0 : decide (a0 ≤ 70) = true := decide_eq_true c9
             clear c9
             obtain rfl := Option.some.inj H
             go_wp2
             go_ret
             exact ⟨by first | rfl | (simp; done) | (simp [*]; done) | (simp; cases a0.toList <;> rfl), by repeat (first | exact Drawn0.refl _ | apply Drawn0.step)⟩
           · rw [if_neg c9] at H
             have c9b0 : decide (a0 ≤ 70) = false := decide_eq_false c9
             clear c9
             obtain rfl := Option.some.inj H
             go_wp2
             go_ret
             exact ⟨by first | rfl | (simp; done) | (simp [*]; done) | (simp; cases a0.toList <;> rfl), by repeat (first | exact Drawn0.refl _ | apply Drawn0.step)⟩
         · rw [if_neg c8] at H
           have c8b0 : decide (65 ≤ a0) = false := decide_eq_false c8
           clear c8
           obtain rfl := Option.some.inj H
           go_wp2
           go_ret
           exact ⟨by first | rfl | (simp; done) | (simp [*]; done) | (simp; cases a0.toList <;> rfl), by repeat (first | exact Drawn0.refl _ | apply Drawn0.step)⟩
def spec_Number.l0 : Nat → ByteArray → Int → Int → Int → Int → Option (Int × Bool)
 | 0, _, _, _, _, _ => none
 | k + 1, x0, x1, x6, x10, x11 => if x11 < x10 then (if 0 ≤ x11 then (if x11 < (x0.size : Int) then ((spec_digit.f k (bt x0 x11)).bind fun t575 => (if t575 ≥ x1 then (some (0, false)) else (if x1 = 0 then (none) else (if x6 > (IntKind.u64.wrap (Int.tdiv (IntKind.u64.wrap (18446744073709551615 - t575)) x1)) then (some (0, false)) else (spec_Number.l0 k x0 x1 (IntKind.u64.wrap ((IntKind.u64.wrap (x6 * x1)) + t575)) x10 (wrap64 (x11 + 1))))))) else (none)) else (none)) else (some (x6, (x0.toList != ([] : List UInt8))))
def spec_Number.f (k : Nat) (a0 : ByteArray) (a1 : Int) : Option (Int × Bool) := spec_Number.l0 k a0 a1 0 (a0.size : Int) 0
set_option maxHeartbeats 8000000 in
set_option maxRecDepth 100000 in
theorem spec_Number.calls (k : Nat) (a0 : ByteArray) (a1 : Int) (r1 : Int) (r2 : Bool) (w : World) (h : spec_Number.f k a0 a1 = some (r1, r2)) :
 Calls Tryz.prog 68 #[.string a0, .int .u64 a1] w fun e w' => e = .returned (.tuple #[.int .u64 r1, .bool r2]) ∧ Drawn0 w w' := by
 have H : (spec_Number.l0 k a0 a1 0 (a0.size : Int) 0) = some (r1, r2) := h
 clear h
 have H' := Aside0.mk H
 clear H
 go_enter Tryz.func68, Tryz.ntmps68
 go_wp2
 go_loopg [6, 11] k (fun kq v6 v11 w' => ∃ (x6_1 : Int) (x11_1 : Int), v6 = .int .u64 x6_1 ∧ v11 = .int .i64 x11_1 ∧ Aside0 (spec_Number.l0 kq a0 a1 x6_1 (a0.size : Int) x11_1 = some (r1, r2)) ∧ Aside0 (kq ≤ k) ∧ Drawn0 w w')
 case atStart => exact ⟨(0), (0), (by first | rfl | (simp; done) | (simp [*]; done)), (by first | rfl | (simp; done) | (simp [*]; done)), H', ⟨Nat.le_refl _⟩, by repeat (first | exact Drawn0.refl _ | apply Drawn0.step)⟩
 case round =>
  clear H'
  try clear p2
  obtain ⟨x6_1, x11_1, rfl, rfl, HA, HK1, ⟨m1, rfl⟩⟩ := hrel
  cases gk with
  | zero => exact absurd HA.out (by simp [spec_Number.l0])
  | succ k1 =>
   have H := HA.out
   clear HA
   simp only [spec_Number.l0] at H
   by_cases c3 : x11_1 < (a0.size : Int)
   · rw [if_pos c3] at H
     have c3b0 : decide (x11_1 < (a0.size : Int)) = true := decide_eq_true c3
     clear c3
     by_cases c4 : 0 ≤ x11_1
     · rw [if_pos c4] at H
       have c4b0 : decide (0 ≤ x11_1) = true := decide_eq_true c4
       clear c4
       by_cases c5 : x11_1 < (a0.size : Int)
       · rw [if_pos c5] at H
         have c5b0 : decide (x11_1 < (a0.size : Int)) = true := decide_eq_true c5
         clear c5
         replace H := Option.bind_eq_some_iff.mp H
         obtain ⟨t575, A70, H⟩ := H
         replace H : (if t575 ≥ a1 then (some (0, false)) else (if a1 = 0 then (none) else (if x6_1 > (IntKind.u64.wrap (Int.tdiv (IntKind.u64.wrap (18446744073709551615 - t575)) a1)) then (some (0, false)) else (spec_Number.l0 k1 a0 a1 (IntKind.u64.wrap ((IntKind.u64.wrap (x6_1 * a1)) + t575)) (a0.size : Int) (wrap64 (x11_1 + 1)))))) = some (r1, r2) := H
         have A7 := Aside0.mk A70
         clear A70
         by_cases c8 : t575 ≥ a1
         · rw [if_pos c8] at H
           have c8b0 : decide (a1 ≤ t575) = true := decide_eq_true c8
           clear c8
           simp only [Option.some.injEq, Prod.mk.injEq] at H
           obtain ⟨rfl, rfl⟩ := H
           have p6 : 0 ≤ (x11_1 : Int) := of_decide_eq_true (by first | (with_reducible assumption) | assumption)
           have q6 : x11_1 < (a0.size : Int) := of_decide_eq_true (by first | (with_reducible assumption) | assumption)
           have hx6 := bt_at a0 x11_1
           replace p6 := eq_true p6
           replace q6 := eq_true q6
           go_wp2_with (first | ((with_reducible refine gate_callee (f := 119) rfl ?_); refine goesL_ (some 17) rfl rfl Tryz.func119 (by kernel_rfl) rfl #[.int .u8 (bt a0 x11_1)] rfl (by (try simp only [List.map_toArray, List.map_cons, List.map_nil]); first | done | rfl | (simp only [List.length_drop, List.length_take]; rfl)) ?_; (with_reducible refine (spec_digit.calls k1 (bt a0 x11_1) t575 _ A7.out).mono ?_); rintro e w' ⟨rfl, ⟨nd, rfl⟩⟩; refine ⟨_, rfl, ?_⟩))
           go_ret2
           exact ⟨by first | rfl | (simp; done) | (simp [*]; done) | (simp; cases a0.toList <;> rfl), by repeat (first | exact Drawn0.refl _ | apply Drawn0.step)⟩
         · rw [if_neg c8] at H
           have c8b0 : decide (a1 ≤ t575) = false := decide_eq_false c8
           clear c8
           by_cases c9 : a1 = 0
           · rw [if_pos c9] at H
             exact absurd H (by simp)
           · rw [if_neg c9] at H
             have c9b0 : (a1 == 0) = false := beq_eq_false_iff_ne.mpr c9
             have c9b1 : (a1 != 0) = true := bne_iff_ne.mpr c9
             by_cases c10 : x6_1 > (IntKind.u64.wrap (Int.tdiv (IntKind.u64.wrap (18446744073709551615 - t575)) a1))
             · rw [if_pos c10] at H
               have c10b0 : decide ((IntKind.u64.wrap (Int.tdiv (IntKind.u64.wrap (18446744073709551615 - t575)) a1)) < x6_1) = true := decide_eq_true c10
               clear c10
               simp only [Option.some.injEq, Prod.mk.injEq] at H
               obtain ⟨rfl, rfl⟩ := H
               have p6 : 0 ≤ (x11_1 : Int) := of_decide_eq_true (by first | (with_reducible assumption) | assumption)
               have q6 : x11_1 < (a0.size : Int) := of_decide_eq_true (by first | (with_reducible assumption) | assumption)
               have hx6 := bt_at a0 x11_1
               replace p6 := eq_true p6
               replace q6 := eq_true q6
               go_wp2_with (first | ((with_reducible refine gate_callee (f := 119) rfl ?_); refine goesL_ (some 17) rfl rfl Tryz.func119 (by kernel_rfl) rfl #[.int .u8 (bt a0 x11_1)] rfl (by (try simp only [List.map_toArray, List.map_cons, List.map_nil]); first | done | rfl | (simp only [List.length_drop, List.length_take]; rfl)) ?_; (with_reducible refine (spec_digit.calls k1 (bt a0 x11_1) t575 _ A7.out).mono ?_); rintro e w' ⟨rfl, ⟨nd, rfl⟩⟩; refine ⟨_, rfl, ?_⟩))
               go_ret2
               exact ⟨by first | rfl | (simp; done) | (simp [*]; done) | (simp; cases a0.toList <;> rfl), by repeat (first | exact Drawn0.refl _ | apply Drawn0.step)⟩
             · rw [if_neg c10] at H
               have c10b0 : decide ((IntKind.u64.wrap (Int.tdiv (IntKind.u64.wrap (18446744073709551615 - t575)) a1)) < x6_1) = false := decide_eq_false c10
               clear c10
               have H' := Aside0.mk H
               clear H
               have p6 : 0 ≤ (x11_1 : Int) := of_decide_eq_true (by first | (with_reducible assumption) | assumption)
               have q6 : x11_1 < (a0.size : Int) := of_decide_eq_true (by first | (with_reducible assumption) | assumption)
               have hx6 := bt_at a0 x11_1
               replace p6 := eq_true p6
               replace q6 := eq_true q6
               go_wp2_with (first | ((with_reducible refine gate_callee (f := 119) rfl ?_); refine goesL_ (some 17) rfl rfl Tryz.func119 (by kernel_rfl) rfl #[.int .u8 (bt a0 x11_1)] rfl (by (try simp only [List.map_toArray, List.map_cons, List.map_nil]); first | done | rfl | (simp only [List.length_drop, List.length_take]; rfl)) ?_; (with_reducible refine (spec_digit.calls k1 (bt a0 x11_1) t575 _ A7.out).mono ?_); rintro e w' ⟨rfl, ⟨nd, rfl⟩⟩; refine ⟨_, rfl, ?_⟩))
               go_roundg k1
               case measure => have := HK1.out; omega
               case rel => exact ⟨(IntKind.u64.wrap ((IntKind.u64.wrap (x6_1 * a1)) + t575)), (wrap64 (x11_1 + 1)), (by first | rfl | (simp; done) | (simp [*]; done)), (by first | rfl | (simp; done) | (simp [*]; done)), H', ⟨by have := HK1.out; omega⟩, by repeat (first | exact Drawn0.refl _ | apply Drawn0.step)⟩
       · rw [if_neg c5] at H
         exact absurd H (by simp)
     · rw [if_neg c4] at H
       exact absurd H (by simp)
   · rw [if_neg c3] at H
     have c3b0 : decide (x11_1 < (a0.size : Int)) = false := decide_eq_false c3
     clear c3
     simp only [Option.some.injEq, Prod.mk.injEq] at H
     obtain ⟨rfl, rfl⟩ := H
     go_wp2
     go_ret2
     exact ⟨by first | rfl | (simp; done) | (simp [*]; done) | (simp; cases a0.toList <;> rfl), by repeat (first | exact Drawn0.refl _ | apply Drawn0.step)⟩
def spec_Dec.f (k : Nat) (a0 : ByteArray) : Option (Int × Bool) := (spec_Number.f k a0 10).bind fun bt576 => (some (bt576.1, bt576.2))
set_option maxHeartbeats 8000000 in
set_option maxRecDepth 100000 in
theorem spec_Dec.calls (k : Nat) (a0 : ByteArray) (r1 : Int) (r2 : Bool) (w : World) (h : spec_Dec.f k a0 = some (r1, r2)) :
 Calls Tryz.prog 97 #[.string a0] w fun e w' => e = .returned (.tuple #[.int .u64 r1, .bool r2]) ∧ Drawn0 w w' := by
 have H : ((spec_Number.f k a0 10).bind fun bt576 => (some (bt576.1, bt576.2))) = some (r1, r2) := h
 clear h
 replace H := Option.bind_eq_some_iff.mp H
 obtain ⟨⟨t576, t577⟩, A20, H⟩ := H
 replace H : (some (t576, t577)) = some (r1, r2) := H
 have A2 := Aside0.mk A20
 clear A20
 simp only [Option.some.injEq, Prod.mk.injEq] at H
 obtain ⟨rfl, rfl⟩ := H
 go_enter Tryz.func97, Tryz.ntmps97
 go_wp2_with (first | ((with_reducible refine gate_callee (f := 68) rfl ?_); refine goesL_ (some 5) rfl rfl Tryz.func68 (by kernel_rfl) rfl #[.string a0, .int .u64 10] rfl (by (try simp only [List.map_toArray, List.map_cons, List.map_nil]); first | done | rfl | (simp only [List.length_drop, List.length_take]; rfl)) ?_; (with_reducible refine (spec_Number.calls k a0 10 t576 t577 _ A2.out).mono ?_); rintro e w' ⟨rfl, ⟨nd, rfl⟩⟩; refine ⟨_, rfl, ?_⟩))
 go_ret2
 exact ⟨by first | rfl | (simp; done) | (simp [*]; done) | (simp; cases a0.toList <;> rfl), by repeat (first | exact Drawn0.refl _ | apply Drawn0.step)⟩
end Go.Proofs.YtabfehcpcjcomaaGreatDoor.QA0
namespace Go.Proofs.YtabfehcpcjcomaaGreatDoor.QA0
open Go.RowKit Go.Proofs.YtabfehcpcjcomaaGreatDoorW.PrintWords Go.Proofs.YtabfehcpcjcomaaGreatDoorW.PrintLast Go.Proofs.YtabfehcpcjcomaaGreatDoorW.PrintMore
attribute [local go_sem] max2_int min2_int max_two min_two max_three min_three max_four min_four
set_option linter.unusedVariables false
set_option linter.unusedSimpArgs false
def spec_decimals.l0 : Nat → List Int → List ByteArray → Int → Int → Option (List Int × Bool)
 | 0, _, _, _, _ => none
 | k + 1, x4, x9, x10, x11 => if x11 < x10 then (if 0 ≤ x11 then (if x11 < (x9.length : Int) then ((spec_Dec.f k (rdOf ByteArray.empty x9 x11)).bind fun bt579 => (if bt579.2 = true then ((spec_Text.f k bt579.1).bind fun t581 => (if t581.toList = (rdOf ByteArray.empty x9 x11).toList then (if x4.length < 17592186044416 then (spec_decimals.l0 k (x4 ++ [bt579.1]) x9 x10 (wrap64 (x11 + 1))) else (none)) else (some (([] : List Int), false)))) else (some (([] : List Int), false)))) else (none)) else (none)) else (some (x4, true))
def spec_decimals.f (k : Nat) (l0 : List ByteArray) : Option (List Int × Bool) := spec_decimals.l0 k ([] : List Int) l0 (l0.length : Int) 0
set_option maxHeartbeats 8000000 in
set_option maxRecDepth 100000 in
theorem spec_decimals.calls (k : Nat) (A0 : Option Addr) (c0 : Nat) (l0 : List ByteArray) (r1 : List Int) (r2 : Bool) (w : World) (hr0 : Kd.C Kd.string w A0 l0.length l0) (hc0 : l0.length ≤ c0) (h : spec_decimals.f k l0 = some (r1, r2)) :
 Calls Tryz.prog 35 #[.slice A0 l0.length c0] w fun e w' => ∃ v0_ : Value, e = .returned (.tuple #[v0_, .bool r2]) ∧ Kd.R (Kd.int .u64) 30 w' w.heap.size (fun _ => True) v0_ r1 ∧ Below w.heap.size w w' := by
 have HR0 := Aside0.mk hr0
 have HC0 := Aside0.mk hc0
 clear hr0 hc0
 have HB := Aside0.mk (Below.refl w.heap.size w)
 have H : (spec_decimals.l0 k ([] : List Int) l0 (l0.length : Int) 0) = some (r1, r2) := h
 clear h
 have H' := Aside0.mk H
 clear H
 go_enter Tryz.func35, Tryz.ntmps35
 go_wp2
 go_loopg [4, 11] k (fun kq v4 v11 w' => ∃ (x4_1 : List Int) (x11_1 : Int), v11 = .int .i64 x11_1 ∧ Aside0 (spec_decimals.l0 kq x4_1 l0 (l0.length : Int) x11_1 = some (r1, r2)) ∧ Aside0 (kq ≤ k) ∧ Aside0 (Kd.R (Kd.int .u64) 30 w' w.heap.size (fun _ => True) v4 x4_1) ∧ Aside0 (Below w.heap.size w w'))
 case atStart => exact ⟨(([] : List Int)), (0), (by first | rfl | (simp; done) | (simp [*]; done)), H', ⟨Nat.le_refl _⟩, ⟨by first | exact Kd.R_nil _ _ _ _ _ | exact Kd.N_nil _ _ _ _ _ | exact Kd.V_nil _ _ _ _ _ | exact Kd.Q_nil _ _ _ _ _ | exact Kd.S_nil _ _ _ _ _⟩, ⟨by repeat (first | (with_reducible first | exact HB.out | apply below_alloc | apply pw_below_drewN | apply below_drew1) | exact HB.out)⟩⟩
 case round =>
  clear H'
  obtain ⟨x4_1, x11_1, rfl, HA, HK1, HO_4, HB⟩ := hrel
  cases gk with
  | zero => exact absurd HA.out (by simp [spec_decimals.l0])
  | succ k1 =>
   have H := HA.out
   clear HA
   simp only [spec_decimals.l0] at H
   by_cases c2 : x11_1 < (l0.length : Int)
   · rw [if_pos c2] at H
     have c2b0 : decide (x11_1 < (l0.length : Int)) = true := decide_eq_true c2
     clear c2
     by_cases c3 : 0 ≤ x11_1
     · rw [if_pos c3] at H
       have c3b0 : decide (0 ≤ x11_1) = true := decide_eq_true c3
       clear c3
       by_cases c4 : x11_1 < (l0.length : Int)
       · rw [if_pos c4] at H
         have c4b0 : decide (x11_1 < (l0.length : Int)) = true := decide_eq_true c4
         clear c4
         replace H := Option.bind_eq_some_iff.mp H
         obtain ⟨⟨t579, t580⟩, A50, H⟩ := H
         replace H : (if t580 = true then ((spec_Text.f k1 t579).bind fun t581 => (if t581.toList = (rdOf ByteArray.empty l0 x11_1).toList then (if x4_1.length < 17592186044416 then (spec_decimals.l0 k1 (x4_1 ++ [t579]) l0 (l0.length : Int) (wrap64 (x11_1 + 1))) else (none)) else (some (([] : List Int), false)))) else (some (([] : List Int), false))) = some (r1, r2) := H
         have A5 := Aside0.mk A50
         clear A50
         by_cases c6 : t580 = true
         · subst c6
           have H1 : ((spec_Text.f k1 t579).bind fun t581 => (if t581.toList = (rdOf ByteArray.empty l0 x11_1).toList then (if x4_1.length < 17592186044416 then (spec_decimals.l0 k1 (x4_1 ++ [t579]) l0 (l0.length : Int) (wrap64 (x11_1 + 1))) else (none)) else (some (([] : List Int), false)))) = some (r1, r2) := by rw [if_pos rfl] at H; exact H
           clear H
           have H := H1
           clear H1
           replace H := Option.bind_eq_some_iff.mp H
           obtain ⟨t581, A70, H⟩ := H
           replace H : (if t581.toList = (rdOf ByteArray.empty l0 x11_1).toList then (if x4_1.length < 17592186044416 then (spec_decimals.l0 k1 (x4_1 ++ [t579]) l0 (l0.length : Int) (wrap64 (x11_1 + 1))) else (none)) else (some (([] : List Int), false))) = some (r1, r2) := H
           have A7 := Aside0.mk A70
           clear A70
           by_cases c8 : t581.toList = (rdOf ByteArray.empty l0 x11_1).toList
           · rw [if_pos c8] at H
             have c8b0 : (t581.toList == (rdOf ByteArray.empty l0 x11_1).toList) = true := beq_iff_eq.mpr c8
             have c8b1 : (t581.toList != (rdOf ByteArray.empty l0 x11_1).toList) = false := bne_eq_false_iff_eq.mpr c8
             clear c8
             by_cases c9 : x4_1.length < 17592186044416
             · rw [if_pos c9] at H
               have LMc9 := Aside0.mk c9
               clear c9
               obtain ⟨y582, hy582⟩ : ∃ y_ : List Int, y_ = (x4_1 ++ [t579]) := ⟨_, rfl⟩
               replace H : (spec_decimals.l0 k1 y582 l0 (l0.length : Int) (wrap64 (x11_1 + 1))) = some (r1, r2) := by first | (rw [hy582]; with_reducible exact H) | (have H2_ := (Option.bind_some _ _).symm.trans H; rw [hy582]; with_reducible exact H2_) | (have H2_ := (Option.bind_some _ _).symm.trans H; with_reducible exact H2_) | with_reducible exact H | (rw [hy582]; exact H) | exact H
               have Ny582 := Aside0.mk hy582
               clear hy582
               have H' := Aside0.mk H
               clear H
               have p578 : 0 ≤ (x11_1 : Int) := of_decide_eq_true (by first | (with_reducible assumption) | assumption)
               have q578 : x11_1 < (l0.length : Int) := of_decide_eq_true (by first | (with_reducible assumption) | assumption)
               obtain ⟨ad578, e578, hx578_0⟩ := Kd.at_string HR0.out x11_1 p578 q578
               cases e578
               replace hx578_0 := (HB.out.cell (World.block_lt_of_cell? w _ hx578_0)).trans hx578_0
               replace p578 := eq_true p578
               replace q578 := eq_true q578
               go_wp2_with (first | ((with_reducible refine gate_callee (f := 97) rfl ?_); refine goesL_ (some 17) rfl rfl Tryz.func97 (by kernel_rfl) rfl #[.string (rdOf ByteArray.empty l0 x11_1)] rfl (by (try simp only [List.map_toArray, List.map_cons, List.map_nil]); first | done | rfl | (simp only [List.length_drop, List.length_take]; rfl)) ?_; (with_reducible refine (spec_Dec.calls k1 (rdOf ByteArray.empty l0 x11_1) t579 true _ A5.out).mono ?_); rintro e w' ⟨rfl, ⟨nd, rfl⟩⟩; refine ⟨_, rfl, ?_⟩) | (go_at_call 86; (with_reducible refine (spec_Text.calls k1 t579 t581 _ A7.out).mono ?_); rintro e w10 ⟨rfl, hb⟩; have n0_ := Aside0.mk (Kd.R_below (by (with_reducible repeat (first | apply Kd.R_alloc | apply Kd.R_drewN | apply Kd.R_drew)); exact HO_4.out) hb); have n1_ := Aside0.mk (below_step (by repeat (first | (with_reducible first | exact HB.out | apply below_alloc | apply pw_below_drewN | apply below_drew1) | exact HB.out)) hb); clear HO_4; clear HB; have HO_4 := n0_; have HB := n1_; clear n0_ n1_; (try clear hb); (try clear hb2); (try clear hk); (try clear hi)) | ((with_reducible refine gate_builtin (b := .append) (xs := #[.tmp 28, .tmp 30]) rfl ?_); at_builtin; refine Kd.R_append (Kd.int .u64) (w0 := w) w.heap.size rfl (.tmp 28) (.tmp 30) 46 30 (.int .u64 0) 8 rfl Tryz.underlying46 info30 rfl (by decide) (by omega) u4 x4_1 t579 [.int .u64 t579] (fun _ => True) (fun _ => False) rfl rfl ?aP (fun _ hk => hk.elim) ?aF ?aO ?aB ?aS ?aL ?_; (case aP => exact rfl); (case aB => exact (by repeat (first | (with_reducible first | exact HB.out | apply below_alloc | apply pw_below_drewN | apply below_drew1) | exact HB.out))); (case aF => exact (fun _ _ => trivial)); (case aO => exact (by (with_reducible repeat (first | apply Kd.R_alloc | apply Kd.R_drewN | apply Kd.R_drew)); exact HO_4.out)); (case aS => exact (below_size (by repeat (first | (with_reducible first | exact HB.out | apply below_alloc | apply pw_below_drewN | apply below_drew1) | exact HB.out)))); (case aL => have := LMc9.out; omega); intro v583 w11 ho hb hg hat; rw [← Ny582.out] at ho; have n0_ := Aside0.mk (hb); have n1_ := Aside0.mk (ho); clear HB; clear HO_4; have HB := n0_; have HO584 := n1_; clear n0_ n1_; clear ho hb hg hat))
               go_roundg k1
               case measure => have := HK1.out; omega
               case rel => exact ⟨(y582), (wrap64 (x11_1 + 1)), (by first | rfl | (simp; done) | (simp [*]; done)), H', ⟨by have := HK1.out; omega⟩, ⟨by (with_reducible repeat (first | apply Kd.R_alloc | apply Kd.R_drewN | apply Kd.R_drew)); exact HO584.out⟩, ⟨by repeat (first | (with_reducible first | exact HB.out | apply below_alloc | apply pw_below_drewN | apply below_drew1) | exact HB.out)⟩⟩
             · rw [if_neg c9] at H
               exact absurd H (by simp)
           · rw [if_neg c8] at H
             have c8b0 : (t581.toList == (rdOf ByteArray.empty l0 x11_1).toList) = false := beq_eq_false_iff_ne.mpr c8
             have c8b1 : (t581.toList != (rdOf ByteArray.empty l0 x11_1).toList) = true := bne_iff_ne.mpr c8
             simp only [Option.some.injEq, Prod.mk.injEq] at H
             obtain ⟨rfl, rfl⟩ := H
             have p578 : 0 ≤ (x11_1 : Int) := of_decide_eq_true (by first | (with_reducible assumption) | assumption)
             have q578 : x11_1 < (l0.length : Int) := of_decide_eq_true (by first | (with_reducible assumption) | assumption)
             obtain ⟨ad578, e578, hx578_0⟩ := Kd.at_string HR0.out x11_1 p578 q578
             cases e578
             replace hx578_0 := (HB.out.cell (World.block_lt_of_cell? w _ hx578_0)).trans hx578_0
             replace p578 := eq_true p578
             replace q578 := eq_true q578
             go_wp2_with (first | ((with_reducible refine gate_callee (f := 97) rfl ?_); refine goesL_ (some 17) rfl rfl Tryz.func97 (by kernel_rfl) rfl #[.string (rdOf ByteArray.empty l0 x11_1)] rfl (by (try simp only [List.map_toArray, List.map_cons, List.map_nil]); first | done | rfl | (simp only [List.length_drop, List.length_take]; rfl)) ?_; (with_reducible refine (spec_Dec.calls k1 (rdOf ByteArray.empty l0 x11_1) t579 true _ A5.out).mono ?_); rintro e w' ⟨rfl, ⟨nd, rfl⟩⟩; refine ⟨_, rfl, ?_⟩) | (go_at_call 86; (with_reducible refine (spec_Text.calls k1 t579 t581 _ A7.out).mono ?_); rintro e w12 ⟨rfl, hb⟩; have n0_ := Aside0.mk (Kd.R_below (by (with_reducible repeat (first | apply Kd.R_alloc | apply Kd.R_drewN | apply Kd.R_drew)); exact HO_4.out) hb); have n1_ := Aside0.mk (below_step (by repeat (first | (with_reducible first | exact HB.out | apply below_alloc | apply pw_below_drewN | apply below_drew1) | exact HB.out)) hb); clear HO_4; clear HB; have HO_4 := n0_; have HB := n1_; clear n0_ n1_; (try clear hb); (try clear hb2); (try clear hk); (try clear hi)))
             go_ret2
             exact ⟨_, by first | rfl | (simp [errW_none, errW_some] <;> rfl) | (simp [*, errW_none, errW_some] <;> rfl), by first | exact Kd.R_nil _ _ _ _ _ | exact Kd.N_nil _ _ _ _ _ | exact Kd.V_nil _ _ _ _ _ | exact Kd.Q_nil _ _ _ _ _ | exact Kd.S_nil _ _ _ _ _, by repeat (first | (with_reducible first | exact HB.out | apply below_alloc | apply pw_below_drewN | apply below_drew1) | exact HB.out)⟩
         · replace c6 := Bool.eq_false_iff.mpr c6
           subst c6
           have H1 : (some (([] : List Int), false)) = some (r1, r2) := by rw [if_neg (show ¬ (false = true) by decide)] at H; exact H
           clear H
           have H := H1
           clear H1
           simp only [Option.some.injEq, Prod.mk.injEq] at H
           obtain ⟨rfl, rfl⟩ := H
           have p578 : 0 ≤ (x11_1 : Int) := of_decide_eq_true (by first | (with_reducible assumption) | assumption)
           have q578 : x11_1 < (l0.length : Int) := of_decide_eq_true (by first | (with_reducible assumption) | assumption)
           obtain ⟨ad578, e578, hx578_0⟩ := Kd.at_string HR0.out x11_1 p578 q578
           cases e578
           replace hx578_0 := (HB.out.cell (World.block_lt_of_cell? w _ hx578_0)).trans hx578_0
           replace p578 := eq_true p578
           replace q578 := eq_true q578
           go_wp2_with (first | ((with_reducible refine gate_callee (f := 97) rfl ?_); refine goesL_ (some 17) rfl rfl Tryz.func97 (by kernel_rfl) rfl #[.string (rdOf ByteArray.empty l0 x11_1)] rfl (by (try simp only [List.map_toArray, List.map_cons, List.map_nil]); first | done | rfl | (simp only [List.length_drop, List.length_take]; rfl)) ?_; (with_reducible refine (spec_Dec.calls k1 (rdOf ByteArray.empty l0 x11_1) t579 false _ A5.out).mono ?_); rintro e w' ⟨rfl, ⟨nd, rfl⟩⟩; refine ⟨_, rfl, ?_⟩))
           go_ret2
           exact ⟨_, by first | rfl | (simp [errW_none, errW_some] <;> rfl) | (simp [*, errW_none, errW_some] <;> rfl), by first | exact Kd.R_nil _ _ _ _ _ | exact Kd.N_nil _ _ _ _ _ | exact Kd.V_nil _ _ _ _ _ | exact Kd.Q_nil _ _ _ _ _ | exact Kd.S_nil _ _ _ _ _, by repeat (first | (with_reducible first | exact HB.out | apply below_alloc | apply pw_below_drewN | apply below_drew1) | exact HB.out)⟩
       · rw [if_neg c4] at H
         exact absurd H (by simp)
     · rw [if_neg c3] at H
       exact absurd H (by simp)
   · rw [if_neg c2] at H
     have c2b0 : decide (x11_1 < (l0.length : Int)) = false := decide_eq_false c2
     clear c2
     simp only [Option.some.injEq, Prod.mk.injEq] at H
     obtain ⟨rfl, rfl⟩ := H
     go_wp2
     go_ret2
     exact ⟨_, by first | rfl | (simp [errW_none, errW_some] <;> rfl) | (simp [*, errW_none, errW_some] <;> rfl), by (with_reducible repeat (first | apply Kd.R_alloc | apply Kd.R_drewN | apply Kd.R_drew)); exact HO_4.out, by repeat (first | (with_reducible first | exact HB.out | apply below_alloc | apply pw_below_drewN | apply below_drew1) | exact HB.out)⟩
def spec_sized.f (a0_0 : ByteArray) (l0_1 : List Int) (l0_2 : List ByteArray) (a1 : Int) (a2 : Int) : Option (Bool) := if (l0_1.length : Int) = a1 then (some ((l0_2.length : Int) == a2)) else (some false)
set_option maxHeartbeats 8000000 in
set_option maxRecDepth 100000 in
theorem spec_sized.calls (a0_0 : ByteArray) (A0_1 : Option Addr) (c0_1 : Nat) (l0_1 : List Int) (A0_2 : Option Addr) (c0_2 : Nat) (l0_2 : List ByteArray) (a1 : Int) (a2 : Int) (r : Bool) (w : World) (hr0_1 : Kd.C (Kd.int .u64) w A0_1 l0_1.length l0_1) (hc0_1 : l0_1.length ≤ c0_1) (hr0_2 : Kd.C Kd.string w A0_2 l0_2.length l0_2) (hc0_2 : l0_2.length ≤ c0_2) (h : spec_sized.f a0_0 l0_1 l0_2 a1 a2 = some r) :
 Calls Tryz.prog 100 #[.agg #[.string a0_0, .slice A0_1 l0_1.length c0_1, .slice A0_2 l0_2.length c0_2], .int .i64 a1, .int .i64 a2] w fun e w' => e = .returned (.bool r) ∧ Below w.heap.size w w' := by
 have hu48 := Tryz.underlying48
 have HR0_1 := Aside0.mk hr0_1
 have HC0_1 := Aside0.mk hc0_1
 clear hr0_1 hc0_1
 have HR0_2 := Aside0.mk hr0_2
 have HC0_2 := Aside0.mk hc0_2
 clear hr0_2 hc0_2
 have HB := Aside0.mk (Below.refl w.heap.size w)
 have H : (if (l0_1.length : Int) = a1 then (some ((l0_2.length : Int) == a2)) else (some false)) = some r := h
 clear h
 by_cases c4 : (l0_1.length : Int) = a1
 · rw [if_pos c4] at H
   have c4b0 : ((l0_1.length : Int) == a1) = true := beq_iff_eq.mpr c4
   have c4b1 : ((l0_1.length : Int) != a1) = false := bne_eq_false_iff_eq.mpr c4
   clear c4
   obtain rfl := Option.some.inj H
   go_enter Tryz.func100, Tryz.ntmps100
   go_wp2_with (first | ((with_reducible refine gate_dst (N := 3) rfl ?_); (try (refine gate_guard (by rfl) ?_; dsimp only)); refine box_event ?hg (N := 3) ?hd (cs := #[.string a0_0, .slice A0_1 l0_1.length c0_1, .slice A0_2 l0_2.length c0_2]) (t := 48) ?hr ?_; (case hd => rfl); (case hg => rfl); (case hr => first | (go_simp; done) | (go_simp; rfl)); intro gb585 hg w5 hbox hb; have n0_ := Aside0.mk (below_step (by repeat (first | (with_reducible first | exact HB.out | apply below_alloc | apply pw_below_drewN | apply below_drew1) | exact HB.out)) hb); have n1_ := Aside0.mk (hbox); have n2_ := Aside0.mk ((by rw [hg]; exact (below_size (by repeat (first | (with_reducible first | exact HB.out | apply below_alloc | apply pw_below_drewN | apply below_drew1) | exact HB.out))) : w.heap.size ≤ gb585)); have n3_ := Aside0.mk ((by rw [hg]; exact (below_size (by repeat (first | (with_reducible first | exact HB.out | apply below_alloc | apply pw_below_drewN | apply below_drew1) | exact HB.out))) : w.heap.size ≤ gb585)); clear HB; have HB := n0_; have BK585 := n1_; have GW585 := n2_; have GE585 := n3_; clear n0_ n1_ n2_ n3_; clear hb hbox hg; have hcz6_0 : w5.cell? ⟨gb585, 0, none⟩ = some (.string a0_0) := (blk_cell BK585.out 0).trans rfl; have hcz6_1 : w5.cell? ⟨gb585, 1, none⟩ = some (.slice A0_1 l0_1.length c0_1) := (blk_cell BK585.out 1).trans rfl; have hcz6_2 : w5.cell? ⟨gb585, 2, none⟩ = some (.slice A0_2 l0_2.length c0_2) := (blk_cell BK585.out 2).trans rfl; have hfz6_0 := blk_frozen BK585.out 0; have hfz6_1 := blk_frozen BK585.out 1; have hfz6_2 := blk_frozen BK585.out 2))
   go_ret
   exact ⟨by first | rfl | (simp [errW_none, errW_some] <;> rfl) | (simp [*, errW_none, errW_some] <;> rfl), by repeat (first | (with_reducible first | exact HB.out | apply below_alloc | apply pw_below_drewN | apply below_drew1 | refine below_set ?_ GE585.out) | exact HB.out)⟩
 · rw [if_neg c4] at H
   have c4b0 : ((l0_1.length : Int) == a1) = false := beq_eq_false_iff_ne.mpr c4
   have c4b1 : ((l0_1.length : Int) != a1) = true := bne_iff_ne.mpr c4
   obtain rfl := Option.some.inj H
   go_enter Tryz.func100, Tryz.ntmps100
   go_wp2_with (first | ((with_reducible refine gate_dst (N := 3) rfl ?_); (try (refine gate_guard (by rfl) ?_; dsimp only)); refine box_event ?hg (N := 3) ?hd (cs := #[.string a0_0, .slice A0_1 l0_1.length c0_1, .slice A0_2 l0_2.length c0_2]) (t := 48) ?hr ?_; (case hd => rfl); (case hg => rfl); (case hr => first | (go_simp; done) | (go_simp; rfl)); intro gb585 hg w7 hbox hb; have n0_ := Aside0.mk (below_step (by repeat (first | (with_reducible first | exact HB.out | apply below_alloc | apply pw_below_drewN | apply below_drew1) | exact HB.out)) hb); have n1_ := Aside0.mk (hbox); have n2_ := Aside0.mk ((by rw [hg]; exact (below_size (by repeat (first | (with_reducible first | exact HB.out | apply below_alloc | apply pw_below_drewN | apply below_drew1) | exact HB.out))) : w.heap.size ≤ gb585)); have n3_ := Aside0.mk ((by rw [hg]; exact (below_size (by repeat (first | (with_reducible first | exact HB.out | apply below_alloc | apply pw_below_drewN | apply below_drew1) | exact HB.out))) : w.heap.size ≤ gb585)); clear HB; have HB := n0_; have BK585 := n1_; have GW585 := n2_; have GE585 := n3_; clear n0_ n1_ n2_ n3_; clear hb hbox hg; have hcz8_0 : w7.cell? ⟨gb585, 0, none⟩ = some (.string a0_0) := (blk_cell BK585.out 0).trans rfl; have hcz8_1 : w7.cell? ⟨gb585, 1, none⟩ = some (.slice A0_1 l0_1.length c0_1) := (blk_cell BK585.out 1).trans rfl; have hcz8_2 : w7.cell? ⟨gb585, 2, none⟩ = some (.slice A0_2 l0_2.length c0_2) := (blk_cell BK585.out 2).trans rfl; have hfz8_0 := blk_frozen BK585.out 0; have hfz8_1 := blk_frozen BK585.out 1; have hfz8_2 := blk_frozen BK585.out 2))
   go_ret
   exact ⟨by first | rfl | (simp [errW_none, errW_some] <;> rfl) | (simp [*, errW_none, errW_some] <;> rfl), by repeat (first | (with_reducible first | exact HB.out | apply below_alloc | apply pw_below_drewN | apply below_drew1 | refine below_set ?_ GE585.out) | exact HB.out)⟩
def spec_Join.l0 : Nat → ByteArray → ByteArray → List ByteArray → Int → Int → Option (ByteArray)
 | 0, _, _, _, _, _ => none
 | k + 1, x1, x5, x8, x9, x10 => if x10 < x9 then (if 0 ≤ x10 then (if x10 < (x8.length : Int) then (if x10 > 0 then (if x5.size + x1.size ≤ 9223372036854775807 then (if (x5 ++ x1).size + (rdOf ByteArray.empty x8 x10).size ≤ 9223372036854775807 then (spec_Join.l0 k x1 ((x5 ++ x1) ++ (rdOf ByteArray.empty x8 x10)) x8 x9 (wrap64 (x10 + 1))) else (none)) else (none)) else (if x5.size + (rdOf ByteArray.empty x8 x10).size ≤ 9223372036854775807 then (spec_Join.l0 k x1 (x5 ++ (rdOf ByteArray.empty x8 x10)) x8 x9 (wrap64 (x10 + 1))) else (none))) else (none)) else (none)) else (some x5)
def spec_Join.f (k : Nat) (l0 : List ByteArray) (a1 : ByteArray) : Option (ByteArray) := spec_Join.l0 k a1 (⟨#[]⟩ : ByteArray) l0 (l0.length : Int) 0
set_option maxHeartbeats 8000000 in
set_option maxRecDepth 100000 in
theorem spec_Join.calls (k : Nat) (A0 : Option Addr) (c0 : Nat) (l0 : List ByteArray) (a1 : ByteArray) (r : ByteArray) (w : World) (hr0 : Kd.C Kd.string w A0 l0.length l0) (hc0 : l0.length ≤ c0) (h : spec_Join.f k l0 a1 = some r) :
 Calls Tryz.prog 130 #[.slice A0 l0.length c0, .string a1] w fun e w' => e = .returned (.string r) ∧ Drawn0 w w' := by
 have HR0 := Aside0.mk hr0
 have HC0 := Aside0.mk hc0
 clear hr0 hc0
 have H : (spec_Join.l0 k a1 (⟨#[]⟩ : ByteArray) l0 (l0.length : Int) 0) = some r := h
 clear h
 have H' := Aside0.mk H
 clear H
 go_enter Tryz.func130, Tryz.ntmps130
 go_wp2
 go_loopg [5, 10] k (fun kq v5 v10 w' => ∃ (x5_1 : ByteArray) (x10_1 : Int), v5 = .string x5_1 ∧ v10 = .int .i64 x10_1 ∧ Aside0 (spec_Join.l0 kq a1 x5_1 l0 (l0.length : Int) x10_1 = some r) ∧ Aside0 (kq ≤ k) ∧ Drawn0 w w')
 case atStart => exact ⟨((⟨#[]⟩ : ByteArray)), (0), (by first | rfl | (simp; done) | (simp [*]; done)), (by first | rfl | (simp; done) | (simp [*]; done)), H', ⟨Nat.le_refl _⟩, by repeat (first | exact Drawn0.refl _ | apply Drawn0.step)⟩
 case round =>
  clear H'
  try clear c1
  try clear p2
  obtain ⟨x5_1, x10_1, rfl, rfl, HA, HK1, ⟨m1, rfl⟩⟩ := hrel
  cases gk with
  | zero => exact absurd HA.out (by simp [spec_Join.l0])
  | succ k1 =>
   have H := HA.out
   clear HA
   simp only [spec_Join.l0] at H
   by_cases c3 : x10_1 < (l0.length : Int)
   · rw [if_pos c3] at H
     have c3b0 : decide (x10_1 < (l0.length : Int)) = true := decide_eq_true c3
     clear c3
     by_cases c4 : 0 ≤ x10_1
     · rw [if_pos c4] at H
       have c4b0 : decide (0 ≤ x10_1) = true := decide_eq_true c4
       clear c4
       by_cases c5 : x10_1 < (l0.length : Int)
       · rw [if_pos c5] at H
         have c5b0 : decide (x10_1 < (l0.length : Int)) = true := decide_eq_true c5
         clear c5
         by_cases c6 : x10_1 > 0
         · rw [if_pos c6] at H
           have c6b0 : decide (0 < x10_1) = true := decide_eq_true c6
           clear c6
           by_cases c7 : x5_1.size + a1.size ≤ 9223372036854775807
           · rw [if_pos c7] at H
             have c7b0 := eq_true c7
             have c7b1 : decide (x5_1.size + a1.size ≤ 9223372036854775807) = true := decide_eq_true c7
             try have c7b2 : (9223372036854775807 < x5_1.size + a1.size) = False := eq_false (Nat.not_lt.2 c7)
             by_cases c8 : (x5_1 ++ a1).size + (rdOf ByteArray.empty l0 x10_1).size ≤ 9223372036854775807
             · rw [if_pos c8] at H
               have c8b0 := eq_true c8
               have c8b1 : decide ((x5_1 ++ a1).size + (rdOf ByteArray.empty l0 x10_1).size ≤ 9223372036854775807) = true := decide_eq_true c8
               try have c8b2 : (9223372036854775807 < (x5_1 ++ a1).size + (rdOf ByteArray.empty l0 x10_1).size) = False := eq_false (Nat.not_lt.2 c8)
               have c8b3 : (9223372036854775807 < x5_1.size + a1.size + (rdOf ByteArray.empty l0 x10_1).size) = False := by have h_ := c8b2; simp only [ByteArray.size_append] at h_; exact h_
               have H' := Aside0.mk H
               clear H
               have p586 : 0 ≤ (x10_1 : Int) := of_decide_eq_true (by first | (with_reducible assumption) | assumption)
               have q586 : x10_1 < (l0.length : Int) := of_decide_eq_true (by first | (with_reducible assumption) | assumption)
               obtain ⟨ad586, e586, hx586_0⟩ := Kd.at_string HR0.out x10_1 p586 q586
               cases e586
               replace p586 := eq_true p586
               replace q586 := eq_true q586
               go_wp2
               go_roundg k1
               case measure => have := HK1.out; omega
               case rel => exact ⟨((x5_1 ++ a1) ++ (rdOf ByteArray.empty l0 x10_1)), (wrap64 (x10_1 + 1)), (by first | rfl | (simp; done) | (simp [*]; done)), (by first | rfl | (simp; done) | (simp [*]; done)), H', ⟨by have := HK1.out; omega⟩, by repeat (first | exact Drawn0.refl _ | apply Drawn0.step)⟩
             · rw [if_neg c8] at H
               exact absurd H (by simp)
           · rw [if_neg c7] at H
             exact absurd H (by simp)
         · rw [if_neg c6] at H
           have c6b0 : decide (0 < x10_1) = false := decide_eq_false c6
           clear c6
           by_cases c9 : x5_1.size + (rdOf ByteArray.empty l0 x10_1).size ≤ 9223372036854775807
           · rw [if_pos c9] at H
             have c9b0 := eq_true c9
             have c9b1 : decide (x5_1.size + (rdOf ByteArray.empty l0 x10_1).size ≤ 9223372036854775807) = true := decide_eq_true c9
             try have c9b2 : (9223372036854775807 < x5_1.size + (rdOf ByteArray.empty l0 x10_1).size) = False := eq_false (Nat.not_lt.2 c9)
             have H' := Aside0.mk H
             clear H
             have p586 : 0 ≤ (x10_1 : Int) := of_decide_eq_true (by first | (with_reducible assumption) | assumption)
             have q586 : x10_1 < (l0.length : Int) := of_decide_eq_true (by first | (with_reducible assumption) | assumption)
             obtain ⟨ad586, e586, hx586_0⟩ := Kd.at_string HR0.out x10_1 p586 q586
             cases e586
             replace p586 := eq_true p586
             replace q586 := eq_true q586
             go_wp2
             go_roundg k1
             case measure => have := HK1.out; omega
             case rel => exact ⟨(x5_1 ++ (rdOf ByteArray.empty l0 x10_1)), (wrap64 (x10_1 + 1)), (by first | rfl | (simp; done) | (simp [*]; done)), (by first | rfl | (simp; done) | (simp [*]; done)), H', ⟨by have := HK1.out; omega⟩, by repeat (first | exact Drawn0.refl _ | apply Drawn0.step)⟩
           · rw [if_neg c9] at H
             exact absurd H (by simp)
       · rw [if_neg c5] at H
         exact absurd H (by simp)
     · rw [if_neg c4] at H
       exact absurd H (by simp)
   · rw [if_neg c3] at H
     have c3b0 : decide (x10_1 < (l0.length : Int)) = false := decide_eq_false c3
     clear c3
     obtain rfl := Option.some.inj H
     go_wp2
     go_ret
     exact ⟨by first | rfl | (simp; done) | (simp [*]; done) | (simp; cases a0.toList <;> rfl), by repeat (first | exact Drawn0.refl _ | apply Drawn0.step)⟩
def spec_numbers.l0 : Nat → ByteArray → List ByteArray → List Int → Int → Int → Option (ByteArray)
 | 0, _, _, _, _, _ => none
 | k + 1, x1, x5, x8, x9, x10 => if x10 < x9 then (if 0 ≤ x10 then (if x10 < (x8.length : Int) then ((spec_Text.f k (rd x8 x10)).bind fun t588 => (if x5.length < 8796093022208 then (spec_numbers.l0 k x1 (x5 ++ [t588]) x8 x9 (wrap64 (x10 + 1))) else (none))) else (none)) else (none)) else ((spec_Join.f k x5 x1).bind fun t592 => (some t592))
def spec_numbers.f (k : Nat) (l0 : List Int) (a1 : ByteArray) : Option (ByteArray) := spec_numbers.l0 k a1 ([] : List ByteArray) l0 (l0.length : Int) 0
set_option maxHeartbeats 8000000 in
set_option maxRecDepth 100000 in
theorem spec_numbers.calls (k : Nat) (A0 : Option Addr) (c0 : Nat) (l0 : List Int) (a1 : ByteArray) (r : ByteArray) (w : World) (hr0 : Kd.C (Kd.int .u64) w A0 l0.length l0) (hc0 : l0.length ≤ c0) (h : spec_numbers.f k l0 a1 = some r) :
 Calls Tryz.prog 115 #[.slice A0 l0.length c0, .string a1] w fun e w' => e = .returned (.string r) ∧ Below w.heap.size w w' := by
 have HR0 := Aside0.mk hr0
 have HC0 := Aside0.mk hc0
 clear hr0 hc0
 have HB := Aside0.mk (Below.refl w.heap.size w)
 have H : (spec_numbers.l0 k a1 ([] : List ByteArray) l0 (l0.length : Int) 0) = some r := h
 clear h
 have H' := Aside0.mk H
 clear H
 go_enter Tryz.func115, Tryz.ntmps115
 go_wp2
 go_loopg [5, 10] k (fun kq v5 v10 w' => ∃ (x5_1 : List ByteArray) (x10_1 : Int), v10 = .int .i64 x10_1 ∧ Aside0 (spec_numbers.l0 kq a1 x5_1 l0 (l0.length : Int) x10_1 = some r) ∧ Aside0 (kq ≤ k) ∧ Aside0 (Kd.R Kd.string 9 w' w.heap.size (fun _ => True) v5 x5_1) ∧ Aside0 (Below w.heap.size w w'))
 case atStart => exact ⟨(([] : List ByteArray)), (0), (by first | rfl | (simp; done) | (simp [*]; done)), H', ⟨Nat.le_refl _⟩, ⟨by first | exact Kd.R_nil _ _ _ _ _ | exact Kd.N_nil _ _ _ _ _ | exact Kd.V_nil _ _ _ _ _ | exact Kd.Q_nil _ _ _ _ _ | exact Kd.S_nil _ _ _ _ _⟩, ⟨by repeat (first | (with_reducible first | exact HB.out | apply below_alloc | apply pw_below_drewN | apply below_drew1) | exact HB.out)⟩⟩
 case round =>
  clear H'
  try clear c1
  try clear p2
  obtain ⟨x5_1, x10_1, rfl, HA, HK1, HO_5, HB⟩ := hrel
  cases gk with
  | zero => exact absurd HA.out (by simp [spec_numbers.l0])
  | succ k1 =>
   have H := HA.out
   clear HA
   simp only [spec_numbers.l0] at H
   by_cases c3 : x10_1 < (l0.length : Int)
   · rw [if_pos c3] at H
     have c3b0 : decide (x10_1 < (l0.length : Int)) = true := decide_eq_true c3
     clear c3
     by_cases c4 : 0 ≤ x10_1
     · rw [if_pos c4] at H
       have c4b0 : decide (0 ≤ x10_1) = true := decide_eq_true c4
       clear c4
       by_cases c5 : x10_1 < (l0.length : Int)
       · rw [if_pos c5] at H
         have c5b0 : decide (x10_1 < (l0.length : Int)) = true := decide_eq_true c5
         clear c5
         replace H := Option.bind_eq_some_iff.mp H
         obtain ⟨t588, A60, H⟩ := H
         replace H : (if x5_1.length < 8796093022208 then (spec_numbers.l0 k1 a1 (x5_1 ++ [t588]) l0 (l0.length : Int) (wrap64 (x10_1 + 1))) else (none)) = some r := H
         have A6 := Aside0.mk A60
         clear A60
         by_cases c7 : x5_1.length < 8796093022208
         · rw [if_pos c7] at H
           have LMc7 := Aside0.mk c7
           clear c7
           obtain ⟨y589, hy589⟩ : ∃ y_ : List ByteArray, y_ = (x5_1 ++ [t588]) := ⟨_, rfl⟩
           replace H : (spec_numbers.l0 k1 a1 y589 l0 (l0.length : Int) (wrap64 (x10_1 + 1))) = some r := by first | (rw [hy589]; with_reducible exact H) | (have H2_ := (Option.bind_some _ _).symm.trans H; rw [hy589]; with_reducible exact H2_) | (have H2_ := (Option.bind_some _ _).symm.trans H; with_reducible exact H2_) | with_reducible exact H | (rw [hy589]; exact H) | exact H
           have Ny589 := Aside0.mk hy589
           clear hy589
           have H' := Aside0.mk H
           clear H
           have p587 : 0 ≤ (x10_1 : Int) := of_decide_eq_true (by first | (with_reducible assumption) | assumption)
           have q587 : x10_1 < (l0.length : Int) := of_decide_eq_true (by first | (with_reducible assumption) | assumption)
           obtain ⟨ad587, e587, hx587_0⟩ := Kd.at_int HR0.out x10_1 p587 q587
           cases e587
           replace hx587_0 := (HB.out.cell (World.block_lt_of_cell? w _ hx587_0)).trans hx587_0
           replace p587 := eq_true p587
           replace q587 := eq_true q587
           go_wp2_with (first | ((with_reducible refine gate_callee (f := 86) rfl ?_); refine goesL_ (some 16) rfl rfl Tryz.func86 (by kernel_rfl) rfl #[.int .u64 (rd l0 x10_1)] rfl (by (try simp only [List.map_toArray, List.map_cons, List.map_nil]); first | done | rfl | (simp only [List.length_drop, List.length_take]; rfl)) ?_; (with_reducible refine (spec_Text.calls k1 (rd l0 x10_1) t588 _ A6.out).mono ?_); rintro e w8 ⟨rfl, hb⟩; refine ⟨_, rfl, ?_⟩; have n0_ := Aside0.mk (Kd.R_below (by (with_reducible repeat (first | apply Kd.R_alloc | apply Kd.R_drewN | apply Kd.R_drew)); exact HO_5.out) hb); have n1_ := Aside0.mk (below_step (by repeat (first | (with_reducible first | exact HB.out | apply below_alloc | apply pw_below_drewN | apply below_drew1) | exact HB.out)) hb); clear HO_5; clear HB; have HO_5 := n0_; have HB := n1_; clear n0_ n1_; (try clear hb); (try clear hb2); (try clear hk); (try clear hi)) | ((with_reducible refine gate_builtin (b := .append) (xs := #[.tmp 14, .tmp 17]) rfl ?_); at_builtin; refine Kd.R_append Kd.string (w0 := w) w.heap.size rfl (.tmp 14) (.tmp 17) 42 9 (.string ⟨#[]⟩) 16 rfl Tryz.underlying42 info9 rfl (by decide) (by omega) u5 x5_1 t588 [.string t588] (fun _ => True) (fun _ => False) rfl rfl ?aP (fun _ hk => hk.elim) ?aF ?aO ?aB ?aS ?aL ?_; (case aP => exact rfl); (case aB => exact (by repeat (first | (with_reducible first | exact HB.out | apply below_alloc | apply pw_below_drewN | apply below_drew1) | exact HB.out))); (case aF => exact (fun _ _ => trivial)); (case aO => exact (by (with_reducible repeat (first | apply Kd.R_alloc | apply Kd.R_drewN | apply Kd.R_drew)); exact HO_5.out)); (case aS => exact (below_size (by repeat (first | (with_reducible first | exact HB.out | apply below_alloc | apply pw_below_drewN | apply below_drew1) | exact HB.out)))); (case aL => have := LMc7.out; omega); intro v590 w9 ho hb hg hat; rw [← Ny589.out] at ho; have n0_ := Aside0.mk (hb); have n1_ := Aside0.mk (ho); clear HB; clear HO_5; have HB := n0_; have HO591 := n1_; clear n0_ n1_; clear ho hb hg hat))
           go_roundg k1
           case measure => have := HK1.out; omega
           case rel => exact ⟨(y589), (wrap64 (x10_1 + 1)), (by first | rfl | (simp; done) | (simp [*]; done)), H', ⟨by have := HK1.out; omega⟩, ⟨by (with_reducible repeat (first | apply Kd.R_alloc | apply Kd.R_drewN | apply Kd.R_drew)); exact HO591.out⟩, ⟨by repeat (first | (with_reducible first | exact HB.out | apply below_alloc | apply pw_below_drewN | apply below_drew1) | exact HB.out)⟩⟩
         · rw [if_neg c7] at H
           exact absurd H (by simp)
       · rw [if_neg c5] at H
         exact absurd H (by simp)
     · rw [if_neg c4] at H
       exact absurd H (by simp)
   · rw [if_neg c3] at H
     have c3b0 : decide (x10_1 < (l0.length : Int)) = false := decide_eq_false c3
     clear c3
     replace H := Option.bind_eq_some_iff.mp H
     obtain ⟨t592, A100, H⟩ := H
     replace H : (some t592) = some r := H
     have A10 := Aside0.mk A100
     clear A100
     obtain rfl := Option.some.inj H
     obtain ⟨Ao11, co11, eo11⟩ := Kd.R_slice HO_5.out
     subst eo11
     go_wp2_with (first | ((with_reducible refine gate_callee (f := 130) rfl ?_); refine goesL_ (some 22) rfl rfl Tryz.func130 (by kernel_rfl) rfl #[.slice Ao11 x5_1.length co11, .string a1] rfl (by (try simp only [List.map_toArray, List.map_cons, List.map_nil]); first | done | rfl | (simp only [List.length_drop, List.length_take]; rfl)) ?_; (with_reducible refine (spec_Join.calls k1 _ _ x5_1 a1 t592 _ ?side1 ?side2 A10.out).mono ?_); (case side1 => repeat (first | exact (Kd.R_reads' HO_5.out).2.2 | (with_reducible refine Kd.C_alloc ?_ _) | (with_reducible refine Kd.C_drewN ?_ _) | (with_reducible refine Kd.C_drew ?_))); (case side2 => exact (Kd.R_reads' HO_5.out).2.1); rintro e w' ⟨rfl, ⟨nd, rfl⟩⟩; refine ⟨_, rfl, ?_⟩))
     go_ret
     exact ⟨by first | rfl | (simp [errW_none, errW_some] <;> rfl) | (simp [*, errW_none, errW_some] <;> rfl), by repeat (first | (with_reducible first | exact HB.out | apply below_alloc | apply pw_below_drewN | apply below_drew1) | exact HB.out)⟩
def spec_StatmPrint.f (k : Nat) (l0 : List (S48)) : Option (ByteArray × Int) := if (l0.length : Int) = 1 then (if 0 < (l0.length : Int) then (if ((rd_T48 l0 0).f0).toList = ([] : List UInt8) then ((spec_sized.f ((rd_T48 l0 0).f0) ((rd_T48 l0 0).f1) ((rd_T48 l0 0).f2) 7 0).bind fun t595 => (if t595 = true then ((spec_numbers.f k ((rd_T48 l0 0).f1) (⟨#[32]⟩ : ByteArray)).bind fun t597 => (if t597.size + 1 ≤ 9223372036854775807 then (some (t597 ++ (⟨#[10]⟩ : ByteArray), 1)) else (none))) else (some ((⟨#[]⟩ : ByteArray), 2)))) else (some ((⟨#[]⟩ : ByteArray), 2))) else (none)) else (some ((⟨#[]⟩ : ByteArray), 2))
set_option maxHeartbeats 8000000 in
set_option maxRecDepth 100000 in
theorem spec_StatmPrint.calls (k : Nat) (A0 : Option Addr) (c0 : Nat) (l0 : List (S48)) (r1 : ByteArray) (r2 : Int) (w : World) (hr0 : Kd.C k48 w A0 l0.length l0) (hc0 : l0.length ≤ c0) (h : spec_StatmPrint.f k l0 = some (r1, r2)) :
 Calls Tryz.prog 58 #[.slice A0 l0.length c0] w fun e w' => e = .returned (.tuple #[.string r1, .int .i64 r2]) ∧ Below w.heap.size w w' := by
 have hu48 := Tryz.underlying48
 have HR0 := Aside0.mk hr0
 have HC0 := Aside0.mk hc0
 clear hr0 hc0
 have HB := Aside0.mk (Below.refl w.heap.size w)
 have H : (if (l0.length : Int) = 1 then (if 0 < (l0.length : Int) then (if ((rd_T48 l0 0).f0).toList = ([] : List UInt8) then ((spec_sized.f ((rd_T48 l0 0).f0) ((rd_T48 l0 0).f1) ((rd_T48 l0 0).f2) 7 0).bind fun t595 => (if t595 = true then ((spec_numbers.f k ((rd_T48 l0 0).f1) (⟨#[32]⟩ : ByteArray)).bind fun t597 => (if t597.size + 1 ≤ 9223372036854775807 then (some (t597 ++ (⟨#[10]⟩ : ByteArray), 1)) else (none))) else (some ((⟨#[]⟩ : ByteArray), 2)))) else (some ((⟨#[]⟩ : ByteArray), 2))) else (none)) else (some ((⟨#[]⟩ : ByteArray), 2))) = some (r1, r2) := h
 clear h
 by_cases c2 : (l0.length : Int) = 1
 · rw [if_pos c2] at H
   have c2b0 : ((l0.length : Int) == 1) = true := beq_iff_eq.mpr c2
   have c2b1 : ((l0.length : Int) != 1) = false := bne_eq_false_iff_eq.mpr c2
   clear c2
   by_cases c3 : 0 < (l0.length : Int)
   · rw [if_pos c3] at H
     have c3b0 : decide (0 < (l0.length : Int)) = true := decide_eq_true c3
     have c3b1 : decide (0 < l0.length) = true := decide_eq_true (by omega)
     clear c3
     by_cases c4 : ((rd_T48 l0 0).f0).toList = ([] : List UInt8)
     · rw [if_pos c4] at H
       have c4b0 : (((rd_T48 l0 0).f0).toList == ([] : List UInt8)) = true := beq_iff_eq.mpr c4
       have c4b1 : (((rd_T48 l0 0).f0).toList != ([] : List UInt8)) = false := bne_eq_false_iff_eq.mpr c4
       clear c4
       replace H := Option.bind_eq_some_iff.mp H
       obtain ⟨t595, A50, H⟩ := H
       replace H : (if t595 = true then ((spec_numbers.f k ((rd_T48 l0 0).f1) (⟨#[32]⟩ : ByteArray)).bind fun t597 => (if t597.size + 1 ≤ 9223372036854775807 then (some (t597 ++ (⟨#[10]⟩ : ByteArray), 1)) else (none))) else (some ((⟨#[]⟩ : ByteArray), 2))) = some (r1, r2) := H
       have A5 := Aside0.mk A50
       clear A50
       by_cases c6 : t595 = true
       · subst c6
         have H1 : ((spec_numbers.f k ((rd_T48 l0 0).f1) (⟨#[32]⟩ : ByteArray)).bind fun t597 => (if t597.size + 1 ≤ 9223372036854775807 then (some (t597 ++ (⟨#[10]⟩ : ByteArray), 1)) else (none))) = some (r1, r2) := by rw [if_pos rfl] at H; exact H
         clear H
         have H := H1
         clear H1
         replace H := Option.bind_eq_some_iff.mp H
         obtain ⟨t597, A70, H⟩ := H
         replace H : (if t597.size + 1 ≤ 9223372036854775807 then (some (t597 ++ (⟨#[10]⟩ : ByteArray), 1)) else (none)) = some (r1, r2) := H
         have A7 := Aside0.mk A70
         clear A70
         by_cases c8 : t597.size + 1 ≤ 9223372036854775807
         · rw [if_pos c8] at H
           have c8b0 := eq_true c8
           have c8b1 : decide (t597.size + 1 ≤ 9223372036854775807) = true := decide_eq_true c8
           try have c8b2 : (9223372036854775807 < t597.size + 1) = False := eq_false (Nat.not_lt.2 c8)
           simp only [Option.some.injEq, Prod.mk.injEq] at H
           obtain ⟨rfl, rfl⟩ := H
           have p593 : 0 ≤ (0 : Int) := (by omega)
           have q593 : 0 < (l0.length : Int) := of_decide_eq_true (by first | (with_reducible assumption) | assumption)
           obtain ⟨ad593, A593_1, c593_1, A593_2, c593_2, e593, hx593_0, hx593_1, hx593_2, hl593_1, hi593_1, hl593_2, hi593_2⟩ := at_T48 HR0.out 0 p593 q593
           cases e593
           have qi593 : (0 < l0.length) = True := eq_true (by omega)
           (try rw [show ((0 : Int)).toNat = 0 from rfl] at hx593_0)
           (try rw [show 0 * 3 = 0 from rfl] at hx593_0)
           (try rw [Addr.add_zero'] at hx593_0)
           (try rw [show ((0 : Int)).toNat = 0 from rfl] at hx593_1)
           (try rw [show 0 * 3 = 0 from rfl] at hx593_1)
           (try rw [Addr.add_zero'] at hx593_1)
           (try rw [show ((0 : Int)).toNat = 0 from rfl] at hx593_2)
           (try rw [show 0 * 3 = 0 from rfl] at hx593_2)
           (try rw [Addr.add_zero'] at hx593_2)
           have HR593_1 := Aside0.mk hi593_1
           have HC593_1 := Aside0.mk hl593_1
           clear hi593_1 hl593_1
           have HR593_2 := Aside0.mk hi593_2
           have HC593_2 := Aside0.mk hl593_2
           clear hi593_2 hl593_2
           replace p593 := eq_true p593
           replace q593 := eq_true q593
           have p594 : 0 ≤ (0 : Int) := (by omega)
           have q594 : 0 < (l0.length : Int) := of_decide_eq_true (by first | (with_reducible assumption) | assumption)
           obtain ⟨ad594, A594_1, c594_1, A594_2, c594_2, e594, hx594_0, hx594_1, hx594_2, hl594_1, hi594_1, hl594_2, hi594_2⟩ := at_T48 HR0.out 0 p594 q594
           obtain rfl : ad593 = ad594 := (by injection e594)
           have qi594 : (0 < l0.length) = True := eq_true (by omega)
           (try rw [show ((0 : Int)).toNat = 0 from rfl] at hx594_0)
           (try rw [show 0 * 3 = 0 from rfl] at hx594_0)
           (try rw [Addr.add_zero'] at hx594_0)
           (try rw [show ((0 : Int)).toNat = 0 from rfl] at hx594_1)
           (try rw [show 0 * 3 = 0 from rfl] at hx594_1)
           (try rw [Addr.add_zero'] at hx594_1)
           (try rw [show ((0 : Int)).toNat = 0 from rfl] at hx594_2)
           (try rw [show 0 * 3 = 0 from rfl] at hx594_2)
           (try rw [Addr.add_zero'] at hx594_2)
           have HR594_1 := Aside0.mk hi594_1
           have HC594_1 := Aside0.mk hl594_1
           clear hi594_1 hl594_1
           have HR594_2 := Aside0.mk hi594_2
           have HC594_2 := Aside0.mk hl594_2
           clear hi594_2 hl594_2
           replace p594 := eq_true p594
           replace q594 := eq_true q594
           have ea_ := Option.some.inj (hx593_1.symm.trans hx594_1)
           injection ea_ with ea_ en_ ec_
           subst ea_
           subst ec_
           clear en_
           have ea_ := Option.some.inj (hx593_2.symm.trans hx594_2)
           injection ea_ with ea_ en_ ec_
           subst ea_
           subst ec_
           clear en_
           go_enter Tryz.func58, Tryz.ntmps58
           go_wp2_with (first | (go_at_call 100; (with_reducible refine (spec_sized.calls ((rd_T48 l0 0).f0) _ _ ((rd_T48 l0 0).f1) _ _ ((rd_T48 l0 0).f2) 7 0 true _ ?side1 ?side2 ?side3 ?side4 A5.out).mono ?_); (case side1 => repeat (first | exact HR594_1.out | (with_reducible refine Kd.C_alloc ?_ _) | (with_reducible refine Kd.C_drewN ?_ _) | (with_reducible refine Kd.C_drew ?_))); (case side2 => exact HC594_1.out); (case side3 => repeat (first | exact HR594_2.out | (with_reducible refine Kd.C_alloc ?_ _) | (with_reducible refine Kd.C_drewN ?_ _) | (with_reducible refine Kd.C_drew ?_))); (case side4 => exact HC594_2.out); rintro e w9 ⟨rfl, hb⟩; have n0_ := Aside0.mk (below_step (by repeat (first | (with_reducible first | exact HB.out | apply below_alloc | apply pw_below_drewN | apply below_drew1) | exact HB.out)) hb); clear HB; have HB := n0_; clear n0_; (try clear hb); (try clear hb2); (try clear hk); (try clear hi); have p596 : 0 ≤ (0 : Int) := (by omega); have q596 : 0 < (l0.length : Int) := of_decide_eq_true (by first | (with_reducible assumption) | assumption); obtain ⟨ad596, A596_1, c596_1, A596_2, c596_2, e596, hx596_0, hx596_1, hx596_2, hl596_1, hi596_1, hl596_2, hi596_2⟩ := at_T48 HR0.out 0 p596 q596; obtain rfl : ad593 = ad596 := (by injection e596); have qi596 : (0 < l0.length) = True := eq_true (by omega); (try rw [show ((0 : Int)).toNat = 0 from rfl] at hx596_0); (try rw [show 0 * 3 = 0 from rfl] at hx596_0); (try rw [Addr.add_zero'] at hx596_0); (try rw [show ((0 : Int)).toNat = 0 from rfl] at hx596_1); (try rw [show 0 * 3 = 0 from rfl] at hx596_1); (try rw [Addr.add_zero'] at hx596_1); (try rw [show ((0 : Int)).toNat = 0 from rfl] at hx596_2); (try rw [show 0 * 3 = 0 from rfl] at hx596_2); (try rw [Addr.add_zero'] at hx596_2); replace hx596_0 := (HB.out.cell (World.block_lt_of_cell? w _ hx596_0)).trans hx596_0; replace hx596_1 := (HB.out.cell (World.block_lt_of_cell? w _ hx596_1)).trans hx596_1; replace hx596_2 := (HB.out.cell (World.block_lt_of_cell? w _ hx596_2)).trans hx596_2; have HR596_1 := Aside0.mk hi596_1; have HC596_1 := Aside0.mk hl596_1; clear hi596_1 hl596_1; have HR596_2 := Aside0.mk hi596_2; have HC596_2 := Aside0.mk hl596_2; clear hi596_2 hl596_2; replace p596 := eq_true p596; replace q596 := eq_true q596) | ((with_reducible refine gate_callee (f := 115) rfl ?_); refine goesL_ (some 25) rfl rfl Tryz.func115 (by kernel_rfl) rfl #[.slice A596_1 ((rd_T48 l0 0).f1).length c596_1, .string (⟨#[32]⟩ : ByteArray)] rfl (by (try simp only [List.map_toArray, List.map_cons, List.map_nil]); first | done | rfl | (simp only [List.length_drop, List.length_take]; rfl)) ?_; (with_reducible refine (spec_numbers.calls k _ _ ((rd_T48 l0 0).f1) (⟨#[32]⟩ : ByteArray) t597 _ ?side1 ?side2 A7.out).mono ?_); (case side1 => repeat (first | exact (Kd.C_below HR596_1.out HB.out) | (with_reducible refine Kd.C_alloc ?_ _) | (with_reducible refine Kd.C_drewN ?_ _) | (with_reducible refine Kd.C_drew ?_))); (case side2 => exact HC596_1.out); rintro e w10 ⟨rfl, hb⟩; refine ⟨_, rfl, ?_⟩; have n0_ := Aside0.mk (below_step (by repeat (first | (with_reducible first | exact HB.out | apply below_alloc | apply pw_below_drewN | apply below_drew1) | exact HB.out)) hb); clear HB; have HB := n0_; clear n0_; (try clear hb); (try clear hb2); (try clear hk); (try clear hi)))
           go_ret2
           exact ⟨by first | rfl | (simp [errW_none, errW_some] <;> rfl) | (simp [*, errW_none, errW_some] <;> rfl), by repeat (first | (with_reducible first | exact HB.out | apply below_alloc | apply pw_below_drewN | apply below_drew1) | exact HB.out)⟩
         · rw [if_neg c8] at H
           exact absurd H (by simp)
       · replace c6 := Bool.eq_false_iff.mpr c6
         subst c6
         have H1 : (some ((⟨#[]⟩ : ByteArray), 2)) = some (r1, r2) := by rw [if_neg (show ¬ (false = true) by decide)] at H; exact H
         clear H
         have H := H1
         clear H1
         simp only [Option.some.injEq, Prod.mk.injEq] at H
         obtain ⟨rfl, rfl⟩ := H
         have p593 : 0 ≤ (0 : Int) := (by omega)
         have q593 : 0 < (l0.length : Int) := of_decide_eq_true (by first | (with_reducible assumption) | assumption)
         obtain ⟨ad593, A593_1, c593_1, A593_2, c593_2, e593, hx593_0, hx593_1, hx593_2, hl593_1, hi593_1, hl593_2, hi593_2⟩ := at_T48 HR0.out 0 p593 q593
         cases e593
         have qi593 : (0 < l0.length) = True := eq_true (by omega)
         (try rw [show ((0 : Int)).toNat = 0 from rfl] at hx593_0)
         (try rw [show 0 * 3 = 0 from rfl] at hx593_0)
         (try rw [Addr.add_zero'] at hx593_0)
         (try rw [show ((0 : Int)).toNat = 0 from rfl] at hx593_1)
         (try rw [show 0 * 3 = 0 from rfl] at hx593_1)
         (try rw [Addr.add_zero'] at hx593_1)
         (try rw [show ((0 : Int)).toNat = 0 from rfl] at hx593_2)
         (try rw [show 0 * 3 = 0 from rfl] at hx593_2)
         (try rw [Addr.add_zero'] at hx593_2)
         have HR593_1 := Aside0.mk hi593_1
         have HC593_1 := Aside0.mk hl593_1
         clear hi593_1 hl593_1
         have HR593_2 := Aside0.mk hi593_2
         have HC593_2 := Aside0.mk hl593_2
         clear hi593_2 hl593_2
         replace p593 := eq_true p593
         replace q593 := eq_true q593
         have p594 : 0 ≤ (0 : Int) := (by omega)
         have q594 : 0 < (l0.length : Int) := of_decide_eq_true (by first | (with_reducible assumption) | assumption)
         obtain ⟨ad594, A594_1, c594_1, A594_2, c594_2, e594, hx594_0, hx594_1, hx594_2, hl594_1, hi594_1, hl594_2, hi594_2⟩ := at_T48 HR0.out 0 p594 q594
         obtain rfl : ad593 = ad594 := (by injection e594)
         have qi594 : (0 < l0.length) = True := eq_true (by omega)
         (try rw [show ((0 : Int)).toNat = 0 from rfl] at hx594_0)
         (try rw [show 0 * 3 = 0 from rfl] at hx594_0)
         (try rw [Addr.add_zero'] at hx594_0)
         (try rw [show ((0 : Int)).toNat = 0 from rfl] at hx594_1)
         (try rw [show 0 * 3 = 0 from rfl] at hx594_1)
         (try rw [Addr.add_zero'] at hx594_1)
         (try rw [show ((0 : Int)).toNat = 0 from rfl] at hx594_2)
         (try rw [show 0 * 3 = 0 from rfl] at hx594_2)
         (try rw [Addr.add_zero'] at hx594_2)
         have HR594_1 := Aside0.mk hi594_1
         have HC594_1 := Aside0.mk hl594_1
         clear hi594_1 hl594_1
         have HR594_2 := Aside0.mk hi594_2
         have HC594_2 := Aside0.mk hl594_2
         clear hi594_2 hl594_2
         replace p594 := eq_true p594
         replace q594 := eq_true q594
         have ea_ := Option.some.inj (hx593_1.symm.trans hx594_1)
         injection ea_ with ea_ en_ ec_
         subst ea_
         subst ec_
         clear en_
         have ea_ := Option.some.inj (hx593_2.symm.trans hx594_2)
         injection ea_ with ea_ en_ ec_
         subst ea_
         subst ec_
         clear en_
         go_enter Tryz.func58, Tryz.ntmps58
         go_wp2_with (first | (go_at_call 100; (with_reducible refine (spec_sized.calls ((rd_T48 l0 0).f0) _ _ ((rd_T48 l0 0).f1) _ _ ((rd_T48 l0 0).f2) 7 0 false _ ?side1 ?side2 ?side3 ?side4 A5.out).mono ?_); (case side1 => repeat (first | exact HR594_1.out | (with_reducible refine Kd.C_alloc ?_ _) | (with_reducible refine Kd.C_drewN ?_ _) | (with_reducible refine Kd.C_drew ?_))); (case side2 => exact HC594_1.out); (case side3 => repeat (first | exact HR594_2.out | (with_reducible refine Kd.C_alloc ?_ _) | (with_reducible refine Kd.C_drewN ?_ _) | (with_reducible refine Kd.C_drew ?_))); (case side4 => exact HC594_2.out); rintro e w11 ⟨rfl, hb⟩; have n0_ := Aside0.mk (below_step (by repeat (first | (with_reducible first | exact HB.out | apply below_alloc | apply pw_below_drewN | apply below_drew1) | exact HB.out)) hb); clear HB; have HB := n0_; clear n0_; (try clear hb); (try clear hb2); (try clear hk); (try clear hi)))
         go_ret2
         exact ⟨by first | rfl | (simp [errW_none, errW_some] <;> rfl) | (simp [*, errW_none, errW_some] <;> rfl), by repeat (first | (with_reducible first | exact HB.out | apply below_alloc | apply pw_below_drewN | apply below_drew1) | exact HB.out)⟩
     · rw [if_neg c4] at H
       have c4b0 : (((rd_T48 l0 0).f0).toList == ([] : List UInt8)) = false := beq_eq_false_iff_ne.mpr c4
       have c4b1 : (((rd_T48 l0 0).f0).toList != ([] : List UInt8)) = true := bne_iff_ne.mpr c4
       simp only [Option.some.injEq, Prod.mk.injEq] at H
       obtain ⟨rfl, rfl⟩ := H
       have p593 : 0 ≤ (0 : Int) := (by omega)
       have q593 : 0 < (l0.length : Int) := of_decide_eq_true (by first | (with_reducible assumption) | assumption)
       obtain ⟨ad593, A593_1, c593_1, A593_2, c593_2, e593, hx593_0, hx593_1, hx593_2, hl593_1, hi593_1, hl593_2, hi593_2⟩ := at_T48 HR0.out 0 p593 q593
       cases e593
       have qi593 : (0 < l0.length) = True := eq_true (by omega)
       (try rw [show ((0 : Int)).toNat = 0 from rfl] at hx593_0)
       (try rw [show 0 * 3 = 0 from rfl] at hx593_0)
       (try rw [Addr.add_zero'] at hx593_0)
       (try rw [show ((0 : Int)).toNat = 0 from rfl] at hx593_1)
       (try rw [show 0 * 3 = 0 from rfl] at hx593_1)
       (try rw [Addr.add_zero'] at hx593_1)
       (try rw [show ((0 : Int)).toNat = 0 from rfl] at hx593_2)
       (try rw [show 0 * 3 = 0 from rfl] at hx593_2)
       (try rw [Addr.add_zero'] at hx593_2)
       have HR593_1 := Aside0.mk hi593_1
       have HC593_1 := Aside0.mk hl593_1
       clear hi593_1 hl593_1
       have HR593_2 := Aside0.mk hi593_2
       have HC593_2 := Aside0.mk hl593_2
       clear hi593_2 hl593_2
       replace p593 := eq_true p593
       replace q593 := eq_true q593
       go_enter Tryz.func58, Tryz.ntmps58
       go_wp2
       go_ret2
       exact ⟨by first | rfl | (simp [errW_none, errW_some] <;> rfl) | (simp [*, errW_none, errW_some] <;> rfl), by repeat (first | (with_reducible first | exact HB.out | apply below_alloc | apply pw_below_drewN | apply below_drew1) | exact HB.out)⟩
   · rw [if_neg c3] at H
     exact absurd H (by simp)
 · rw [if_neg c2] at H
   have c2b0 : ((l0.length : Int) == 1) = false := beq_eq_false_iff_ne.mpr c2
   have c2b1 : ((l0.length : Int) != 1) = true := bne_iff_ne.mpr c2
   simp only [Option.some.injEq, Prod.mk.injEq] at H
   obtain ⟨rfl, rfl⟩ := H
   go_enter Tryz.func58, Tryz.ntmps58
   go_wp2
   go_ret2
   exact ⟨by first | rfl | (simp [errW_none, errW_some] <;> rfl) | (simp [*, errW_none, errW_some] <;> rfl), by repeat (first | (with_reducible first | exact HB.out | apply below_alloc | apply pw_below_drewN | apply below_drew1) | exact HB.out)⟩
def spec_Plain.l0 : Nat → ByteArray → Int → Int → Option (Bool)
 | 0, _, _, _ => none
 | k + 1, x0, x6, x7 => if x7 < x6 then (if 0 ≤ x7 then (if x7 < (x0.size : Int) then (if (bt x0 x7) > 126 then (some false) else (if (bt x0 x7) < 32 then (if (bt x0 x7) = 10 then (spec_Plain.l0 k x0 x6 (wrap64 (x7 + 1))) else (if (bt x0 x7) = 9 then (spec_Plain.l0 k x0 x6 (wrap64 (x7 + 1))) else (some false))) else (spec_Plain.l0 k x0 x6 (wrap64 (x7 + 1))))) else (none)) else (none)) else (some true)
def spec_Plain.f (k : Nat) (a0 : ByteArray) : Option (Bool) := spec_Plain.l0 k a0 (a0.size : Int) 0
set_option maxHeartbeats 8000000 in
set_option maxRecDepth 100000 in
theorem spec_Plain.calls (k : Nat) (a0 : ByteArray) (r : Bool) (w : World) (h : spec_Plain.f k a0 = some r) :
 Calls Tryz.prog 66 #[.string a0] w fun e w' => e = .returned (.bool r) ∧ Drawn0 w w' := by
 have H : (spec_Plain.l0 k a0 (a0.size : Int) 0) = some r := h
 clear h
 have H' := Aside0.mk H
 clear H
 go_enter Tryz.func66, Tryz.ntmps66
 go_wp2
 go_loopg [7] k (fun kq v7 w' => ∃ (x7_1 : Int), v7 = .int .i64 x7_1 ∧ Aside0 (spec_Plain.l0 kq a0 (a0.size : Int) x7_1 = some r) ∧ Aside0 (kq ≤ k) ∧ Drawn0 w w')
 case atStart => exact ⟨(0), (by first | rfl | (simp; done) | (simp [*]; done)), H', ⟨Nat.le_refl _⟩, by repeat (first | exact Drawn0.refl _ | apply Drawn0.step)⟩
 case round =>
  clear H'
  obtain ⟨x7_1, rfl, HA, HK1, ⟨m1, rfl⟩⟩ := hrel
  cases gk with
  | zero => exact absurd HA.out (by simp [spec_Plain.l0])
  | succ k1 =>
   have H := HA.out
   clear HA
   simp only [spec_Plain.l0] at H
   by_cases c2 : x7_1 < (a0.size : Int)
   · rw [if_pos c2] at H
     have c2b0 : decide (x7_1 < (a0.size : Int)) = true := decide_eq_true c2
     clear c2
     by_cases c3 : 0 ≤ x7_1
     · rw [if_pos c3] at H
       have c3b0 : decide (0 ≤ x7_1) = true := decide_eq_true c3
       clear c3
       by_cases c4 : x7_1 < (a0.size : Int)
       · rw [if_pos c4] at H
         have c4b0 : decide (x7_1 < (a0.size : Int)) = true := decide_eq_true c4
         clear c4
         by_cases c6 : (bt a0 x7_1) > 126
         · rw [if_pos c6] at H
           have c6b0 : decide (126 < (bt a0 x7_1)) = true := decide_eq_true c6
           clear c6
           obtain rfl := Option.some.inj H
           have p5 : 0 ≤ (x7_1 : Int) := of_decide_eq_true (by first | (with_reducible assumption) | assumption)
           have q5 : x7_1 < (a0.size : Int) := of_decide_eq_true (by first | (with_reducible assumption) | assumption)
           have hx5 := bt_at a0 x7_1
           replace p5 := eq_true p5
           replace q5 := eq_true q5
           go_wp2
           go_ret
           exact ⟨by first | rfl | (simp; done) | (simp [*]; done) | (simp; cases a0.toList <;> rfl), by repeat (first | exact Drawn0.refl _ | apply Drawn0.step)⟩
         · rw [if_neg c6] at H
           have c6b0 : decide (126 < (bt a0 x7_1)) = false := decide_eq_false c6
           clear c6
           by_cases c7 : (bt a0 x7_1) < 32
           · rw [if_pos c7] at H
             have c7b0 : decide ((bt a0 x7_1) < 32) = true := decide_eq_true c7
             clear c7
             by_cases c8 : (bt a0 x7_1) = 10
             · rw [if_pos c8] at H
               have c8b0 : ((bt a0 x7_1) == 10) = true := beq_iff_eq.mpr c8
               have c8b1 : ((bt a0 x7_1) != 10) = false := bne_eq_false_iff_eq.mpr c8
               clear c8
               have H' := Aside0.mk H
               clear H
               have p5 : 0 ≤ (x7_1 : Int) := of_decide_eq_true (by first | (with_reducible assumption) | assumption)
               have q5 : x7_1 < (a0.size : Int) := of_decide_eq_true (by first | (with_reducible assumption) | assumption)
               have hx5 := bt_at a0 x7_1
               replace p5 := eq_true p5
               replace q5 := eq_true q5
               go_wp2
               go_roundg k1
               case measure => have := HK1.out; omega
               case rel => exact ⟨(wrap64 (x7_1 + 1)), (by first | rfl | (simp; done) | (simp [*]; done)), H', ⟨by have := HK1.out; omega⟩, by repeat (first | exact Drawn0.refl _ | apply Drawn0.step)⟩
             · rw [if_neg c8] at H
               have c8b0 : ((bt a0 x7_1) == 10) = false := beq_eq_false_iff_ne.mpr c8
               have c8b1 : ((bt a0 x7_1) != 10) = true := bne_iff_ne.mpr c8
               by_cases c9 : (bt a0 x7_1) = 9
               · rw [if_pos c9] at H
                 have c9b0 : ((bt a0 x7_1) == 9) = true := beq_iff_eq.mpr c9
                 have c9b1 : ((bt a0 x7_1) != 9) = false := bne_eq_false_iff_eq.mpr c9
                 clear c9
                 have H' := Aside0.mk H
                 clear H
                 have p5 : 0 ≤ (x7_1 : Int) := of_decide_eq_true (by first | (with_reducible assumption) | assumption)
                 have q5 : x7_1 < (a0.size : Int) := of_decide_eq_true (by first | (with_reducible assumption) | assumption)
                 have hx5 := bt_at a0 x7_1
                 replace p5 := eq_true p5
                 replace q5 := eq_true q5
                 go_wp2
                 go_roundg k1
                 case measure => have := HK1.out; omega
                 case rel => exact ⟨(wrap64 (x7_1 + 1)), (by first | rfl | (simp; done) | (simp [*]; done)), H', ⟨by have := HK1.out; omega⟩, by repeat (first | exact Drawn0.refl _ | apply Drawn0.step)⟩
               · rw [if_neg c9] at H
                 have c9b0 : ((bt a0 x7_1) == 9) = false := beq_eq_false_iff_ne.mpr c9
                 have c9b1 : ((bt a0 x7_1) != 9) = true := bne_iff_ne.mpr c9
                 obtain rfl := Option.some.inj H
                 have p5 : 0 ≤ (x7_1 : Int) := of_decide_eq_true (by first | (with_reducible assumption) | assumption)
                 have q5 : x7_1 < (a0.size : Int) := of_decide_eq_true (by first | (with_reducible assumption) | assumption)
                 have hx5 := bt_at a0 x7_1
                 replace p5 := eq_true p5
                 replace q5 := eq_true q5
                 go_wp2
                 go_ret
                 exact ⟨by first | rfl | (simp; done) | (simp [*]; done) | (simp; cases a0.toList <;> rfl), by repeat (first | exact Drawn0.refl _ | apply Drawn0.step)⟩
           · rw [if_neg c7] at H
             have c7b0 : decide ((bt a0 x7_1) < 32) = false := decide_eq_false c7
             clear c7
             have H' := Aside0.mk H
             clear H
             have p5 : 0 ≤ (x7_1 : Int) := of_decide_eq_true (by first | (with_reducible assumption) | assumption)
             have q5 : x7_1 < (a0.size : Int) := of_decide_eq_true (by first | (with_reducible assumption) | assumption)
             have hx5 := bt_at a0 x7_1
             replace p5 := eq_true p5
             replace q5 := eq_true q5
             go_wp2
             go_roundg k1
             case measure => have := HK1.out; omega
             case rel => exact ⟨(wrap64 (x7_1 + 1)), (by first | rfl | (simp; done) | (simp [*]; done)), H', ⟨by have := HK1.out; omega⟩, by repeat (first | exact Drawn0.refl _ | apply Drawn0.step)⟩
       · rw [if_neg c4] at H
         exact absurd H (by simp)
     · rw [if_neg c3] at H
       exact absurd H (by simp)
   · rw [if_neg c2] at H
     have c2b0 : decide (x7_1 < (a0.size : Int)) = false := decide_eq_false c2
     clear c2
     obtain rfl := Option.some.inj H
     go_wp2
     go_ret
     exact ⟨by first | rfl | (simp; done) | (simp [*]; done) | (simp; cases a0.toList <;> rfl), by repeat (first | exact Drawn0.refl _ | apply Drawn0.step)⟩
end Go.Proofs.YtabfehcpcjcomaaGreatDoor.QA0
namespace Go.Proofs.YtabfehcpcjcomaaGreatDoor.QA0
open Go.RowKit Go.Proofs.YtabfehcpcjcomaaGreatDoorW.PrintWords Go.Proofs.YtabfehcpcjcomaaGreatDoorW.PrintLast Go.Proofs.YtabfehcpcjcomaaGreatDoorW.PrintMore
attribute [local go_sem] max2_int min2_int max_two min_two max_three min_three max_four min_four
set_option linter.unusedVariables false
set_option linter.unusedSimpArgs false
def spec_loose.l0 : Nat → List ByteArray → List ByteArray → Int → Int → Option (Bool)
 | 0, _, _, _, _ => none
 | k + 1, x5, x6, x18, x19 => if x19 < x18 then (if 0 ≤ x19 then (if x19 < (x5.length : Int) then ((spec_Fields.f k (rdOf ByteArray.empty x5 x19)).bind fun t605 => ((spec_Join.f k t605 (⟨#[32]⟩ : ByteArray)).bind fun t608 => (if x19 < (x6.length : Int) then ((spec_Fields.f k (rdOf ByteArray.empty x6 x19)).bind fun t610 => ((spec_Join.f k t610 (⟨#[32]⟩ : ByteArray)).bind fun t613 => (if t608.toList = t613.toList then (spec_loose.l0 k x5 x6 x18 (wrap64 (x19 + 1))) else (some false)))) else (none)))) else (none)) else (none)) else (some true)
def spec_loose.f (k : Nat) (a0 : ByteArray) (a1 : ByteArray) : Option (Bool) := (spec_Lines.f k a0).bind fun t598 => ((spec_Lines.f k a1).bind fun t601 => (if (t598.length : Int) = (t601.length : Int) then (spec_loose.l0 k t598 t601 (t598.length : Int) 0) else (some false)))
def spec_loose.T7 : Bool × List (List Nat × List Nat) := (true, [([], []), ([], []), ([0, 1], [0, 1]), ([2], [2]), ([3], [3]), ([4, 4], [4]), ([], []), ([], []), ([6, 7], [6, 7]), ([8], [8]), ([9, 5], [9]), ([10, 10], [10]), ([5, 11], [5, 11])])
def spec_loose.B7 : List Nat := [0, 0, 3, 7, 15, 31, 0, 0, 192, 448, 1023, 2047, 4095]
theorem spec_loose.tab7 : rtab .any (opsOf Tryz.f98 7) = spec_loose.T7 := by kernel_rfl
theorem spec_loose.bits7 : waitsOk spec_loose.T7.2 spec_loose.B7 = true := by kernel_rfl
set_option maxHeartbeats 8000000 in
set_option maxRecDepth 100000 in
theorem spec_loose.calls (k : Nat) (a0 : ByteArray) (a1 : ByteArray) (r : Bool) (w : World) (h : spec_loose.f k a0 a1 = some r) :
 Calls Tryz.prog 98 #[.string a0, .string a1] w fun e w' => e = .returned (.bool r) ∧ Below w.heap.size w w' := by
 have HB := Aside0.mk (Below.refl w.heap.size w)
 have H : ((spec_Lines.f k a0).bind fun t598 => ((spec_Lines.f k a1).bind fun t601 => (if (t598.length : Int) = (t601.length : Int) then (spec_loose.l0 k t598 t601 (t598.length : Int) 0) else (some false)))) = some r := h
 clear h
 replace H := Option.bind_eq_some_iff.mp H
 obtain ⟨t598, A30, H⟩ := H
 replace H : ((spec_Lines.f k a1).bind fun t601 => (if (t598.length : Int) = (t601.length : Int) then (spec_loose.l0 k t598 t601 (t598.length : Int) 0) else (some false))) = some r := H
 have A3 := Aside0.mk A30
 clear A30
 replace H := Option.bind_eq_some_iff.mp H
 obtain ⟨t601, A40, H⟩ := H
 replace H : (if (t598.length : Int) = (t601.length : Int) then (spec_loose.l0 k t598 t601 (t598.length : Int) 0) else (some false)) = some r := H
 have A4 := Aside0.mk A40
 clear A40
 by_cases c5 : (t598.length : Int) = (t601.length : Int)
 · rw [if_pos c5] at H
   have c5b0 : ((t598.length : Int) == (t601.length : Int)) = true := beq_iff_eq.mpr c5
   have c5b1 : ((t598.length : Int) != (t601.length : Int)) = false := bne_eq_false_iff_eq.mpr c5
   have c5b2 : (t598.length == t601.length) = true := by first | simpa using c5 | (simp at c5 ⊢; omega)
   clear c5
   have H' := Aside0.mk H
   clear H
   go_enter Tryz.func98, Tryz.ntmps98
   go_wp2_with (first | ((with_reducible refine gate_callee (f := 47) rfl ?_); refine goesL_ (some 9) rfl rfl Tryz.func47 (by kernel_rfl) rfl #[.string a0] rfl (by (try simp only [List.map_toArray, List.map_cons, List.map_nil]); first | done | rfl | (simp only [List.length_drop, List.length_take]; rfl)) ?_; (with_reducible refine (spec_Lines.calls k a0 t598 _ A3.out).mono ?_); rintro e w6 ⟨v599, rfl, ho0, hb⟩; refine ⟨_, rfl, ?_⟩; have n0_ := Aside0.mk (Kd.R_lower ho0 (below_size (by repeat (first | (with_reducible first | exact HB.out | apply below_alloc | apply pw_below_drewN | apply below_drew1) | exact HB.out)))); have n1_ := Aside0.mk (below_step (by repeat (first | (with_reducible first | exact HB.out | apply below_alloc | apply pw_below_drewN | apply below_drew1) | exact HB.out)) hb); clear HB; have HO600 := n0_; have HB := n1_; clear n0_ n1_; (try clear hb); (try clear hb2); (try clear hk); (try clear hi); (try clear ho0)) | ((with_reducible refine gate_callee (f := 47) rfl ?_); refine goesL_ (some 11) rfl rfl Tryz.func47 (by kernel_rfl) rfl #[.string a1] rfl (by (try simp only [List.map_toArray, List.map_cons, List.map_nil]); first | done | rfl | (simp only [List.length_drop, List.length_take]; rfl)) ?_; (with_reducible refine (spec_Lines.calls k a1 t601 _ A4.out).mono ?_); rintro e w7 ⟨v602, rfl, ho0, hb⟩; refine ⟨_, rfl, ?_⟩; have n0_ := Aside0.mk (Kd.R_elder' (by (with_reducible repeat (first | apply Kd.R_alloc | apply Kd.R_drewN | apply Kd.R_drew)); exact HO600.out) (Kd.R_base ho0) hb); have n1_ := Aside0.mk (Kd.R_lower (Kd.R_new' ho0 (Kd.R_lt (by (with_reducible repeat (first | apply Kd.R_alloc | apply Kd.R_drewN | apply Kd.R_drew)); exact HO600.out))) (below_size (by repeat (first | (with_reducible first | exact HB.out | apply below_alloc | apply pw_below_drewN | apply below_drew1) | exact HB.out)))); have n2_ := Aside0.mk (below_step (by repeat (first | (with_reducible first | exact HB.out | apply below_alloc | apply pw_below_drewN | apply below_drew1) | exact HB.out)) hb); clear HO600; clear HB; have HO600 := n0_; have HO603 := n1_; have HB := n2_; clear n0_ n1_ n2_; (try clear hb); (try clear hb2); (try clear hk); (try clear hi); (try clear ho0); obtain ⟨Ao8, co8, eo8⟩ := Kd.R_slice HO600.out; subst eo8; obtain ⟨Ao9, co9, eo9⟩ := Kd.R_slice HO603.out; subst eo9))
   go_loopg [19] k (fun kq v19 w' => ∃ (x19_1 : Int), v19 = .int .i64 x19_1 ∧ Aside0 (spec_loose.l0 kq t598 t601 (t598.length : Int) x19_1 = some r) ∧ Aside0 (kq ≤ k) ∧ Aside0 (Kd.R Kd.string 9 w' w.heap.size (fun k_ => some k_ ≠ ((.slice Ao9 t601.length co9) : Value).ownBlock) (.slice Ao8 t598.length co8) t598) ∧ Aside0 (Kd.R Kd.string 9 w' w.heap.size (fun k_ => some k_ ≠ ((.slice Ao8 t598.length co8) : Value).ownBlock) (.slice Ao9 t601.length co9) t601) ∧ Aside0 (Below w.heap.size w w'))
   case atStart => exact ⟨(0), (by first | rfl | (simp; done) | (simp [*]; done)), H', ⟨Nat.le_refl _⟩, ⟨by (with_reducible repeat (first | apply Kd.R_alloc | apply Kd.R_drewN | apply Kd.R_drew)); exact Kd.R_mono HO600.out (fun _ hk => hk.2)⟩, ⟨by (with_reducible repeat (first | apply Kd.R_alloc | apply Kd.R_drewN | apply Kd.R_drew)); exact Kd.R_mono HO603.out (fun _ hk => hk.2)⟩, ⟨by repeat (first | (with_reducible first | exact HB.out | apply below_alloc | apply pw_below_drewN | apply below_drew1) | exact HB.out)⟩⟩
   case round =>
    clear H'
    try clear p2
    try clear c4
    try clear c5
    try clear c5b0
    try clear c5b1
    try clear c5b2
    try clear c9
    obtain ⟨x19_1, rfl, HA, HK1, HO_5, HO_6, HB⟩ := hrel
    cases gk with
    | zero => exact absurd HA.out (by simp [spec_loose.l0])
    | succ k1 =>
     have H := HA.out
     clear HA
     simp only [spec_loose.l0] at H
     by_cases c10 : x19_1 < (t598.length : Int)
     · rw [if_pos c10] at H
       have c10b0 : decide (x19_1 < (t598.length : Int)) = true := decide_eq_true c10
       clear c10
       by_cases c11 : 0 ≤ x19_1
       · rw [if_pos c11] at H
         have c11b0 : decide (0 ≤ x19_1) = true := decide_eq_true c11
         clear c11
         by_cases c12 : x19_1 < (t598.length : Int)
         · rw [if_pos c12] at H
           have c12b0 : decide (x19_1 < (t598.length : Int)) = true := decide_eq_true c12
           clear c12
           replace H := Option.bind_eq_some_iff.mp H
           obtain ⟨t605, A130, H⟩ := H
           replace H : ((spec_Join.f k1 t605 (⟨#[32]⟩ : ByteArray)).bind fun t608 => (if x19_1 < (t601.length : Int) then ((spec_Fields.f k1 (rdOf ByteArray.empty t601 x19_1)).bind fun t610 => ((spec_Join.f k1 t610 (⟨#[32]⟩ : ByteArray)).bind fun t613 => (if t608.toList = t613.toList then (spec_loose.l0 k1 t598 t601 (t598.length : Int) (wrap64 (x19_1 + 1))) else (some false)))) else (none))) = some r := H
           have A13 := Aside0.mk A130
           clear A130
           replace H := Option.bind_eq_some_iff.mp H
           obtain ⟨t608, A140, H⟩ := H
           replace H : (if x19_1 < (t601.length : Int) then ((spec_Fields.f k1 (rdOf ByteArray.empty t601 x19_1)).bind fun t610 => ((spec_Join.f k1 t610 (⟨#[32]⟩ : ByteArray)).bind fun t613 => (if t608.toList = t613.toList then (spec_loose.l0 k1 t598 t601 (t598.length : Int) (wrap64 (x19_1 + 1))) else (some false)))) else (none)) = some r := H
           have A14 := Aside0.mk A140
           clear A140
           by_cases c15 : x19_1 < (t601.length : Int)
           · rw [if_pos c15] at H
             have c15b0 : decide (x19_1 < (t601.length : Int)) = true := decide_eq_true c15
             clear c15
             replace H := Option.bind_eq_some_iff.mp H
             obtain ⟨t610, A160, H⟩ := H
             replace H : ((spec_Join.f k1 t610 (⟨#[32]⟩ : ByteArray)).bind fun t613 => (if t608.toList = t613.toList then (spec_loose.l0 k1 t598 t601 (t598.length : Int) (wrap64 (x19_1 + 1))) else (some false))) = some r := H
             have A16 := Aside0.mk A160
             clear A160
             replace H := Option.bind_eq_some_iff.mp H
             obtain ⟨t613, A170, H⟩ := H
             replace H : (if t608.toList = t613.toList then (spec_loose.l0 k1 t598 t601 (t598.length : Int) (wrap64 (x19_1 + 1))) else (some false)) = some r := H
             have A17 := Aside0.mk A170
             clear A170
             by_cases c18 : t608.toList = t613.toList
             · rw [if_pos c18] at H
               have c18b0 : (t608.toList == t613.toList) = true := beq_iff_eq.mpr c18
               have c18b1 : (t608.toList != t613.toList) = false := bne_eq_false_iff_eq.mpr c18
               clear c18
               have H' := Aside0.mk H
               clear H
               try go_wp2
               have n0_ := Aside0.mk (Kd.R_drew HO_5.out)
               have n1_ := Aside0.mk (Kd.R_drew HO_6.out)
               have n2_ := Aside0.mk (below_drew1 HB.out)
               clear HO_5
               clear HO_6
               clear HB
               have HO_5 := n0_
               have HO_6 := n1_
               have HB := n2_
               clear n0_ n1_ n2_
               have p604 : 0 ≤ (x19_1 : Int) := of_decide_eq_true (by first | (with_reducible assumption) | assumption)
               have q604 : x19_1 < (t598.length : Int) := of_decide_eq_true (by first | (with_reducible assumption) | assumption)
               obtain ⟨ad604, e604, hx604_0⟩ := Kd.at_string (Kd.R_reads' HO_5.out).2.2 x19_1 p604 q604
               cases e604
               replace p604 := eq_true p604
               replace q604 := eq_true q604
               have p609 : 0 ≤ (x19_1 : Int) := of_decide_eq_true (by first | (with_reducible assumption) | assumption)
               have q609 : x19_1 < (t601.length : Int) := of_decide_eq_true (by first | (with_reducible assumption) | assumption)
               obtain ⟨ad609, e609, hx609_0⟩ := Kd.at_string (Kd.R_reads' HO_6.out).2.2 x19_1 p609 q609
               cases e609
               replace p609 := eq_true p609
               replace q609 := eq_true q609
               refine start_ (n := 13) (S := fun w' => w'.cell? (ad604.add (x19_1).toNat) = some (.string (rdOf ByteArray.empty t598 x19_1)) ∧ w'.cell? (ad609.add (x19_1).toNat) = some (.string (rdOf ByteArray.empty t601 x19_1))) (ds := []) #[false, false, false, false, false, false, false, false, false, false, false, false, false] (by kernel_rfl) rfl rfl ⟨hx604_0, hx609_0⟩ (fun hHeld => ?_); refine with_tabW spec_loose.tab7 spec_loose.bits7 (fun HT_ HW_ => ?_)
               generalize wr.drew = w19 at HO_5 HO_6 HB hx604_0 hx609_0 hHeld ⊢
               refine pure_ (i := 0) (N := some 22) (v := ?_) (a' := ?_) #[true, false, false, false, false, false, false, false, false, false, false, false, false] rfl rfl (any_of HT_.out (by kernel_rfl)) (fun _ _ _ h => h) (Or.inl ⟨by rfl, ?_⟩) ?_ ?_
               rotate_left
               · intro w'
                 go_simp
                 with_reducible rfl
               rotate_left
               · simp only [Act.put, List.setIfInBounds_toArray, List.set_cons_zero, List.set_cons_succ, i64_w, i32_w]
                 rfl
               refine pure_ (i := 1) (N := some 23) (v := ?_) (a' := ?_) #[true, true, false, false, false, false, false, false, false, false, false, false, false] rfl rfl (any_of HT_.out (by kernel_rfl)) (fun _ _ _ h => h) (Or.inl ⟨by rfl, ?_⟩) ?_ ?_
               rotate_left
               · intro w'
                 go_simp
                 with_reducible rfl
               rotate_left
               · simp only [Act.put, List.setIfInBounds_toArray, List.set_cons_zero, List.set_cons_succ, i64_w, i32_w]
                 rfl
               refine pure_ (i := 2) (N := some 24) (v := ?_) (a' := ?_) #[true, true, true, false, false, false, false, false, false, false, false, false, false] rfl rfl (any_of HT_.out (by kernel_rfl)) (fun _ _ _ h => h) (Or.inl ⟨by rfl, ?_⟩) ?_ ?_
               rotate_left
               · intro w'
                 go_simp
                 with_reducible rfl
               rotate_left
               · simp only [Act.put, List.setIfInBounds_toArray, List.set_cons_zero, List.set_cons_succ, i64_w, i32_w]
                 rfl
               refine pure_ (i := 6) (N := some 28) (v := ?_) (a' := ?_) #[true, true, true, false, false, false, true, false, false, false, false, false, false] rfl rfl (any_of HT_.out (by kernel_rfl)) (fun _ _ _ h => h) (Or.inl ⟨by rfl, ?_⟩) ?_ ?_
               rotate_left
               · intro w'
                 go_simp
                 with_reducible rfl
               rotate_left
               · simp only [Act.put, List.setIfInBounds_toArray, List.set_cons_zero, List.set_cons_succ, i64_w, i32_w]
                 rfl
               refine pure_ (i := 7) (N := some 29) (v := ?_) (a' := ?_) #[true, true, true, false, false, false, true, true, false, false, false, false, false] rfl rfl (any_of HT_.out (by kernel_rfl)) (fun _ _ _ h => h) (Or.inl ⟨by rfl, ?_⟩) ?_ ?_
               rotate_left
               · intro w'
                 go_simp
                 with_reducible rfl
               rotate_left
               · simp only [Act.put, List.setIfInBounds_toArray, List.set_cons_zero, List.set_cons_succ, i64_w, i32_w]
                 rfl
               refine pure_ (i := 8) (N := some 30) (v := ?_) (a' := ?_) #[true, true, true, false, false, false, true, true, true, false, false, false, false] rfl rfl (any_of HT_.out (by kernel_rfl)) (fun _ _ _ h => h) (Or.inl ⟨by rfl, ?_⟩) ?_ ?_
               rotate_left
               · intro w'
                 go_simp
                 with_reducible rfl
               rotate_left
               · simp only [Act.put, List.setIfInBounds_toArray, List.set_cons_zero, List.set_cons_succ, i64_w, i32_w]
                 rfl
               refine take_ (i := 3) (N := some 25) (v := ?_) (a' := ?_) #[true, true, true, true, false, false, true, true, true, false, false, false, false] rfl rfl (take_ofW HT_.out HW_.out (by kernel_rfl)) (fun _ _ _ h => h) (Or.inl ⟨by rfl, ?_⟩) hHeld ?_ ?_
               rotate_left
               · rintro w' ⟨s0, s1⟩
                 go_simp
                 with_reducible rfl
               rotate_left
               · simp only [Act.put, List.setIfInBounds_toArray, List.set_cons_zero, List.set_cons_succ, i64_w, i32_w]
                 rfl
               refine take_ (i := 9) (N := some 31) (v := ?_) (a' := ?_) #[true, true, true, true, false, false, true, true, true, true, false, false, false] rfl rfl (take_ofW HT_.out HW_.out (by kernel_rfl)) (fun _ _ _ h => h) (Or.inl ⟨by rfl, ?_⟩) hHeld ?_ ?_
               rotate_left
               · rintro w' ⟨s0, s1⟩
                 go_simp
                 with_reducible rfl
               rotate_left
               · simp only [Act.put, List.setIfInBounds_toArray, List.set_cons_zero, List.set_cons_succ, i64_w, i32_w]
                 rfl
               refine one_ (i := 4) (N := some 26) #[true, true, true, true, true, false, true, true, true, true, false, false, false] rfl rfl (one_of HT_.out (by kernel_rfl)) (by decide) (fun K hK => ?_)
               refine goes_ Tryz.func31 (by kernel_rfl) rfl #[.string (rdOf ByteArray.empty t598 x19_1)] (by rfl) rfl rfl (by (try simp only [List.map_toArray, List.map_cons, List.map_nil]); first | done | rfl | (simp only [List.length_drop, List.length_take]; rfl)) ?_
               with_reducible refine (spec_Fields.calls k1 (rdOf ByteArray.empty t598 x19_1) t605 _ A13.out).mono ?_
               rintro e w20 ⟨v606, rfl, ho0, hb⟩
               have HS0_ := (hb.cell (World.block_lt_of_cell? _ _ (hHeld.1))).trans (hHeld.1)
               have HS1_ := (hb.cell (World.block_lt_of_cell? _ _ (hHeld.2))).trans (hHeld.2)
               refine ⟨_, rfl, ?_⟩
               have n0_ := Aside0.mk (Kd.R_elder' (by (with_reducible repeat (first | apply Kd.R_alloc | apply Kd.R_drewN | apply Kd.R_drew)); exact HO_5.out) (Kd.R_base ho0) hb)
               have n1_ := Aside0.mk (Kd.R_elder' (by (with_reducible repeat (first | apply Kd.R_alloc | apply Kd.R_drewN | apply Kd.R_drew)); exact HO_6.out) (Kd.R_base ho0) hb)
               have n2_ := Aside0.mk (Kd.R_lower (Kd.R_new' (Kd.R_new' ho0 (Kd.R_lt (by (with_reducible repeat (first | apply Kd.R_alloc | apply Kd.R_drewN | apply Kd.R_drew)); exact HO_5.out))) (Kd.R_lt (by (with_reducible repeat (first | apply Kd.R_alloc | apply Kd.R_drewN | apply Kd.R_drew)); exact HO_6.out))) (below_size (by repeat (first | (with_reducible first | exact HB.out | apply below_alloc | apply pw_below_drewN | apply below_drew1) | exact HB.out))))
               have n3_ := Aside0.mk (below_step (by repeat (first | (with_reducible first | exact HB.out | apply below_alloc | apply pw_below_drewN | apply below_drew1) | exact HB.out)) hb)
               clear HO_5
               clear HO_6
               clear HB
               have HO_5 := n0_
               have HO_6 := n1_
               have HO607 := n2_
               have HB := n3_
               clear n0_ n1_ n2_ n3_
               (try clear hb)
               (try clear hb2)
               (try clear hk)
               (try clear hi)
               (try clear ho0)
               obtain ⟨Ao21, co21, eo21⟩ := Kd.R_slice HO607.out
               (first | subst eo21 | (injection eo21 with f1_ f2_ f3_; have f4_ := f1_.symm; have f5_ := f3_.symm; clear f1_ f2_ f3_; subst f4_; subst f5_))
               refine hK.out _ _ ⟨HS0_, HS1_⟩ (fun hHeld => ?_)
               clear hK K
               refine norm_ (a' := ?_) ?_ ?_
               rotate_left
               · show Act.put _ (some 26) _ = _
                 simp only [Act.put, List.setIfInBounds_toArray, List.set_cons_zero, List.set_cons_succ, i64_w, i32_w]
                 rfl
               refine one_ (i := 5) (N := some 27) #[true, true, true, true, true, true, true, true, true, true, false, false, false] rfl rfl (one_of HT_.out (by kernel_rfl)) (by decide) (fun K hK => ?_)
               refine goes_ Tryz.func130 (by kernel_rfl) rfl #[.slice Ao21 t605.length co21, .string (⟨#[32]⟩ : ByteArray)] (by rfl) rfl rfl (by (try simp only [List.map_toArray, List.map_cons, List.map_nil]); first | done | rfl | (simp only [List.length_drop, List.length_take]; rfl)) ?_
               with_reducible refine (spec_Join.calls k1 _ _ t605 (⟨#[32]⟩ : ByteArray) t608 _ ?side1 ?side2 A14.out).mono ?_
               (case side1 => repeat (first | exact (Kd.R_reads' HO607.out).2.2 | (with_reducible refine Kd.C_alloc ?_ _) | (with_reducible refine Kd.C_drewN ?_ _) | (with_reducible refine Kd.C_drew ?_)))
               (case side2 => exact (Kd.R_reads' HO607.out).2.1)
               rintro e w' ⟨rfl, ⟨nd, rfl⟩⟩
               refine ⟨_, rfl, ?_⟩
               refine hK.out _ _ ⟨hHeld.1, hHeld.2⟩ (fun hHeld => ?_)
               clear hK K
               refine norm_ (a' := ?_) ?_ ?_
               rotate_left
               · show Act.put _ (some 27) _ = _
                 simp only [Act.put, List.setIfInBounds_toArray, List.set_cons_zero, List.set_cons_succ, i64_w, i32_w]
                 rfl
               refine one_ (i := 10) (N := some 32) #[true, true, true, true, true, true, true, true, true, true, true, false, false] rfl rfl (one_of HT_.out (by kernel_rfl)) (by decide) (fun K hK => ?_)
               refine goes_ Tryz.func31 (by kernel_rfl) rfl #[.string (rdOf ByteArray.empty t601 x19_1)] (by rfl) rfl rfl (by (try simp only [List.map_toArray, List.map_cons, List.map_nil]); first | done | rfl | (simp only [List.length_drop, List.length_take]; rfl)) ?_
               with_reducible refine (spec_Fields.calls k1 (rdOf ByteArray.empty t601 x19_1) t610 _ A16.out).mono ?_
               rintro e w22 ⟨v611, rfl, ho0, hb⟩
               have HS0_ := (hb.cell (World.block_lt_of_cell? _ _ (hHeld.1))).trans (hHeld.1)
               have HS1_ := (hb.cell (World.block_lt_of_cell? _ _ (hHeld.2))).trans (hHeld.2)
               refine ⟨_, rfl, ?_⟩
               have n0_ := Aside0.mk (Kd.R_elder' (by (with_reducible repeat (first | apply Kd.R_alloc | apply Kd.R_drewN | apply Kd.R_drew)); exact HO_5.out) (Kd.R_base ho0) hb)
               have n1_ := Aside0.mk (Kd.R_elder' (by (with_reducible repeat (first | apply Kd.R_alloc | apply Kd.R_drewN | apply Kd.R_drew)); exact HO_6.out) (Kd.R_base ho0) hb)
               have n2_ := Aside0.mk (Kd.R_elder' (by (with_reducible repeat (first | apply Kd.R_alloc | apply Kd.R_drewN | apply Kd.R_drew)); exact HO607.out) (Kd.R_base ho0) hb)
               have n3_ := Aside0.mk (Kd.R_lower (Kd.R_new' (Kd.R_new' (Kd.R_new' ho0 (Kd.R_lt (by (with_reducible repeat (first | apply Kd.R_alloc | apply Kd.R_drewN | apply Kd.R_drew)); exact HO_5.out))) (Kd.R_lt (by (with_reducible repeat (first | apply Kd.R_alloc | apply Kd.R_drewN | apply Kd.R_drew)); exact HO_6.out))) (Kd.R_lt (by (with_reducible repeat (first | apply Kd.R_alloc | apply Kd.R_drewN | apply Kd.R_drew)); exact HO607.out))) (below_size (by repeat (first | (with_reducible first | exact HB.out | apply below_alloc | apply pw_below_drewN | apply below_drew1) | exact HB.out))))
               have n4_ := Aside0.mk (below_step (by repeat (first | (with_reducible first | exact HB.out | apply below_alloc | apply pw_below_drewN | apply below_drew1) | exact HB.out)) hb)
               clear HO_5
               clear HO_6
               clear HO607
               clear HB
               have HO_5 := n0_
               have HO_6 := n1_
               have HO607 := n2_
               have HO612 := n3_
               have HB := n4_
               clear n0_ n1_ n2_ n3_ n4_
               (try clear hb)
               (try clear hb2)
               (try clear hk)
               (try clear hi)
               (try clear ho0)
               obtain ⟨Ao23, co23, eo23⟩ := Kd.R_slice HO612.out
               (first | subst eo23 | (injection eo23 with f1_ f2_ f3_; have f4_ := f1_.symm; have f5_ := f3_.symm; clear f1_ f2_ f3_; subst f4_; subst f5_))
               refine hK.out _ _ ⟨HS0_, HS1_⟩ (fun hHeld => ?_)
               clear hK K
               refine norm_ (a' := ?_) ?_ ?_
               rotate_left
               · show Act.put _ (some 32) _ = _
                 simp only [Act.put, List.setIfInBounds_toArray, List.set_cons_zero, List.set_cons_succ, i64_w, i32_w]
                 rfl
               refine one_ (i := 11) (N := some 33) #[true, true, true, true, true, true, true, true, true, true, true, true, false] rfl rfl (one_of HT_.out (by kernel_rfl)) (by decide) (fun K hK => ?_)
               refine goes_ Tryz.func130 (by kernel_rfl) rfl #[.slice Ao23 t610.length co23, .string (⟨#[32]⟩ : ByteArray)] (by rfl) rfl rfl (by (try simp only [List.map_toArray, List.map_cons, List.map_nil]); first | done | rfl | (simp only [List.length_drop, List.length_take]; rfl)) ?_
               with_reducible refine (spec_Join.calls k1 _ _ t610 (⟨#[32]⟩ : ByteArray) t613 _ ?side1 ?side2 A17.out).mono ?_
               (case side1 => repeat (first | exact (Kd.R_reads' HO612.out).2.2 | (with_reducible refine Kd.C_alloc ?_ _) | (with_reducible refine Kd.C_drewN ?_ _) | (with_reducible refine Kd.C_drew ?_)))
               (case side2 => exact (Kd.R_reads' HO612.out).2.1)
               rintro e w' ⟨rfl, ⟨nd, rfl⟩⟩
               refine ⟨_, rfl, ?_⟩
               refine hK.out _ _ ⟨hHeld.1, hHeld.2⟩ (fun hHeld => ?_)
               clear hK K
               refine norm_ (a' := ?_) ?_ ?_
               rotate_left
               · show Act.put _ (some 33) _ = _
                 simp only [Act.put, List.setIfInBounds_toArray, List.set_cons_zero, List.set_cons_succ, i64_w, i32_w]
                 rfl
               refine pure_ (i := 12) (N := some 34) (v := ?_) (a' := ?_) #[true, true, true, true, true, true, true, true, true, true, true, true, true] rfl rfl (any_of HT_.out (by kernel_rfl)) (fun _ _ _ h => h) (Or.inl ⟨by rfl, ?_⟩) ?_ ?_
               rotate_left
               · intro w'
                 go_simp
                 with_reducible rfl
               rotate_left
               · simp only [Act.put, List.setIfInBounds_toArray, List.set_cons_zero, List.set_cons_succ, i64_w, i32_w]
                 rfl
               refine done_ (done_of HT_.out (by kernel_rfl)) ?_
               try go_wp2
               go_roundg k1
               case measure => have := HK1.out; omega
               case rel => exact ⟨(wrap64 (x19_1 + 1)), (by first | rfl | (simp; done) | (simp [*]; done)), H', ⟨by have := HK1.out; omega⟩, ⟨by (with_reducible repeat (first | apply Kd.R_alloc | apply Kd.R_drewN | apply Kd.R_drew)); exact Kd.R_mono HO_5.out (fun _ hk => hk.1.1)⟩, ⟨by (with_reducible repeat (first | apply Kd.R_alloc | apply Kd.R_drewN | apply Kd.R_drew)); exact Kd.R_mono HO_6.out (fun _ hk => hk.1.1)⟩, ⟨by repeat (first | (with_reducible first | exact HB.out | apply below_alloc | apply pw_below_drewN | apply below_drew1) | exact HB.out)⟩⟩
             · rw [if_neg c18] at H
               have c18b0 : (t608.toList == t613.toList) = false := beq_eq_false_iff_ne.mpr c18
               have c18b1 : (t608.toList != t613.toList) = true := bne_iff_ne.mpr c18
               obtain rfl := Option.some.inj H
               try go_wp2
               have n0_ := Aside0.mk (Kd.R_drew HO_5.out)
               have n1_ := Aside0.mk (Kd.R_drew HO_6.out)
               have n2_ := Aside0.mk (below_drew1 HB.out)
               clear HO_5
               clear HO_6
               clear HB
               have HO_5 := n0_
               have HO_6 := n1_
               have HB := n2_
               clear n0_ n1_ n2_
               have p604 : 0 ≤ (x19_1 : Int) := of_decide_eq_true (by first | (with_reducible assumption) | assumption)
               have q604 : x19_1 < (t598.length : Int) := of_decide_eq_true (by first | (with_reducible assumption) | assumption)
               obtain ⟨ad604, e604, hx604_0⟩ := Kd.at_string (Kd.R_reads' HO_5.out).2.2 x19_1 p604 q604
               cases e604
               replace p604 := eq_true p604
               replace q604 := eq_true q604
               have p609 : 0 ≤ (x19_1 : Int) := of_decide_eq_true (by first | (with_reducible assumption) | assumption)
               have q609 : x19_1 < (t601.length : Int) := of_decide_eq_true (by first | (with_reducible assumption) | assumption)
               obtain ⟨ad609, e609, hx609_0⟩ := Kd.at_string (Kd.R_reads' HO_6.out).2.2 x19_1 p609 q609
               cases e609
               replace p609 := eq_true p609
               replace q609 := eq_true q609
               refine start_ (n := 13) (S := fun w' => w'.cell? (ad604.add (x19_1).toNat) = some (.string (rdOf ByteArray.empty t598 x19_1)) ∧ w'.cell? (ad609.add (x19_1).toNat) = some (.string (rdOf ByteArray.empty t601 x19_1))) (ds := []) #[false, false, false, false, false, false, false, false, false, false, false, false, false] (by kernel_rfl) rfl rfl ⟨hx604_0, hx609_0⟩ (fun hHeld => ?_); refine with_tabW spec_loose.tab7 spec_loose.bits7 (fun HT_ HW_ => ?_)
               generalize wr.drew = w24 at HO_5 HO_6 HB hx604_0 hx609_0 hHeld ⊢
               refine pure_ (i := 0) (N := some 22) (v := ?_) (a' := ?_) #[true, false, false, false, false, false, false, false, false, false, false, false, false] rfl rfl (any_of HT_.out (by kernel_rfl)) (fun _ _ _ h => h) (Or.inl ⟨by rfl, ?_⟩) ?_ ?_
               rotate_left
               · intro w'
                 go_simp
                 with_reducible rfl
               rotate_left
               · simp only [Act.put, List.setIfInBounds_toArray, List.set_cons_zero, List.set_cons_succ, i64_w, i32_w]
                 rfl
               refine pure_ (i := 1) (N := some 23) (v := ?_) (a' := ?_) #[true, true, false, false, false, false, false, false, false, false, false, false, false] rfl rfl (any_of HT_.out (by kernel_rfl)) (fun _ _ _ h => h) (Or.inl ⟨by rfl, ?_⟩) ?_ ?_
               rotate_left
               · intro w'
                 go_simp
                 with_reducible rfl
               rotate_left
               · simp only [Act.put, List.setIfInBounds_toArray, List.set_cons_zero, List.set_cons_succ, i64_w, i32_w]
                 rfl
               refine pure_ (i := 2) (N := some 24) (v := ?_) (a' := ?_) #[true, true, true, false, false, false, false, false, false, false, false, false, false] rfl rfl (any_of HT_.out (by kernel_rfl)) (fun _ _ _ h => h) (Or.inl ⟨by rfl, ?_⟩) ?_ ?_
               rotate_left
               · intro w'
                 go_simp
                 with_reducible rfl
               rotate_left
               · simp only [Act.put, List.setIfInBounds_toArray, List.set_cons_zero, List.set_cons_succ, i64_w, i32_w]
                 rfl
               refine pure_ (i := 6) (N := some 28) (v := ?_) (a' := ?_) #[true, true, true, false, false, false, true, false, false, false, false, false, false] rfl rfl (any_of HT_.out (by kernel_rfl)) (fun _ _ _ h => h) (Or.inl ⟨by rfl, ?_⟩) ?_ ?_
               rotate_left
               · intro w'
                 go_simp
                 with_reducible rfl
               rotate_left
               · simp only [Act.put, List.setIfInBounds_toArray, List.set_cons_zero, List.set_cons_succ, i64_w, i32_w]
                 rfl
               refine pure_ (i := 7) (N := some 29) (v := ?_) (a' := ?_) #[true, true, true, false, false, false, true, true, false, false, false, false, false] rfl rfl (any_of HT_.out (by kernel_rfl)) (fun _ _ _ h => h) (Or.inl ⟨by rfl, ?_⟩) ?_ ?_
               rotate_left
               · intro w'
                 go_simp
                 with_reducible rfl
               rotate_left
               · simp only [Act.put, List.setIfInBounds_toArray, List.set_cons_zero, List.set_cons_succ, i64_w, i32_w]
                 rfl
               refine pure_ (i := 8) (N := some 30) (v := ?_) (a' := ?_) #[true, true, true, false, false, false, true, true, true, false, false, false, false] rfl rfl (any_of HT_.out (by kernel_rfl)) (fun _ _ _ h => h) (Or.inl ⟨by rfl, ?_⟩) ?_ ?_
               rotate_left
               · intro w'
                 go_simp
                 with_reducible rfl
               rotate_left
               · simp only [Act.put, List.setIfInBounds_toArray, List.set_cons_zero, List.set_cons_succ, i64_w, i32_w]
                 rfl
               refine take_ (i := 3) (N := some 25) (v := ?_) (a' := ?_) #[true, true, true, true, false, false, true, true, true, false, false, false, false] rfl rfl (take_ofW HT_.out HW_.out (by kernel_rfl)) (fun _ _ _ h => h) (Or.inl ⟨by rfl, ?_⟩) hHeld ?_ ?_
               rotate_left
               · rintro w' ⟨s0, s1⟩
                 go_simp
                 with_reducible rfl
               rotate_left
               · simp only [Act.put, List.setIfInBounds_toArray, List.set_cons_zero, List.set_cons_succ, i64_w, i32_w]
                 rfl
               refine take_ (i := 9) (N := some 31) (v := ?_) (a' := ?_) #[true, true, true, true, false, false, true, true, true, true, false, false, false] rfl rfl (take_ofW HT_.out HW_.out (by kernel_rfl)) (fun _ _ _ h => h) (Or.inl ⟨by rfl, ?_⟩) hHeld ?_ ?_
               rotate_left
               · rintro w' ⟨s0, s1⟩
                 go_simp
                 with_reducible rfl
               rotate_left
               · simp only [Act.put, List.setIfInBounds_toArray, List.set_cons_zero, List.set_cons_succ, i64_w, i32_w]
                 rfl
               refine one_ (i := 4) (N := some 26) #[true, true, true, true, true, false, true, true, true, true, false, false, false] rfl rfl (one_of HT_.out (by kernel_rfl)) (by decide) (fun K hK => ?_)
               refine goes_ Tryz.func31 (by kernel_rfl) rfl #[.string (rdOf ByteArray.empty t598 x19_1)] (by rfl) rfl rfl (by (try simp only [List.map_toArray, List.map_cons, List.map_nil]); first | done | rfl | (simp only [List.length_drop, List.length_take]; rfl)) ?_
               with_reducible refine (spec_Fields.calls k1 (rdOf ByteArray.empty t598 x19_1) t605 _ A13.out).mono ?_
               rintro e w25 ⟨v606, rfl, ho0, hb⟩
               have HS0_ := (hb.cell (World.block_lt_of_cell? _ _ (hHeld.1))).trans (hHeld.1)
               have HS1_ := (hb.cell (World.block_lt_of_cell? _ _ (hHeld.2))).trans (hHeld.2)
               refine ⟨_, rfl, ?_⟩
               have n0_ := Aside0.mk (Kd.R_elder' (by (with_reducible repeat (first | apply Kd.R_alloc | apply Kd.R_drewN | apply Kd.R_drew)); exact HO_5.out) (Kd.R_base ho0) hb)
               have n1_ := Aside0.mk (Kd.R_elder' (by (with_reducible repeat (first | apply Kd.R_alloc | apply Kd.R_drewN | apply Kd.R_drew)); exact HO_6.out) (Kd.R_base ho0) hb)
               have n2_ := Aside0.mk (Kd.R_lower (Kd.R_new' (Kd.R_new' ho0 (Kd.R_lt (by (with_reducible repeat (first | apply Kd.R_alloc | apply Kd.R_drewN | apply Kd.R_drew)); exact HO_5.out))) (Kd.R_lt (by (with_reducible repeat (first | apply Kd.R_alloc | apply Kd.R_drewN | apply Kd.R_drew)); exact HO_6.out))) (below_size (by repeat (first | (with_reducible first | exact HB.out | apply below_alloc | apply pw_below_drewN | apply below_drew1) | exact HB.out))))
               have n3_ := Aside0.mk (below_step (by repeat (first | (with_reducible first | exact HB.out | apply below_alloc | apply pw_below_drewN | apply below_drew1) | exact HB.out)) hb)
               clear HO_5
               clear HO_6
               clear HB
               have HO_5 := n0_
               have HO_6 := n1_
               have HO607 := n2_
               have HB := n3_
               clear n0_ n1_ n2_ n3_
               (try clear hb)
               (try clear hb2)
               (try clear hk)
               (try clear hi)
               (try clear ho0)
               obtain ⟨Ao26, co26, eo26⟩ := Kd.R_slice HO607.out
               (first | subst eo26 | (injection eo26 with f1_ f2_ f3_; have f4_ := f1_.symm; have f5_ := f3_.symm; clear f1_ f2_ f3_; subst f4_; subst f5_))
               refine hK.out _ _ ⟨HS0_, HS1_⟩ (fun hHeld => ?_)
               clear hK K
               refine norm_ (a' := ?_) ?_ ?_
               rotate_left
               · show Act.put _ (some 26) _ = _
                 simp only [Act.put, List.setIfInBounds_toArray, List.set_cons_zero, List.set_cons_succ, i64_w, i32_w]
                 rfl
               refine one_ (i := 5) (N := some 27) #[true, true, true, true, true, true, true, true, true, true, false, false, false] rfl rfl (one_of HT_.out (by kernel_rfl)) (by decide) (fun K hK => ?_)
               refine goes_ Tryz.func130 (by kernel_rfl) rfl #[.slice Ao26 t605.length co26, .string (⟨#[32]⟩ : ByteArray)] (by rfl) rfl rfl (by (try simp only [List.map_toArray, List.map_cons, List.map_nil]); first | done | rfl | (simp only [List.length_drop, List.length_take]; rfl)) ?_
               with_reducible refine (spec_Join.calls k1 _ _ t605 (⟨#[32]⟩ : ByteArray) t608 _ ?side1 ?side2 A14.out).mono ?_
               (case side1 => repeat (first | exact (Kd.R_reads' HO607.out).2.2 | (with_reducible refine Kd.C_alloc ?_ _) | (with_reducible refine Kd.C_drewN ?_ _) | (with_reducible refine Kd.C_drew ?_)))
               (case side2 => exact (Kd.R_reads' HO607.out).2.1)
               rintro e w' ⟨rfl, ⟨nd, rfl⟩⟩
               refine ⟨_, rfl, ?_⟩
               refine hK.out _ _ ⟨hHeld.1, hHeld.2⟩ (fun hHeld => ?_)
               clear hK K
               refine norm_ (a' := ?_) ?_ ?_
               rotate_left
               · show Act.put _ (some 27) _ = _
                 simp only [Act.put, List.setIfInBounds_toArray, List.set_cons_zero, List.set_cons_succ, i64_w, i32_w]
                 rfl
               refine one_ (i := 10) (N := some 32) #[true, true, true, true, true, true, true, true, true, true, true, false, false] rfl rfl (one_of HT_.out (by kernel_rfl)) (by decide) (fun K hK => ?_)
               refine goes_ Tryz.func31 (by kernel_rfl) rfl #[.string (rdOf ByteArray.empty t601 x19_1)] (by rfl) rfl rfl (by (try simp only [List.map_toArray, List.map_cons, List.map_nil]); first | done | rfl | (simp only [List.length_drop, List.length_take]; rfl)) ?_
               with_reducible refine (spec_Fields.calls k1 (rdOf ByteArray.empty t601 x19_1) t610 _ A16.out).mono ?_
               rintro e w27 ⟨v611, rfl, ho0, hb⟩
               have HS0_ := (hb.cell (World.block_lt_of_cell? _ _ (hHeld.1))).trans (hHeld.1)
               have HS1_ := (hb.cell (World.block_lt_of_cell? _ _ (hHeld.2))).trans (hHeld.2)
               refine ⟨_, rfl, ?_⟩
               have n0_ := Aside0.mk (Kd.R_elder' (by (with_reducible repeat (first | apply Kd.R_alloc | apply Kd.R_drewN | apply Kd.R_drew)); exact HO_5.out) (Kd.R_base ho0) hb)
               have n1_ := Aside0.mk (Kd.R_elder' (by (with_reducible repeat (first | apply Kd.R_alloc | apply Kd.R_drewN | apply Kd.R_drew)); exact HO_6.out) (Kd.R_base ho0) hb)
               have n2_ := Aside0.mk (Kd.R_elder' (by (with_reducible repeat (first | apply Kd.R_alloc | apply Kd.R_drewN | apply Kd.R_drew)); exact HO607.out) (Kd.R_base ho0) hb)
               have n3_ := Aside0.mk (Kd.R_lower (Kd.R_new' (Kd.R_new' (Kd.R_new' ho0 (Kd.R_lt (by (with_reducible repeat (first | apply Kd.R_alloc | apply Kd.R_drewN | apply Kd.R_drew)); exact HO_5.out))) (Kd.R_lt (by (with_reducible repeat (first | apply Kd.R_alloc | apply Kd.R_drewN | apply Kd.R_drew)); exact HO_6.out))) (Kd.R_lt (by (with_reducible repeat (first | apply Kd.R_alloc | apply Kd.R_drewN | apply Kd.R_drew)); exact HO607.out))) (below_size (by repeat (first | (with_reducible first | exact HB.out | apply below_alloc | apply pw_below_drewN | apply below_drew1) | exact HB.out))))
               have n4_ := Aside0.mk (below_step (by repeat (first | (with_reducible first | exact HB.out | apply below_alloc | apply pw_below_drewN | apply below_drew1) | exact HB.out)) hb)
               clear HO_5
               clear HO_6
               clear HO607
               clear HB
               have HO_5 := n0_
               have HO_6 := n1_
               have HO607 := n2_
               have HO612 := n3_
               have HB := n4_
               clear n0_ n1_ n2_ n3_ n4_
               (try clear hb)
               (try clear hb2)
               (try clear hk)
               (try clear hi)
               (try clear ho0)
               obtain ⟨Ao28, co28, eo28⟩ := Kd.R_slice HO612.out
               (first | subst eo28 | (injection eo28 with f1_ f2_ f3_; have f4_ := f1_.symm; have f5_ := f3_.symm; clear f1_ f2_ f3_; subst f4_; subst f5_))
               refine hK.out _ _ ⟨HS0_, HS1_⟩ (fun hHeld => ?_)
               clear hK K
               refine norm_ (a' := ?_) ?_ ?_
               rotate_left
               · show Act.put _ (some 32) _ = _
                 simp only [Act.put, List.setIfInBounds_toArray, List.set_cons_zero, List.set_cons_succ, i64_w, i32_w]
                 rfl
               refine one_ (i := 11) (N := some 33) #[true, true, true, true, true, true, true, true, true, true, true, true, false] rfl rfl (one_of HT_.out (by kernel_rfl)) (by decide) (fun K hK => ?_)
               refine goes_ Tryz.func130 (by kernel_rfl) rfl #[.slice Ao28 t610.length co28, .string (⟨#[32]⟩ : ByteArray)] (by rfl) rfl rfl (by (try simp only [List.map_toArray, List.map_cons, List.map_nil]); first | done | rfl | (simp only [List.length_drop, List.length_take]; rfl)) ?_
               with_reducible refine (spec_Join.calls k1 _ _ t610 (⟨#[32]⟩ : ByteArray) t613 _ ?side1 ?side2 A17.out).mono ?_
               (case side1 => repeat (first | exact (Kd.R_reads' HO612.out).2.2 | (with_reducible refine Kd.C_alloc ?_ _) | (with_reducible refine Kd.C_drewN ?_ _) | (with_reducible refine Kd.C_drew ?_)))
               (case side2 => exact (Kd.R_reads' HO612.out).2.1)
               rintro e w' ⟨rfl, ⟨nd, rfl⟩⟩
               refine ⟨_, rfl, ?_⟩
               refine hK.out _ _ ⟨hHeld.1, hHeld.2⟩ (fun hHeld => ?_)
               clear hK K
               refine norm_ (a' := ?_) ?_ ?_
               rotate_left
               · show Act.put _ (some 33) _ = _
                 simp only [Act.put, List.setIfInBounds_toArray, List.set_cons_zero, List.set_cons_succ, i64_w, i32_w]
                 rfl
               refine pure_ (i := 12) (N := some 34) (v := ?_) (a' := ?_) #[true, true, true, true, true, true, true, true, true, true, true, true, true] rfl rfl (any_of HT_.out (by kernel_rfl)) (fun _ _ _ h => h) (Or.inl ⟨by rfl, ?_⟩) ?_ ?_
               rotate_left
               · intro w'
                 go_simp
                 with_reducible rfl
               rotate_left
               · simp only [Act.put, List.setIfInBounds_toArray, List.set_cons_zero, List.set_cons_succ, i64_w, i32_w]
                 rfl
               refine done_ (done_of HT_.out (by kernel_rfl)) ?_
               try go_wp2
               go_ret
               exact ⟨by first | rfl | (simp [errW_none, errW_some] <;> rfl) | (simp [*, errW_none, errW_some] <;> rfl), by repeat (first | (with_reducible first | exact HB.out | apply below_alloc | apply pw_below_drewN | apply below_drew1) | exact HB.out)⟩
           · rw [if_neg c15] at H
             exact absurd H (by simp)
         · rw [if_neg c12] at H
           exact absurd H (by simp)
       · rw [if_neg c11] at H
         exact absurd H (by simp)
     · rw [if_neg c10] at H
       have c10b0 : decide (x19_1 < (t598.length : Int)) = false := decide_eq_false c10
       clear c10
       obtain rfl := Option.some.inj H
       go_wp2
       go_ret
       exact ⟨by first | rfl | (simp [errW_none, errW_some] <;> rfl) | (simp [*, errW_none, errW_some] <;> rfl), by repeat (first | (with_reducible first | exact HB.out | apply below_alloc | apply pw_below_drewN | apply below_drew1) | exact HB.out)⟩
 · rw [if_neg c5] at H
   have c5b0 : ((t598.length : Int) == (t601.length : Int)) = false := beq_eq_false_iff_ne.mpr c5
   have c5b1 : ((t598.length : Int) != (t601.length : Int)) = true := bne_iff_ne.mpr c5
   have c5b2 : (t598.length == t601.length) = false := by first | simpa using c5 | (simp at c5 ⊢; omega)
   obtain rfl := Option.some.inj H
   go_enter Tryz.func98, Tryz.ntmps98
   go_wp2_with (first | ((with_reducible refine gate_callee (f := 47) rfl ?_); refine goesL_ (some 9) rfl rfl Tryz.func47 (by kernel_rfl) rfl #[.string a0] rfl (by (try simp only [List.map_toArray, List.map_cons, List.map_nil]); first | done | rfl | (simp only [List.length_drop, List.length_take]; rfl)) ?_; (with_reducible refine (spec_Lines.calls k a0 t598 _ A3.out).mono ?_); rintro e w29 ⟨v599, rfl, ho0, hb⟩; refine ⟨_, rfl, ?_⟩; have n0_ := Aside0.mk (Kd.R_lower ho0 (below_size (by repeat (first | (with_reducible first | exact HB.out | apply below_alloc | apply pw_below_drewN | apply below_drew1) | exact HB.out)))); have n1_ := Aside0.mk (below_step (by repeat (first | (with_reducible first | exact HB.out | apply below_alloc | apply pw_below_drewN | apply below_drew1) | exact HB.out)) hb); clear HB; have HO600 := n0_; have HB := n1_; clear n0_ n1_; (try clear hb); (try clear hb2); (try clear hk); (try clear hi); (try clear ho0)) | ((with_reducible refine gate_callee (f := 47) rfl ?_); refine goesL_ (some 11) rfl rfl Tryz.func47 (by kernel_rfl) rfl #[.string a1] rfl (by (try simp only [List.map_toArray, List.map_cons, List.map_nil]); first | done | rfl | (simp only [List.length_drop, List.length_take]; rfl)) ?_; (with_reducible refine (spec_Lines.calls k a1 t601 _ A4.out).mono ?_); rintro e w30 ⟨v602, rfl, ho0, hb⟩; refine ⟨_, rfl, ?_⟩; have n0_ := Aside0.mk (Kd.R_elder' (by (with_reducible repeat (first | apply Kd.R_alloc | apply Kd.R_drewN | apply Kd.R_drew)); exact HO600.out) (Kd.R_base ho0) hb); have n1_ := Aside0.mk (Kd.R_lower (Kd.R_new' ho0 (Kd.R_lt (by (with_reducible repeat (first | apply Kd.R_alloc | apply Kd.R_drewN | apply Kd.R_drew)); exact HO600.out))) (below_size (by repeat (first | (with_reducible first | exact HB.out | apply below_alloc | apply pw_below_drewN | apply below_drew1) | exact HB.out)))); have n2_ := Aside0.mk (below_step (by repeat (first | (with_reducible first | exact HB.out | apply below_alloc | apply pw_below_drewN | apply below_drew1) | exact HB.out)) hb); clear HO600; clear HB; have HO600 := n0_; have HO603 := n1_; have HB := n2_; clear n0_ n1_ n2_; (try clear hb); (try clear hb2); (try clear hk); (try clear hi); (try clear ho0); obtain ⟨Ao31, co31, eo31⟩ := Kd.R_slice HO600.out; subst eo31; obtain ⟨Ao32, co32, eo32⟩ := Kd.R_slice HO603.out; subst eo32))
   go_ret
   exact ⟨by first | rfl | (simp [errW_none, errW_some] <;> rfl) | (simp [*, errW_none, errW_some] <;> rfl), by repeat (first | (with_reducible first | exact HB.out | apply below_alloc | apply pw_below_drewN | apply below_drew1) | exact HB.out)⟩
def spec_leads.l0 : Nat → ByteArray → List ByteArray → Int → Int → Option (Bool)
 | 0, _, _, _, _ => none
 | k + 1, x0, x6, x7, x8 => if x8 < x7 then (if 0 ≤ x8 then (if x8 < (x6.length : Int) then (if (rdOf ByteArray.empty x6 x8).toList = ([] : List UInt8) then (some false) else (if 0 ≤ (wrap64 (((rdOf ByteArray.empty x6 x8).size : Int) - 1)) then (if (wrap64 (((rdOf ByteArray.empty x6 x8).size : Int) - 1)) < ((rdOf ByteArray.empty x6 x8).size : Int) then (if (bt (rdOf ByteArray.empty x6 x8) (wrap64 (((rdOf ByteArray.empty x6 x8).size : Int) - 1))) = 32 then (some false) else (if (bt (rdOf ByteArray.empty x6 x8) (wrap64 (((rdOf ByteArray.empty x6 x8).size : Int) - 1))) = 9 then (some false) else (spec_leads.l0 k x0 x6 x7 (wrap64 (x8 + 1))))) else (none)) else (none))) else (none)) else (none)) else (if x0.toList = ([] : List UInt8) then (some true) else (if 0 ≤ (wrap64 ((x0.size : Int) - 1)) then (if (wrap64 ((x0.size : Int) - 1)) < (x0.size : Int) then (some ((bt x0 (wrap64 ((x0.size : Int) - 1))) == 10)) else (none)) else (none)))
def spec_leads.f (k : Nat) (a0 : ByteArray) : Option (Bool) := (spec_Lines.f k a0).bind fun t614 => (spec_leads.l0 k a0 t614 (t614.length : Int) 0)
set_option maxHeartbeats 8000000 in
set_option maxRecDepth 100000 in
theorem spec_leads.calls (k : Nat) (a0 : ByteArray) (r : Bool) (w : World) (h : spec_leads.f k a0 = some r) :
 Calls Tryz.prog 99 #[.string a0] w fun e w' => e = .returned (.bool r) ∧ Below w.heap.size w w' := by
 have HB := Aside0.mk (Below.refl w.heap.size w)
 have H : ((spec_Lines.f k a0).bind fun t614 => (spec_leads.l0 k a0 t614 (t614.length : Int) 0)) = some r := h
 clear h
 replace H := Option.bind_eq_some_iff.mp H
 obtain ⟨t614, A20, H⟩ := H
 replace H : (spec_leads.l0 k a0 t614 (t614.length : Int) 0) = some r := H
 have A2 := Aside0.mk A20
 clear A20
 have H' := Aside0.mk H
 clear H
 go_enter Tryz.func99, Tryz.ntmps99
 go_wp2_with (first | ((with_reducible refine gate_callee (f := 47) rfl ?_); refine goesL_ (some 6) rfl rfl Tryz.func47 (by kernel_rfl) rfl #[.string a0] rfl (by (try simp only [List.map_toArray, List.map_cons, List.map_nil]); first | done | rfl | (simp only [List.length_drop, List.length_take]; rfl)) ?_; (with_reducible refine (spec_Lines.calls k a0 t614 _ A2.out).mono ?_); rintro e w3 ⟨v615, rfl, ho0, hb⟩; refine ⟨_, rfl, ?_⟩; have n0_ := Aside0.mk (Kd.R_lower ho0 (below_size (by repeat (first | (with_reducible first | exact HB.out | apply below_alloc | apply pw_below_drewN | apply below_drew1) | exact HB.out)))); have n1_ := Aside0.mk (below_step (by repeat (first | (with_reducible first | exact HB.out | apply below_alloc | apply pw_below_drewN | apply below_drew1) | exact HB.out)) hb); clear HB; have HO616 := n0_; have HB := n1_; clear n0_ n1_; (try clear hb); (try clear hb2); (try clear hk); (try clear hi); (try clear ho0); obtain ⟨Ao4, co4, eo4⟩ := Kd.R_slice HO616.out; subst eo4))
 go_loopg [8] k (fun kq v8 w' => ∃ (x8_1 : Int), v8 = .int .i64 x8_1 ∧ Aside0 (spec_leads.l0 kq a0 t614 (t614.length : Int) x8_1 = some r) ∧ Aside0 (kq ≤ k) ∧ Aside0 (Kd.R Kd.string 9 w' w.heap.size (fun _ => True) (.slice Ao4 t614.length co4) t614) ∧ Aside0 (Below w.heap.size w w'))
 case atStart => exact ⟨(0), (by first | rfl | (simp; done) | (simp [*]; done)), H', ⟨Nat.le_refl _⟩, ⟨by (with_reducible repeat (first | apply Kd.R_alloc | apply Kd.R_drewN | apply Kd.R_drew)); exact HO616.out⟩, ⟨by repeat (first | (with_reducible first | exact HB.out | apply below_alloc | apply pw_below_drewN | apply below_drew1) | exact HB.out)⟩⟩
 case round =>
  clear H'
  try clear p2
  try clear c4
  obtain ⟨x8_1, rfl, HA, HK1, HO_6, HB⟩ := hrel
  cases gk with
  | zero => exact absurd HA.out (by simp [spec_leads.l0])
  | succ k1 =>
   have H := HA.out
   clear HA
   simp only [spec_leads.l0] at H
   by_cases c5 : x8_1 < (t614.length : Int)
   · rw [if_pos c5] at H
     have c5b0 : decide (x8_1 < (t614.length : Int)) = true := decide_eq_true c5
     clear c5
     by_cases c6 : 0 ≤ x8_1
     · rw [if_pos c6] at H
       have c6b0 : decide (0 ≤ x8_1) = true := decide_eq_true c6
       clear c6
       by_cases c7 : x8_1 < (t614.length : Int)
       · rw [if_pos c7] at H
         have c7b0 : decide (x8_1 < (t614.length : Int)) = true := decide_eq_true c7
         clear c7
         by_cases c8 : (rdOf ByteArray.empty t614 x8_1).toList = ([] : List UInt8)
         · rw [if_pos c8] at H
           have c8b0 : ((rdOf ByteArray.empty t614 x8_1).toList == ([] : List UInt8)) = true := beq_iff_eq.mpr c8
           have c8b1 : ((rdOf ByteArray.empty t614 x8_1).toList != ([] : List UInt8)) = false := bne_eq_false_iff_eq.mpr c8
           clear c8
           obtain rfl := Option.some.inj H
           have p617 : 0 ≤ (x8_1 : Int) := of_decide_eq_true (by first | (with_reducible assumption) | assumption)
           have q617 : x8_1 < (t614.length : Int) := of_decide_eq_true (by first | (with_reducible assumption) | assumption)
           obtain ⟨ad617, e617, hx617_0⟩ := Kd.at_string (Kd.R_reads' HO_6.out).2.2 x8_1 p617 q617
           cases e617
           replace p617 := eq_true p617
           replace q617 := eq_true q617
           go_wp2
           go_ret
           exact ⟨by first | rfl | (simp [errW_none, errW_some] <;> rfl) | (simp [*, errW_none, errW_some] <;> rfl), by repeat (first | (with_reducible first | exact HB.out | apply below_alloc | apply pw_below_drewN | apply below_drew1) | exact HB.out)⟩
         · rw [if_neg c8] at H
           have c8b0 : ((rdOf ByteArray.empty t614 x8_1).toList == ([] : List UInt8)) = false := beq_eq_false_iff_ne.mpr c8
           have c8b1 : ((rdOf ByteArray.empty t614 x8_1).toList != ([] : List UInt8)) = true := bne_iff_ne.mpr c8
           obtain ⟨ji9, hji9⟩ : ∃ j_ : Int, (wrap64 (((rdOf ByteArray.empty t614 x8_1).size : Int) - 1)) = j_ := ⟨_, rfl⟩
           replace H : (if 0 ≤ (ji9) then (if (ji9) < ((rdOf ByteArray.empty t614 x8_1).size : Int) then (if (bt (rdOf ByteArray.empty t614 x8_1) (ji9)) = 32 then (some false) else (if (bt (rdOf ByteArray.empty t614 x8_1) (ji9)) = 9 then (some false) else (spec_leads.l0 k1 a0 t614 (t614.length : Int) (wrap64 (x8_1 + 1))))) else (none)) else (none)) = some r := by first | (rw [hji9] at H; exact H) | (simp only [hji9] at H ⊢; exact H)
           have hji9w : (IntKind.i64.wrap (((rdOf ByteArray.empty t614 x8_1).size : Int) - 1)) = ji9 := (i64_w _).trans hji9
           by_cases c10 : 0 ≤ (ji9)
           · rw [if_pos c10] at H
             have c10b0 : decide (0 ≤ (ji9)) = true := decide_eq_true c10
             clear c10
             by_cases c11 : (ji9) < ((rdOf ByteArray.empty t614 x8_1).size : Int)
             · rw [if_pos c11] at H
               have c11b0 : decide ((ji9) < ((rdOf ByteArray.empty t614 x8_1).size : Int)) = true := decide_eq_true c11
               clear c11
               by_cases c13 : (bt (rdOf ByteArray.empty t614 x8_1) (ji9)) = 32
               · rw [if_pos c13] at H
                 have c13b0 : ((bt (rdOf ByteArray.empty t614 x8_1) (ji9)) == 32) = true := beq_iff_eq.mpr c13
                 have c13b1 : ((bt (rdOf ByteArray.empty t614 x8_1) (ji9)) != 32) = false := bne_eq_false_iff_eq.mpr c13
                 clear c13
                 obtain rfl := Option.some.inj H
                 have p617 : 0 ≤ (x8_1 : Int) := of_decide_eq_true (by first | (with_reducible assumption) | assumption)
                 have q617 : x8_1 < (t614.length : Int) := of_decide_eq_true (by first | (with_reducible assumption) | assumption)
                 obtain ⟨ad617, e617, hx617_0⟩ := Kd.at_string (Kd.R_reads' HO_6.out).2.2 x8_1 p617 q617
                 cases e617
                 replace p617 := eq_true p617
                 replace q617 := eq_true q617
                 have p12 : 0 ≤ ((ji9) : Int) := of_decide_eq_true (by first | (with_reducible assumption) | assumption)
                 have q12 : (ji9) < ((rdOf ByteArray.empty t614 x8_1).size : Int) := of_decide_eq_true (by first | (with_reducible assumption) | assumption)
                 have hx12 := bt_at (rdOf ByteArray.empty t614 x8_1) (ji9)
                 replace p12 := eq_true p12
                 replace q12 := eq_true q12
                 go_wp2
                 go_ret
                 exact ⟨by first | rfl | (simp [errW_none, errW_some] <;> rfl) | (simp only [← hji9]; first | rfl | (simp [errW_none, errW_some] <;> rfl)) | (simp [*, errW_none, errW_some] <;> rfl), by repeat (first | (with_reducible first | exact HB.out | apply below_alloc | apply pw_below_drewN | apply below_drew1) | exact HB.out)⟩
               · rw [if_neg c13] at H
                 have c13b0 : ((bt (rdOf ByteArray.empty t614 x8_1) (ji9)) == 32) = false := beq_eq_false_iff_ne.mpr c13
                 have c13b1 : ((bt (rdOf ByteArray.empty t614 x8_1) (ji9)) != 32) = true := bne_iff_ne.mpr c13
                 by_cases c15 : (bt (rdOf ByteArray.empty t614 x8_1) (ji9)) = 9
                 · rw [if_pos c15] at H
                   have c15b0 : ((bt (rdOf ByteArray.empty t614 x8_1) (ji9)) == 9) = true := beq_iff_eq.mpr c15
                   have c15b1 : ((bt (rdOf ByteArray.empty t614 x8_1) (ji9)) != 9) = false := bne_eq_false_iff_eq.mpr c15
                   clear c15
                   obtain rfl := Option.some.inj H
                   have p617 : 0 ≤ (x8_1 : Int) := of_decide_eq_true (by first | (with_reducible assumption) | assumption)
                   have q617 : x8_1 < (t614.length : Int) := of_decide_eq_true (by first | (with_reducible assumption) | assumption)
                   obtain ⟨ad617, e617, hx617_0⟩ := Kd.at_string (Kd.R_reads' HO_6.out).2.2 x8_1 p617 q617
                   cases e617
                   replace p617 := eq_true p617
                   replace q617 := eq_true q617
                   have p12 : 0 ≤ ((ji9) : Int) := of_decide_eq_true (by first | (with_reducible assumption) | assumption)
                   have q12 : (ji9) < ((rdOf ByteArray.empty t614 x8_1).size : Int) := of_decide_eq_true (by first | (with_reducible assumption) | assumption)
                   have hx12 := bt_at (rdOf ByteArray.empty t614 x8_1) (ji9)
                   replace p12 := eq_true p12
                   replace q12 := eq_true q12
                   have p14 : 0 ≤ ((ji9) : Int) := of_decide_eq_true (by first | (with_reducible assumption) | assumption)
                   have q14 : (ji9) < ((rdOf ByteArray.empty t614 x8_1).size : Int) := of_decide_eq_true (by first | (with_reducible assumption) | assumption)
                   have hx14 := bt_at (rdOf ByteArray.empty t614 x8_1) (ji9)
                   replace p14 := eq_true p14
                   replace q14 := eq_true q14
                   go_wp2
                   go_ret
                   exact ⟨by first | rfl | (simp [errW_none, errW_some] <;> rfl) | (simp only [← hji9]; first | rfl | (simp [errW_none, errW_some] <;> rfl)) | (simp [*, errW_none, errW_some] <;> rfl), by repeat (first | (with_reducible first | exact HB.out | apply below_alloc | apply pw_below_drewN | apply below_drew1) | exact HB.out)⟩
                 · rw [if_neg c15] at H
                   have c15b0 : ((bt (rdOf ByteArray.empty t614 x8_1) (ji9)) == 9) = false := beq_eq_false_iff_ne.mpr c15
                   have c15b1 : ((bt (rdOf ByteArray.empty t614 x8_1) (ji9)) != 9) = true := bne_iff_ne.mpr c15
                   have H' := Aside0.mk H
                   clear H
                   have p617 : 0 ≤ (x8_1 : Int) := of_decide_eq_true (by first | (with_reducible assumption) | assumption)
                   have q617 : x8_1 < (t614.length : Int) := of_decide_eq_true (by first | (with_reducible assumption) | assumption)
                   obtain ⟨ad617, e617, hx617_0⟩ := Kd.at_string (Kd.R_reads' HO_6.out).2.2 x8_1 p617 q617
                   cases e617
                   replace p617 := eq_true p617
                   replace q617 := eq_true q617
                   have p12 : 0 ≤ ((ji9) : Int) := of_decide_eq_true (by first | (with_reducible assumption) | assumption)
                   have q12 : (ji9) < ((rdOf ByteArray.empty t614 x8_1).size : Int) := of_decide_eq_true (by first | (with_reducible assumption) | assumption)
                   have hx12 := bt_at (rdOf ByteArray.empty t614 x8_1) (ji9)
                   replace p12 := eq_true p12
                   replace q12 := eq_true q12
                   have p14 : 0 ≤ ((ji9) : Int) := of_decide_eq_true (by first | (with_reducible assumption) | assumption)
                   have q14 : (ji9) < ((rdOf ByteArray.empty t614 x8_1).size : Int) := of_decide_eq_true (by first | (with_reducible assumption) | assumption)
                   have hx14 := bt_at (rdOf ByteArray.empty t614 x8_1) (ji9)
                   replace p14 := eq_true p14
                   replace q14 := eq_true q14
                   go_wp2
                   go_roundg k1
                   case measure => have := HK1.out; omega
                   case rel => exact ⟨(wrap64 (x8_1 + 1)), (by first | rfl | (simp; done) | (simp [*]; done)), H', ⟨by have := HK1.out; omega⟩, ⟨by (with_reducible repeat (first | apply Kd.R_alloc | apply Kd.R_drewN | apply Kd.R_drew)); exact HO_6.out⟩, ⟨by repeat (first | (with_reducible first | exact HB.out | apply below_alloc | apply pw_below_drewN | apply below_drew1) | exact HB.out)⟩⟩
             · rw [if_neg c11] at H
               exact absurd H (by simp)
           · rw [if_neg c10] at H
             exact absurd H (by simp)
       · rw [if_neg c7] at H
         exact absurd H (by simp)
     · rw [if_neg c6] at H
       exact absurd H (by simp)
   · rw [if_neg c5] at H
     have c5b0 : decide (x8_1 < (t614.length : Int)) = false := decide_eq_false c5
     clear c5
     by_cases c16 : a0.toList = ([] : List UInt8)
     · rw [if_pos c16] at H
       have c16b0 : (a0.toList == ([] : List UInt8)) = true := beq_iff_eq.mpr c16
       have c16b1 : (a0.toList != ([] : List UInt8)) = false := bne_eq_false_iff_eq.mpr c16
       clear c16
       obtain rfl := Option.some.inj H
       go_wp2
       go_ret
       exact ⟨by first | rfl | (simp [errW_none, errW_some] <;> rfl) | (simp [*, errW_none, errW_some] <;> rfl), by repeat (first | (with_reducible first | exact HB.out | apply below_alloc | apply pw_below_drewN | apply below_drew1) | exact HB.out)⟩
     · rw [if_neg c16] at H
       have c16b0 : (a0.toList == ([] : List UInt8)) = false := beq_eq_false_iff_ne.mpr c16
       have c16b1 : (a0.toList != ([] : List UInt8)) = true := bne_iff_ne.mpr c16
       obtain ⟨ji17, hji17⟩ : ∃ j_ : Int, (wrap64 ((a0.size : Int) - 1)) = j_ := ⟨_, rfl⟩
       replace H : (if 0 ≤ (ji17) then (if (ji17) < (a0.size : Int) then (some ((bt a0 (ji17)) == 10)) else (none)) else (none)) = some r := by first | (rw [hji17] at H; exact H) | (simp only [hji17] at H ⊢; exact H)
       have hji17w : (IntKind.i64.wrap ((a0.size : Int) - 1)) = ji17 := (i64_w _).trans hji17
       by_cases c18 : 0 ≤ (ji17)
       · rw [if_pos c18] at H
         have c18b0 : decide (0 ≤ (ji17)) = true := decide_eq_true c18
         clear c18
         by_cases c19 : (ji17) < (a0.size : Int)
         · rw [if_pos c19] at H
           have c19b0 : decide ((ji17) < (a0.size : Int)) = true := decide_eq_true c19
           clear c19
           obtain rfl := Option.some.inj H
           have p20 : 0 ≤ ((ji17) : Int) := of_decide_eq_true (by first | (with_reducible assumption) | assumption)
           have q20 : (ji17) < (a0.size : Int) := of_decide_eq_true (by first | (with_reducible assumption) | assumption)
           have hx20 := bt_at a0 (ji17)
           replace p20 := eq_true p20
           replace q20 := eq_true q20
           go_wp2
           go_ret
           exact ⟨by first | rfl | (simp [errW_none, errW_some] <;> rfl) | (simp only [← hji17]; first | rfl | (simp [errW_none, errW_some] <;> rfl)) | (simp [*, errW_none, errW_some] <;> rfl), by repeat (first | (with_reducible first | exact HB.out | apply below_alloc | apply pw_below_drewN | apply below_drew1) | exact HB.out)⟩
         · rw [if_neg c19] at H
           exact absurd H (by simp)
       · rw [if_neg c18] at H
         exact absurd H (by simp)
end Go.Proofs.YtabfehcpcjcomaaGreatDoor.QA0
