/- The texts QV0x11, Pa, Pb, Pc, Pd, Pe, Pg, CardFnUnitSections, without what the claims do not use, laid together by a program of this session (wip/tools/bundle.py). Conditions: those of each theorem. -/
import Derived.Test.YtocdnceckljnaaaDoorYS1
namespace Go.Proofs.YtocdnceckljnaaaDoor.QV0
open Go.RowKit Go.Proofs.YtocdnceckljnaaaDoorW.PrintWords Go.Proofs.YtocdnceckljnaaaDoorW.PrintLast Go.Proofs.YtocdnceckljnaaaDoorW.PrintMore
attribute [local go_sem] max2_int min2_int max_two min_two max_three min_three max_four min_four
set_option linter.unusedVariables false
set_option linter.unusedSimpArgs false
def gshB (g : U.Gp) : Bool := decide (g.1.length ≤ 1000) && (decide (g.2.length ≤ 1000) && g.2.all (fun x => decide (x.1.length ≤ 1000) && decide (x.2.length ≤ 1000)))
def gshortB (gs : List U.Gp) : Bool := decide (gs.length ≤ 1000) && gs.all gshB
theorem gshortB_iff (gs : List U.Gp) (h : gshortB gs = true) : U.GShort gs := by
 unfold gshortB gshB at h
 simp only [Bool.and_eq_true, decide_eq_true_eq, List.all_eq_true] at h
 exact ⟨h.1, fun g hg => ⟨(h.2 g hg).1, (h.2 g hg).2.1, (h.2 g hg).2.2⟩⟩
def impl_UnitWriteSections.f (l0 : List S52) : Option ByteArray := if gshortB (l0.map gpOf) = true then some (U.B (U.writeG (l0.map gpOf))) else none
theorem impl_UnitWriteSections.calls (A0 : Option Addr) (c0 : Nat) (l0 : List S52) (r : ByteArray) (w : World) (hr0 : Kd.C k52 w A0 l0.length l0) (hc0 : l0.length ≤ c0) (h : impl_UnitWriteSections.f l0 = some r) :
 Calls Tryd.prog 28 #[.slice A0 l0.length c0] w fun e w' => e = .returned (.string r) ∧ Below w.heap.size w w' := by
 unfold impl_UnitWriteSections.f at h
 split at h
 · rename_i hs
   obtain rfl := Option.some.inj h
   exact unit_write_sections A0 c0 l0 w hr0 (gshortB_iff _ hs)
 · cases h
def secOkB (gs : List U.Gp) : Bool := decide (gs.length < 900000000) && gs.all (fun g => decide (g.2.length < 900000000))
def impl_UnitReadSections.f (a0 : ByteArray) : Option (List S52 × Int) :=
 if (∀ c ∈ a0.data.toList, c.toNat < 128) ∧ a0.size ≤ 1000000000 then
  (U.readF a0.data.toList).bind fun r => if secOkB r.1 = true then some (r.1.map sec52, 0) else none
 else none
theorem impl_UnitReadSections.calls (a0 : ByteArray) (r1 : List S52) (r2 : Int) (w : World) (h : impl_UnitReadSections.f a0 = some (r1, r2)) (ht : U.Tabs w := by first | assumption | exact U.Tabs.below (Aside0.out ‹Aside0 (U.Tabs _)›) (by repeat (first | (with_reducible first | exact Aside0.out ‹Aside0 (Below _ _ _)› | apply below_alloc | apply pw_below_drewN | apply below_drew1)))) :
 Calls Tryd.prog 29 #[.string a0] w fun e w' => ∃ v0_ : Value, e = .returned (.tuple #[v0_, .int .i64 r2]) ∧ Kd.S k52 52 w' w.heap.size (fun _ => True) v0_ r1 ∧ Below w.heap.size w w' := by
 unfold impl_UnitReadSections.f at h
 split at h
 · rename_i hs
   obtain ⟨r, hr, h⟩ := Option.bind_eq_some_iff.mp h
   split at h
   · rename_i hl
     simp only [Option.some.injEq, Prod.mk.injEq] at h
     obtain ⟨rfl, rfl⟩ := h
     unfold secOkB at hl
     simp only [Bool.and_eq_true, decide_eq_true_eq, List.all_eq_true] at hl
     exact unit_read_sections a0 w r.1 r.2 ht hs.1 hs.2 hr hl.1 hl.2
   · cases h
 · cases h
mutual
def laws_flat.l0 : Nat → List (S29) → List (S52) → Int → Int → Option ((List (S29)))
 | 0, _, _, _, _ => none
 | k + 1, x3, x8, x9, x10 => if x10 < x9 then (if 0 ≤ x10 then (if x10 < (x8.length : Int) then (laws_flat.l1 k x3 x8 x9 x10 ((rd_T52 x8 x10).f1) (((rd_T52 x8 x10).f1).length : Int) 0 ((rd_T52 x8 x10).f0) ((rd_T52 x8 x10).f1)) else (none)) else (none)) else (some x3)
def laws_flat.l1 : Nat → List (S29) → List (S52) → Int → Int → List (S74) → Int → Int → ByteArray → List (S74) → Option ((List (S29)))
 | 0, _, _, _, _, _, _, _, _, _ => none
 | k + 1, x3, x8, x9, x10, x15, x16, x17, x230000, x230001 => if x17 < x16 then (if 0 ≤ x17 then (if x17 < (x15.length : Int) then (if x3.length < 2932031007402 then (laws_flat.l1 k (x3 ++ [(⟨x230000, (rd_T74 x15 x17).f0, (rd_T74 x15 x17).f1⟩ : S29)]) x8 x9 x10 x15 x16 (wrap64 (x17 + 1)) x230000 x230001) else (none)) else (none)) else (none)) else (laws_flat.l0 k x3 x8 x9 (wrap64 (x10 + 1)))
end
def laws_flat.f (k : Nat) (l0 : List (S52)) : Option ((List (S29))) := laws_flat.l0 k ([] : List (S29)) l0 (l0.length : Int) 0
set_option maxHeartbeats 8000000 in
set_option maxRecDepth 100000 in
theorem laws_flat.calls (k : Nat) (A0 : Option Addr) (c0 : Nat) (l0 : List (S52)) (r : List (S29)) (w : World) (hr0 : Kd.C k52 w A0 l0.length l0) (hc0 : l0.length ≤ c0) (h : laws_flat.f k l0 = some r) :
 Calls Tryd.prog 30 #[.slice A0 l0.length c0] w fun e w' => ∃ v0_ : Value, e = .returned (v0_) ∧ Kd.R k29 29 w' w.heap.size (fun _ => True) v0_ r ∧ Below w.heap.size w w' := by
 have hu52 := Tryd.underlying52
 have hu74 := Tryd.underlying74
 have hu29 := Tryd.underlying29
 have HR0 := Aside0.mk hr0
 have HC0 := Aside0.mk hc0
 clear hr0 hc0
 have HB := Aside0.mk (Below.refl w.heap.size w)
 have H : (laws_flat.l0 k ([] : List (S29)) l0 (l0.length : Int) 0) = some r := h
 clear h
 have H' := Aside0.mk H
 clear H
 go_enter Tryd.func30, Tryd.ntmps30
 go_wp2
 go_loopg [3, 10] k (fun kq v3 v10 w' => ∃ (x3_1 : List (S29)) (x10_1 : Int), v10 = .int .i64 x10_1 ∧ Aside0 (laws_flat.l0 kq x3_1 l0 (l0.length : Int) x10_1 = some r) ∧ Aside0 (kq ≤ k) ∧ Aside0 (Kd.R k29 29 w' w.heap.size (fun _ => True) v3 x3_1) ∧ Aside0 (Below w.heap.size w w'))
 case atStart => exact ⟨(([] : List (S29))), (0), (by first | rfl | (simp; done) | (simp [*]; done)), H', ⟨Nat.le_refl _⟩, ⟨by first | exact Kd.R_nil _ _ _ _ _ | exact Kd.N_nil _ _ _ _ _ | exact Kd.V_nil _ _ _ _ _ | exact Kd.Q_nil _ _ _ _ _ | exact Kd.S_nil _ _ _ _ _⟩, ⟨by repeat (first | (with_reducible first | exact HB.out | apply below_alloc | apply pw_below_drewN | apply below_drew1) | exact HB.out)⟩⟩
 case round =>
  clear H'
  obtain ⟨x3_1, x10_1, rfl, HA, HK1, HO_3, HB⟩ := hrel
  cases gk with
  | zero => exact absurd HA.out (by simp [laws_flat.l0])
  | succ k1 =>
   have H := HA.out
   clear HA
   simp only [laws_flat.l0] at H
   by_cases c2 : x10_1 < (l0.length : Int)
   · rw [if_pos c2] at H
     have c2b0 : decide (x10_1 < (l0.length : Int)) = true := decide_eq_true c2
     clear c2
     by_cases c3 : 0 ≤ x10_1
     · rw [if_pos c3] at H
       have c3b0 : decide (0 ≤ x10_1) = true := decide_eq_true c3
       clear c3
       by_cases c4 : x10_1 < (l0.length : Int)
       · rw [if_pos c4] at H
         have c4b0 : decide (x10_1 < (l0.length : Int)) = true := decide_eq_true c4
         clear c4
         have H' := Aside0.mk H
         clear H
         have p228 : 0 ≤ (x10_1 : Int) := of_decide_eq_true (by first | (with_reducible assumption) | assumption)
         have q228 : x10_1 < (l0.length : Int) := of_decide_eq_true (by first | (with_reducible assumption) | assumption)
         obtain ⟨ad228, A228_1, c228_1, e228, hx228_0, hx228_1, hl228_1, hi228_1⟩ := at_T52 HR0.out x10_1 p228 q228
         cases e228
         replace hx228_0 := (HB.out.cell (World.block_lt_of_cell? w _ hx228_0)).trans hx228_0
         replace hx228_1 := (HB.out.cell (World.block_lt_of_cell? w _ hx228_1)).trans hx228_1
         have HR228_1 := Aside0.mk hi228_1
         have HC228_1 := Aside0.mk hl228_1
         clear hi228_1 hl228_1
         replace p228 := eq_true p228
         replace q228 := eq_true q228
         go_wp2_with (first | ((with_reducible refine gate_dst (N := 5) rfl ?_); refine box_event ?hg (N := 5) ?hd (cs := #[.string (⟨#[]⟩ : ByteArray), .slice none 0 0]) (t := 52) ?hr ?_; (case hd => rfl); (case hg => rfl); (case hr => first | (go_simp; done) | (go_simp; rfl)); intro gb229 hg w5 hbox hb; have n0_ := Aside0.mk (Kd.R_below (by (with_reducible repeat (first | apply Kd.R_alloc | apply Kd.R_drewN | apply Kd.R_drew)); exact HO_3.out) hb); have n1_ := Aside0.mk (below_step (by repeat (first | (with_reducible first | exact HB.out | apply below_alloc | apply pw_below_drewN | apply below_drew1) | exact HB.out)) hb); have n2_ := Aside0.mk (hbox); have n3_ := Aside0.mk ((by rw [hg]; exact (below_size (by repeat (first | (with_reducible first | exact HB.out | apply below_alloc | apply pw_below_drewN | apply below_drew1) | exact HB.out))) : w.heap.size ≤ gb229)); have n4_ := Aside0.mk ((by rw [hg]; exact (below_size (by repeat (first | (with_reducible first | exact HB.out | apply below_alloc | apply pw_below_drewN | apply below_drew1) | exact HB.out))) : w.heap.size ≤ gb229)); clear HO_3; clear HB; have HO_3 := n0_; have HB := n1_; have BK229 := n2_; have GW229 := n3_; have GE229 := n4_; clear n0_ n1_ n2_ n3_ n4_; clear hb hbox hg; have hcz6_0 : w5.cell? ⟨gb229, 0, none⟩ = some (.string (⟨#[]⟩ : ByteArray)) := (blk_cell BK229.out 0).trans rfl; have hcz6_1 : w5.cell? ⟨gb229, 1, none⟩ = some (.slice none 0 0) := (blk_cell BK229.out 1).trans rfl; have hfz6_0 := blk_frozen BK229.out 0; have hfz6_1 := blk_frozen BK229.out 1))
         go_loopg [3, 17] k1 (fun kq v3 v17 w' => ∃ (x3_2 : List (S29)) (x17_2 : Int), v17 = .int .i64 x17_2 ∧ Aside0 (laws_flat.l1 kq x3_2 l0 (l0.length : Int) x10_1 ((rd_T52 l0 x10_1).f1) (((rd_T52 l0 x10_1).f1).length : Int) x17_2 ((rd_T52 l0 x10_1).f0) ((rd_T52 l0 x10_1).f1) = some r) ∧ Aside0 (kq ≤ k1) ∧ Aside0 (Kd.R k29 29 w' w.heap.size (fun _ => True) v3 x3_2) ∧ Aside0 (w'.heap[gb229]? = some (.cells #[.string ((rd_T52 l0 x10_1).f0), (.slice A228_1 ((rd_T52 l0 x10_1).f1).length c228_1)] 52 (0, 0))) ∧ Aside0 (Below w.heap.size w w'))
         case atStart => exact ⟨(x3_1), (0), (by first | rfl | (simp; done) | (simp [*]; done)), H', ⟨Nat.le_refl _⟩, ⟨by (with_reducible repeat (first | apply Kd.R_alloc | apply Kd.R_drewN | apply Kd.R_drew)); exact Kd.R_mono (Kd.R_far (p := ⟨gb229, 1, none⟩) (Kd.R_far (p := ⟨gb229, 0, none⟩) (Kd.R_types HO_3.out BK229.out (by decide)) (fun _ hk => hk.2) (.string ((rd_T52 l0 x10_1).f0))) (fun _ hk => hk.2) (.slice A228_1 ((rd_T52 l0 x10_1).f1).length c228_1)) (fun _ hk => trivial)⟩, ⟨by (with_reducible repeat (first | refine blk_drewN ?_ _ | refine blk_drew ?_ | refine blk_alloc ?_ _)); refine blk_put (cs := #[.string ((rd_T52 l0 x10_1).f0), .slice none 0 0]) ?_ 1 _ rfl; (with_reducible repeat (first | refine blk_drewN ?_ _ | refine blk_drew ?_ | refine blk_alloc ?_ _)); refine blk_put (cs := #[.string (⟨#[]⟩ : ByteArray), .slice none 0 0]) ?_ 0 _ rfl; (with_reducible repeat (first | refine blk_drewN ?_ _ | refine blk_drew ?_ | refine blk_alloc ?_ _)); exact BK229.out⟩, ⟨by repeat (first | (with_reducible first | exact HB.out | apply below_alloc | apply pw_below_drewN | apply below_drew1 | refine below_set ?_ GE229.out) | exact HB.out)⟩⟩
         case round =>
          clear H'
          try clear c2
          try clear c2b0
          try clear p2
          try clear q2
          try clear hx2
          try clear c3
          try clear c3b0
          try clear c4
          try clear c4b0
          try clear hcz6_0
          try clear hcz6_1
          try clear hfz6_0
          try clear hfz6_1
          try clear hx228_0
          try clear hx228_1
          try clear p228
          try clear q228
          obtain ⟨x3_2, x17_2, rfl, HA, HK2, HO_3, BK229, HB⟩ := hrel
          cases gk with
          | zero => exact absurd HA.out (by simp [laws_flat.l1])
          | succ k2 =>
           have H := HA.out
           clear HA
           simp only [laws_flat.l1] at H
           by_cases c7 : x17_2 < (((rd_T52 l0 x10_1).f1).length : Int)
           · rw [if_pos c7] at H
             have c7b0 : decide (x17_2 < (((rd_T52 l0 x10_1).f1).length : Int)) = true := decide_eq_true c7
             clear c7
             by_cases c8 : 0 ≤ x17_2
             · rw [if_pos c8] at H
               have c8b0 : decide (0 ≤ x17_2) = true := decide_eq_true c8
               clear c8
               by_cases c9 : x17_2 < (((rd_T52 l0 x10_1).f1).length : Int)
               · rw [if_pos c9] at H
                 have c9b0 : decide (x17_2 < (((rd_T52 l0 x10_1).f1).length : Int)) = true := decide_eq_true c9
                 clear c9
                 by_cases c10 : x3_2.length < 2932031007402
                 · rw [if_pos c10] at H
                   have LMc10 := Aside0.mk c10
                   clear c10
                   obtain ⟨y232, hy232⟩ : ∃ y_ : List (S29), y_ = (x3_2 ++ [(⟨((rd_T52 l0 x10_1).f0), (rd_T74 ((rd_T52 l0 x10_1).f1) x17_2).f0, (rd_T74 ((rd_T52 l0 x10_1).f1) x17_2).f1⟩ : S29)]) := ⟨_, rfl⟩
                   replace H : (laws_flat.l1 k2 y232 l0 (l0.length : Int) x10_1 ((rd_T52 l0 x10_1).f1) (((rd_T52 l0 x10_1).f1).length : Int) (wrap64 (x17_2 + 1)) ((rd_T52 l0 x10_1).f0) ((rd_T52 l0 x10_1).f1)) = some r := by first | (rw [hy232]; with_reducible exact H) | (have H2_ := (Option.bind_some _ _).symm.trans H; rw [hy232]; with_reducible exact H2_) | (have H2_ := (Option.bind_some _ _).symm.trans H; with_reducible exact H2_) | with_reducible exact H | (rw [hy232]; exact H) | exact H
                   have Ny232 := Aside0.mk hy232
                   clear hy232
                   have H' := Aside0.mk H
                   clear H
                   have p230 : 0 ≤ (x17_2 : Int) := of_decide_eq_true (by first | (with_reducible assumption) | assumption)
                   have q230 : x17_2 < (((rd_T52 l0 x10_1).f1).length : Int) := of_decide_eq_true (by first | (with_reducible assumption) | assumption)
                   obtain ⟨ad230, e230, hx230_0, hx230_1⟩ := at_T74 HR228_1.out x17_2 p230 q230
                   cases e230
                   replace hx230_0 := (HB.out.cell (World.block_lt_of_cell? w _ hx230_0)).trans hx230_0
                   replace hx230_1 := (HB.out.cell (World.block_lt_of_cell? w _ hx230_1)).trans hx230_1
                   replace p230 := eq_true p230
                   replace q230 := eq_true q230
                   go_wp2_with (first | ((with_reducible refine gate_dst (N := 7) rfl ?_); refine box_event ?hg (N := 7) ?hd (cs := #[.string (⟨#[]⟩ : ByteArray), .string (⟨#[]⟩ : ByteArray)]) (t := 74) ?hr ?_; (case hd => rfl); (case hg => rfl); (case hr => first | (go_simp; done) | (go_simp; rfl)); intro gb231 hg w11 hbox hb; have n0_ := Aside0.mk (Kd.R_below (by (with_reducible repeat (first | apply Kd.R_alloc | apply Kd.R_drewN | apply Kd.R_drew)); exact HO_3.out) hb); have n1_ := Aside0.mk (blk_below (g := gb229) (o := .cells #[.string ((rd_T52 l0 x10_1).f0), .slice (some ad230) ((rd_T52 l0 x10_1).f1).length c228_1] 52 (0, 0)) (by (with_reducible repeat (first | refine blk_drewN ?_ _ | refine blk_drew ?_ | refine blk_alloc ?_ _)); exact BK229.out) hb); have n2_ := Aside0.mk (below_step (by repeat (first | (with_reducible first | exact HB.out | apply below_alloc | apply pw_below_drewN | apply below_drew1 | refine below_set ?_ GE229.out) | exact HB.out)) hb); have n3_ := Aside0.mk (hbox); have n4_ := Aside0.mk ((by rw [hg]; exact (below_size (by repeat (first | (with_reducible first | exact HB.out | apply below_alloc | apply pw_below_drewN | apply below_drew1 | refine below_set ?_ GE229.out) | exact HB.out))) : w.heap.size ≤ gb231)); have n5_ := Aside0.mk ((by rw [hg]; exact (below_size (by repeat (first | (with_reducible first | exact HB.out | apply below_alloc | apply pw_below_drewN | apply below_drew1 | refine below_set ?_ GE229.out) | exact HB.out))) : w.heap.size ≤ gb231)); have n6_ := Aside0.mk ((by rw [hg]; exact Nat.ne_of_lt (blk_lt (g := gb229) (o := .cells #[.string ((rd_T52 l0 x10_1).f0), .slice (some ad230) ((rd_T52 l0 x10_1).f1).length c228_1] 52 (0, 0)) (by (with_reducible repeat (first | refine blk_drewN ?_ _ | refine blk_drew ?_ | refine blk_alloc ?_ _)); exact BK229.out)) : gb229 ≠ gb231)); have n7_ := Aside0.mk ((by rw [hg]; exact Nat.ne_of_gt (blk_lt (g := gb229) (o := .cells #[.string ((rd_T52 l0 x10_1).f0), .slice (some ad230) ((rd_T52 l0 x10_1).f1).length c228_1] 52 (0, 0)) (by (with_reducible repeat (first | refine blk_drewN ?_ _ | refine blk_drew ?_ | refine blk_alloc ?_ _)); exact BK229.out)) : gb231 ≠ gb229)); clear HO_3; clear BK229; clear HB; have HO_3 := n0_; have BK229 := n1_; have HB := n2_; have BK231 := n3_; have GW231 := n4_; have GE231 := n5_; have NB229_231 := n6_; have NB231_229 := n7_; clear n0_ n1_ n2_ n3_ n4_ n5_ n6_ n7_; clear hb hbox hg; have hnb12 := NB231_229.out; have hnc12 := NB229_231.out; have hcz13_0 : w11.cell? ⟨gb231, 0, none⟩ = some (.string (⟨#[]⟩ : ByteArray)) := (blk_cell BK231.out 0).trans rfl; have hcz13_1 : w11.cell? ⟨gb231, 1, none⟩ = some (.string (⟨#[]⟩ : ByteArray)) := (blk_cell BK231.out 1).trans rfl; have hfz13_0 := blk_frozen BK231.out 0; have hfz13_1 := blk_frozen BK231.out 1; have hcz14_0 : w11.cell? ⟨gb229, 0, none⟩ = some (.string ((rd_T52 l0 x10_1).f0)) := (blk_cell BK229.out 0).trans rfl; have hcz14_1 : w11.cell? ⟨gb229, 1, none⟩ = some (.slice (some ad230) ((rd_T52 l0 x10_1).f1).length c228_1) := (blk_cell BK229.out 1).trans rfl; have hfz14_0 := blk_frozen BK229.out 0; have hfz14_1 := blk_frozen BK229.out 1) | ((with_reducible refine gate_builtin (b := .append) (xs := #[.tmp 21, .tmp 29]) rfl ?_); at_builtin; refine Kd.R_append k29 (w0 := w) w.heap.size rfl (.tmp 21) (.tmp 29) 32 29 (.agg #[(.string ⟨#[]⟩), (.string ⟨#[]⟩), (.string ⟨#[]⟩)]) 48 rfl Tryd.underlying32 info29 rfl (by decide) (by omega) u3 x3_2 (⟨((rd_T52 l0 x10_1).f0), (rd_T74 ((rd_T52 l0 x10_1).f1) x17_2).f0, (rd_T74 ((rd_T52 l0 x10_1).f1) x17_2).f1⟩ : S29) [.string ((rd_T52 l0 x10_1).f0), .string ((rd_T74 ((rd_T52 l0 x10_1).f1) x17_2).f0), .string ((rd_T74 ((rd_T52 l0 x10_1).f1) x17_2).f1)] (fun _ => True) (fun _ => False) rfl (by first | (go_simp; done) | (go_simp; rfl)) ?aP (fun _ hk => hk.elim) ?aF ?aO ?aB ?aS ?aL ?_; (case aP => exact k29_mkM _ _ _ (⟨((rd_T52 l0 x10_1).f0), (rd_T74 ((rd_T52 l0 x10_1).f1) x17_2).f0, (rd_T74 ((rd_T52 l0 x10_1).f1) x17_2).f1⟩ : S29)); (case aB => exact (by repeat (first | (with_reducible first | exact HB.out | apply below_alloc | apply pw_below_drewN | apply below_drew1 | refine below_set ?_ GE229.out | refine below_set ?_ GE231.out) | exact HB.out))); (case aF => exact (fun _ _ => trivial)); (case aO => exact (by (with_reducible repeat (first | apply Kd.R_alloc | apply Kd.R_drewN | apply Kd.R_drew)); exact Kd.R_mono (Kd.R_far (p := ⟨gb231, 1, none⟩) (Kd.R_far (p := ⟨gb231, 0, none⟩) (Kd.R_types HO_3.out BK231.out (by decide)) (fun _ hk => hk.2) (.string ((rd_T74 ((rd_T52 l0 x10_1).f1) x17_2).f0))) (fun _ hk => hk.2) (.string ((rd_T74 ((rd_T52 l0 x10_1).f1) x17_2).f1))) (fun _ hk => trivial))); (case aS => exact (below_size (by repeat (first | (with_reducible first | exact HB.out | apply below_alloc | apply pw_below_drewN | apply below_drew1 | refine below_set ?_ GE229.out | refine below_set ?_ GE231.out) | exact HB.out)))); (case aL => have := LMc10.out; omega); intro v233 w15 ho hb hg hat; rw [← Ny232.out] at ho; have n0_ := Aside0.mk (blk_grown (g := gb229) (o := .cells #[.string ((rd_T52 l0 x10_1).f0), .slice (some ad230) ((rd_T52 l0 x10_1).f1).length c228_1] 52 (0, 0)) (by (with_reducible repeat (first | refine blk_drewN ?_ _ | refine blk_drew ?_ | refine blk_alloc ?_ _)); refine blk_far ?_ NB229_231.out _; (with_reducible repeat (first | refine blk_drewN ?_ _ | refine blk_drew ?_ | refine blk_alloc ?_ _)); refine blk_far ?_ NB229_231.out _; (with_reducible repeat (first | refine blk_drewN ?_ _ | refine blk_drew ?_ | refine blk_alloc ?_ _)); exact BK229.out) hg (Kd.R_ne HO_3.out BK229.out (by decide))); have n1_ := Aside0.mk (blk_grown (g := gb231) (o := .cells #[.string ((rd_T74 ((rd_T52 l0 x10_1).f1) x17_2).f0), .string ((rd_T74 ((rd_T52 l0 x10_1).f1) x17_2).f1)] 74 (0, 0)) (by (with_reducible repeat (first | refine blk_drewN ?_ _ | refine blk_drew ?_ | refine blk_alloc ?_ _)); refine blk_put (cs := #[.string ((rd_T74 ((rd_T52 l0 x10_1).f1) x17_2).f0), .string (⟨#[]⟩ : ByteArray)]) ?_ 1 _ rfl; (with_reducible repeat (first | refine blk_drewN ?_ _ | refine blk_drew ?_ | refine blk_alloc ?_ _)); refine blk_put (cs := #[.string (⟨#[]⟩ : ByteArray), .string (⟨#[]⟩ : ByteArray)]) ?_ 0 _ rfl; (with_reducible repeat (first | refine blk_drewN ?_ _ | refine blk_drew ?_ | refine blk_alloc ?_ _)); exact BK231.out) hg (Kd.R_ne HO_3.out BK231.out (by decide))); have n2_ := Aside0.mk (hb); have n3_ := Aside0.mk (ho); clear BK229; clear BK231; clear HB; clear HO_3; have BK229 := n0_; have BK231 := n1_; have HB := n2_; have HO234 := n3_; clear n0_ n1_ n2_ n3_; clear ho hb hg hat))
                   go_roundg k2
                   case measure => have := HK1.out; have := HK2.out; omega
                   case rel => exact ⟨(y232), (wrap64 (x17_2 + 1)), (by first | rfl | (simp; done) | (simp [*]; done)), H', ⟨by have := HK1.out; have := HK2.out; omega⟩, ⟨by (with_reducible repeat (first | apply Kd.R_alloc | apply Kd.R_drewN | apply Kd.R_drew)); exact HO234.out⟩, ⟨by (with_reducible repeat (first | refine blk_drewN ?_ _ | refine blk_drew ?_ | refine blk_alloc ?_ _)); exact BK229.out⟩, ⟨by repeat (first | (with_reducible first | exact HB.out | apply below_alloc | apply pw_below_drewN | apply below_drew1 | refine below_set ?_ GE229.out | refine below_set ?_ GE231.out) | exact HB.out)⟩⟩
                 · rw [if_neg c10] at H
                   exact absurd H (by simp)
               · rw [if_neg c9] at H
                 exact absurd H (by simp)
             · rw [if_neg c8] at H
               exact absurd H (by simp)
           · rw [if_neg c7] at H
             have c7b0 : decide (x17_2 < (((rd_T52 l0 x10_1).f1).length : Int)) = false := decide_eq_false c7
             clear c7
             have H' := Aside0.mk H
             clear H
             go_wp2
             go_roundg k2
             case measure => have := HK1.out; have := HK2.out; omega
             case rel => exact ⟨(x3_2), (wrap64 (x10_1 + 1)), (by first | rfl | (simp; done) | (simp [*]; done)), H', ⟨by have := HK1.out; have := HK2.out; omega⟩, ⟨by (with_reducible repeat (first | apply Kd.R_alloc | apply Kd.R_drewN | apply Kd.R_drew)); exact HO_3.out⟩, ⟨by repeat (first | (with_reducible first | exact HB.out | apply below_alloc | apply pw_below_drewN | apply below_drew1 | refine below_set ?_ GE229.out) | exact HB.out)⟩⟩
       · rw [if_neg c4] at H
         exact absurd H (by simp)
     · rw [if_neg c3] at H
       exact absurd H (by simp)
   · rw [if_neg c2] at H
     have c2b0 : decide (x10_1 < (l0.length : Int)) = false := decide_eq_false c2
     clear c2
     obtain rfl := Option.some.inj H
     go_wp2
     go_ret
     exact ⟨_, by first | rfl | (simp [errW_none, errW_some] <;> rfl) | (simp [*, errW_none, errW_some] <;> rfl), by (with_reducible repeat (first | apply Kd.R_alloc | apply Kd.R_drewN | apply Kd.R_drew)); exact HO_3.out, by repeat (first | (with_reducible first | exact HB.out | apply below_alloc | apply pw_below_drewN | apply below_drew1) | exact HB.out)⟩
mutual
def laws_FnUnitSections.j0 : Nat → List (S52) → List (S52) → List (S29) → Bool → Option (Bool)
 | 0, _, _, _, _ => none
 | k + 1, x3, x5, x7, x42 => if x42 = true then (some false) else (laws_FnUnitSections.l0 k x3 x5 x7 (x3.length : Int) 0)
def laws_FnUnitSections.l0 : Nat → List (S52) → List (S52) → List (S29) → Int → Int → Option (Bool)
 | 0, _, _, _, _, _ => none
 | k + 1, x3, x5, x7, x44, x45 => if x45 < x44 then (if 0 ≤ x45 then (if x45 < (x5.length : Int) then (if x45 < (x3.length : Int) then (if ((rd_T52 x5 x45).f0).toList = ((rd_T52 x3 x45).f0).toList then (laws_FnUnitSections.l0 k x3 x5 x7 x44 (wrap64 (x45 + 1))) else (some false)) else (none)) else (none)) else (none)) else ((laws_flat.f k x5).bind fun t251 => ((laws_flat.f k x3).bind fun t254 => ((laws_sameOptions.f k t251 t254).bind fun t257 => (if t257 = true then ((laws_flat.f k x3).bind fun t258 => ((laws_sameOptions.f k x7 t258).bind fun t261 => (if t261 = true then ((laws_reads.f).bind fun t262 => (some t262)) else (some false)))) else (some false)))))
end
def laws_FnUnitSections.f (k : Nat) (l0 : List (S29)) : Option (Bool) := (laws_zzFits7.f k l0).bind fun t235 => (if t235 = true then ((laws_plainOptions.f k l0).bind fun t236 => (if t236 = true then ((laws_sectionsOf.f k l0).bind fun t237 => ((impl_UnitWriteSections.f t237).bind fun t240 => ((impl_UnitReadSections.f t240).bind fun bt241 => ((impl_UnitRead.f t240).bind fun bt245 => (if bt241.2 = 0 then (if bt245.2 = 0 then (laws_FnUnitSections.j0 k t237 bt241.1 bt245.1 ((bt241.1.length : Int) != (t237.length : Int))) else (laws_FnUnitSections.j0 k t237 bt241.1 bt245.1 true)) else (laws_FnUnitSections.j0 k t237 bt241.1 bt245.1 true)))))) else (some true))) else (some true))
set_option maxHeartbeats 8000000 in
set_option maxRecDepth 100000 in
theorem laws_FnUnitSections.calls (k : Nat) (A0 : Option Addr) (c0 : Nat) (l0 : List (S29)) (r : Bool) (w : World) (hTabs : U.Tabs w) (hr0 : Kd.C k29 w A0 l0.length l0) (hc0 : l0.length ≤ c0) (h : laws_FnUnitSections.f k l0 = some r) :
 Calls Tryd.prog 7 #[.slice A0 l0.length c0] w fun e w' => e = .returned (.bool r) ∧ Below w.heap.size w w' := by
 have HTabs := Aside0.mk hTabs
 clear hTabs
 have HR0 := Aside0.mk hr0
 have HC0 := Aside0.mk hc0
 clear hr0 hc0
 have HB := Aside0.mk (Below.refl w.heap.size w)
 have H : ((laws_zzFits7.f k l0).bind fun t235 => (if t235 = true then ((laws_plainOptions.f k l0).bind fun t236 => (if t236 = true then ((laws_sectionsOf.f k l0).bind fun t237 => ((impl_UnitWriteSections.f t237).bind fun t240 => ((impl_UnitReadSections.f t240).bind fun bt241 => ((impl_UnitRead.f t240).bind fun bt245 => (if bt241.2 = 0 then (if bt245.2 = 0 then (laws_FnUnitSections.j0 k t237 bt241.1 bt245.1 ((bt241.1.length : Int) != (t237.length : Int))) else (laws_FnUnitSections.j0 k t237 bt241.1 bt245.1 true)) else (laws_FnUnitSections.j0 k t237 bt241.1 bt245.1 true)))))) else (some true))) else (some true))) = some r := h
 clear h
 replace H := Option.bind_eq_some_iff.mp H
 obtain ⟨t235, A20, H⟩ := H
 replace H : (if t235 = true then ((laws_plainOptions.f k l0).bind fun t236 => (if t236 = true then ((laws_sectionsOf.f k l0).bind fun t237 => ((impl_UnitWriteSections.f t237).bind fun t240 => ((impl_UnitReadSections.f t240).bind fun bt241 => ((impl_UnitRead.f t240).bind fun bt245 => (if bt241.2 = 0 then (if bt245.2 = 0 then (laws_FnUnitSections.j0 k t237 bt241.1 bt245.1 ((bt241.1.length : Int) != (t237.length : Int))) else (laws_FnUnitSections.j0 k t237 bt241.1 bt245.1 true)) else (laws_FnUnitSections.j0 k t237 bt241.1 bt245.1 true)))))) else (some true))) else (some true)) = some r := H
 have A2 := Aside0.mk A20
 clear A20
 by_cases c3 : t235 = true
 · subst c3
   have H1 : ((laws_plainOptions.f k l0).bind fun t236 => (if t236 = true then ((laws_sectionsOf.f k l0).bind fun t237 => ((impl_UnitWriteSections.f t237).bind fun t240 => ((impl_UnitReadSections.f t240).bind fun bt241 => ((impl_UnitRead.f t240).bind fun bt245 => (if bt241.2 = 0 then (if bt245.2 = 0 then (laws_FnUnitSections.j0 k t237 bt241.1 bt245.1 ((bt241.1.length : Int) != (t237.length : Int))) else (laws_FnUnitSections.j0 k t237 bt241.1 bt245.1 true)) else (laws_FnUnitSections.j0 k t237 bt241.1 bt245.1 true)))))) else (some true))) = some r := by rw [if_pos rfl] at H; exact H
   clear H
   have H := H1
   clear H1
   replace H := Option.bind_eq_some_iff.mp H
   obtain ⟨t236, A40, H⟩ := H
   replace H : (if t236 = true then ((laws_sectionsOf.f k l0).bind fun t237 => ((impl_UnitWriteSections.f t237).bind fun t240 => ((impl_UnitReadSections.f t240).bind fun bt241 => ((impl_UnitRead.f t240).bind fun bt245 => (if bt241.2 = 0 then (if bt245.2 = 0 then (laws_FnUnitSections.j0 k t237 bt241.1 bt245.1 ((bt241.1.length : Int) != (t237.length : Int))) else (laws_FnUnitSections.j0 k t237 bt241.1 bt245.1 true)) else (laws_FnUnitSections.j0 k t237 bt241.1 bt245.1 true)))))) else (some true)) = some r := H
   have A4 := Aside0.mk A40
   clear A40
   by_cases c5 : t236 = true
   · subst c5
     have H1 : ((laws_sectionsOf.f k l0).bind fun t237 => ((impl_UnitWriteSections.f t237).bind fun t240 => ((impl_UnitReadSections.f t240).bind fun bt241 => ((impl_UnitRead.f t240).bind fun bt245 => (if bt241.2 = 0 then (if bt245.2 = 0 then (laws_FnUnitSections.j0 k t237 bt241.1 bt245.1 ((bt241.1.length : Int) != (t237.length : Int))) else (laws_FnUnitSections.j0 k t237 bt241.1 bt245.1 true)) else (laws_FnUnitSections.j0 k t237 bt241.1 bt245.1 true)))))) = some r := by rw [if_pos rfl] at H; exact H
     clear H
     have H := H1
     clear H1
     replace H := Option.bind_eq_some_iff.mp H
     obtain ⟨t237, A60, H⟩ := H
     replace H : ((impl_UnitWriteSections.f t237).bind fun t240 => ((impl_UnitReadSections.f t240).bind fun bt241 => ((impl_UnitRead.f t240).bind fun bt245 => (if bt241.2 = 0 then (if bt245.2 = 0 then (laws_FnUnitSections.j0 k t237 bt241.1 bt245.1 ((bt241.1.length : Int) != (t237.length : Int))) else (laws_FnUnitSections.j0 k t237 bt241.1 bt245.1 true)) else (laws_FnUnitSections.j0 k t237 bt241.1 bt245.1 true))))) = some r := H
     have A6 := Aside0.mk A60
     clear A60
     replace H := Option.bind_eq_some_iff.mp H
     obtain ⟨t240, A70, H⟩ := H
     replace H : ((impl_UnitReadSections.f t240).bind fun bt241 => ((impl_UnitRead.f t240).bind fun bt245 => (if bt241.2 = 0 then (if bt245.2 = 0 then (laws_FnUnitSections.j0 k t237 bt241.1 bt245.1 ((bt241.1.length : Int) != (t237.length : Int))) else (laws_FnUnitSections.j0 k t237 bt241.1 bt245.1 true)) else (laws_FnUnitSections.j0 k t237 bt241.1 bt245.1 true)))) = some r := H
     have A7 := Aside0.mk A70
     clear A70
     replace H := Option.bind_eq_some_iff.mp H
     obtain ⟨⟨t241, t242⟩, A80, H⟩ := H
     replace H : ((impl_UnitRead.f t240).bind fun bt245 => (if t242 = 0 then (if bt245.2 = 0 then (laws_FnUnitSections.j0 k t237 t241 bt245.1 ((t241.length : Int) != (t237.length : Int))) else (laws_FnUnitSections.j0 k t237 t241 bt245.1 true)) else (laws_FnUnitSections.j0 k t237 t241 bt245.1 true))) = some r := H
     have A8 := Aside0.mk A80
     clear A80
     replace H := Option.bind_eq_some_iff.mp H
     obtain ⟨⟨t245, t246⟩, A90, H⟩ := H
     replace H : (if t242 = 0 then (if t246 = 0 then (laws_FnUnitSections.j0 k t237 t241 t245 ((t241.length : Int) != (t237.length : Int))) else (laws_FnUnitSections.j0 k t237 t241 t245 true)) else (laws_FnUnitSections.j0 k t237 t241 t245 true)) = some r := H
     have A9 := Aside0.mk A90
     clear A90
     have HC10 := Aside0.mk H
     clear H
     go_enter Tryd.func7, Tryd.ntmps7
     go_upto_region 9 with (first | (go_at_call 17; (with_reducible refine (laws_zzFits7.calls k _ _ l0 true _ ?side1 ?side2 A2.out).mono ?_); (case side1 => repeat (first | exact HR0.out | (with_reducible refine Kd.C_alloc ?_ _) | (with_reducible refine Kd.C_drewN ?_ _) | (with_reducible refine Kd.C_drew ?_))); (case side2 => exact HC0.out); rintro e w11 ⟨rfl, hb⟩; have n0_ := Aside0.mk (below_step (by repeat (first | (with_reducible first | exact HB.out | apply below_alloc | apply pw_below_drewN | apply below_drew1) | exact HB.out)) hb); clear HB; have HB := n0_; clear n0_; (try clear hb); (try clear hb2); (try clear hk); (try clear hi)) | (go_at_call 18; (with_reducible refine (laws_plainOptions.calls k _ _ l0 true _ ?side1 ?side2 A4.out).mono ?_); (case side1 => repeat (first | exact (Kd.C_below HR0.out HB.out) | (with_reducible refine Kd.C_alloc ?_ _) | (with_reducible refine Kd.C_drewN ?_ _) | (with_reducible refine Kd.C_drew ?_))); (case side2 => exact HC0.out); rintro e w12 ⟨rfl, hb⟩; have n0_ := Aside0.mk (below_step (by repeat (first | (with_reducible first | exact HB.out | apply below_alloc | apply pw_below_drewN | apply below_drew1) | exact HB.out)) hb); clear HB; have HB := n0_; clear n0_; (try clear hb); (try clear hb2); (try clear hk); (try clear hi)) | (go_at_call 27; (with_reducible refine (laws_sectionsOf.calls k _ _ l0 t237 _ ?side1 ?side2 A6.out).mono ?_); (case side1 => repeat (first | exact (Kd.C_below HR0.out HB.out) | (with_reducible refine Kd.C_alloc ?_ _) | (with_reducible refine Kd.C_drewN ?_ _) | (with_reducible refine Kd.C_drew ?_))); (case side2 => exact HC0.out); rintro e w13 ⟨v238, rfl, ho0, hb⟩; have n0_ := Aside0.mk (Kd.S_lower ho0 (below_size (by repeat (first | (with_reducible first | exact HB.out | apply below_alloc | apply pw_below_drewN | apply below_drew1) | exact HB.out)))); have n1_ := Aside0.mk (below_step (by repeat (first | (with_reducible first | exact HB.out | apply below_alloc | apply pw_below_drewN | apply below_drew1) | exact HB.out)) hb); clear HB; have HO239 := n0_; have HB := n1_; clear n0_ n1_; (try clear hb); (try clear hb2); (try clear hk); (try clear hi); (try clear ho0); obtain ⟨Ao14, co14, eo14⟩ := Kd.S_slice HO239.out; subst eo14) | (go_at_call 28; (with_reducible refine (impl_UnitWriteSections.calls _ _ t237 t240 _ ?side1 ?side2 A7.out).mono ?_); (case side1 => repeat (first | exact (Kd.S_reads' HO239.out).2.2 | (with_reducible refine Kd.C_alloc ?_ _) | (with_reducible refine Kd.C_drewN ?_ _) | (with_reducible refine Kd.C_drew ?_))); (case side2 => exact (Kd.S_reads' HO239.out).2.1); rintro e w15 ⟨rfl, hb⟩; have n0_ := Aside0.mk (Kd.S_below (by (with_reducible repeat (first | apply Kd.S_alloc | apply Kd.S_drewN | apply Kd.S_drew)); exact HO239.out) hb); have n1_ := Aside0.mk (below_step (by repeat (first | (with_reducible first | exact HB.out | apply below_alloc | apply pw_below_drewN | apply below_drew1) | exact HB.out)) hb); clear HO239; clear HB; have HO239 := n0_; have HB := n1_; clear n0_ n1_; (try clear hb); (try clear hb2); (try clear hk); (try clear hi)) | (go_at_call 29; (with_reducible refine (impl_UnitReadSections.calls t240 t241 t242 _ A8.out).mono ?_); rintro e w16 ⟨v243, rfl, ho0, hb⟩; have n0_ := Aside0.mk (Kd.S_elder' (by (with_reducible repeat (first | apply Kd.S_alloc | apply Kd.S_drewN | apply Kd.S_drew)); exact HO239.out) (Kd.S_base ho0) hb); have n1_ := Aside0.mk (Kd.S_lower (Kd.S_new' ho0 (Kd.S_lt (by (with_reducible repeat (first | apply Kd.S_alloc | apply Kd.S_drewN | apply Kd.S_drew)); exact HO239.out))) (below_size (by repeat (first | (with_reducible first | exact HB.out | apply below_alloc | apply pw_below_drewN | apply below_drew1) | exact HB.out)))); have n2_ := Aside0.mk (below_step (by repeat (first | (with_reducible first | exact HB.out | apply below_alloc | apply pw_below_drewN | apply below_drew1) | exact HB.out)) hb); clear HO239; clear HB; have HO239 := n0_; have HO244 := n1_; have HB := n2_; clear n0_ n1_ n2_; (try clear hb); (try clear hb2); (try clear hk); (try clear hi); (try clear ho0)) | (go_at_call 22; (with_reducible refine (impl_UnitRead.calls t240 t245 t246 _ A9.out).mono ?_); rintro e w17 ⟨v247, rfl, ho0, hb⟩; have n0_ := Aside0.mk (Kd.S_below (by (with_reducible repeat (first | apply Kd.S_alloc | apply Kd.S_drewN | apply Kd.S_drew)); exact HO239.out) hb); have n1_ := Aside0.mk (Kd.S_below (by (with_reducible repeat (first | apply Kd.S_alloc | apply Kd.S_drewN | apply Kd.S_drew)); exact HO244.out) hb); have n2_ := Aside0.mk (Kd.R_lower ho0 (below_size (by repeat (first | (with_reducible first | exact HB.out | apply below_alloc | apply pw_below_drewN | apply below_drew1) | exact HB.out)))); have n3_ := Aside0.mk (below_step (by repeat (first | (with_reducible first | exact HB.out | apply below_alloc | apply pw_below_drewN | apply below_drew1) | exact HB.out)) hb); clear HO239; clear HO244; clear HB; have HO239 := n0_; have HO244 := n1_; have HO248 := n2_; have HB := n3_; clear n0_ n1_ n2_ n3_; (try clear hb); (try clear hb2); (try clear hk); (try clear hi); (try clear ho0)))
     repeat (go_quiet (first | (go_at_call 17; (with_reducible refine (laws_zzFits7.calls k _ _ l0 true _ ?side1 ?side2 A2.out).mono ?_); (case side1 => repeat (first | exact HR0.out | (with_reducible refine Kd.C_alloc ?_ _) | (with_reducible refine Kd.C_drewN ?_ _) | (with_reducible refine Kd.C_drew ?_))); (case side2 => exact HC0.out); rintro e w11 ⟨rfl, hb⟩; have n0_ := Aside0.mk (below_step (by repeat (first | (with_reducible first | exact HB.out | apply below_alloc | apply pw_below_drewN | apply below_drew1) | exact HB.out)) hb); clear HB; have HB := n0_; clear n0_; (try clear hb); (try clear hb2); (try clear hk); (try clear hi)) | (go_at_call 18; (with_reducible refine (laws_plainOptions.calls k _ _ l0 true _ ?side1 ?side2 A4.out).mono ?_); (case side1 => repeat (first | exact (Kd.C_below HR0.out HB.out) | (with_reducible refine Kd.C_alloc ?_ _) | (with_reducible refine Kd.C_drewN ?_ _) | (with_reducible refine Kd.C_drew ?_))); (case side2 => exact HC0.out); rintro e w12 ⟨rfl, hb⟩; have n0_ := Aside0.mk (below_step (by repeat (first | (with_reducible first | exact HB.out | apply below_alloc | apply pw_below_drewN | apply below_drew1) | exact HB.out)) hb); clear HB; have HB := n0_; clear n0_; (try clear hb); (try clear hb2); (try clear hk); (try clear hi)) | (go_at_call 27; (with_reducible refine (laws_sectionsOf.calls k _ _ l0 t237 _ ?side1 ?side2 A6.out).mono ?_); (case side1 => repeat (first | exact (Kd.C_below HR0.out HB.out) | (with_reducible refine Kd.C_alloc ?_ _) | (with_reducible refine Kd.C_drewN ?_ _) | (with_reducible refine Kd.C_drew ?_))); (case side2 => exact HC0.out); rintro e w13 ⟨v238, rfl, ho0, hb⟩; have n0_ := Aside0.mk (Kd.S_lower ho0 (below_size (by repeat (first | (with_reducible first | exact HB.out | apply below_alloc | apply pw_below_drewN | apply below_drew1) | exact HB.out)))); have n1_ := Aside0.mk (below_step (by repeat (first | (with_reducible first | exact HB.out | apply below_alloc | apply pw_below_drewN | apply below_drew1) | exact HB.out)) hb); clear HB; have HO239 := n0_; have HB := n1_; clear n0_ n1_; (try clear hb); (try clear hb2); (try clear hk); (try clear hi); (try clear ho0); obtain ⟨Ao14, co14, eo14⟩ := Kd.S_slice HO239.out; subst eo14) | (go_at_call 28; (with_reducible refine (impl_UnitWriteSections.calls _ _ t237 t240 _ ?side1 ?side2 A7.out).mono ?_); (case side1 => repeat (first | exact (Kd.S_reads' HO239.out).2.2 | (with_reducible refine Kd.C_alloc ?_ _) | (with_reducible refine Kd.C_drewN ?_ _) | (with_reducible refine Kd.C_drew ?_))); (case side2 => exact (Kd.S_reads' HO239.out).2.1); rintro e w15 ⟨rfl, hb⟩; have n0_ := Aside0.mk (Kd.S_below (by (with_reducible repeat (first | apply Kd.S_alloc | apply Kd.S_drewN | apply Kd.S_drew)); exact HO239.out) hb); have n1_ := Aside0.mk (below_step (by repeat (first | (with_reducible first | exact HB.out | apply below_alloc | apply pw_below_drewN | apply below_drew1) | exact HB.out)) hb); clear HO239; clear HB; have HO239 := n0_; have HB := n1_; clear n0_ n1_; (try clear hb); (try clear hb2); (try clear hk); (try clear hi)) | (go_at_call 29; (with_reducible refine (impl_UnitReadSections.calls t240 t241 t242 _ A8.out).mono ?_); rintro e w16 ⟨v243, rfl, ho0, hb⟩; have n0_ := Aside0.mk (Kd.S_elder' (by (with_reducible repeat (first | apply Kd.S_alloc | apply Kd.S_drewN | apply Kd.S_drew)); exact HO239.out) (Kd.S_base ho0) hb); have n1_ := Aside0.mk (Kd.S_lower (Kd.S_new' ho0 (Kd.S_lt (by (with_reducible repeat (first | apply Kd.S_alloc | apply Kd.S_drewN | apply Kd.S_drew)); exact HO239.out))) (below_size (by repeat (first | (with_reducible first | exact HB.out | apply below_alloc | apply pw_below_drewN | apply below_drew1) | exact HB.out)))); have n2_ := Aside0.mk (below_step (by repeat (first | (with_reducible first | exact HB.out | apply below_alloc | apply pw_below_drewN | apply below_drew1) | exact HB.out)) hb); clear HO239; clear HB; have HO239 := n0_; have HO244 := n1_; have HB := n2_; clear n0_ n1_ n2_; (try clear hb); (try clear hb2); (try clear hk); (try clear hi); (try clear ho0)) | (go_at_call 22; (with_reducible refine (impl_UnitRead.calls t240 t245 t246 _ A9.out).mono ?_); rintro e w17 ⟨v247, rfl, ho0, hb⟩; have n0_ := Aside0.mk (Kd.S_below (by (with_reducible repeat (first | apply Kd.S_alloc | apply Kd.S_drewN | apply Kd.S_drew)); exact HO239.out) hb); have n1_ := Aside0.mk (Kd.S_below (by (with_reducible repeat (first | apply Kd.S_alloc | apply Kd.S_drewN | apply Kd.S_drew)); exact HO244.out) hb); have n2_ := Aside0.mk (Kd.R_lower ho0 (below_size (by repeat (first | (with_reducible first | exact HB.out | apply below_alloc | apply pw_below_drewN | apply below_drew1) | exact HB.out)))); have n3_ := Aside0.mk (below_step (by repeat (first | (with_reducible first | exact HB.out | apply below_alloc | apply pw_below_drewN | apply below_drew1) | exact HB.out)) hb); clear HO239; clear HO244; clear HB; have HO239 := n0_; have HO244 := n1_; have HO248 := n2_; have HB := n3_; clear n0_ n1_ n2_ n3_; (try clear hb); (try clear hb2); (try clear hk); (try clear hi); (try clear ho0))); go_upto_region 9 with (first | (go_at_call 17; (with_reducible refine (laws_zzFits7.calls k _ _ l0 true _ ?side1 ?side2 A2.out).mono ?_); (case side1 => repeat (first | exact HR0.out | (with_reducible refine Kd.C_alloc ?_ _) | (with_reducible refine Kd.C_drewN ?_ _) | (with_reducible refine Kd.C_drew ?_))); (case side2 => exact HC0.out); rintro e w11 ⟨rfl, hb⟩; have n0_ := Aside0.mk (below_step (by repeat (first | (with_reducible first | exact HB.out | apply below_alloc | apply pw_below_drewN | apply below_drew1) | exact HB.out)) hb); clear HB; have HB := n0_; clear n0_; (try clear hb); (try clear hb2); (try clear hk); (try clear hi)) | (go_at_call 18; (with_reducible refine (laws_plainOptions.calls k _ _ l0 true _ ?side1 ?side2 A4.out).mono ?_); (case side1 => repeat (first | exact (Kd.C_below HR0.out HB.out) | (with_reducible refine Kd.C_alloc ?_ _) | (with_reducible refine Kd.C_drewN ?_ _) | (with_reducible refine Kd.C_drew ?_))); (case side2 => exact HC0.out); rintro e w12 ⟨rfl, hb⟩; have n0_ := Aside0.mk (below_step (by repeat (first | (with_reducible first | exact HB.out | apply below_alloc | apply pw_below_drewN | apply below_drew1) | exact HB.out)) hb); clear HB; have HB := n0_; clear n0_; (try clear hb); (try clear hb2); (try clear hk); (try clear hi)) | (go_at_call 27; (with_reducible refine (laws_sectionsOf.calls k _ _ l0 t237 _ ?side1 ?side2 A6.out).mono ?_); (case side1 => repeat (first | exact (Kd.C_below HR0.out HB.out) | (with_reducible refine Kd.C_alloc ?_ _) | (with_reducible refine Kd.C_drewN ?_ _) | (with_reducible refine Kd.C_drew ?_))); (case side2 => exact HC0.out); rintro e w13 ⟨v238, rfl, ho0, hb⟩; have n0_ := Aside0.mk (Kd.S_lower ho0 (below_size (by repeat (first | (with_reducible first | exact HB.out | apply below_alloc | apply pw_below_drewN | apply below_drew1) | exact HB.out)))); have n1_ := Aside0.mk (below_step (by repeat (first | (with_reducible first | exact HB.out | apply below_alloc | apply pw_below_drewN | apply below_drew1) | exact HB.out)) hb); clear HB; have HO239 := n0_; have HB := n1_; clear n0_ n1_; (try clear hb); (try clear hb2); (try clear hk); (try clear hi); (try clear ho0); obtain ⟨Ao14, co14, eo14⟩ := Kd.S_slice HO239.out; subst eo14) | (go_at_call 28; (with_reducible refine (impl_UnitWriteSections.calls _ _ t237 t240 _ ?side1 ?side2 A7.out).mono ?_); (case side1 => repeat (first | exact (Kd.S_reads' HO239.out).2.2 | (with_reducible refine Kd.C_alloc ?_ _) | (with_reducible refine Kd.C_drewN ?_ _) | (with_reducible refine Kd.C_drew ?_))); (case side2 => exact (Kd.S_reads' HO239.out).2.1); rintro e w15 ⟨rfl, hb⟩; have n0_ := Aside0.mk (Kd.S_below (by (with_reducible repeat (first | apply Kd.S_alloc | apply Kd.S_drewN | apply Kd.S_drew)); exact HO239.out) hb); have n1_ := Aside0.mk (below_step (by repeat (first | (with_reducible first | exact HB.out | apply below_alloc | apply pw_below_drewN | apply below_drew1) | exact HB.out)) hb); clear HO239; clear HB; have HO239 := n0_; have HB := n1_; clear n0_ n1_; (try clear hb); (try clear hb2); (try clear hk); (try clear hi)) | (go_at_call 29; (with_reducible refine (impl_UnitReadSections.calls t240 t241 t242 _ A8.out).mono ?_); rintro e w16 ⟨v243, rfl, ho0, hb⟩; have n0_ := Aside0.mk (Kd.S_elder' (by (with_reducible repeat (first | apply Kd.S_alloc | apply Kd.S_drewN | apply Kd.S_drew)); exact HO239.out) (Kd.S_base ho0) hb); have n1_ := Aside0.mk (Kd.S_lower (Kd.S_new' ho0 (Kd.S_lt (by (with_reducible repeat (first | apply Kd.S_alloc | apply Kd.S_drewN | apply Kd.S_drew)); exact HO239.out))) (below_size (by repeat (first | (with_reducible first | exact HB.out | apply below_alloc | apply pw_below_drewN | apply below_drew1) | exact HB.out)))); have n2_ := Aside0.mk (below_step (by repeat (first | (with_reducible first | exact HB.out | apply below_alloc | apply pw_below_drewN | apply below_drew1) | exact HB.out)) hb); clear HO239; clear HB; have HO239 := n0_; have HO244 := n1_; have HB := n2_; clear n0_ n1_ n2_; (try clear hb); (try clear hb2); (try clear hk); (try clear hi); (try clear ho0)) | (go_at_call 22; (with_reducible refine (impl_UnitRead.calls t240 t245 t246 _ A9.out).mono ?_); rintro e w17 ⟨v247, rfl, ho0, hb⟩; have n0_ := Aside0.mk (Kd.S_below (by (with_reducible repeat (first | apply Kd.S_alloc | apply Kd.S_drewN | apply Kd.S_drew)); exact HO239.out) hb); have n1_ := Aside0.mk (Kd.S_below (by (with_reducible repeat (first | apply Kd.S_alloc | apply Kd.S_drewN | apply Kd.S_drew)); exact HO244.out) hb); have n2_ := Aside0.mk (Kd.R_lower ho0 (below_size (by repeat (first | (with_reducible first | exact HB.out | apply below_alloc | apply pw_below_drewN | apply below_drew1) | exact HB.out)))); have n3_ := Aside0.mk (below_step (by repeat (first | (with_reducible first | exact HB.out | apply below_alloc | apply pw_below_drewN | apply below_drew1) | exact HB.out)) hb); clear HO239; clear HO244; clear HB; have HO239 := n0_; have HO244 := n1_; have HO248 := n2_; have HB := n3_; clear n0_ n1_ n2_ n3_; (try clear hb); (try clear hb2); (try clear hk); (try clear hi); (try clear ho0))))
     (try simp only [Act.put, List.setIfInBounds_toArray, List.set_cons_zero, List.set_cons_succ])
     go_cut [42] (fun v42 wc => ∃ (kq : Nat) (x42_9 : Bool), v42 = .bool x42_9 ∧ Aside0 (laws_FnUnitSections.j0 kq t237 t241 t245 x42_9 = some r) ∧ Aside0 (kq ≤ k) ∧ Aside0 (Kd.S k52 52 wc w.heap.size (fun k_ => some k_ ≠ (v243 : Value).ownBlock) (.slice Ao14 t237.length co14) t237) ∧ Aside0 (Kd.S k52 52 wc w.heap.size (fun k_ => some k_ ≠ ((.slice Ao14 t237.length co14) : Value).ownBlock) v243 t241) ∧ Aside0 (Kd.R k29 29 wc w.heap.size (fun _ => True) v247 t245) ∧ Aside0 (Below w.heap.size w wc))
     case first =>
      have H := HC10.out
      clear HC10
      by_cases c18 : t242 = 0
      · rw [if_pos c18] at H
        have c18b0 : (t242 == 0) = true := beq_iff_eq.mpr c18
        have c18b1 : (t242 != 0) = false := bne_eq_false_iff_eq.mpr c18
        clear c18
        (first | rw [c18b0] | (simp only [i64_w, i32_w]; rw [c18b0]) | skip)
        by_cases c19 : t246 = 0
        · rw [if_pos c19] at H
          have c19b0 : (t246 == 0) = true := beq_iff_eq.mpr c19
          have c19b1 : (t246 != 0) = false := bne_eq_false_iff_eq.mpr c19
          clear c19
          have H' := Aside0.mk H
          clear H
          obtain ⟨Ao20, co20, eo20⟩ := Kd.S_slice HO244.out
          subst eo20
          go_wp2
          repeat (go_quiet (fail); try go_wp2)
          go_meet
          case rel => exact ⟨_, (((t241.length : Int) != (t237.length : Int))), (by first | rfl | (simp; done) | (simp [*]; done)), H', ⟨by first | omega | exact Nat.le_refl _⟩, ⟨by (with_reducible repeat (first | apply Kd.S_alloc | apply Kd.S_drewN | apply Kd.S_drew)); exact Kd.S_mono HO239.out (fun _ hk => hk.2)⟩, ⟨by (with_reducible repeat (first | apply Kd.S_alloc | apply Kd.S_drewN | apply Kd.S_drew)); exact Kd.S_mono HO244.out (fun _ hk => hk.2)⟩, ⟨by (with_reducible repeat (first | apply Kd.R_alloc | apply Kd.R_drewN | apply Kd.R_drew)); exact HO248.out⟩, ⟨by repeat (first | (with_reducible first | exact HB.out | apply below_alloc | apply pw_below_drewN | apply below_drew1) | exact HB.out)⟩⟩
        · rw [if_neg c19] at H
          have c19b0 : (t246 == 0) = false := beq_eq_false_iff_ne.mpr c19
          have c19b1 : (t246 != 0) = true := bne_iff_ne.mpr c19
          have H' := Aside0.mk H
          clear H
          go_wp2
          repeat (go_quiet (fail); try go_wp2)
          go_meet
          case rel => exact ⟨_, (true), (by first | rfl | (simp; done) | (simp [*]; done)), H', ⟨by first | omega | exact Nat.le_refl _⟩, ⟨by (with_reducible repeat (first | apply Kd.S_alloc | apply Kd.S_drewN | apply Kd.S_drew)); exact Kd.S_mono HO239.out (fun _ hk => hk.2)⟩, ⟨by (with_reducible repeat (first | apply Kd.S_alloc | apply Kd.S_drewN | apply Kd.S_drew)); exact Kd.S_mono HO244.out (fun _ hk => hk.2)⟩, ⟨by (with_reducible repeat (first | apply Kd.R_alloc | apply Kd.R_drewN | apply Kd.R_drew)); exact HO248.out⟩, ⟨by repeat (first | (with_reducible first | exact HB.out | apply below_alloc | apply pw_below_drewN | apply below_drew1) | exact HB.out)⟩⟩
      · rw [if_neg c18] at H
        have c18b0 : (t242 == 0) = false := beq_eq_false_iff_ne.mpr c18
        have c18b1 : (t242 != 0) = true := bne_iff_ne.mpr c18
        (first | rw [c18b0] | (simp only [i64_w, i32_w]; rw [c18b0]) | skip)
        have H' := Aside0.mk H
        clear H
        go_wp2
        repeat (go_quiet (fail); try go_wp2)
        go_meet
        case rel => exact ⟨_, (true), (by first | rfl | (simp; done) | (simp [*]; done)), H', ⟨by first | omega | exact Nat.le_refl _⟩, ⟨by (with_reducible repeat (first | apply Kd.S_alloc | apply Kd.S_drewN | apply Kd.S_drew)); exact Kd.S_mono HO239.out (fun _ hk => hk.2)⟩, ⟨by (with_reducible repeat (first | apply Kd.S_alloc | apply Kd.S_drewN | apply Kd.S_drew)); exact Kd.S_mono HO244.out (fun _ hk => hk.2)⟩, ⟨by (with_reducible repeat (first | apply Kd.R_alloc | apply Kd.R_drewN | apply Kd.R_drew)); exact HO248.out⟩, ⟨by repeat (first | (with_reducible first | exact HB.out | apply below_alloc | apply pw_below_drewN | apply below_drew1) | exact HB.out)⟩⟩
     case rest =>
      clear HC10
      try clear c1
      try clear p2
      try clear c3
      try clear c5
      try clear c7
      try clear c18
      try clear c18b0
      try clear c18b1
      try clear c19
      try clear c19b0
      try clear c19b1
      obtain ⟨kq, x42_9, rfl, HA, HJ9, HO_3, HO_5, HO_7, HB⟩ := hcut
      cases kq with
      | zero => exact absurd HA.out (by simp [laws_FnUnitSections.j0])
      | succ kj9 =>
       have H := HA.out
       clear HA
       simp only [laws_FnUnitSections.j0] at H
       by_cases c21 : x42_9 = true
       · subst c21
         have H1 : (some false) = some r := by rw [if_pos rfl] at H; exact H
         clear H
         have H := H1
         clear H1
         obtain rfl := Option.some.inj H
         go_wp2
         repeat (go_quiet (fail); try go_wp2)
         go_ret
         exact ⟨by first | rfl | (simp [errW_none, errW_some] <;> rfl) | (simp [*, errW_none, errW_some] <;> rfl), by repeat (first | (with_reducible first | exact HB.out | apply below_alloc | apply pw_below_drewN | apply below_drew1) | exact HB.out)⟩
       · replace c21 := Bool.eq_false_iff.mpr c21
         subst c21
         have H1 : (laws_FnUnitSections.l0 kj9 t237 t241 t245 (t237.length : Int) 0) = some r := by rw [if_neg (show ¬ (false = true) by decide)] at H; exact H
         clear H
         have H := H1
         clear H1
         have H' := Aside0.mk H
         clear H
         go_wp2
         repeat (go_quiet (fail); try go_wp2)
         go_loopg [45] kj9 (fun kq v45 w' => ∃ (x45_2 : Int), v45 = .int .i64 x45_2 ∧ Aside0 (laws_FnUnitSections.l0 kq t237 t241 t245 (t237.length : Int) x45_2 = some r) ∧ Aside0 (kq ≤ kj9) ∧ Aside0 (Kd.S k52 52 w' w.heap.size (fun k_ => some k_ ≠ (v243 : Value).ownBlock) (.slice Ao14 t237.length co14) t237) ∧ Aside0 (Kd.S k52 52 w' w.heap.size (fun k_ => some k_ ≠ ((.slice Ao14 t237.length co14) : Value).ownBlock) v243 t241) ∧ Aside0 (Kd.R k29 29 w' w.heap.size (fun _ => True) v247 t245) ∧ Aside0 (Below w.heap.size w w'))
         case atStart => exact ⟨(0), (by first | rfl | (simp; done) | (simp [*]; done)), H', ⟨Nat.le_refl _⟩, ⟨by (with_reducible repeat (first | apply Kd.S_alloc | apply Kd.S_drewN | apply Kd.S_drew)); exact HO_3.out⟩, ⟨by (with_reducible repeat (first | apply Kd.S_alloc | apply Kd.S_drewN | apply Kd.S_drew)); exact HO_5.out⟩, ⟨by (with_reducible repeat (first | apply Kd.R_alloc | apply Kd.R_drewN | apply Kd.R_drew)); exact HO_7.out⟩, ⟨by repeat (first | (with_reducible first | exact HB.out | apply below_alloc | apply pw_below_drewN | apply below_drew1) | exact HB.out)⟩⟩
         case round =>
          clear H'
          try clear c1
          try clear c2
          try clear p2
          try clear c3
          try clear c5
          try clear c7
          try clear c18
          try clear c18b0
          try clear c18b1
          try clear c19
          try clear c19b0
          try clear c19b1
          try clear c21
          try clear p2
          obtain ⟨x45_2, rfl, HA, HK2, HO_3, HO_5, HO_7, HB⟩ := hrel
          cases gk with
          | zero => exact absurd HA.out (by simp [laws_FnUnitSections.l0])
          | succ k2 =>
           have H := HA.out
           clear HA
           simp only [laws_FnUnitSections.l0] at H
           by_cases c22 : x45_2 < (t237.length : Int)
           · rw [if_pos c22] at H
             have c22b0 : decide (x45_2 < (t237.length : Int)) = true := decide_eq_true c22
             clear c22
             by_cases c23 : 0 ≤ x45_2
             · rw [if_pos c23] at H
               have c23b0 : decide (0 ≤ x45_2) = true := decide_eq_true c23
               clear c23
               by_cases c24 : x45_2 < (t241.length : Int)
               · rw [if_pos c24] at H
                 have c24b0 : decide (x45_2 < (t241.length : Int)) = true := decide_eq_true c24
                 clear c24
                 by_cases c25 : x45_2 < (t237.length : Int)
                 · rw [if_pos c25] at H
                   have c25b0 : decide (x45_2 < (t237.length : Int)) = true := decide_eq_true c25
                   clear c25
                   by_cases c26 : ((rd_T52 t241 x45_2).f0).toList = ((rd_T52 t237 x45_2).f0).toList
                   · rw [if_pos c26] at H
                     have c26b0 : (((rd_T52 t241 x45_2).f0).toList == ((rd_T52 t237 x45_2).f0).toList) = true := beq_iff_eq.mpr c26
                     have c26b1 : (((rd_T52 t241 x45_2).f0).toList != ((rd_T52 t237 x45_2).f0).toList) = false := bne_eq_false_iff_eq.mpr c26
                     clear c26
                     have H' := Aside0.mk H
                     clear H
                     obtain ⟨Ao27, co27, eo27⟩ := Kd.S_slice HO_5.out
                     subst eo27
                     have p249 : 0 ≤ (x45_2 : Int) := of_decide_eq_true (by first | (with_reducible assumption) | assumption)
                     have q249 : x45_2 < (t241.length : Int) := of_decide_eq_true (by first | (with_reducible assumption) | assumption)
                     obtain ⟨ad249, A249_1, c249_1, e249, hx249_0, hx249_1, hl249_1, hi249_1⟩ := at_T52 (Kd.S_reads' HO_5.out).2.2 x45_2 p249 q249
                     cases e249
                     obtain ⟨ce249, hce249, hMe249, hcc249⟩ := Kd.S_get HO_5.out z52 x45_2 p249 (by first | exact q249 | exact of_decide_eq_true (by first | (with_reducible assumption) | assumption) | (have e_ := (Kd.S_reads' HO_5.out).1; omega))
                     obtain ⟨ve249_1, rfl, ge249_1⟩ := k52_openM hMe249
                     have hv249_1 := hcc249 1 _ rfl
                     rw [add_field _ _ 1 (by omega)] at hv249_1
                     replace hv249_1 := Option.some.inj (hv249_1.symm.trans hx249_1)
                     rw [hv249_1] at ge249_1
                     have HL249_1 := Aside0.mk (show Kd.R k74 74 _ _ _ _ ((rd_T52 t241 x45_2).f1) from ge249_1)
                     clear hv249_1 ge249_1
                     clear hcc249 hce249
                     have HR249_1 := Aside0.mk hi249_1
                     have HC249_1 := Aside0.mk hl249_1
                     clear hi249_1 hl249_1
                     replace p249 := eq_true p249
                     replace q249 := eq_true q249
                     have p250 : 0 ≤ (x45_2 : Int) := of_decide_eq_true (by first | (with_reducible assumption) | assumption)
                     have q250 : x45_2 < (t237.length : Int) := of_decide_eq_true (by first | (with_reducible assumption) | assumption)
                     obtain ⟨ad250, A250_1, c250_1, e250, hx250_0, hx250_1, hl250_1, hi250_1⟩ := at_T52 (Kd.S_reads' HO_3.out).2.2 x45_2 p250 q250
                     cases e250
                     obtain ⟨ce250, hce250, hMe250, hcc250⟩ := Kd.S_get HO_3.out z52 x45_2 p250 (by first | exact q250 | exact of_decide_eq_true (by first | (with_reducible assumption) | assumption) | (have e_ := (Kd.S_reads' HO_3.out).1; omega))
                     obtain ⟨ve250_1, rfl, ge250_1⟩ := k52_openM hMe250
                     have hv250_1 := hcc250 1 _ rfl
                     rw [add_field _ _ 1 (by omega)] at hv250_1
                     replace hv250_1 := Option.some.inj (hv250_1.symm.trans hx250_1)
                     rw [hv250_1] at ge250_1
                     have HL250_1 := Aside0.mk (show Kd.R k74 74 _ _ _ _ ((rd_T52 t237 x45_2).f1) from ge250_1)
                     clear hv250_1 ge250_1
                     clear hcc250 hce250
                     have HR250_1 := Aside0.mk hi250_1
                     have HC250_1 := Aside0.mk hl250_1
                     clear hi250_1 hl250_1
                     replace p250 := eq_true p250
                     replace q250 := eq_true q250
                     go_wp2
                     repeat (go_quiet (fail); try go_wp2)
                     go_roundg k2
                     case measure => have := HJ9.out; have := HK2.out; omega
                     case rel => exact ⟨(wrap64 (x45_2 + 1)), (by first | rfl | (simp; done) | (simp [*]; done)), H', ⟨by have := HJ9.out; have := HK2.out; omega⟩, ⟨by (with_reducible repeat (first | apply Kd.S_alloc | apply Kd.S_drewN | apply Kd.S_drew)); exact HO_3.out⟩, ⟨by (with_reducible repeat (first | apply Kd.S_alloc | apply Kd.S_drewN | apply Kd.S_drew)); exact HO_5.out⟩, ⟨by (with_reducible repeat (first | apply Kd.R_alloc | apply Kd.R_drewN | apply Kd.R_drew)); exact HO_7.out⟩, ⟨by repeat (first | (with_reducible first | exact HB.out | apply below_alloc | apply pw_below_drewN | apply below_drew1) | exact HB.out)⟩⟩
                   · rw [if_neg c26] at H
                     have c26b0 : (((rd_T52 t241 x45_2).f0).toList == ((rd_T52 t237 x45_2).f0).toList) = false := beq_eq_false_iff_ne.mpr c26
                     have c26b1 : (((rd_T52 t241 x45_2).f0).toList != ((rd_T52 t237 x45_2).f0).toList) = true := bne_iff_ne.mpr c26
                     obtain rfl := Option.some.inj H
                     obtain ⟨Ao28, co28, eo28⟩ := Kd.S_slice HO_5.out
                     subst eo28
                     have p249 : 0 ≤ (x45_2 : Int) := of_decide_eq_true (by first | (with_reducible assumption) | assumption)
                     have q249 : x45_2 < (t241.length : Int) := of_decide_eq_true (by first | (with_reducible assumption) | assumption)
                     obtain ⟨ad249, A249_1, c249_1, e249, hx249_0, hx249_1, hl249_1, hi249_1⟩ := at_T52 (Kd.S_reads' HO_5.out).2.2 x45_2 p249 q249
                     cases e249
                     obtain ⟨ce249, hce249, hMe249, hcc249⟩ := Kd.S_get HO_5.out z52 x45_2 p249 (by first | exact q249 | exact of_decide_eq_true (by first | (with_reducible assumption) | assumption) | (have e_ := (Kd.S_reads' HO_5.out).1; omega))
                     obtain ⟨ve249_1, rfl, ge249_1⟩ := k52_openM hMe249
                     have hv249_1 := hcc249 1 _ rfl
                     rw [add_field _ _ 1 (by omega)] at hv249_1
                     replace hv249_1 := Option.some.inj (hv249_1.symm.trans hx249_1)
                     rw [hv249_1] at ge249_1
                     have HL249_1 := Aside0.mk (show Kd.R k74 74 _ _ _ _ ((rd_T52 t241 x45_2).f1) from ge249_1)
                     clear hv249_1 ge249_1
                     clear hcc249 hce249
                     have HR249_1 := Aside0.mk hi249_1
                     have HC249_1 := Aside0.mk hl249_1
                     clear hi249_1 hl249_1
                     replace p249 := eq_true p249
                     replace q249 := eq_true q249
                     have p250 : 0 ≤ (x45_2 : Int) := of_decide_eq_true (by first | (with_reducible assumption) | assumption)
                     have q250 : x45_2 < (t237.length : Int) := of_decide_eq_true (by first | (with_reducible assumption) | assumption)
                     obtain ⟨ad250, A250_1, c250_1, e250, hx250_0, hx250_1, hl250_1, hi250_1⟩ := at_T52 (Kd.S_reads' HO_3.out).2.2 x45_2 p250 q250
                     cases e250
                     obtain ⟨ce250, hce250, hMe250, hcc250⟩ := Kd.S_get HO_3.out z52 x45_2 p250 (by first | exact q250 | exact of_decide_eq_true (by first | (with_reducible assumption) | assumption) | (have e_ := (Kd.S_reads' HO_3.out).1; omega))
                     obtain ⟨ve250_1, rfl, ge250_1⟩ := k52_openM hMe250
                     have hv250_1 := hcc250 1 _ rfl
                     rw [add_field _ _ 1 (by omega)] at hv250_1
                     replace hv250_1 := Option.some.inj (hv250_1.symm.trans hx250_1)
                     rw [hv250_1] at ge250_1
                     have HL250_1 := Aside0.mk (show Kd.R k74 74 _ _ _ _ ((rd_T52 t237 x45_2).f1) from ge250_1)
                     clear hv250_1 ge250_1
                     clear hcc250 hce250
                     have HR250_1 := Aside0.mk hi250_1
                     have HC250_1 := Aside0.mk hl250_1
                     clear hi250_1 hl250_1
                     replace p250 := eq_true p250
                     replace q250 := eq_true q250
                     go_wp2
                     repeat (go_quiet (fail); try go_wp2)
                     go_ret
                     exact ⟨by first | rfl | (simp [errW_none, errW_some] <;> rfl) | (simp [*, errW_none, errW_some] <;> rfl), by repeat (first | (with_reducible first | exact HB.out | apply below_alloc | apply pw_below_drewN | apply below_drew1) | exact HB.out)⟩
                 · rw [if_neg c25] at H
                   exact absurd H (by simp)
               · rw [if_neg c24] at H
                 exact absurd H (by simp)
             · rw [if_neg c23] at H
               exact absurd H (by simp)
           · rw [if_neg c22] at H
             have c22b0 : decide (x45_2 < (t237.length : Int)) = false := decide_eq_false c22
             clear c22
             replace H := Option.bind_eq_some_iff.mp H
             obtain ⟨t251, A290, H⟩ := H
             replace H : ((laws_flat.f k2 t237).bind fun t254 => ((laws_sameOptions.f k2 t251 t254).bind fun t257 => (if t257 = true then ((laws_flat.f k2 t237).bind fun t258 => ((laws_sameOptions.f k2 t245 t258).bind fun t261 => (if t261 = true then ((laws_reads.f).bind fun t262 => (some t262)) else (some false)))) else (some false)))) = some r := H
             have A29 := Aside0.mk A290
             clear A290
             replace H := Option.bind_eq_some_iff.mp H
             obtain ⟨t254, A300, H⟩ := H
             replace H : ((laws_sameOptions.f k2 t251 t254).bind fun t257 => (if t257 = true then ((laws_flat.f k2 t237).bind fun t258 => ((laws_sameOptions.f k2 t245 t258).bind fun t261 => (if t261 = true then ((laws_reads.f).bind fun t262 => (some t262)) else (some false)))) else (some false))) = some r := H
             have A30 := Aside0.mk A300
             clear A300
             replace H := Option.bind_eq_some_iff.mp H
             obtain ⟨t257, A310, H⟩ := H
             replace H : (if t257 = true then ((laws_flat.f k2 t237).bind fun t258 => ((laws_sameOptions.f k2 t245 t258).bind fun t261 => (if t261 = true then ((laws_reads.f).bind fun t262 => (some t262)) else (some false)))) else (some false)) = some r := H
             have A31 := Aside0.mk A310
             clear A310
             by_cases c32 : t257 = true
             · subst c32
               have H1 : ((laws_flat.f k2 t237).bind fun t258 => ((laws_sameOptions.f k2 t245 t258).bind fun t261 => (if t261 = true then ((laws_reads.f).bind fun t262 => (some t262)) else (some false)))) = some r := by rw [if_pos rfl] at H; exact H
               clear H
               have H := H1
               clear H1
               replace H := Option.bind_eq_some_iff.mp H
               obtain ⟨t258, A330, H⟩ := H
               replace H : ((laws_sameOptions.f k2 t245 t258).bind fun t261 => (if t261 = true then ((laws_reads.f).bind fun t262 => (some t262)) else (some false))) = some r := H
               have A33 := Aside0.mk A330
               clear A330
               replace H := Option.bind_eq_some_iff.mp H
               obtain ⟨t261, A340, H⟩ := H
               replace H : (if t261 = true then ((laws_reads.f).bind fun t262 => (some t262)) else (some false)) = some r := H
               have A34 := Aside0.mk A340
               clear A340
               by_cases c35 : t261 = true
               · subst c35
                 have H1 : ((laws_reads.f).bind fun t262 => (some t262)) = some r := by rw [if_pos rfl] at H; exact H
                 clear H
                 have H := H1
                 clear H1
                 replace H := Option.bind_eq_some_iff.mp H
                 obtain ⟨t262, A360, H⟩ := H
                 replace H : (some t262) = some r := H
                 have A36 := Aside0.mk A360
                 clear A360
                 obtain rfl := Option.some.inj H
                 obtain ⟨Ao37, co37, eo37⟩ := Kd.S_slice HO_5.out
                 subst eo37
                 go_wp2_with (first | (go_at_call 30; (with_reducible refine (laws_flat.calls k2 _ _ t241 t251 _ ?side1 ?side2 A29.out).mono ?_); (case side1 => repeat (first | exact (Kd.S_reads' HO_5.out).2.2 | (with_reducible refine Kd.C_alloc ?_ _) | (with_reducible refine Kd.C_drewN ?_ _) | (with_reducible refine Kd.C_drew ?_))); (case side2 => exact (Kd.S_reads' HO_5.out).2.1); rintro e w38 ⟨v252, rfl, ho0, hb⟩; have n0_ := Aside0.mk (Kd.S_below (by (with_reducible repeat (first | apply Kd.S_alloc | apply Kd.S_drewN | apply Kd.S_drew)); exact HO_3.out) hb); have n1_ := Aside0.mk (Kd.S_below (by (with_reducible repeat (first | apply Kd.S_alloc | apply Kd.S_drewN | apply Kd.S_drew)); exact HO_5.out) hb); have n2_ := Aside0.mk (Kd.R_elder' (by (with_reducible repeat (first | apply Kd.R_alloc | apply Kd.R_drewN | apply Kd.R_drew)); exact HO_7.out) (Kd.R_base ho0) hb); have n3_ := Aside0.mk (Kd.R_lower (Kd.R_new' ho0 (Kd.R_lt (by (with_reducible repeat (first | apply Kd.R_alloc | apply Kd.R_drewN | apply Kd.R_drew)); exact HO_7.out))) (below_size (by repeat (first | (with_reducible first | exact HB.out | apply below_alloc | apply pw_below_drewN | apply below_drew1) | exact HB.out)))); have n4_ := Aside0.mk (below_step (by repeat (first | (with_reducible first | exact HB.out | apply below_alloc | apply pw_below_drewN | apply below_drew1) | exact HB.out)) hb); clear HO_3; clear HO_5; clear HO_7; clear HB; have HO_3 := n0_; have HO_5 := n1_; have HO_7 := n2_; have HO253 := n3_; have HB := n4_; clear n0_ n1_ n2_ n3_ n4_; (try clear hb); (try clear hb2); (try clear hk); (try clear hi); (try clear ho0)) | (go_at_call 30; (with_reducible refine (laws_flat.calls k2 _ _ t237 t254 _ ?side1 ?side2 A30.out).mono ?_); (case side1 => repeat (first | exact (Kd.S_reads' HO_3.out).2.2 | (with_reducible refine Kd.C_alloc ?_ _) | (with_reducible refine Kd.C_drewN ?_ _) | (with_reducible refine Kd.C_drew ?_))); (case side2 => exact (Kd.S_reads' HO_3.out).2.1); rintro e w39 ⟨v255, rfl, ho0, hb⟩; have n0_ := Aside0.mk (Kd.S_below (by (with_reducible repeat (first | apply Kd.S_alloc | apply Kd.S_drewN | apply Kd.S_drew)); exact HO_3.out) hb); have n1_ := Aside0.mk (Kd.S_below (by (with_reducible repeat (first | apply Kd.S_alloc | apply Kd.S_drewN | apply Kd.S_drew)); exact HO_5.out) hb); have n2_ := Aside0.mk (Kd.R_elder' (by (with_reducible repeat (first | apply Kd.R_alloc | apply Kd.R_drewN | apply Kd.R_drew)); exact HO_7.out) (Kd.R_base ho0) hb); have n3_ := Aside0.mk (Kd.R_elder' (by (with_reducible repeat (first | apply Kd.R_alloc | apply Kd.R_drewN | apply Kd.R_drew)); exact HO253.out) (Kd.R_base ho0) hb); have n4_ := Aside0.mk (Kd.R_lower (Kd.R_new' (Kd.R_new' ho0 (Kd.R_lt (by (with_reducible repeat (first | apply Kd.R_alloc | apply Kd.R_drewN | apply Kd.R_drew)); exact HO_7.out))) (Kd.R_lt (by (with_reducible repeat (first | apply Kd.R_alloc | apply Kd.R_drewN | apply Kd.R_drew)); exact HO253.out))) (below_size (by repeat (first | (with_reducible first | exact HB.out | apply below_alloc | apply pw_below_drewN | apply below_drew1) | exact HB.out)))); have n5_ := Aside0.mk (below_step (by repeat (first | (with_reducible first | exact HB.out | apply below_alloc | apply pw_below_drewN | apply below_drew1) | exact HB.out)) hb); clear HO_3; clear HO_5; clear HO_7; clear HO253; clear HB; have HO_3 := n0_; have HO_5 := n1_; have HO_7 := n2_; have HO253 := n3_; have HO256 := n4_; have HB := n5_; clear n0_ n1_ n2_ n3_ n4_ n5_; (try clear hb); (try clear hb2); (try clear hk); (try clear hi); (try clear ho0); obtain ⟨Ao40, co40, eo40⟩ := Kd.R_slice HO253.out; subst eo40; obtain ⟨Ao41, co41, eo41⟩ := Kd.R_slice HO256.out; subst eo41) | (go_at_call 23; (with_reducible refine (laws_sameOptions.calls k2 _ _ t251 _ _ t254 true _ ?side1 ?side2 ?side3 ?side4 A31.out).mono ?_); (case side1 => repeat (first | exact (Kd.R_reads' HO253.out).2.2 | (with_reducible refine Kd.C_alloc ?_ _) | (with_reducible refine Kd.C_drewN ?_ _) | (with_reducible refine Kd.C_drew ?_))); (case side2 => exact (Kd.R_reads' HO253.out).2.1); (case side3 => repeat (first | exact (Kd.R_reads' HO256.out).2.2 | (with_reducible refine Kd.C_alloc ?_ _) | (with_reducible refine Kd.C_drewN ?_ _) | (with_reducible refine Kd.C_drew ?_))); (case side4 => exact (Kd.R_reads' HO256.out).2.1); rintro e w' ⟨rfl, ⟨nd, rfl⟩⟩; (try first | exact ⟨rfl, _, World.drewN_drewN _ _ _⟩ | exact ⟨rfl, _, Eq.trans (World.drewN_drewN _ _ _) (congrArg (World.drewN _) (Nat.add_assoc _ _ _))⟩)) | (go_at_call 30; (with_reducible refine (laws_flat.calls k2 _ _ t237 t258 _ ?side1 ?side2 A33.out).mono ?_); (case side1 => repeat (first | exact (Kd.S_reads' HO_3.out).2.2 | (with_reducible refine Kd.C_alloc ?_ _) | (with_reducible refine Kd.C_drewN ?_ _) | (with_reducible refine Kd.C_drew ?_))); (case side2 => exact (Kd.S_reads' HO_3.out).2.1); rintro e w42 ⟨v259, rfl, ho0, hb⟩; have n0_ := Aside0.mk (Kd.S_below (by (with_reducible repeat (first | apply Kd.S_alloc | apply Kd.S_drewN | apply Kd.S_drew)); exact HO_3.out) hb); have n1_ := Aside0.mk (Kd.S_below (by (with_reducible repeat (first | apply Kd.S_alloc | apply Kd.S_drewN | apply Kd.S_drew)); exact HO_5.out) hb); have n2_ := Aside0.mk (Kd.R_elder' (by (with_reducible repeat (first | apply Kd.R_alloc | apply Kd.R_drewN | apply Kd.R_drew)); exact HO_7.out) (Kd.R_base ho0) hb); have n3_ := Aside0.mk (Kd.R_elder' (by (with_reducible repeat (first | apply Kd.R_alloc | apply Kd.R_drewN | apply Kd.R_drew)); exact HO253.out) (Kd.R_base ho0) hb); have n4_ := Aside0.mk (Kd.R_elder' (by (with_reducible repeat (first | apply Kd.R_alloc | apply Kd.R_drewN | apply Kd.R_drew)); exact HO256.out) (Kd.R_base ho0) hb); have n5_ := Aside0.mk (Kd.R_lower (Kd.R_new' (Kd.R_new' (Kd.R_new' ho0 (Kd.R_lt (by (with_reducible repeat (first | apply Kd.R_alloc | apply Kd.R_drewN | apply Kd.R_drew)); exact HO_7.out))) (Kd.R_lt (by (with_reducible repeat (first | apply Kd.R_alloc | apply Kd.R_drewN | apply Kd.R_drew)); exact HO253.out))) (Kd.R_lt (by (with_reducible repeat (first | apply Kd.R_alloc | apply Kd.R_drewN | apply Kd.R_drew)); exact HO256.out))) (below_size (by repeat (first | (with_reducible first | exact HB.out | apply below_alloc | apply pw_below_drewN | apply below_drew1) | exact HB.out)))); have n6_ := Aside0.mk (below_step (by repeat (first | (with_reducible first | exact HB.out | apply below_alloc | apply pw_below_drewN | apply below_drew1) | exact HB.out)) hb); clear HO_3; clear HO_5; clear HO_7; clear HO253; clear HO256; clear HB; have HO_3 := n0_; have HO_5 := n1_; have HO_7 := n2_; have HO253 := n3_; have HO256 := n4_; have HO260 := n5_; have HB := n6_; clear n0_ n1_ n2_ n3_ n4_ n5_ n6_; (try clear hb); (try clear hb2); (try clear hk); (try clear hi); (try clear ho0); obtain ⟨Ao43, co43, eo43⟩ := Kd.R_slice HO_7.out; subst eo43; obtain ⟨Ao44, co44, eo44⟩ := Kd.R_slice HO260.out; subst eo44) | (go_at_call 23; (with_reducible refine (laws_sameOptions.calls k2 _ _ t245 _ _ t258 true _ ?side1 ?side2 ?side3 ?side4 A34.out).mono ?_); (case side1 => repeat (first | exact (Kd.R_reads' HO_7.out).2.2 | (with_reducible refine Kd.C_alloc ?_ _) | (with_reducible refine Kd.C_drewN ?_ _) | (with_reducible refine Kd.C_drew ?_))); (case side2 => exact (Kd.R_reads' HO_7.out).2.1); (case side3 => repeat (first | exact (Kd.R_reads' HO260.out).2.2 | (with_reducible refine Kd.C_alloc ?_ _) | (with_reducible refine Kd.C_drewN ?_ _) | (with_reducible refine Kd.C_drew ?_))); (case side4 => exact (Kd.R_reads' HO260.out).2.1); rintro e w' ⟨rfl, ⟨nd, rfl⟩⟩; (try first | exact ⟨rfl, _, World.drewN_drewN _ _ _⟩ | exact ⟨rfl, _, Eq.trans (World.drewN_drewN _ _ _) (congrArg (World.drewN _) (Nat.add_assoc _ _ _))⟩)) | (go_at_call 16; (with_reducible refine (laws_reads.calls  t262 _ A36.out).mono ?_); rintro e w45 ⟨rfl, hb⟩; have n0_ := Aside0.mk (Kd.S_below (by (with_reducible repeat (first | apply Kd.S_alloc | apply Kd.S_drewN | apply Kd.S_drew)); exact HO_3.out) hb); have n1_ := Aside0.mk (Kd.S_below (by (with_reducible repeat (first | apply Kd.S_alloc | apply Kd.S_drewN | apply Kd.S_drew)); exact HO_5.out) hb); have n2_ := Aside0.mk (Kd.R_below (by (with_reducible repeat (first | apply Kd.R_alloc | apply Kd.R_drewN | apply Kd.R_drew)); exact HO_7.out) hb); have n3_ := Aside0.mk (Kd.R_below (by (with_reducible repeat (first | apply Kd.R_alloc | apply Kd.R_drewN | apply Kd.R_drew)); exact HO253.out) hb); have n4_ := Aside0.mk (Kd.R_below (by (with_reducible repeat (first | apply Kd.R_alloc | apply Kd.R_drewN | apply Kd.R_drew)); exact HO256.out) hb); have n5_ := Aside0.mk (Kd.R_below (by (with_reducible repeat (first | apply Kd.R_alloc | apply Kd.R_drewN | apply Kd.R_drew)); exact HO260.out) hb); have n6_ := Aside0.mk (below_step (by repeat (first | (with_reducible first | exact HB.out | apply below_alloc | apply pw_below_drewN | apply below_drew1) | exact HB.out)) hb); clear HO_3; clear HO_5; clear HO_7; clear HO253; clear HO256; clear HO260; clear HB; have HO_3 := n0_; have HO_5 := n1_; have HO_7 := n2_; have HO253 := n3_; have HO256 := n4_; have HO260 := n5_; have HB := n6_; clear n0_ n1_ n2_ n3_ n4_ n5_ n6_; (try clear hb); (try clear hb2); (try clear hk); (try clear hi)))
                 repeat (go_quiet (first | (go_at_call 30; (with_reducible refine (laws_flat.calls k2 _ _ t241 t251 _ ?side1 ?side2 A29.out).mono ?_); (case side1 => repeat (first | exact (Kd.S_reads' HO_5.out).2.2 | (with_reducible refine Kd.C_alloc ?_ _) | (with_reducible refine Kd.C_drewN ?_ _) | (with_reducible refine Kd.C_drew ?_))); (case side2 => exact (Kd.S_reads' HO_5.out).2.1); rintro e w38 ⟨v252, rfl, ho0, hb⟩; have n0_ := Aside0.mk (Kd.S_below (by (with_reducible repeat (first | apply Kd.S_alloc | apply Kd.S_drewN | apply Kd.S_drew)); exact HO_3.out) hb); have n1_ := Aside0.mk (Kd.S_below (by (with_reducible repeat (first | apply Kd.S_alloc | apply Kd.S_drewN | apply Kd.S_drew)); exact HO_5.out) hb); have n2_ := Aside0.mk (Kd.R_elder' (by (with_reducible repeat (first | apply Kd.R_alloc | apply Kd.R_drewN | apply Kd.R_drew)); exact HO_7.out) (Kd.R_base ho0) hb); have n3_ := Aside0.mk (Kd.R_lower (Kd.R_new' ho0 (Kd.R_lt (by (with_reducible repeat (first | apply Kd.R_alloc | apply Kd.R_drewN | apply Kd.R_drew)); exact HO_7.out))) (below_size (by repeat (first | (with_reducible first | exact HB.out | apply below_alloc | apply pw_below_drewN | apply below_drew1) | exact HB.out)))); have n4_ := Aside0.mk (below_step (by repeat (first | (with_reducible first | exact HB.out | apply below_alloc | apply pw_below_drewN | apply below_drew1) | exact HB.out)) hb); clear HO_3; clear HO_5; clear HO_7; clear HB; have HO_3 := n0_; have HO_5 := n1_; have HO_7 := n2_; have HO253 := n3_; have HB := n4_; clear n0_ n1_ n2_ n3_ n4_; (try clear hb); (try clear hb2); (try clear hk); (try clear hi); (try clear ho0)) | (go_at_call 30; (with_reducible refine (laws_flat.calls k2 _ _ t237 t254 _ ?side1 ?side2 A30.out).mono ?_); (case side1 => repeat (first | exact (Kd.S_reads' HO_3.out).2.2 | (with_reducible refine Kd.C_alloc ?_ _) | (with_reducible refine Kd.C_drewN ?_ _) | (with_reducible refine Kd.C_drew ?_))); (case side2 => exact (Kd.S_reads' HO_3.out).2.1); rintro e w39 ⟨v255, rfl, ho0, hb⟩; have n0_ := Aside0.mk (Kd.S_below (by (with_reducible repeat (first | apply Kd.S_alloc | apply Kd.S_drewN | apply Kd.S_drew)); exact HO_3.out) hb); have n1_ := Aside0.mk (Kd.S_below (by (with_reducible repeat (first | apply Kd.S_alloc | apply Kd.S_drewN | apply Kd.S_drew)); exact HO_5.out) hb); have n2_ := Aside0.mk (Kd.R_elder' (by (with_reducible repeat (first | apply Kd.R_alloc | apply Kd.R_drewN | apply Kd.R_drew)); exact HO_7.out) (Kd.R_base ho0) hb); have n3_ := Aside0.mk (Kd.R_elder' (by (with_reducible repeat (first | apply Kd.R_alloc | apply Kd.R_drewN | apply Kd.R_drew)); exact HO253.out) (Kd.R_base ho0) hb); have n4_ := Aside0.mk (Kd.R_lower (Kd.R_new' (Kd.R_new' ho0 (Kd.R_lt (by (with_reducible repeat (first | apply Kd.R_alloc | apply Kd.R_drewN | apply Kd.R_drew)); exact HO_7.out))) (Kd.R_lt (by (with_reducible repeat (first | apply Kd.R_alloc | apply Kd.R_drewN | apply Kd.R_drew)); exact HO253.out))) (below_size (by repeat (first | (with_reducible first | exact HB.out | apply below_alloc | apply pw_below_drewN | apply below_drew1) | exact HB.out)))); have n5_ := Aside0.mk (below_step (by repeat (first | (with_reducible first | exact HB.out | apply below_alloc | apply pw_below_drewN | apply below_drew1) | exact HB.out)) hb); clear HO_3; clear HO_5; clear HO_7; clear HO253; clear HB; have HO_3 := n0_; have HO_5 := n1_; have HO_7 := n2_; have HO253 := n3_; have HO256 := n4_; have HB := n5_; clear n0_ n1_ n2_ n3_ n4_ n5_; (try clear hb); (try clear hb2); (try clear hk); (try clear hi); (try clear ho0); obtain ⟨Ao40, co40, eo40⟩ := Kd.R_slice HO253.out; subst eo40; obtain ⟨Ao41, co41, eo41⟩ := Kd.R_slice HO256.out; subst eo41) | (go_at_call 23; (with_reducible refine (laws_sameOptions.calls k2 _ _ t251 _ _ t254 true _ ?side1 ?side2 ?side3 ?side4 A31.out).mono ?_); (case side1 => repeat (first | exact (Kd.R_reads' HO253.out).2.2 | (with_reducible refine Kd.C_alloc ?_ _) | (with_reducible refine Kd.C_drewN ?_ _) | (with_reducible refine Kd.C_drew ?_))); (case side2 => exact (Kd.R_reads' HO253.out).2.1); (case side3 => repeat (first | exact (Kd.R_reads' HO256.out).2.2 | (with_reducible refine Kd.C_alloc ?_ _) | (with_reducible refine Kd.C_drewN ?_ _) | (with_reducible refine Kd.C_drew ?_))); (case side4 => exact (Kd.R_reads' HO256.out).2.1); rintro e w' ⟨rfl, ⟨nd, rfl⟩⟩; (try first | exact ⟨rfl, _, World.drewN_drewN _ _ _⟩ | exact ⟨rfl, _, Eq.trans (World.drewN_drewN _ _ _) (congrArg (World.drewN _) (Nat.add_assoc _ _ _))⟩)) | (go_at_call 30; (with_reducible refine (laws_flat.calls k2 _ _ t237 t258 _ ?side1 ?side2 A33.out).mono ?_); (case side1 => repeat (first | exact (Kd.S_reads' HO_3.out).2.2 | (with_reducible refine Kd.C_alloc ?_ _) | (with_reducible refine Kd.C_drewN ?_ _) | (with_reducible refine Kd.C_drew ?_))); (case side2 => exact (Kd.S_reads' HO_3.out).2.1); rintro e w42 ⟨v259, rfl, ho0, hb⟩; have n0_ := Aside0.mk (Kd.S_below (by (with_reducible repeat (first | apply Kd.S_alloc | apply Kd.S_drewN | apply Kd.S_drew)); exact HO_3.out) hb); have n1_ := Aside0.mk (Kd.S_below (by (with_reducible repeat (first | apply Kd.S_alloc | apply Kd.S_drewN | apply Kd.S_drew)); exact HO_5.out) hb); have n2_ := Aside0.mk (Kd.R_elder' (by (with_reducible repeat (first | apply Kd.R_alloc | apply Kd.R_drewN | apply Kd.R_drew)); exact HO_7.out) (Kd.R_base ho0) hb); have n3_ := Aside0.mk (Kd.R_elder' (by (with_reducible repeat (first | apply Kd.R_alloc | apply Kd.R_drewN | apply Kd.R_drew)); exact HO253.out) (Kd.R_base ho0) hb); have n4_ := Aside0.mk (Kd.R_elder' (by (with_reducible repeat (first | apply Kd.R_alloc | apply Kd.R_drewN | apply Kd.R_drew)); exact HO256.out) (Kd.R_base ho0) hb); have n5_ := Aside0.mk (Kd.R_lower (Kd.R_new' (Kd.R_new' (Kd.R_new' ho0 (Kd.R_lt (by (with_reducible repeat (first | apply Kd.R_alloc | apply Kd.R_drewN | apply Kd.R_drew)); exact HO_7.out))) (Kd.R_lt (by (with_reducible repeat (first | apply Kd.R_alloc | apply Kd.R_drewN | apply Kd.R_drew)); exact HO253.out))) (Kd.R_lt (by (with_reducible repeat (first | apply Kd.R_alloc | apply Kd.R_drewN | apply Kd.R_drew)); exact HO256.out))) (below_size (by repeat (first | (with_reducible first | exact HB.out | apply below_alloc | apply pw_below_drewN | apply below_drew1) | exact HB.out)))); have n6_ := Aside0.mk (below_step (by repeat (first | (with_reducible first | exact HB.out | apply below_alloc | apply pw_below_drewN | apply below_drew1) | exact HB.out)) hb); clear HO_3; clear HO_5; clear HO_7; clear HO253; clear HO256; clear HB; have HO_3 := n0_; have HO_5 := n1_; have HO_7 := n2_; have HO253 := n3_; have HO256 := n4_; have HO260 := n5_; have HB := n6_; clear n0_ n1_ n2_ n3_ n4_ n5_ n6_; (try clear hb); (try clear hb2); (try clear hk); (try clear hi); (try clear ho0); obtain ⟨Ao43, co43, eo43⟩ := Kd.R_slice HO_7.out; subst eo43; obtain ⟨Ao44, co44, eo44⟩ := Kd.R_slice HO260.out; subst eo44) | (go_at_call 23; (with_reducible refine (laws_sameOptions.calls k2 _ _ t245 _ _ t258 true _ ?side1 ?side2 ?side3 ?side4 A34.out).mono ?_); (case side1 => repeat (first | exact (Kd.R_reads' HO_7.out).2.2 | (with_reducible refine Kd.C_alloc ?_ _) | (with_reducible refine Kd.C_drewN ?_ _) | (with_reducible refine Kd.C_drew ?_))); (case side2 => exact (Kd.R_reads' HO_7.out).2.1); (case side3 => repeat (first | exact (Kd.R_reads' HO260.out).2.2 | (with_reducible refine Kd.C_alloc ?_ _) | (with_reducible refine Kd.C_drewN ?_ _) | (with_reducible refine Kd.C_drew ?_))); (case side4 => exact (Kd.R_reads' HO260.out).2.1); rintro e w' ⟨rfl, ⟨nd, rfl⟩⟩; (try first | exact ⟨rfl, _, World.drewN_drewN _ _ _⟩ | exact ⟨rfl, _, Eq.trans (World.drewN_drewN _ _ _) (congrArg (World.drewN _) (Nat.add_assoc _ _ _))⟩)) | (go_at_call 16; (with_reducible refine (laws_reads.calls  t262 _ A36.out).mono ?_); rintro e w45 ⟨rfl, hb⟩; have n0_ := Aside0.mk (Kd.S_below (by (with_reducible repeat (first | apply Kd.S_alloc | apply Kd.S_drewN | apply Kd.S_drew)); exact HO_3.out) hb); have n1_ := Aside0.mk (Kd.S_below (by (with_reducible repeat (first | apply Kd.S_alloc | apply Kd.S_drewN | apply Kd.S_drew)); exact HO_5.out) hb); have n2_ := Aside0.mk (Kd.R_below (by (with_reducible repeat (first | apply Kd.R_alloc | apply Kd.R_drewN | apply Kd.R_drew)); exact HO_7.out) hb); have n3_ := Aside0.mk (Kd.R_below (by (with_reducible repeat (first | apply Kd.R_alloc | apply Kd.R_drewN | apply Kd.R_drew)); exact HO253.out) hb); have n4_ := Aside0.mk (Kd.R_below (by (with_reducible repeat (first | apply Kd.R_alloc | apply Kd.R_drewN | apply Kd.R_drew)); exact HO256.out) hb); have n5_ := Aside0.mk (Kd.R_below (by (with_reducible repeat (first | apply Kd.R_alloc | apply Kd.R_drewN | apply Kd.R_drew)); exact HO260.out) hb); have n6_ := Aside0.mk (below_step (by repeat (first | (with_reducible first | exact HB.out | apply below_alloc | apply pw_below_drewN | apply below_drew1) | exact HB.out)) hb); clear HO_3; clear HO_5; clear HO_7; clear HO253; clear HO256; clear HO260; clear HB; have HO_3 := n0_; have HO_5 := n1_; have HO_7 := n2_; have HO253 := n3_; have HO256 := n4_; have HO260 := n5_; have HB := n6_; clear n0_ n1_ n2_ n3_ n4_ n5_ n6_; (try clear hb); (try clear hb2); (try clear hk); (try clear hi))); try go_wp2_with (first | (go_at_call 30; (with_reducible refine (laws_flat.calls k2 _ _ t241 t251 _ ?side1 ?side2 A29.out).mono ?_); (case side1 => repeat (first | exact (Kd.S_reads' HO_5.out).2.2 | (with_reducible refine Kd.C_alloc ?_ _) | (with_reducible refine Kd.C_drewN ?_ _) | (with_reducible refine Kd.C_drew ?_))); (case side2 => exact (Kd.S_reads' HO_5.out).2.1); rintro e w38 ⟨v252, rfl, ho0, hb⟩; have n0_ := Aside0.mk (Kd.S_below (by (with_reducible repeat (first | apply Kd.S_alloc | apply Kd.S_drewN | apply Kd.S_drew)); exact HO_3.out) hb); have n1_ := Aside0.mk (Kd.S_below (by (with_reducible repeat (first | apply Kd.S_alloc | apply Kd.S_drewN | apply Kd.S_drew)); exact HO_5.out) hb); have n2_ := Aside0.mk (Kd.R_elder' (by (with_reducible repeat (first | apply Kd.R_alloc | apply Kd.R_drewN | apply Kd.R_drew)); exact HO_7.out) (Kd.R_base ho0) hb); have n3_ := Aside0.mk (Kd.R_lower (Kd.R_new' ho0 (Kd.R_lt (by (with_reducible repeat (first | apply Kd.R_alloc | apply Kd.R_drewN | apply Kd.R_drew)); exact HO_7.out))) (below_size (by repeat (first | (with_reducible first | exact HB.out | apply below_alloc | apply pw_below_drewN | apply below_drew1) | exact HB.out)))); have n4_ := Aside0.mk (below_step (by repeat (first | (with_reducible first | exact HB.out | apply below_alloc | apply pw_below_drewN | apply below_drew1) | exact HB.out)) hb); clear HO_3; clear HO_5; clear HO_7; clear HB; have HO_3 := n0_; have HO_5 := n1_; have HO_7 := n2_; have HO253 := n3_; have HB := n4_; clear n0_ n1_ n2_ n3_ n4_; (try clear hb); (try clear hb2); (try clear hk); (try clear hi); (try clear ho0)) | (go_at_call 30; (with_reducible refine (laws_flat.calls k2 _ _ t237 t254 _ ?side1 ?side2 A30.out).mono ?_); (case side1 => repeat (first | exact (Kd.S_reads' HO_3.out).2.2 | (with_reducible refine Kd.C_alloc ?_ _) | (with_reducible refine Kd.C_drewN ?_ _) | (with_reducible refine Kd.C_drew ?_))); (case side2 => exact (Kd.S_reads' HO_3.out).2.1); rintro e w39 ⟨v255, rfl, ho0, hb⟩; have n0_ := Aside0.mk (Kd.S_below (by (with_reducible repeat (first | apply Kd.S_alloc | apply Kd.S_drewN | apply Kd.S_drew)); exact HO_3.out) hb); have n1_ := Aside0.mk (Kd.S_below (by (with_reducible repeat (first | apply Kd.S_alloc | apply Kd.S_drewN | apply Kd.S_drew)); exact HO_5.out) hb); have n2_ := Aside0.mk (Kd.R_elder' (by (with_reducible repeat (first | apply Kd.R_alloc | apply Kd.R_drewN | apply Kd.R_drew)); exact HO_7.out) (Kd.R_base ho0) hb); have n3_ := Aside0.mk (Kd.R_elder' (by (with_reducible repeat (first | apply Kd.R_alloc | apply Kd.R_drewN | apply Kd.R_drew)); exact HO253.out) (Kd.R_base ho0) hb); have n4_ := Aside0.mk (Kd.R_lower (Kd.R_new' (Kd.R_new' ho0 (Kd.R_lt (by (with_reducible repeat (first | apply Kd.R_alloc | apply Kd.R_drewN | apply Kd.R_drew)); exact HO_7.out))) (Kd.R_lt (by (with_reducible repeat (first | apply Kd.R_alloc | apply Kd.R_drewN | apply Kd.R_drew)); exact HO253.out))) (below_size (by repeat (first | (with_reducible first | exact HB.out | apply below_alloc | apply pw_below_drewN | apply below_drew1) | exact HB.out)))); have n5_ := Aside0.mk (below_step (by repeat (first | (with_reducible first | exact HB.out | apply below_alloc | apply pw_below_drewN | apply below_drew1) | exact HB.out)) hb); clear HO_3; clear HO_5; clear HO_7; clear HO253; clear HB; have HO_3 := n0_; have HO_5 := n1_; have HO_7 := n2_; have HO253 := n3_; have HO256 := n4_; have HB := n5_; clear n0_ n1_ n2_ n3_ n4_ n5_; (try clear hb); (try clear hb2); (try clear hk); (try clear hi); (try clear ho0); obtain ⟨Ao40, co40, eo40⟩ := Kd.R_slice HO253.out; subst eo40; obtain ⟨Ao41, co41, eo41⟩ := Kd.R_slice HO256.out; subst eo41) | (go_at_call 23; (with_reducible refine (laws_sameOptions.calls k2 _ _ t251 _ _ t254 true _ ?side1 ?side2 ?side3 ?side4 A31.out).mono ?_); (case side1 => repeat (first | exact (Kd.R_reads' HO253.out).2.2 | (with_reducible refine Kd.C_alloc ?_ _) | (with_reducible refine Kd.C_drewN ?_ _) | (with_reducible refine Kd.C_drew ?_))); (case side2 => exact (Kd.R_reads' HO253.out).2.1); (case side3 => repeat (first | exact (Kd.R_reads' HO256.out).2.2 | (with_reducible refine Kd.C_alloc ?_ _) | (with_reducible refine Kd.C_drewN ?_ _) | (with_reducible refine Kd.C_drew ?_))); (case side4 => exact (Kd.R_reads' HO256.out).2.1); rintro e w' ⟨rfl, ⟨nd, rfl⟩⟩; (try first | exact ⟨rfl, _, World.drewN_drewN _ _ _⟩ | exact ⟨rfl, _, Eq.trans (World.drewN_drewN _ _ _) (congrArg (World.drewN _) (Nat.add_assoc _ _ _))⟩)) | (go_at_call 30; (with_reducible refine (laws_flat.calls k2 _ _ t237 t258 _ ?side1 ?side2 A33.out).mono ?_); (case side1 => repeat (first | exact (Kd.S_reads' HO_3.out).2.2 | (with_reducible refine Kd.C_alloc ?_ _) | (with_reducible refine Kd.C_drewN ?_ _) | (with_reducible refine Kd.C_drew ?_))); (case side2 => exact (Kd.S_reads' HO_3.out).2.1); rintro e w42 ⟨v259, rfl, ho0, hb⟩; have n0_ := Aside0.mk (Kd.S_below (by (with_reducible repeat (first | apply Kd.S_alloc | apply Kd.S_drewN | apply Kd.S_drew)); exact HO_3.out) hb); have n1_ := Aside0.mk (Kd.S_below (by (with_reducible repeat (first | apply Kd.S_alloc | apply Kd.S_drewN | apply Kd.S_drew)); exact HO_5.out) hb); have n2_ := Aside0.mk (Kd.R_elder' (by (with_reducible repeat (first | apply Kd.R_alloc | apply Kd.R_drewN | apply Kd.R_drew)); exact HO_7.out) (Kd.R_base ho0) hb); have n3_ := Aside0.mk (Kd.R_elder' (by (with_reducible repeat (first | apply Kd.R_alloc | apply Kd.R_drewN | apply Kd.R_drew)); exact HO253.out) (Kd.R_base ho0) hb); have n4_ := Aside0.mk (Kd.R_elder' (by (with_reducible repeat (first | apply Kd.R_alloc | apply Kd.R_drewN | apply Kd.R_drew)); exact HO256.out) (Kd.R_base ho0) hb); have n5_ := Aside0.mk (Kd.R_lower (Kd.R_new' (Kd.R_new' (Kd.R_new' ho0 (Kd.R_lt (by (with_reducible repeat (first | apply Kd.R_alloc | apply Kd.R_drewN | apply Kd.R_drew)); exact HO_7.out))) (Kd.R_lt (by (with_reducible repeat (first | apply Kd.R_alloc | apply Kd.R_drewN | apply Kd.R_drew)); exact HO253.out))) (Kd.R_lt (by (with_reducible repeat (first | apply Kd.R_alloc | apply Kd.R_drewN | apply Kd.R_drew)); exact HO256.out))) (below_size (by repeat (first | (with_reducible first | exact HB.out | apply below_alloc | apply pw_below_drewN | apply below_drew1) | exact HB.out)))); have n6_ := Aside0.mk (below_step (by repeat (first | (with_reducible first | exact HB.out | apply below_alloc | apply pw_below_drewN | apply below_drew1) | exact HB.out)) hb); clear HO_3; clear HO_5; clear HO_7; clear HO253; clear HO256; clear HB; have HO_3 := n0_; have HO_5 := n1_; have HO_7 := n2_; have HO253 := n3_; have HO256 := n4_; have HO260 := n5_; have HB := n6_; clear n0_ n1_ n2_ n3_ n4_ n5_ n6_; (try clear hb); (try clear hb2); (try clear hk); (try clear hi); (try clear ho0); obtain ⟨Ao43, co43, eo43⟩ := Kd.R_slice HO_7.out; subst eo43; obtain ⟨Ao44, co44, eo44⟩ := Kd.R_slice HO260.out; subst eo44) | (go_at_call 23; (with_reducible refine (laws_sameOptions.calls k2 _ _ t245 _ _ t258 true _ ?side1 ?side2 ?side3 ?side4 A34.out).mono ?_); (case side1 => repeat (first | exact (Kd.R_reads' HO_7.out).2.2 | (with_reducible refine Kd.C_alloc ?_ _) | (with_reducible refine Kd.C_drewN ?_ _) | (with_reducible refine Kd.C_drew ?_))); (case side2 => exact (Kd.R_reads' HO_7.out).2.1); (case side3 => repeat (first | exact (Kd.R_reads' HO260.out).2.2 | (with_reducible refine Kd.C_alloc ?_ _) | (with_reducible refine Kd.C_drewN ?_ _) | (with_reducible refine Kd.C_drew ?_))); (case side4 => exact (Kd.R_reads' HO260.out).2.1); rintro e w' ⟨rfl, ⟨nd, rfl⟩⟩; (try first | exact ⟨rfl, _, World.drewN_drewN _ _ _⟩ | exact ⟨rfl, _, Eq.trans (World.drewN_drewN _ _ _) (congrArg (World.drewN _) (Nat.add_assoc _ _ _))⟩)) | (go_at_call 16; (with_reducible refine (laws_reads.calls  t262 _ A36.out).mono ?_); rintro e w45 ⟨rfl, hb⟩; have n0_ := Aside0.mk (Kd.S_below (by (with_reducible repeat (first | apply Kd.S_alloc | apply Kd.S_drewN | apply Kd.S_drew)); exact HO_3.out) hb); have n1_ := Aside0.mk (Kd.S_below (by (with_reducible repeat (first | apply Kd.S_alloc | apply Kd.S_drewN | apply Kd.S_drew)); exact HO_5.out) hb); have n2_ := Aside0.mk (Kd.R_below (by (with_reducible repeat (first | apply Kd.R_alloc | apply Kd.R_drewN | apply Kd.R_drew)); exact HO_7.out) hb); have n3_ := Aside0.mk (Kd.R_below (by (with_reducible repeat (first | apply Kd.R_alloc | apply Kd.R_drewN | apply Kd.R_drew)); exact HO253.out) hb); have n4_ := Aside0.mk (Kd.R_below (by (with_reducible repeat (first | apply Kd.R_alloc | apply Kd.R_drewN | apply Kd.R_drew)); exact HO256.out) hb); have n5_ := Aside0.mk (Kd.R_below (by (with_reducible repeat (first | apply Kd.R_alloc | apply Kd.R_drewN | apply Kd.R_drew)); exact HO260.out) hb); have n6_ := Aside0.mk (below_step (by repeat (first | (with_reducible first | exact HB.out | apply below_alloc | apply pw_below_drewN | apply below_drew1) | exact HB.out)) hb); clear HO_3; clear HO_5; clear HO_7; clear HO253; clear HO256; clear HO260; clear HB; have HO_3 := n0_; have HO_5 := n1_; have HO_7 := n2_; have HO253 := n3_; have HO256 := n4_; have HO260 := n5_; have HB := n6_; clear n0_ n1_ n2_ n3_ n4_ n5_ n6_; (try clear hb); (try clear hb2); (try clear hk); (try clear hi))))
                 go_ret
                 exact ⟨by first | rfl | (simp [errW_none, errW_some] <;> rfl) | (simp [*, errW_none, errW_some] <;> rfl), by repeat (first | (with_reducible first | exact HB.out | apply below_alloc | apply pw_below_drewN | apply below_drew1) | exact HB.out)⟩
               · replace c35 := Bool.eq_false_iff.mpr c35
                 subst c35
                 have H1 : (some false) = some r := by rw [if_neg (show ¬ (false = true) by decide)] at H; exact H
                 clear H
                 have H := H1
                 clear H1
                 obtain rfl := Option.some.inj H
                 obtain ⟨Ao46, co46, eo46⟩ := Kd.S_slice HO_5.out
                 subst eo46
                 go_wp2_with (first | (go_at_call 30; (with_reducible refine (laws_flat.calls k2 _ _ t241 t251 _ ?side1 ?side2 A29.out).mono ?_); (case side1 => repeat (first | exact (Kd.S_reads' HO_5.out).2.2 | (with_reducible refine Kd.C_alloc ?_ _) | (with_reducible refine Kd.C_drewN ?_ _) | (with_reducible refine Kd.C_drew ?_))); (case side2 => exact (Kd.S_reads' HO_5.out).2.1); rintro e w47 ⟨v252, rfl, ho0, hb⟩; have n0_ := Aside0.mk (Kd.S_below (by (with_reducible repeat (first | apply Kd.S_alloc | apply Kd.S_drewN | apply Kd.S_drew)); exact HO_3.out) hb); have n1_ := Aside0.mk (Kd.S_below (by (with_reducible repeat (first | apply Kd.S_alloc | apply Kd.S_drewN | apply Kd.S_drew)); exact HO_5.out) hb); have n2_ := Aside0.mk (Kd.R_elder' (by (with_reducible repeat (first | apply Kd.R_alloc | apply Kd.R_drewN | apply Kd.R_drew)); exact HO_7.out) (Kd.R_base ho0) hb); have n3_ := Aside0.mk (Kd.R_lower (Kd.R_new' ho0 (Kd.R_lt (by (with_reducible repeat (first | apply Kd.R_alloc | apply Kd.R_drewN | apply Kd.R_drew)); exact HO_7.out))) (below_size (by repeat (first | (with_reducible first | exact HB.out | apply below_alloc | apply pw_below_drewN | apply below_drew1) | exact HB.out)))); have n4_ := Aside0.mk (below_step (by repeat (first | (with_reducible first | exact HB.out | apply below_alloc | apply pw_below_drewN | apply below_drew1) | exact HB.out)) hb); clear HO_3; clear HO_5; clear HO_7; clear HB; have HO_3 := n0_; have HO_5 := n1_; have HO_7 := n2_; have HO253 := n3_; have HB := n4_; clear n0_ n1_ n2_ n3_ n4_; (try clear hb); (try clear hb2); (try clear hk); (try clear hi); (try clear ho0)) | (go_at_call 30; (with_reducible refine (laws_flat.calls k2 _ _ t237 t254 _ ?side1 ?side2 A30.out).mono ?_); (case side1 => repeat (first | exact (Kd.S_reads' HO_3.out).2.2 | (with_reducible refine Kd.C_alloc ?_ _) | (with_reducible refine Kd.C_drewN ?_ _) | (with_reducible refine Kd.C_drew ?_))); (case side2 => exact (Kd.S_reads' HO_3.out).2.1); rintro e w48 ⟨v255, rfl, ho0, hb⟩; have n0_ := Aside0.mk (Kd.S_below (by (with_reducible repeat (first | apply Kd.S_alloc | apply Kd.S_drewN | apply Kd.S_drew)); exact HO_3.out) hb); have n1_ := Aside0.mk (Kd.S_below (by (with_reducible repeat (first | apply Kd.S_alloc | apply Kd.S_drewN | apply Kd.S_drew)); exact HO_5.out) hb); have n2_ := Aside0.mk (Kd.R_elder' (by (with_reducible repeat (first | apply Kd.R_alloc | apply Kd.R_drewN | apply Kd.R_drew)); exact HO_7.out) (Kd.R_base ho0) hb); have n3_ := Aside0.mk (Kd.R_elder' (by (with_reducible repeat (first | apply Kd.R_alloc | apply Kd.R_drewN | apply Kd.R_drew)); exact HO253.out) (Kd.R_base ho0) hb); have n4_ := Aside0.mk (Kd.R_lower (Kd.R_new' (Kd.R_new' ho0 (Kd.R_lt (by (with_reducible repeat (first | apply Kd.R_alloc | apply Kd.R_drewN | apply Kd.R_drew)); exact HO_7.out))) (Kd.R_lt (by (with_reducible repeat (first | apply Kd.R_alloc | apply Kd.R_drewN | apply Kd.R_drew)); exact HO253.out))) (below_size (by repeat (first | (with_reducible first | exact HB.out | apply below_alloc | apply pw_below_drewN | apply below_drew1) | exact HB.out)))); have n5_ := Aside0.mk (below_step (by repeat (first | (with_reducible first | exact HB.out | apply below_alloc | apply pw_below_drewN | apply below_drew1) | exact HB.out)) hb); clear HO_3; clear HO_5; clear HO_7; clear HO253; clear HB; have HO_3 := n0_; have HO_5 := n1_; have HO_7 := n2_; have HO253 := n3_; have HO256 := n4_; have HB := n5_; clear n0_ n1_ n2_ n3_ n4_ n5_; (try clear hb); (try clear hb2); (try clear hk); (try clear hi); (try clear ho0); obtain ⟨Ao49, co49, eo49⟩ := Kd.R_slice HO253.out; subst eo49; obtain ⟨Ao50, co50, eo50⟩ := Kd.R_slice HO256.out; subst eo50) | (go_at_call 23; (with_reducible refine (laws_sameOptions.calls k2 _ _ t251 _ _ t254 true _ ?side1 ?side2 ?side3 ?side4 A31.out).mono ?_); (case side1 => repeat (first | exact (Kd.R_reads' HO253.out).2.2 | (with_reducible refine Kd.C_alloc ?_ _) | (with_reducible refine Kd.C_drewN ?_ _) | (with_reducible refine Kd.C_drew ?_))); (case side2 => exact (Kd.R_reads' HO253.out).2.1); (case side3 => repeat (first | exact (Kd.R_reads' HO256.out).2.2 | (with_reducible refine Kd.C_alloc ?_ _) | (with_reducible refine Kd.C_drewN ?_ _) | (with_reducible refine Kd.C_drew ?_))); (case side4 => exact (Kd.R_reads' HO256.out).2.1); rintro e w' ⟨rfl, ⟨nd, rfl⟩⟩; (try first | exact ⟨rfl, _, World.drewN_drewN _ _ _⟩ | exact ⟨rfl, _, Eq.trans (World.drewN_drewN _ _ _) (congrArg (World.drewN _) (Nat.add_assoc _ _ _))⟩)) | (go_at_call 30; (with_reducible refine (laws_flat.calls k2 _ _ t237 t258 _ ?side1 ?side2 A33.out).mono ?_); (case side1 => repeat (first | exact (Kd.S_reads' HO_3.out).2.2 | (with_reducible refine Kd.C_alloc ?_ _) | (with_reducible refine Kd.C_drewN ?_ _) | (with_reducible refine Kd.C_drew ?_))); (case side2 => exact (Kd.S_reads' HO_3.out).2.1); rintro e w51 ⟨v259, rfl, ho0, hb⟩; have n0_ := Aside0.mk (Kd.S_below (by (with_reducible repeat (first | apply Kd.S_alloc | apply Kd.S_drewN | apply Kd.S_drew)); exact HO_3.out) hb); have n1_ := Aside0.mk (Kd.S_below (by (with_reducible repeat (first | apply Kd.S_alloc | apply Kd.S_drewN | apply Kd.S_drew)); exact HO_5.out) hb); have n2_ := Aside0.mk (Kd.R_elder' (by (with_reducible repeat (first | apply Kd.R_alloc | apply Kd.R_drewN | apply Kd.R_drew)); exact HO_7.out) (Kd.R_base ho0) hb); have n3_ := Aside0.mk (Kd.R_elder' (by (with_reducible repeat (first | apply Kd.R_alloc | apply Kd.R_drewN | apply Kd.R_drew)); exact HO253.out) (Kd.R_base ho0) hb); have n4_ := Aside0.mk (Kd.R_elder' (by (with_reducible repeat (first | apply Kd.R_alloc | apply Kd.R_drewN | apply Kd.R_drew)); exact HO256.out) (Kd.R_base ho0) hb); have n5_ := Aside0.mk (Kd.R_lower (Kd.R_new' (Kd.R_new' (Kd.R_new' ho0 (Kd.R_lt (by (with_reducible repeat (first | apply Kd.R_alloc | apply Kd.R_drewN | apply Kd.R_drew)); exact HO_7.out))) (Kd.R_lt (by (with_reducible repeat (first | apply Kd.R_alloc | apply Kd.R_drewN | apply Kd.R_drew)); exact HO253.out))) (Kd.R_lt (by (with_reducible repeat (first | apply Kd.R_alloc | apply Kd.R_drewN | apply Kd.R_drew)); exact HO256.out))) (below_size (by repeat (first | (with_reducible first | exact HB.out | apply below_alloc | apply pw_below_drewN | apply below_drew1) | exact HB.out)))); have n6_ := Aside0.mk (below_step (by repeat (first | (with_reducible first | exact HB.out | apply below_alloc | apply pw_below_drewN | apply below_drew1) | exact HB.out)) hb); clear HO_3; clear HO_5; clear HO_7; clear HO253; clear HO256; clear HB; have HO_3 := n0_; have HO_5 := n1_; have HO_7 := n2_; have HO253 := n3_; have HO256 := n4_; have HO260 := n5_; have HB := n6_; clear n0_ n1_ n2_ n3_ n4_ n5_ n6_; (try clear hb); (try clear hb2); (try clear hk); (try clear hi); (try clear ho0); obtain ⟨Ao52, co52, eo52⟩ := Kd.R_slice HO_7.out; subst eo52; obtain ⟨Ao53, co53, eo53⟩ := Kd.R_slice HO260.out; subst eo53) | (go_at_call 23; (with_reducible refine (laws_sameOptions.calls k2 _ _ t245 _ _ t258 false _ ?side1 ?side2 ?side3 ?side4 A34.out).mono ?_); (case side1 => repeat (first | exact (Kd.R_reads' HO_7.out).2.2 | (with_reducible refine Kd.C_alloc ?_ _) | (with_reducible refine Kd.C_drewN ?_ _) | (with_reducible refine Kd.C_drew ?_))); (case side2 => exact (Kd.R_reads' HO_7.out).2.1); (case side3 => repeat (first | exact (Kd.R_reads' HO260.out).2.2 | (with_reducible refine Kd.C_alloc ?_ _) | (with_reducible refine Kd.C_drewN ?_ _) | (with_reducible refine Kd.C_drew ?_))); (case side4 => exact (Kd.R_reads' HO260.out).2.1); rintro e w' ⟨rfl, ⟨nd, rfl⟩⟩; (try first | exact ⟨rfl, _, World.drewN_drewN _ _ _⟩ | exact ⟨rfl, _, Eq.trans (World.drewN_drewN _ _ _) (congrArg (World.drewN _) (Nat.add_assoc _ _ _))⟩)))
                 repeat (go_quiet (first | (go_at_call 30; (with_reducible refine (laws_flat.calls k2 _ _ t241 t251 _ ?side1 ?side2 A29.out).mono ?_); (case side1 => repeat (first | exact (Kd.S_reads' HO_5.out).2.2 | (with_reducible refine Kd.C_alloc ?_ _) | (with_reducible refine Kd.C_drewN ?_ _) | (with_reducible refine Kd.C_drew ?_))); (case side2 => exact (Kd.S_reads' HO_5.out).2.1); rintro e w47 ⟨v252, rfl, ho0, hb⟩; have n0_ := Aside0.mk (Kd.S_below (by (with_reducible repeat (first | apply Kd.S_alloc | apply Kd.S_drewN | apply Kd.S_drew)); exact HO_3.out) hb); have n1_ := Aside0.mk (Kd.S_below (by (with_reducible repeat (first | apply Kd.S_alloc | apply Kd.S_drewN | apply Kd.S_drew)); exact HO_5.out) hb); have n2_ := Aside0.mk (Kd.R_elder' (by (with_reducible repeat (first | apply Kd.R_alloc | apply Kd.R_drewN | apply Kd.R_drew)); exact HO_7.out) (Kd.R_base ho0) hb); have n3_ := Aside0.mk (Kd.R_lower (Kd.R_new' ho0 (Kd.R_lt (by (with_reducible repeat (first | apply Kd.R_alloc | apply Kd.R_drewN | apply Kd.R_drew)); exact HO_7.out))) (below_size (by repeat (first | (with_reducible first | exact HB.out | apply below_alloc | apply pw_below_drewN | apply below_drew1) | exact HB.out)))); have n4_ := Aside0.mk (below_step (by repeat (first | (with_reducible first | exact HB.out | apply below_alloc | apply pw_below_drewN | apply below_drew1) | exact HB.out)) hb); clear HO_3; clear HO_5; clear HO_7; clear HB; have HO_3 := n0_; have HO_5 := n1_; have HO_7 := n2_; have HO253 := n3_; have HB := n4_; clear n0_ n1_ n2_ n3_ n4_; (try clear hb); (try clear hb2); (try clear hk); (try clear hi); (try clear ho0)) | (go_at_call 30; (with_reducible refine (laws_flat.calls k2 _ _ t237 t254 _ ?side1 ?side2 A30.out).mono ?_); (case side1 => repeat (first | exact (Kd.S_reads' HO_3.out).2.2 | (with_reducible refine Kd.C_alloc ?_ _) | (with_reducible refine Kd.C_drewN ?_ _) | (with_reducible refine Kd.C_drew ?_))); (case side2 => exact (Kd.S_reads' HO_3.out).2.1); rintro e w48 ⟨v255, rfl, ho0, hb⟩; have n0_ := Aside0.mk (Kd.S_below (by (with_reducible repeat (first | apply Kd.S_alloc | apply Kd.S_drewN | apply Kd.S_drew)); exact HO_3.out) hb); have n1_ := Aside0.mk (Kd.S_below (by (with_reducible repeat (first | apply Kd.S_alloc | apply Kd.S_drewN | apply Kd.S_drew)); exact HO_5.out) hb); have n2_ := Aside0.mk (Kd.R_elder' (by (with_reducible repeat (first | apply Kd.R_alloc | apply Kd.R_drewN | apply Kd.R_drew)); exact HO_7.out) (Kd.R_base ho0) hb); have n3_ := Aside0.mk (Kd.R_elder' (by (with_reducible repeat (first | apply Kd.R_alloc | apply Kd.R_drewN | apply Kd.R_drew)); exact HO253.out) (Kd.R_base ho0) hb); have n4_ := Aside0.mk (Kd.R_lower (Kd.R_new' (Kd.R_new' ho0 (Kd.R_lt (by (with_reducible repeat (first | apply Kd.R_alloc | apply Kd.R_drewN | apply Kd.R_drew)); exact HO_7.out))) (Kd.R_lt (by (with_reducible repeat (first | apply Kd.R_alloc | apply Kd.R_drewN | apply Kd.R_drew)); exact HO253.out))) (below_size (by repeat (first | (with_reducible first | exact HB.out | apply below_alloc | apply pw_below_drewN | apply below_drew1) | exact HB.out)))); have n5_ := Aside0.mk (below_step (by repeat (first | (with_reducible first | exact HB.out | apply below_alloc | apply pw_below_drewN | apply below_drew1) | exact HB.out)) hb); clear HO_3; clear HO_5; clear HO_7; clear HO253; clear HB; have HO_3 := n0_; have HO_5 := n1_; have HO_7 := n2_; have HO253 := n3_; have HO256 := n4_; have HB := n5_; clear n0_ n1_ n2_ n3_ n4_ n5_; (try clear hb); (try clear hb2); (try clear hk); (try clear hi); (try clear ho0); obtain ⟨Ao49, co49, eo49⟩ := Kd.R_slice HO253.out; subst eo49; obtain ⟨Ao50, co50, eo50⟩ := Kd.R_slice HO256.out; subst eo50) | (go_at_call 23; (with_reducible refine (laws_sameOptions.calls k2 _ _ t251 _ _ t254 true _ ?side1 ?side2 ?side3 ?side4 A31.out).mono ?_); (case side1 => repeat (first | exact (Kd.R_reads' HO253.out).2.2 | (with_reducible refine Kd.C_alloc ?_ _) | (with_reducible refine Kd.C_drewN ?_ _) | (with_reducible refine Kd.C_drew ?_))); (case side2 => exact (Kd.R_reads' HO253.out).2.1); (case side3 => repeat (first | exact (Kd.R_reads' HO256.out).2.2 | (with_reducible refine Kd.C_alloc ?_ _) | (with_reducible refine Kd.C_drewN ?_ _) | (with_reducible refine Kd.C_drew ?_))); (case side4 => exact (Kd.R_reads' HO256.out).2.1); rintro e w' ⟨rfl, ⟨nd, rfl⟩⟩; (try first | exact ⟨rfl, _, World.drewN_drewN _ _ _⟩ | exact ⟨rfl, _, Eq.trans (World.drewN_drewN _ _ _) (congrArg (World.drewN _) (Nat.add_assoc _ _ _))⟩)) | (go_at_call 30; (with_reducible refine (laws_flat.calls k2 _ _ t237 t258 _ ?side1 ?side2 A33.out).mono ?_); (case side1 => repeat (first | exact (Kd.S_reads' HO_3.out).2.2 | (with_reducible refine Kd.C_alloc ?_ _) | (with_reducible refine Kd.C_drewN ?_ _) | (with_reducible refine Kd.C_drew ?_))); (case side2 => exact (Kd.S_reads' HO_3.out).2.1); rintro e w51 ⟨v259, rfl, ho0, hb⟩; have n0_ := Aside0.mk (Kd.S_below (by (with_reducible repeat (first | apply Kd.S_alloc | apply Kd.S_drewN | apply Kd.S_drew)); exact HO_3.out) hb); have n1_ := Aside0.mk (Kd.S_below (by (with_reducible repeat (first | apply Kd.S_alloc | apply Kd.S_drewN | apply Kd.S_drew)); exact HO_5.out) hb); have n2_ := Aside0.mk (Kd.R_elder' (by (with_reducible repeat (first | apply Kd.R_alloc | apply Kd.R_drewN | apply Kd.R_drew)); exact HO_7.out) (Kd.R_base ho0) hb); have n3_ := Aside0.mk (Kd.R_elder' (by (with_reducible repeat (first | apply Kd.R_alloc | apply Kd.R_drewN | apply Kd.R_drew)); exact HO253.out) (Kd.R_base ho0) hb); have n4_ := Aside0.mk (Kd.R_elder' (by (with_reducible repeat (first | apply Kd.R_alloc | apply Kd.R_drewN | apply Kd.R_drew)); exact HO256.out) (Kd.R_base ho0) hb); have n5_ := Aside0.mk (Kd.R_lower (Kd.R_new' (Kd.R_new' (Kd.R_new' ho0 (Kd.R_lt (by (with_reducible repeat (first | apply Kd.R_alloc | apply Kd.R_drewN | apply Kd.R_drew)); exact HO_7.out))) (Kd.R_lt (by (with_reducible repeat (first | apply Kd.R_alloc | apply Kd.R_drewN | apply Kd.R_drew)); exact HO253.out))) (Kd.R_lt (by (with_reducible repeat (first | apply Kd.R_alloc | apply Kd.R_drewN | apply Kd.R_drew)); exact HO256.out))) (below_size (by repeat (first | (with_reducible first | exact HB.out | apply below_alloc | apply pw_below_drewN | apply below_drew1) | exact HB.out)))); have n6_ := Aside0.mk (below_step (by repeat (first | (with_reducible first | exact HB.out | apply below_alloc | apply pw_below_drewN | apply below_drew1) | exact HB.out)) hb); clear HO_3; clear HO_5; clear HO_7; clear HO253; clear HO256; clear HB; have HO_3 := n0_; have HO_5 := n1_; have HO_7 := n2_; have HO253 := n3_; have HO256 := n4_; have HO260 := n5_; have HB := n6_; clear n0_ n1_ n2_ n3_ n4_ n5_ n6_; (try clear hb); (try clear hb2); (try clear hk); (try clear hi); (try clear ho0); obtain ⟨Ao52, co52, eo52⟩ := Kd.R_slice HO_7.out; subst eo52; obtain ⟨Ao53, co53, eo53⟩ := Kd.R_slice HO260.out; subst eo53) | (go_at_call 23; (with_reducible refine (laws_sameOptions.calls k2 _ _ t245 _ _ t258 false _ ?side1 ?side2 ?side3 ?side4 A34.out).mono ?_); (case side1 => repeat (first | exact (Kd.R_reads' HO_7.out).2.2 | (with_reducible refine Kd.C_alloc ?_ _) | (with_reducible refine Kd.C_drewN ?_ _) | (with_reducible refine Kd.C_drew ?_))); (case side2 => exact (Kd.R_reads' HO_7.out).2.1); (case side3 => repeat (first | exact (Kd.R_reads' HO260.out).2.2 | (with_reducible refine Kd.C_alloc ?_ _) | (with_reducible refine Kd.C_drewN ?_ _) | (with_reducible refine Kd.C_drew ?_))); (case side4 => exact (Kd.R_reads' HO260.out).2.1); rintro e w' ⟨rfl, ⟨nd, rfl⟩⟩; (try first | exact ⟨rfl, _, World.drewN_drewN _ _ _⟩ | exact ⟨rfl, _, Eq.trans (World.drewN_drewN _ _ _) (congrArg (World.drewN _) (Nat.add_assoc _ _ _))⟩))); try go_wp2_with (first | (go_at_call 30; (with_reducible refine (laws_flat.calls k2 _ _ t241 t251 _ ?side1 ?side2 A29.out).mono ?_); (case side1 => repeat (first | exact (Kd.S_reads' HO_5.out).2.2 | (with_reducible refine Kd.C_alloc ?_ _) | (with_reducible refine Kd.C_drewN ?_ _) | (with_reducible refine Kd.C_drew ?_))); (case side2 => exact (Kd.S_reads' HO_5.out).2.1); rintro e w47 ⟨v252, rfl, ho0, hb⟩; have n0_ := Aside0.mk (Kd.S_below (by (with_reducible repeat (first | apply Kd.S_alloc | apply Kd.S_drewN | apply Kd.S_drew)); exact HO_3.out) hb); have n1_ := Aside0.mk (Kd.S_below (by (with_reducible repeat (first | apply Kd.S_alloc | apply Kd.S_drewN | apply Kd.S_drew)); exact HO_5.out) hb); have n2_ := Aside0.mk (Kd.R_elder' (by (with_reducible repeat (first | apply Kd.R_alloc | apply Kd.R_drewN | apply Kd.R_drew)); exact HO_7.out) (Kd.R_base ho0) hb); have n3_ := Aside0.mk (Kd.R_lower (Kd.R_new' ho0 (Kd.R_lt (by (with_reducible repeat (first | apply Kd.R_alloc | apply Kd.R_drewN | apply Kd.R_drew)); exact HO_7.out))) (below_size (by repeat (first | (with_reducible first | exact HB.out | apply below_alloc | apply pw_below_drewN | apply below_drew1) | exact HB.out)))); have n4_ := Aside0.mk (below_step (by repeat (first | (with_reducible first | exact HB.out | apply below_alloc | apply pw_below_drewN | apply below_drew1) | exact HB.out)) hb); clear HO_3; clear HO_5; clear HO_7; clear HB; have HO_3 := n0_; have HO_5 := n1_; have HO_7 := n2_; have HO253 := n3_; have HB := n4_; clear n0_ n1_ n2_ n3_ n4_; (try clear hb); (try clear hb2); (try clear hk); (try clear hi); (try clear ho0)) | (go_at_call 30; (with_reducible refine (laws_flat.calls k2 _ _ t237 t254 _ ?side1 ?side2 A30.out).mono ?_); (case side1 => repeat (first | exact (Kd.S_reads' HO_3.out).2.2 | (with_reducible refine Kd.C_alloc ?_ _) | (with_reducible refine Kd.C_drewN ?_ _) | (with_reducible refine Kd.C_drew ?_))); (case side2 => exact (Kd.S_reads' HO_3.out).2.1); rintro e w48 ⟨v255, rfl, ho0, hb⟩; have n0_ := Aside0.mk (Kd.S_below (by (with_reducible repeat (first | apply Kd.S_alloc | apply Kd.S_drewN | apply Kd.S_drew)); exact HO_3.out) hb); have n1_ := Aside0.mk (Kd.S_below (by (with_reducible repeat (first | apply Kd.S_alloc | apply Kd.S_drewN | apply Kd.S_drew)); exact HO_5.out) hb); have n2_ := Aside0.mk (Kd.R_elder' (by (with_reducible repeat (first | apply Kd.R_alloc | apply Kd.R_drewN | apply Kd.R_drew)); exact HO_7.out) (Kd.R_base ho0) hb); have n3_ := Aside0.mk (Kd.R_elder' (by (with_reducible repeat (first | apply Kd.R_alloc | apply Kd.R_drewN | apply Kd.R_drew)); exact HO253.out) (Kd.R_base ho0) hb); have n4_ := Aside0.mk (Kd.R_lower (Kd.R_new' (Kd.R_new' ho0 (Kd.R_lt (by (with_reducible repeat (first | apply Kd.R_alloc | apply Kd.R_drewN | apply Kd.R_drew)); exact HO_7.out))) (Kd.R_lt (by (with_reducible repeat (first | apply Kd.R_alloc | apply Kd.R_drewN | apply Kd.R_drew)); exact HO253.out))) (below_size (by repeat (first | (with_reducible first | exact HB.out | apply below_alloc | apply pw_below_drewN | apply below_drew1) | exact HB.out)))); have n5_ := Aside0.mk (below_step (by repeat (first | (with_reducible first | exact HB.out | apply below_alloc | apply pw_below_drewN | apply below_drew1) | exact HB.out)) hb); clear HO_3; clear HO_5; clear HO_7; clear HO253; clear HB; have HO_3 := n0_; have HO_5 := n1_; have HO_7 := n2_; have HO253 := n3_; have HO256 := n4_; have HB := n5_; clear n0_ n1_ n2_ n3_ n4_ n5_; (try clear hb); (try clear hb2); (try clear hk); (try clear hi); (try clear ho0); obtain ⟨Ao49, co49, eo49⟩ := Kd.R_slice HO253.out; subst eo49; obtain ⟨Ao50, co50, eo50⟩ := Kd.R_slice HO256.out; subst eo50) | (go_at_call 23; (with_reducible refine (laws_sameOptions.calls k2 _ _ t251 _ _ t254 true _ ?side1 ?side2 ?side3 ?side4 A31.out).mono ?_); (case side1 => repeat (first | exact (Kd.R_reads' HO253.out).2.2 | (with_reducible refine Kd.C_alloc ?_ _) | (with_reducible refine Kd.C_drewN ?_ _) | (with_reducible refine Kd.C_drew ?_))); (case side2 => exact (Kd.R_reads' HO253.out).2.1); (case side3 => repeat (first | exact (Kd.R_reads' HO256.out).2.2 | (with_reducible refine Kd.C_alloc ?_ _) | (with_reducible refine Kd.C_drewN ?_ _) | (with_reducible refine Kd.C_drew ?_))); (case side4 => exact (Kd.R_reads' HO256.out).2.1); rintro e w' ⟨rfl, ⟨nd, rfl⟩⟩; (try first | exact ⟨rfl, _, World.drewN_drewN _ _ _⟩ | exact ⟨rfl, _, Eq.trans (World.drewN_drewN _ _ _) (congrArg (World.drewN _) (Nat.add_assoc _ _ _))⟩)) | (go_at_call 30; (with_reducible refine (laws_flat.calls k2 _ _ t237 t258 _ ?side1 ?side2 A33.out).mono ?_); (case side1 => repeat (first | exact (Kd.S_reads' HO_3.out).2.2 | (with_reducible refine Kd.C_alloc ?_ _) | (with_reducible refine Kd.C_drewN ?_ _) | (with_reducible refine Kd.C_drew ?_))); (case side2 => exact (Kd.S_reads' HO_3.out).2.1); rintro e w51 ⟨v259, rfl, ho0, hb⟩; have n0_ := Aside0.mk (Kd.S_below (by (with_reducible repeat (first | apply Kd.S_alloc | apply Kd.S_drewN | apply Kd.S_drew)); exact HO_3.out) hb); have n1_ := Aside0.mk (Kd.S_below (by (with_reducible repeat (first | apply Kd.S_alloc | apply Kd.S_drewN | apply Kd.S_drew)); exact HO_5.out) hb); have n2_ := Aside0.mk (Kd.R_elder' (by (with_reducible repeat (first | apply Kd.R_alloc | apply Kd.R_drewN | apply Kd.R_drew)); exact HO_7.out) (Kd.R_base ho0) hb); have n3_ := Aside0.mk (Kd.R_elder' (by (with_reducible repeat (first | apply Kd.R_alloc | apply Kd.R_drewN | apply Kd.R_drew)); exact HO253.out) (Kd.R_base ho0) hb); have n4_ := Aside0.mk (Kd.R_elder' (by (with_reducible repeat (first | apply Kd.R_alloc | apply Kd.R_drewN | apply Kd.R_drew)); exact HO256.out) (Kd.R_base ho0) hb); have n5_ := Aside0.mk (Kd.R_lower (Kd.R_new' (Kd.R_new' (Kd.R_new' ho0 (Kd.R_lt (by (with_reducible repeat (first | apply Kd.R_alloc | apply Kd.R_drewN | apply Kd.R_drew)); exact HO_7.out))) (Kd.R_lt (by (with_reducible repeat (first | apply Kd.R_alloc | apply Kd.R_drewN | apply Kd.R_drew)); exact HO253.out))) (Kd.R_lt (by (with_reducible repeat (first | apply Kd.R_alloc | apply Kd.R_drewN | apply Kd.R_drew)); exact HO256.out))) (below_size (by repeat (first | (with_reducible first | exact HB.out | apply below_alloc | apply pw_below_drewN | apply below_drew1) | exact HB.out)))); have n6_ := Aside0.mk (below_step (by repeat (first | (with_reducible first | exact HB.out | apply below_alloc | apply pw_below_drewN | apply below_drew1) | exact HB.out)) hb); clear HO_3; clear HO_5; clear HO_7; clear HO253; clear HO256; clear HB; have HO_3 := n0_; have HO_5 := n1_; have HO_7 := n2_; have HO253 := n3_; have HO256 := n4_; have HO260 := n5_; have HB := n6_; clear n0_ n1_ n2_ n3_ n4_ n5_ n6_; (try clear hb); (try clear hb2); (try clear hk); (try clear hi); (try clear ho0); obtain ⟨Ao52, co52, eo52⟩ := Kd.R_slice HO_7.out; subst eo52; obtain ⟨Ao53, co53, eo53⟩ := Kd.R_slice HO260.out; subst eo53) | (go_at_call 23; (with_reducible refine (laws_sameOptions.calls k2 _ _ t245 _ _ t258 false _ ?side1 ?side2 ?side3 ?side4 A34.out).mono ?_); (case side1 => repeat (first | exact (Kd.R_reads' HO_7.out).2.2 | (with_reducible refine Kd.C_alloc ?_ _) | (with_reducible refine Kd.C_drewN ?_ _) | (with_reducible refine Kd.C_drew ?_))); (case side2 => exact (Kd.R_reads' HO_7.out).2.1); (case side3 => repeat (first | exact (Kd.R_reads' HO260.out).2.2 | (with_reducible refine Kd.C_alloc ?_ _) | (with_reducible refine Kd.C_drewN ?_ _) | (with_reducible refine Kd.C_drew ?_))); (case side4 => exact (Kd.R_reads' HO260.out).2.1); rintro e w' ⟨rfl, ⟨nd, rfl⟩⟩; (try first | exact ⟨rfl, _, World.drewN_drewN _ _ _⟩ | exact ⟨rfl, _, Eq.trans (World.drewN_drewN _ _ _) (congrArg (World.drewN _) (Nat.add_assoc _ _ _))⟩))))
                 go_ret
                 exact ⟨by first | rfl | (simp [errW_none, errW_some] <;> rfl) | (simp [*, errW_none, errW_some] <;> rfl), by repeat (first | (with_reducible first | exact HB.out | apply below_alloc | apply pw_below_drewN | apply below_drew1) | exact HB.out)⟩
             · replace c32 := Bool.eq_false_iff.mpr c32
               subst c32
               have H1 : (some false) = some r := by rw [if_neg (show ¬ (false = true) by decide)] at H; exact H
               clear H
               have H := H1
               clear H1
               obtain rfl := Option.some.inj H
               obtain ⟨Ao54, co54, eo54⟩ := Kd.S_slice HO_5.out
               subst eo54
               go_wp2_with (first | (go_at_call 30; (with_reducible refine (laws_flat.calls k2 _ _ t241 t251 _ ?side1 ?side2 A29.out).mono ?_); (case side1 => repeat (first | exact (Kd.S_reads' HO_5.out).2.2 | (with_reducible refine Kd.C_alloc ?_ _) | (with_reducible refine Kd.C_drewN ?_ _) | (with_reducible refine Kd.C_drew ?_))); (case side2 => exact (Kd.S_reads' HO_5.out).2.1); rintro e w55 ⟨v252, rfl, ho0, hb⟩; have n0_ := Aside0.mk (Kd.S_below (by (with_reducible repeat (first | apply Kd.S_alloc | apply Kd.S_drewN | apply Kd.S_drew)); exact HO_3.out) hb); have n1_ := Aside0.mk (Kd.S_below (by (with_reducible repeat (first | apply Kd.S_alloc | apply Kd.S_drewN | apply Kd.S_drew)); exact HO_5.out) hb); have n2_ := Aside0.mk (Kd.R_elder' (by (with_reducible repeat (first | apply Kd.R_alloc | apply Kd.R_drewN | apply Kd.R_drew)); exact HO_7.out) (Kd.R_base ho0) hb); have n3_ := Aside0.mk (Kd.R_lower (Kd.R_new' ho0 (Kd.R_lt (by (with_reducible repeat (first | apply Kd.R_alloc | apply Kd.R_drewN | apply Kd.R_drew)); exact HO_7.out))) (below_size (by repeat (first | (with_reducible first | exact HB.out | apply below_alloc | apply pw_below_drewN | apply below_drew1) | exact HB.out)))); have n4_ := Aside0.mk (below_step (by repeat (first | (with_reducible first | exact HB.out | apply below_alloc | apply pw_below_drewN | apply below_drew1) | exact HB.out)) hb); clear HO_3; clear HO_5; clear HO_7; clear HB; have HO_3 := n0_; have HO_5 := n1_; have HO_7 := n2_; have HO253 := n3_; have HB := n4_; clear n0_ n1_ n2_ n3_ n4_; (try clear hb); (try clear hb2); (try clear hk); (try clear hi); (try clear ho0)) | (go_at_call 30; (with_reducible refine (laws_flat.calls k2 _ _ t237 t254 _ ?side1 ?side2 A30.out).mono ?_); (case side1 => repeat (first | exact (Kd.S_reads' HO_3.out).2.2 | (with_reducible refine Kd.C_alloc ?_ _) | (with_reducible refine Kd.C_drewN ?_ _) | (with_reducible refine Kd.C_drew ?_))); (case side2 => exact (Kd.S_reads' HO_3.out).2.1); rintro e w56 ⟨v255, rfl, ho0, hb⟩; have n0_ := Aside0.mk (Kd.S_below (by (with_reducible repeat (first | apply Kd.S_alloc | apply Kd.S_drewN | apply Kd.S_drew)); exact HO_3.out) hb); have n1_ := Aside0.mk (Kd.S_below (by (with_reducible repeat (first | apply Kd.S_alloc | apply Kd.S_drewN | apply Kd.S_drew)); exact HO_5.out) hb); have n2_ := Aside0.mk (Kd.R_elder' (by (with_reducible repeat (first | apply Kd.R_alloc | apply Kd.R_drewN | apply Kd.R_drew)); exact HO_7.out) (Kd.R_base ho0) hb); have n3_ := Aside0.mk (Kd.R_elder' (by (with_reducible repeat (first | apply Kd.R_alloc | apply Kd.R_drewN | apply Kd.R_drew)); exact HO253.out) (Kd.R_base ho0) hb); have n4_ := Aside0.mk (Kd.R_lower (Kd.R_new' (Kd.R_new' ho0 (Kd.R_lt (by (with_reducible repeat (first | apply Kd.R_alloc | apply Kd.R_drewN | apply Kd.R_drew)); exact HO_7.out))) (Kd.R_lt (by (with_reducible repeat (first | apply Kd.R_alloc | apply Kd.R_drewN | apply Kd.R_drew)); exact HO253.out))) (below_size (by repeat (first | (with_reducible first | exact HB.out | apply below_alloc | apply pw_below_drewN | apply below_drew1) | exact HB.out)))); have n5_ := Aside0.mk (below_step (by repeat (first | (with_reducible first | exact HB.out | apply below_alloc | apply pw_below_drewN | apply below_drew1) | exact HB.out)) hb); clear HO_3; clear HO_5; clear HO_7; clear HO253; clear HB; have HO_3 := n0_; have HO_5 := n1_; have HO_7 := n2_; have HO253 := n3_; have HO256 := n4_; have HB := n5_; clear n0_ n1_ n2_ n3_ n4_ n5_; (try clear hb); (try clear hb2); (try clear hk); (try clear hi); (try clear ho0); obtain ⟨Ao57, co57, eo57⟩ := Kd.R_slice HO253.out; subst eo57; obtain ⟨Ao58, co58, eo58⟩ := Kd.R_slice HO256.out; subst eo58) | (go_at_call 23; (with_reducible refine (laws_sameOptions.calls k2 _ _ t251 _ _ t254 false _ ?side1 ?side2 ?side3 ?side4 A31.out).mono ?_); (case side1 => repeat (first | exact (Kd.R_reads' HO253.out).2.2 | (with_reducible refine Kd.C_alloc ?_ _) | (with_reducible refine Kd.C_drewN ?_ _) | (with_reducible refine Kd.C_drew ?_))); (case side2 => exact (Kd.R_reads' HO253.out).2.1); (case side3 => repeat (first | exact (Kd.R_reads' HO256.out).2.2 | (with_reducible refine Kd.C_alloc ?_ _) | (with_reducible refine Kd.C_drewN ?_ _) | (with_reducible refine Kd.C_drew ?_))); (case side4 => exact (Kd.R_reads' HO256.out).2.1); rintro e w' ⟨rfl, ⟨nd, rfl⟩⟩; (try first | exact ⟨rfl, _, World.drewN_drewN _ _ _⟩ | exact ⟨rfl, _, Eq.trans (World.drewN_drewN _ _ _) (congrArg (World.drewN _) (Nat.add_assoc _ _ _))⟩)))
               repeat (go_quiet (first | (go_at_call 30; (with_reducible refine (laws_flat.calls k2 _ _ t241 t251 _ ?side1 ?side2 A29.out).mono ?_); (case side1 => repeat (first | exact (Kd.S_reads' HO_5.out).2.2 | (with_reducible refine Kd.C_alloc ?_ _) | (with_reducible refine Kd.C_drewN ?_ _) | (with_reducible refine Kd.C_drew ?_))); (case side2 => exact (Kd.S_reads' HO_5.out).2.1); rintro e w55 ⟨v252, rfl, ho0, hb⟩; have n0_ := Aside0.mk (Kd.S_below (by (with_reducible repeat (first | apply Kd.S_alloc | apply Kd.S_drewN | apply Kd.S_drew)); exact HO_3.out) hb); have n1_ := Aside0.mk (Kd.S_below (by (with_reducible repeat (first | apply Kd.S_alloc | apply Kd.S_drewN | apply Kd.S_drew)); exact HO_5.out) hb); have n2_ := Aside0.mk (Kd.R_elder' (by (with_reducible repeat (first | apply Kd.R_alloc | apply Kd.R_drewN | apply Kd.R_drew)); exact HO_7.out) (Kd.R_base ho0) hb); have n3_ := Aside0.mk (Kd.R_lower (Kd.R_new' ho0 (Kd.R_lt (by (with_reducible repeat (first | apply Kd.R_alloc | apply Kd.R_drewN | apply Kd.R_drew)); exact HO_7.out))) (below_size (by repeat (first | (with_reducible first | exact HB.out | apply below_alloc | apply pw_below_drewN | apply below_drew1) | exact HB.out)))); have n4_ := Aside0.mk (below_step (by repeat (first | (with_reducible first | exact HB.out | apply below_alloc | apply pw_below_drewN | apply below_drew1) | exact HB.out)) hb); clear HO_3; clear HO_5; clear HO_7; clear HB; have HO_3 := n0_; have HO_5 := n1_; have HO_7 := n2_; have HO253 := n3_; have HB := n4_; clear n0_ n1_ n2_ n3_ n4_; (try clear hb); (try clear hb2); (try clear hk); (try clear hi); (try clear ho0)) | (go_at_call 30; (with_reducible refine (laws_flat.calls k2 _ _ t237 t254 _ ?side1 ?side2 A30.out).mono ?_); (case side1 => repeat (first | exact (Kd.S_reads' HO_3.out).2.2 | (with_reducible refine Kd.C_alloc ?_ _) | (with_reducible refine Kd.C_drewN ?_ _) | (with_reducible refine Kd.C_drew ?_))); (case side2 => exact (Kd.S_reads' HO_3.out).2.1); rintro e w56 ⟨v255, rfl, ho0, hb⟩; have n0_ := Aside0.mk (Kd.S_below (by (with_reducible repeat (first | apply Kd.S_alloc | apply Kd.S_drewN | apply Kd.S_drew)); exact HO_3.out) hb); have n1_ := Aside0.mk (Kd.S_below (by (with_reducible repeat (first | apply Kd.S_alloc | apply Kd.S_drewN | apply Kd.S_drew)); exact HO_5.out) hb); have n2_ := Aside0.mk (Kd.R_elder' (by (with_reducible repeat (first | apply Kd.R_alloc | apply Kd.R_drewN | apply Kd.R_drew)); exact HO_7.out) (Kd.R_base ho0) hb); have n3_ := Aside0.mk (Kd.R_elder' (by (with_reducible repeat (first | apply Kd.R_alloc | apply Kd.R_drewN | apply Kd.R_drew)); exact HO253.out) (Kd.R_base ho0) hb); have n4_ := Aside0.mk (Kd.R_lower (Kd.R_new' (Kd.R_new' ho0 (Kd.R_lt (by (with_reducible repeat (first | apply Kd.R_alloc | apply Kd.R_drewN | apply Kd.R_drew)); exact HO_7.out))) (Kd.R_lt (by (with_reducible repeat (first | apply Kd.R_alloc | apply Kd.R_drewN | apply Kd.R_drew)); exact HO253.out))) (below_size (by repeat (first | (with_reducible first | exact HB.out | apply below_alloc | apply pw_below_drewN | apply below_drew1) | exact HB.out)))); have n5_ := Aside0.mk (below_step (by repeat (first | (with_reducible first | exact HB.out | apply below_alloc | apply pw_below_drewN | apply below_drew1) | exact HB.out)) hb); clear HO_3; clear HO_5; clear HO_7; clear HO253; clear HB; have HO_3 := n0_; have HO_5 := n1_; have HO_7 := n2_; have HO253 := n3_; have HO256 := n4_; have HB := n5_; clear n0_ n1_ n2_ n3_ n4_ n5_; (try clear hb); (try clear hb2); (try clear hk); (try clear hi); (try clear ho0); obtain ⟨Ao57, co57, eo57⟩ := Kd.R_slice HO253.out; subst eo57; obtain ⟨Ao58, co58, eo58⟩ := Kd.R_slice HO256.out; subst eo58) | (go_at_call 23; (with_reducible refine (laws_sameOptions.calls k2 _ _ t251 _ _ t254 false _ ?side1 ?side2 ?side3 ?side4 A31.out).mono ?_); (case side1 => repeat (first | exact (Kd.R_reads' HO253.out).2.2 | (with_reducible refine Kd.C_alloc ?_ _) | (with_reducible refine Kd.C_drewN ?_ _) | (with_reducible refine Kd.C_drew ?_))); (case side2 => exact (Kd.R_reads' HO253.out).2.1); (case side3 => repeat (first | exact (Kd.R_reads' HO256.out).2.2 | (with_reducible refine Kd.C_alloc ?_ _) | (with_reducible refine Kd.C_drewN ?_ _) | (with_reducible refine Kd.C_drew ?_))); (case side4 => exact (Kd.R_reads' HO256.out).2.1); rintro e w' ⟨rfl, ⟨nd, rfl⟩⟩; (try first | exact ⟨rfl, _, World.drewN_drewN _ _ _⟩ | exact ⟨rfl, _, Eq.trans (World.drewN_drewN _ _ _) (congrArg (World.drewN _) (Nat.add_assoc _ _ _))⟩))); try go_wp2_with (first | (go_at_call 30; (with_reducible refine (laws_flat.calls k2 _ _ t241 t251 _ ?side1 ?side2 A29.out).mono ?_); (case side1 => repeat (first | exact (Kd.S_reads' HO_5.out).2.2 | (with_reducible refine Kd.C_alloc ?_ _) | (with_reducible refine Kd.C_drewN ?_ _) | (with_reducible refine Kd.C_drew ?_))); (case side2 => exact (Kd.S_reads' HO_5.out).2.1); rintro e w55 ⟨v252, rfl, ho0, hb⟩; have n0_ := Aside0.mk (Kd.S_below (by (with_reducible repeat (first | apply Kd.S_alloc | apply Kd.S_drewN | apply Kd.S_drew)); exact HO_3.out) hb); have n1_ := Aside0.mk (Kd.S_below (by (with_reducible repeat (first | apply Kd.S_alloc | apply Kd.S_drewN | apply Kd.S_drew)); exact HO_5.out) hb); have n2_ := Aside0.mk (Kd.R_elder' (by (with_reducible repeat (first | apply Kd.R_alloc | apply Kd.R_drewN | apply Kd.R_drew)); exact HO_7.out) (Kd.R_base ho0) hb); have n3_ := Aside0.mk (Kd.R_lower (Kd.R_new' ho0 (Kd.R_lt (by (with_reducible repeat (first | apply Kd.R_alloc | apply Kd.R_drewN | apply Kd.R_drew)); exact HO_7.out))) (below_size (by repeat (first | (with_reducible first | exact HB.out | apply below_alloc | apply pw_below_drewN | apply below_drew1) | exact HB.out)))); have n4_ := Aside0.mk (below_step (by repeat (first | (with_reducible first | exact HB.out | apply below_alloc | apply pw_below_drewN | apply below_drew1) | exact HB.out)) hb); clear HO_3; clear HO_5; clear HO_7; clear HB; have HO_3 := n0_; have HO_5 := n1_; have HO_7 := n2_; have HO253 := n3_; have HB := n4_; clear n0_ n1_ n2_ n3_ n4_; (try clear hb); (try clear hb2); (try clear hk); (try clear hi); (try clear ho0)) | (go_at_call 30; (with_reducible refine (laws_flat.calls k2 _ _ t237 t254 _ ?side1 ?side2 A30.out).mono ?_); (case side1 => repeat (first | exact (Kd.S_reads' HO_3.out).2.2 | (with_reducible refine Kd.C_alloc ?_ _) | (with_reducible refine Kd.C_drewN ?_ _) | (with_reducible refine Kd.C_drew ?_))); (case side2 => exact (Kd.S_reads' HO_3.out).2.1); rintro e w56 ⟨v255, rfl, ho0, hb⟩; have n0_ := Aside0.mk (Kd.S_below (by (with_reducible repeat (first | apply Kd.S_alloc | apply Kd.S_drewN | apply Kd.S_drew)); exact HO_3.out) hb); have n1_ := Aside0.mk (Kd.S_below (by (with_reducible repeat (first | apply Kd.S_alloc | apply Kd.S_drewN | apply Kd.S_drew)); exact HO_5.out) hb); have n2_ := Aside0.mk (Kd.R_elder' (by (with_reducible repeat (first | apply Kd.R_alloc | apply Kd.R_drewN | apply Kd.R_drew)); exact HO_7.out) (Kd.R_base ho0) hb); have n3_ := Aside0.mk (Kd.R_elder' (by (with_reducible repeat (first | apply Kd.R_alloc | apply Kd.R_drewN | apply Kd.R_drew)); exact HO253.out) (Kd.R_base ho0) hb); have n4_ := Aside0.mk (Kd.R_lower (Kd.R_new' (Kd.R_new' ho0 (Kd.R_lt (by (with_reducible repeat (first | apply Kd.R_alloc | apply Kd.R_drewN | apply Kd.R_drew)); exact HO_7.out))) (Kd.R_lt (by (with_reducible repeat (first | apply Kd.R_alloc | apply Kd.R_drewN | apply Kd.R_drew)); exact HO253.out))) (below_size (by repeat (first | (with_reducible first | exact HB.out | apply below_alloc | apply pw_below_drewN | apply below_drew1) | exact HB.out)))); have n5_ := Aside0.mk (below_step (by repeat (first | (with_reducible first | exact HB.out | apply below_alloc | apply pw_below_drewN | apply below_drew1) | exact HB.out)) hb); clear HO_3; clear HO_5; clear HO_7; clear HO253; clear HB; have HO_3 := n0_; have HO_5 := n1_; have HO_7 := n2_; have HO253 := n3_; have HO256 := n4_; have HB := n5_; clear n0_ n1_ n2_ n3_ n4_ n5_; (try clear hb); (try clear hb2); (try clear hk); (try clear hi); (try clear ho0); obtain ⟨Ao57, co57, eo57⟩ := Kd.R_slice HO253.out; subst eo57; obtain ⟨Ao58, co58, eo58⟩ := Kd.R_slice HO256.out; subst eo58) | (go_at_call 23; (with_reducible refine (laws_sameOptions.calls k2 _ _ t251 _ _ t254 false _ ?side1 ?side2 ?side3 ?side4 A31.out).mono ?_); (case side1 => repeat (first | exact (Kd.R_reads' HO253.out).2.2 | (with_reducible refine Kd.C_alloc ?_ _) | (with_reducible refine Kd.C_drewN ?_ _) | (with_reducible refine Kd.C_drew ?_))); (case side2 => exact (Kd.R_reads' HO253.out).2.1); (case side3 => repeat (first | exact (Kd.R_reads' HO256.out).2.2 | (with_reducible refine Kd.C_alloc ?_ _) | (with_reducible refine Kd.C_drewN ?_ _) | (with_reducible refine Kd.C_drew ?_))); (case side4 => exact (Kd.R_reads' HO256.out).2.1); rintro e w' ⟨rfl, ⟨nd, rfl⟩⟩; (try first | exact ⟨rfl, _, World.drewN_drewN _ _ _⟩ | exact ⟨rfl, _, Eq.trans (World.drewN_drewN _ _ _) (congrArg (World.drewN _) (Nat.add_assoc _ _ _))⟩))))
               go_ret
               exact ⟨by first | rfl | (simp [errW_none, errW_some] <;> rfl) | (simp [*, errW_none, errW_some] <;> rfl), by repeat (first | (with_reducible first | exact HB.out | apply below_alloc | apply pw_below_drewN | apply below_drew1) | exact HB.out)⟩
   · replace c5 := Bool.eq_false_iff.mpr c5
     subst c5
     have H1 : (some true) = some r := by rw [if_neg (show ¬ (false = true) by decide)] at H; exact H
     clear H
     have H := H1
     clear H1
     obtain rfl := Option.some.inj H
     go_enter Tryd.func7, Tryd.ntmps7
     go_wp2_with (first | (go_at_call 17; (with_reducible refine (laws_zzFits7.calls k _ _ l0 true _ ?side1 ?side2 A2.out).mono ?_); (case side1 => repeat (first | exact HR0.out | (with_reducible refine Kd.C_alloc ?_ _) | (with_reducible refine Kd.C_drewN ?_ _) | (with_reducible refine Kd.C_drew ?_))); (case side2 => exact HC0.out); rintro e w59 ⟨rfl, hb⟩; have n0_ := Aside0.mk (below_step (by repeat (first | (with_reducible first | exact HB.out | apply below_alloc | apply pw_below_drewN | apply below_drew1) | exact HB.out)) hb); clear HB; have HB := n0_; clear n0_; (try clear hb); (try clear hb2); (try clear hk); (try clear hi)) | (go_at_call 18; (with_reducible refine (laws_plainOptions.calls k _ _ l0 false _ ?side1 ?side2 A4.out).mono ?_); (case side1 => repeat (first | exact (Kd.C_below HR0.out HB.out) | (with_reducible refine Kd.C_alloc ?_ _) | (with_reducible refine Kd.C_drewN ?_ _) | (with_reducible refine Kd.C_drew ?_))); (case side2 => exact HC0.out); rintro e w60 ⟨rfl, hb⟩; have n0_ := Aside0.mk (below_step (by repeat (first | (with_reducible first | exact HB.out | apply below_alloc | apply pw_below_drewN | apply below_drew1) | exact HB.out)) hb); clear HB; have HB := n0_; clear n0_; (try clear hb); (try clear hb2); (try clear hk); (try clear hi)))
     repeat (go_quiet (first | (go_at_call 17; (with_reducible refine (laws_zzFits7.calls k _ _ l0 true _ ?side1 ?side2 A2.out).mono ?_); (case side1 => repeat (first | exact HR0.out | (with_reducible refine Kd.C_alloc ?_ _) | (with_reducible refine Kd.C_drewN ?_ _) | (with_reducible refine Kd.C_drew ?_))); (case side2 => exact HC0.out); rintro e w59 ⟨rfl, hb⟩; have n0_ := Aside0.mk (below_step (by repeat (first | (with_reducible first | exact HB.out | apply below_alloc | apply pw_below_drewN | apply below_drew1) | exact HB.out)) hb); clear HB; have HB := n0_; clear n0_; (try clear hb); (try clear hb2); (try clear hk); (try clear hi)) | (go_at_call 18; (with_reducible refine (laws_plainOptions.calls k _ _ l0 false _ ?side1 ?side2 A4.out).mono ?_); (case side1 => repeat (first | exact (Kd.C_below HR0.out HB.out) | (with_reducible refine Kd.C_alloc ?_ _) | (with_reducible refine Kd.C_drewN ?_ _) | (with_reducible refine Kd.C_drew ?_))); (case side2 => exact HC0.out); rintro e w60 ⟨rfl, hb⟩; have n0_ := Aside0.mk (below_step (by repeat (first | (with_reducible first | exact HB.out | apply below_alloc | apply pw_below_drewN | apply below_drew1) | exact HB.out)) hb); clear HB; have HB := n0_; clear n0_; (try clear hb); (try clear hb2); (try clear hk); (try clear hi))); try go_wp2_with (first | (go_at_call 17; (with_reducible refine (laws_zzFits7.calls k _ _ l0 true _ ?side1 ?side2 A2.out).mono ?_); (case side1 => repeat (first | exact HR0.out | (with_reducible refine Kd.C_alloc ?_ _) | (with_reducible refine Kd.C_drewN ?_ _) | (with_reducible refine Kd.C_drew ?_))); (case side2 => exact HC0.out); rintro e w59 ⟨rfl, hb⟩; have n0_ := Aside0.mk (below_step (by repeat (first | (with_reducible first | exact HB.out | apply below_alloc | apply pw_below_drewN | apply below_drew1) | exact HB.out)) hb); clear HB; have HB := n0_; clear n0_; (try clear hb); (try clear hb2); (try clear hk); (try clear hi)) | (go_at_call 18; (with_reducible refine (laws_plainOptions.calls k _ _ l0 false _ ?side1 ?side2 A4.out).mono ?_); (case side1 => repeat (first | exact (Kd.C_below HR0.out HB.out) | (with_reducible refine Kd.C_alloc ?_ _) | (with_reducible refine Kd.C_drewN ?_ _) | (with_reducible refine Kd.C_drew ?_))); (case side2 => exact HC0.out); rintro e w60 ⟨rfl, hb⟩; have n0_ := Aside0.mk (below_step (by repeat (first | (with_reducible first | exact HB.out | apply below_alloc | apply pw_below_drewN | apply below_drew1) | exact HB.out)) hb); clear HB; have HB := n0_; clear n0_; (try clear hb); (try clear hb2); (try clear hk); (try clear hi))))
     go_ret
     exact ⟨by first | rfl | (simp [errW_none, errW_some] <;> rfl) | (simp [*, errW_none, errW_some] <;> rfl), by repeat (first | (with_reducible first | exact HB.out | apply below_alloc | apply pw_below_drewN | apply below_drew1) | exact HB.out)⟩
 · replace c3 := Bool.eq_false_iff.mpr c3
   subst c3
   have H1 : (some true) = some r := by rw [if_neg (show ¬ (false = true) by decide)] at H; exact H
   clear H
   have H := H1
   clear H1
   obtain rfl := Option.some.inj H
   go_enter Tryd.func7, Tryd.ntmps7
   go_wp2_with (first | (go_at_call 17; (with_reducible refine (laws_zzFits7.calls k _ _ l0 false _ ?side1 ?side2 A2.out).mono ?_); (case side1 => repeat (first | exact HR0.out | (with_reducible refine Kd.C_alloc ?_ _) | (with_reducible refine Kd.C_drewN ?_ _) | (with_reducible refine Kd.C_drew ?_))); (case side2 => exact HC0.out); rintro e w61 ⟨rfl, hb⟩; have n0_ := Aside0.mk (below_step (by repeat (first | (with_reducible first | exact HB.out | apply below_alloc | apply pw_below_drewN | apply below_drew1) | exact HB.out)) hb); clear HB; have HB := n0_; clear n0_; (try clear hb); (try clear hb2); (try clear hk); (try clear hi)))
   repeat (go_quiet (first | (go_at_call 17; (with_reducible refine (laws_zzFits7.calls k _ _ l0 false _ ?side1 ?side2 A2.out).mono ?_); (case side1 => repeat (first | exact HR0.out | (with_reducible refine Kd.C_alloc ?_ _) | (with_reducible refine Kd.C_drewN ?_ _) | (with_reducible refine Kd.C_drew ?_))); (case side2 => exact HC0.out); rintro e w61 ⟨rfl, hb⟩; have n0_ := Aside0.mk (below_step (by repeat (first | (with_reducible first | exact HB.out | apply below_alloc | apply pw_below_drewN | apply below_drew1) | exact HB.out)) hb); clear HB; have HB := n0_; clear n0_; (try clear hb); (try clear hb2); (try clear hk); (try clear hi))); try go_wp2_with (first | (go_at_call 17; (with_reducible refine (laws_zzFits7.calls k _ _ l0 false _ ?side1 ?side2 A2.out).mono ?_); (case side1 => repeat (first | exact HR0.out | (with_reducible refine Kd.C_alloc ?_ _) | (with_reducible refine Kd.C_drewN ?_ _) | (with_reducible refine Kd.C_drew ?_))); (case side2 => exact HC0.out); rintro e w61 ⟨rfl, hb⟩; have n0_ := Aside0.mk (below_step (by repeat (first | (with_reducible first | exact HB.out | apply below_alloc | apply pw_below_drewN | apply below_drew1) | exact HB.out)) hb); clear HB; have HB := n0_; clear n0_; (try clear hb); (try clear hb2); (try clear hk); (try clear hi))))
   go_ret
   exact ⟨by first | rfl | (simp [errW_none, errW_some] <;> rfl) | (simp [*, errW_none, errW_some] <;> rfl), by repeat (first | (with_reducible first | exact HB.out | apply below_alloc | apply pw_below_drewN | apply below_drew1) | exact HB.out)⟩
end Go.Proofs.YtocdnceckljnaaaDoor.QV0
namespace Go.Proofs.YtocdnceckljnaaaDoor.Pu
open Go.RowKit Go.Proofs.YtocdnceckljnaaaDoorW.PrintWords Go.Proofs.YtocdnceckljnaaaDoorW.PrintLast
open Go.Proofs.YtocdnceckljnaaaDoor.QV0
open Go.Proofs.YtocdnceckljnaaaDoor.U (Bs B B_data B_size Op3')
set_option linter.unusedVariables false
set_option linter.unusedSimpArgs false
def Ev {α : Type} (F : Nat → Option α) (v : α) : Prop := ∃ k0, ∀ k, k0 ≤ k → F k = some v
theorem Ev.of {α : Type} {F : Nat → Option α} {v : α} (h : ∀ k, F k = some v) : Ev F v := ⟨0, fun k _ => h k⟩
theorem Ev.of1 {α : Type} {F : Nat → Option α} {v : α} (h : ∀ k, F (k + 1) = some v) : Ev F v := ⟨1, fun k hk => by
  obtain ⟨j, rfl⟩ : ∃ j, k = j + 1 := ⟨k - 1, by omega⟩
  exact h j⟩
theorem Ev.step {α : Type} {F G : Nat → Option α} {v : α} (h : ∀ k, F (k + 1) = G k) (g : Ev G v) : Ev F v := by
  obtain ⟨k0, hg⟩ := g
  refine ⟨k0 + 1, fun k hk => ?_⟩
  obtain ⟨j, rfl⟩ : ∃ j, k = j + 1 := ⟨k - 1, by omega⟩
  rw [h j]
  exact hg j (by omega)
theorem Ev.same {α : Type} {F G : Nat → Option α} {v : α} (h : ∀ k, F k = G k) (g : Ev G v) : Ev F v := by
  obtain ⟨k0, hg⟩ := g
  exact ⟨k0, fun k hk => by rw [h k]; exact hg k hk⟩
theorem Ev.bind {α β : Type} {A : Nat → Option α} {C : α → Nat → Option β} {a : α} {v : β} (ha : Ev A a) (hc : Ev (C a) v) : Ev (fun k => (A k).bind fun t => C t k) v := by
  obtain ⟨k0, h0⟩ := ha
  obtain ⟨k1, h1⟩ := hc
  exact ⟨max k0 k1, fun k hk => by
    show (A k).bind _ = _
    rw [h0 k (by omega)]
    exact h1 k (by omega)⟩
theorem Ev.get {α : Type} {F : Nat → Option α} {v : α} (h : Ev F v) : ∃ k, F k = some v := by
  obtain ⟨k0, h0⟩ := h
  exact ⟨k0, h0 k0 (Nat.le_refl _)⟩
theorem ba_ext {s t : ByteArray} (h : s.data.toList = t.data.toList) : s = t := by
  cases s; cases t
  simpa using h
theorem B_toList (l : Bs) : (B l).toList = l := Lib.toList_data (B l)
theorem B_append (a b : Bs) : B a ++ B b = B (a ++ b) := ba_ext (by simp [ByteArray.data_append, B])
theorem bt_B (l : Bs) (i : Nat) (h : i < l.length) : bt (B l) (i : Int) = ((l[i]).toNat : Int) := by
  have e : bt (B l) (i : Int) = (((B l)[i]'(by rw [B_size]; exact h)).toNat : Int) := by
    unfold bt
    rw [dif_pos (by rw [Int.toNat_natCast, B_size]; exact h)]
    rfl
  rw [e]
  rfl
theorem bt_mid (pre : Bs) (c : UInt8) (r : Bs) : bt (B (pre ++ c :: r)) (pre.length : Int) = (c.toNat : Int) := by
  rw [bt_B _ _ (by simp)]
  simp
theorem wr_next (n : Nat) (h : n ≤ 4611686018427387904) : wrap64 ((n : Int) + 1) = ((n + 1 : Nat) : Int) := by unfold wrap64; omega
theorem wr_pred (n : Nat) (h0 : 0 < n) (h : n ≤ 4611686018427387904) : wrap64 ((n : Int) - 1) = ((n - 1 : Nat) : Int) := by unfold wrap64; omega
theorem len_snoc (pre : Bs) (c : UInt8) : (((pre ++ [c]).length : Nat) : Int) = ((pre.length + 1 : Nat) : Int) := by simp
def prn (c : UInt8) : Bool := decide (32 ≤ c.toNat) && decide (c.toNat ≤ 126)
theorem printable_ev (s : Bs) (hs : s.length ≤ 4611686018427387900) : ∀ (r pre : Bs), s = pre ++ r → Ev (fun k => laws_printable.l0 k (B s) ((B s).size : Int) (pre.length : Int)) (r.all prn)
  | [], pre, e => Ev.of1 fun k => by
    simp only [laws_printable.l0]
    rw [if_neg (by rw [B_size, e]; simp)]
    rfl
  | c :: r, pre, e => by
    have hb : bt (B s) (pre.length : Int) = (c.toNat : Int) := by rw [e]; exact bt_mid pre c r
    have hlen : s.length = pre.length + (r.length + 1) := by rw [e]; simp
    have h1 : (pre.length : Int) < ((B s).size : Int) := by rw [B_size]; omega
    have h2 : (0 : Int) ≤ (pre.length : Int) := by omega
    by_cases hc1 : c.toNat < 32
    · refine Ev.of1 fun k => ?_
      simp only [laws_printable.l0]
      rw [if_pos h1, if_pos h2, if_pos h1, hb, if_pos (by omega)]
      simp [prn]; omega
    by_cases hc2 : c.toNat > 126
    · refine Ev.of1 fun k => ?_
      simp only [laws_printable.l0]
      rw [if_pos h1, if_pos h2, if_pos h1, hb, if_neg (by omega), if_pos (by omega)]
      simp [prn]; omega
    have ih := printable_ev s hs r (pre ++ [c]) (by rw [e]; simp)
    have hp : prn c = true := by simp [prn]; omega
    rw [List.all_cons, hp, Bool.true_and]
    refine Ev.step (fun k => ?_) ih
    simp only [laws_printable.l0]
    rw [if_pos h1, if_pos h2, if_pos h1, hb, if_neg (by omega), if_neg (by omega), wr_next _ (by omega), len_snoc]
theorem printable_f (s : Bs) (hs : s.length ≤ 4611686018427387900) : Ev (fun k => laws_printable.f k (B s)) (s.all prn) := printable_ev s hs s [] rfl
theorem has1_ev (s t : Bs) (hs : s.length ≤ 4611686018427387900) (ht : t.length ≤ 4611686018427387900) (pre : Bs) (c : UInt8) (r : Bs) (e : s = pre ++ c :: r) (v : Bool)
    (hv : Ev (fun k => laws_has.l0 k (B s) (B t) ((B s).size : Int) ((pre.length + 1 : Nat) : Int)) v) : ∀ (q p : Bs), t = p ++ q → Ev (fun k => laws_has.l1 k (B s) (B t) (pre.length : Int) ((B s).size : Int) (pre.length : Int) ((B t).size : Int) (p.length : Int)) (decide (c ∈ q) || v)
  | [], p, ep => by
    have hlen : s.length = pre.length + (r.length + 1) := by rw [e]; simp
    simp only [List.not_mem_nil, decide_false, Bool.false_or]
    refine Ev.step (fun k => ?_) hv
    simp only [laws_has.l1]
    rw [if_neg (by rw [B_size t, ep]; simp), wr_next _ (by omega)]
  | d :: q, p, ep => by
    have hlen : s.length = pre.length + (r.length + 1) := by rw [e]; simp
    have hlent : t.length = p.length + (q.length + 1) := by rw [ep]; simp
    have hb : bt (B s) (pre.length : Int) = (c.toNat : Int) := by rw [e]; exact bt_mid pre c r
    have hd : bt (B t) (p.length : Int) = (d.toNat : Int) := by rw [ep]; exact bt_mid p d q
    have h1 : (p.length : Int) < ((B t).size : Int) := by rw [B_size]; omega
    have h2 : (pre.length : Int) < ((B s).size : Int) := by rw [B_size]; omega
    by_cases hcd : c = d
    · refine Ev.of1 fun k => ?_
      simp only [laws_has.l1]
      rw [if_pos h1, if_pos (by omega), if_pos h2, if_pos (by omega), if_pos h1, hb, hd, hcd, if_pos rfl]
      simp
    · have hne : (c.toNat : Int) ≠ (d.toNat : Int) := fun h => hcd (UInt8.toNat_inj.1 (by omega))
      have ih := has1_ev s t hs ht pre c r e v hv q (p ++ [d]) (by rw [ep]; simp)
      have e2 : (decide (c ∈ d :: q) || v) = (decide (c ∈ q) || v) := by simp [hcd]
      rw [e2]
      refine Ev.step (fun k => ?_) ih
      simp only [laws_has.l1]
      rw [if_pos h1, if_pos (by omega), if_pos h2, if_pos (by omega), if_pos h1, hb, hd, if_neg hne, wr_next _ (by omega), len_snoc]
theorem has_ev (s t : Bs) (hs : s.length ≤ 4611686018427387900) (ht : t.length ≤ 4611686018427387900) : ∀ (r pre : Bs), s = pre ++ r → Ev (fun k => laws_has.l0 k (B s) (B t) ((B s).size : Int) (pre.length : Int)) (r.any (fun c => decide (c ∈ t)))
  | [], pre, e => Ev.of1 fun k => by
    simp only [laws_has.l0]
    rw [if_neg (by rw [B_size, e]; simp)]
    rfl
  | c :: r, pre, e => by
    have hlen : s.length = pre.length + (r.length + 1) := by rw [e]; simp
    have ih := has_ev s t hs ht r (pre ++ [c]) (by rw [e]; simp)
    rw [len_snoc] at ih
    have h := has1_ev s t hs ht pre c r e _ ih t [] rfl
    rw [List.any_cons]
    refine Ev.step (fun k => ?_) h
    simp only [laws_has.l0]
    rw [if_pos (by rw [B_size]; omega)]
    rfl
theorem has_f (s t : Bs) (hs : s.length ≤ 4611686018427387900) (ht : t.length ≤ 4611686018427387900) : Ev (fun k => laws_has.f k (B s) (B t)) (s.any (fun c => decide (c ∈ t))) := has_ev s t hs ht s [] rfl
end Go.Proofs.YtocdnceckljnaaaDoor.Pu
namespace Go.Proofs.YtocdnceckljnaaaDoor.Pu
open Go.RowKit Go.Proofs.YtocdnceckljnaaaDoorW.PrintWords Go.Proofs.YtocdnceckljnaaaDoorW.PrintLast
open Go.Proofs.YtocdnceckljnaaaDoor.QV0
open Go.Proofs.YtocdnceckljnaaaDoor.U (Bs B B_data B_size Op3' keysF)
set_option linter.unusedVariables false
set_option linter.unusedSimpArgs false
theorem rd29 (l : List Op3') (pre : List Op3') (x : Op3') (r : List Op3') (h : l = pre ++ x :: r) : rd_T29 (l.map ofOp) (pre.length : Int) = ofOp x := by
  unfold rd_T29
  rw [h]
  simp [List.getD_eq_getElem?_getD]
theorem snoc_len {α : Type} (pre : List α) (x : α) : (((pre ++ [x]).length : Nat) : Int) = ((pre.length + 1 : Nat) : Int) := by simp
def Fit (o : Op3') : Prop := o.1.length ≤ 2147483647 ∧ o.2.1.length ≤ 2147483647 ∧ o.2.2.length ≤ 2147483647
theorem fits8_f (o : Op3') : ∃ b, laws_zzFits8.f (ofOp o).f0 (ofOp o).f1 (ofOp o).f2 = some b ∧ (b = true → Fit o) := by
  unfold laws_zzFits8.f ofOp Fit
  simp only [B_size]
  by_cases h1 : (o.1.length : Int) > 2147483647
  · rw [if_pos h1]; exact ⟨false, rfl, by simp⟩
  rw [if_neg h1]
  by_cases h2 : (o.2.1.length : Int) > 2147483647
  · rw [if_pos h2]; exact ⟨false, rfl, by simp⟩
  rw [if_neg h2]
  by_cases h3 : (o.2.2.length : Int) > 2147483647
  · rw [if_pos h3]; exact ⟨false, rfl, by simp⟩
  rw [if_neg h3]
  exact ⟨true, rfl, fun _ => ⟨by omega, by omega, by omega⟩⟩
theorem fits7_ev (L : List Op3') (hL : L.length ≤ 2147483647) : ∀ (r pre : List Op3'), L = pre ++ r → ∃ b, Ev (fun k => laws_zzFits7.l0 k (L.map ofOp) ((L.map ofOp).length : Int) (pre.length : Int)) b ∧ (b = true → ∀ o ∈ r, Fit o)
  | [], pre, e => ⟨true, Ev.of1 fun k => by
    simp only [laws_zzFits7.l0]
    rw [if_neg (by rw [List.length_map, e]; simp)], fun _ o ho => by simp at ho⟩
  | o :: r, pre, e => by
    have hlen : L.length = pre.length + (r.length + 1) := by rw [e]; simp
    have h1 : (pre.length : Int) < ((L.map ofOp).length : Int) := by rw [List.length_map]; omega
    obtain ⟨b, hb, hf⟩ := fits8_f o
    have hrd := rd29 L pre o r e
    cases b with
    | false =>
      refine ⟨false, Ev.of1 fun k => ?_, by simp⟩
      simp only [laws_zzFits7.l0]
      rw [if_pos h1, if_pos (by omega), if_pos h1, hrd, hb]
      rfl
    | true =>
      obtain ⟨b2, hev, hb2⟩ := fits7_ev L hL r (pre ++ [o]) (by rw [e]; simp)
      refine ⟨b2, Ev.step (fun k => ?_) hev, fun ht x hx => ?_⟩
      · simp only [laws_zzFits7.l0]
        rw [if_pos h1, if_pos (by omega), if_pos h1, hrd, hb, wr_next _ (by omega), snoc_len]
        rfl
      · rcases List.mem_cons.1 hx with rfl | hx
        · exact hf rfl
        · exact hb2 ht x hx
theorem fits7_f (L : List Op3') : ∃ b, Ev (fun k => laws_zzFits7.f k (L.map ofOp)) b ∧ (b = true → L.length ≤ 2147483647 ∧ ∀ o ∈ L, Fit o) := by
  by_cases h : ((L.map ofOp).length : Int) > 2147483647
  · exact ⟨false, Ev.of fun k => by unfold laws_zzFits7.f; rw [if_pos h], by simp⟩
  · have hl : L.length ≤ 2147483647 := by rw [List.length_map] at h; omega
    obtain ⟨b, hev, hb⟩ := fits7_ev L hl L [] rfl
    exact ⟨b, Ev.same (fun k => by unfold laws_zzFits7.f; rw [if_neg h]; rfl) hev, fun ht => ⟨hl, hb ht⟩⟩
structure Seen (s : Bs) : Prop where
  all : s.all prn = true
  len : s.length ≤ 400
  first : ∀ c t, s = c :: t → c ≠ 32
  last : ∀ c t, s = t ++ [c] → c ≠ 32
theorem u8ne {c : UInt8} {n : Nat} (hn : n < 256) (h : ¬ ((c.toNat : Int) = (n : Int))) : c ≠ UInt8.ofNat n := fun e => h (by rw [e, UInt8.toNat_ofNat_of_lt' (by simpa using hn)])
theorem ends_of (s : Bs) (hs : s ≠ []) : ∃ c t d q, s = c :: t ∧ s = q ++ [d] ∧ bt (B s) 0 = (c.toNat : Int) ∧ bt (B s) ((s.length - 1 : Nat) : Int) = (d.toNat : Int) := by
  cases h : s with
  | nil => exact absurd h hs
  | cons c t =>
    have hd : (c :: t) ≠ [] := by simp
    refine ⟨c, t, (c :: t).getLast hd, (c :: t).dropLast, rfl, (List.dropLast_concat_getLast hd).symm, bt_mid [] c t, ?_⟩
    have e := (List.dropLast_concat_getLast hd).symm
    have h2 := bt_mid ((c :: t).dropLast) ((c :: t).getLast hd) []
    rw [← e, List.length_dropLast] at h2
    exact h2
theorem seen_ev (s : Bs) (hs : s.length ≤ 2147483647) (T : Nat → Option Bool) (v : Bool) (hT : Ev T v) :
    ∃ b, Ev (fun k => (laws_printable.f k (B s)).bind fun t111 => (if t111 = true then (if (B s).toList = ([] : List UInt8) then (if ((B s).size : Int) > 400 then (some false) else T k) else (if 0 < ((B s).size : Int) then (if (bt (B s) 0) = 32 then (some false) else (if 0 ≤ (wrap64 (((B s).size : Int) - 1)) then (if (wrap64 (((B s).size : Int) - 1)) < ((B s).size : Int) then (if (bt (B s) (wrap64 (((B s).size : Int) - 1))) = 32 then (some false) else (if ((B s).size : Int) > 400 then (some false) else T k)) else (none)) else (none))) else (none))) else (some false))) b ∧ (b = true → v = true ∧ Seen s) := by
  have hp := printable_f s (by omega)
  cases hpa : s.all prn with
  | false =>
    rw [hpa] at hp
    exact ⟨false, Ev.bind hp (C := fun t k => _) (Ev.of fun k => by rw [if_neg (by simp)]), by simp⟩
  | true =>
    rw [hpa] at hp
    by_cases h0 : s = []
    · subst h0
      exact ⟨v, Ev.bind hp (C := fun t k => _) (Ev.same (fun k => by rw [if_pos rfl, if_pos (by rw [B_toList]), if_neg (by rw [B_size]; simp)]) hT), fun hv => ⟨hv, ⟨rfl, by simp, fun c t h => by simp at h, fun c t h => by simp at h⟩⟩⟩
    · obtain ⟨c, t, d, q, e1, e2, hb1, hb2⟩ := ends_of s h0
      have hpos : 0 < s.length := by rw [e1]; simp
      have hw : wrap64 (((B s).size : Int) - 1) = ((s.length - 1 : Nat) : Int) := by rw [B_size]; exact wr_pred _ hpos (by omega)
      by_cases hc : (c.toNat : Int) = 32
      · exact ⟨false, Ev.bind hp (C := fun t k => _) (Ev.of fun k => by rw [if_pos rfl, if_neg (by rw [B_toList]; exact h0), if_pos (by rw [B_size]; omega), hb1, if_pos hc]), by simp⟩
      by_cases hd : (d.toNat : Int) = 32
      · exact ⟨false, Ev.bind hp (C := fun t k => _) (Ev.of fun k => by rw [if_pos rfl, if_neg (by rw [B_toList]; exact h0), if_pos (by rw [B_size]; omega), hb1, if_neg hc, hw, if_pos (by omega), if_pos (by rw [B_size]; omega), hb2, if_pos hd]), by simp⟩
      by_cases hl : ((B s).size : Int) > 400
      · exact ⟨false, Ev.bind hp (C := fun t k => _) (Ev.of fun k => by rw [if_pos rfl, if_neg (by rw [B_toList]; exact h0), if_pos (by rw [B_size]; omega), hb1, if_neg hc, hw, if_pos (by omega), if_pos (by rw [B_size]; omega), hb2, if_neg hd, if_pos hl]), by simp⟩
      refine ⟨v, Ev.bind hp (C := fun t k => _) (Ev.same (fun k => by rw [if_pos rfl, if_neg (by rw [B_toList]; exact h0), if_pos (by rw [B_size]; omega), hb1, if_neg hc, hw, if_pos (by omega), if_pos (by rw [B_size]; omega), hb2, if_neg hd, if_neg hl]) hT), fun hv => ⟨hv, ⟨hpa, by rw [B_size] at hl; omega, fun c' t' h => ?_, fun c' t' h => ?_⟩⟩⟩
      · rw [e1] at h
        injection h with h1 _
        subst h1
        exact u8ne (n := 32) (by decide) hc
      · rw [e2] at h
        have := List.append_inj_right' h rfl
        simp at this
        subst this
        exact u8ne (n := 32) (by decide) hd
def isLetter (c : UInt8) : Bool := (decide (97 ≤ c.toNat) && decide (c.toNat ≤ 122)) || (decide (65 ≤ c.toNat) && decide (c.toNat ≤ 90))
theorem letter_f (c : UInt8) : laws_letter.f (c.toNat : Int) = some (isLetter c) := by
  unfold laws_letter.f isLetter
  by_cases h1 : (c.toNat : Int) ≥ 97
  · rw [if_pos h1]
    by_cases h2 : (c.toNat : Int) ≤ 122
    · rw [if_pos h2]; congr 1; simp; omega
    · rw [if_neg h2, if_pos (by omega)]; congr 1; rw [Bool.eq_iff_iff]; simp; omega
  · rw [if_neg h1]
    by_cases h3 : (c.toNat : Int) ≥ 65
    · rw [if_pos h3]; congr 1; rw [Bool.eq_iff_iff]; simp; omega
    · rw [if_neg h3]; congr 1; symm; simp; omega
structure Plain (o : Op3') : Prop where
  s : Seen o.1
  n : Seen o.2.1
  v : Seen o.2.2
  sec : o.1 ≠ []
  brack : (91 : UInt8) ∉ o.1 ∧ (93 : UInt8) ∉ o.1
  eqs : (61 : UInt8) ∉ o.2.1
  head : ∃ c t, o.2.1 = c :: t ∧ isLetter c = true
  tail : ∀ t, o.2.2 ≠ t ++ [92]
theorem tail_ev (o : Op3') (hf : Fit o) : ∃ b, Ev (fun k => (if (B o.1).toList = ([] : List UInt8) then (some false) else ((laws_has.f k (B o.1) (⟨#[91, 93]⟩ : ByteArray)).bind fun t112 => (if t112 = true then (some false) else (if (B o.2.1).toList = ([] : List UInt8) then (some false) else ((laws_has.f k (B o.2.1) (⟨#[61]⟩ : ByteArray)).bind fun t113 => (if t113 = true then (some false) else (if 0 < ((B o.2.1).size : Int) then ((laws_letter.f (bt (B o.2.1) 0)).bind fun t114 => (if t114 = true then (if (B o.2.2).toList = ([] : List UInt8) then (some true) else (if 0 ≤ (wrap64 (((B o.2.2).size : Int) - 1)) then (if (wrap64 (((B o.2.2).size : Int) - 1)) < ((B o.2.2).size : Int) then (some ((bt (B o.2.2) (wrap64 (((B o.2.2).size : Int) - 1))) != 92)) else (none)) else (none))) else (some false))) else (none))))))) : Option Bool)) b ∧
    (b = true → o.1 ≠ [] ∧ ((91 : UInt8) ∉ o.1 ∧ (93 : UInt8) ∉ o.1) ∧ (61 : UInt8) ∉ o.2.1 ∧ (∃ c t, o.2.1 = c :: t ∧ isLetter c = true) ∧ ∀ t, o.2.2 ≠ t ++ [92]) := by
  obtain ⟨f1, f2, f3⟩ := hf
  by_cases h1 : o.1 = []
  · exact ⟨false, Ev.of fun k => by rw [if_pos (by rw [B_toList]; exact h1)], by simp⟩
  have hb : Ev (fun k => laws_has.f k (B o.1) (⟨#[91, 93]⟩ : ByteArray)) _ := has_f o.1 [91, 93] (by omega) (by simp)
  have hn : Ev (fun k => laws_has.f k (B o.2.1) (⟨#[61]⟩ : ByteArray)) _ := has_f o.2.1 [61] (by omega) (by simp)
  have g1 : ¬ ((B o.1).toList = ([] : List UInt8)) := by rw [B_toList]; exact h1
  obtain ⟨k1, hb⟩ := hb
  obtain ⟨k2, hn⟩ := hn
  cases ha : o.1.any (fun c => decide (c ∈ ([91, 93] : Bs))) with
  | true =>
    rw [ha] at hb
    refine ⟨false, ⟨max k1 k2, fun k hk => ?_⟩, by simp⟩
    have q1 := hb k (by omega)
    dsimp only at q1 ⊢
    rw [if_neg g1, q1, Option.bind_some, if_pos rfl]
  | false =>
    rw [ha] at hb
    have hbr : (91 : UInt8) ∉ o.1 ∧ (93 : UInt8) ∉ o.1 := by
      rw [List.any_eq_false] at ha
      exact ⟨fun h => by have := ha _ h; simp at this, fun h => by have := ha _ h; simp at this⟩
    by_cases h2 : o.2.1 = []
    · refine ⟨false, ⟨max k1 k2, fun k hk => ?_⟩, by simp⟩
      have q1 := hb k (by omega)
      dsimp only at q1 ⊢
      rw [if_neg g1, q1, Option.bind_some, if_neg (by simp), if_pos (by rw [B_toList]; exact h2)]
    have g2 : ¬ ((B o.2.1).toList = ([] : List UInt8)) := by rw [B_toList]; exact h2
    cases hae : o.2.1.any (fun c => decide (c ∈ ([61] : Bs))) with
    | true =>
      rw [hae] at hn
      refine ⟨false, ⟨max k1 k2, fun k hk => ?_⟩, by simp⟩
      have q1 := hb k (by omega)
      have q2 := hn k (by omega)
      dsimp only at q1 q2 ⊢
      rw [if_neg g1, q1, Option.bind_some, if_neg (by simp), if_neg g2, q2, Option.bind_some, if_pos rfl]
    | false =>
      rw [hae] at hn
      have heq : (61 : UInt8) ∉ o.2.1 := by
        rw [List.any_eq_false] at hae
        exact fun h => by have := hae _ h; simp at this
      obtain ⟨c, t, d, q, e1, e2, hc, hd⟩ := ends_of o.2.1 h2
      have hpos : (0 : Int) < ((B o.2.1).size : Int) := by rw [B_size, e1]; simp
      cases hlt : isLetter c with
      | false =>
        refine ⟨false, ⟨max k1 k2, fun k hk => ?_⟩, by simp⟩
        have q1 := hb k (by omega)
        have q2 := hn k (by omega)
        dsimp only at q1 q2 ⊢
        rw [if_neg g1, q1, Option.bind_some, if_neg (by simp), if_neg g2, q2, Option.bind_some, if_neg (by simp), if_pos hpos, hc, letter_f, hlt, Option.bind_some, if_neg (by simp)]
      | true =>
        by_cases h3 : o.2.2 = []
        · refine ⟨true, ⟨max k1 k2, fun k hk => ?_⟩, fun _ => ⟨h1, hbr, heq, ⟨c, t, e1, hlt⟩, fun t h => by rw [h3] at h; simp at h⟩⟩
          have q1 := hb k (by omega)
          have q2 := hn k (by omega)
          dsimp only at q1 q2 ⊢
          rw [if_neg g1, q1, Option.bind_some, if_neg (by simp), if_neg g2, q2, Option.bind_some, if_neg (by simp), if_pos hpos, hc, letter_f, hlt, Option.bind_some, if_pos rfl, if_pos (by rw [B_toList]; exact h3)]
        · obtain ⟨c3, t3, d3, q3, e31, e32, hc3, hd3⟩ := ends_of o.2.2 h3
          have hpos3 : 0 < o.2.2.length := by rw [e31]; simp
          have hw : wrap64 (((B o.2.2).size : Int) - 1) = ((o.2.2.length - 1 : Nat) : Int) := by rw [B_size]; exact wr_pred _ hpos3 (by omega)
          refine ⟨((d3.toNat : Int) != 92), ⟨max k1 k2, fun k hk => ?_⟩, fun hb => ⟨h1, hbr, heq, ⟨c, t, e1, hlt⟩, fun t h => ?_⟩⟩
          · have q1 := hb k (by omega)
            have q2 := hn k (by omega)
            dsimp only at q1 q2 ⊢
            rw [if_neg g1, q1, Option.bind_some, if_neg (by simp), if_neg g2, q2, Option.bind_some, if_neg (by simp), if_pos hpos, hc, letter_f, hlt, Option.bind_some, if_pos rfl, if_neg (by rw [B_toList]; exact h3), hw, if_pos (by omega), if_pos (by rw [B_size]; omega), hd3]
          · rw [e32] at h
            have hdd := List.append_inj_right' h rfl
            simp at hdd
            subst hdd
            exact absurd hb (by decide)
theorem loop3_ev (o : Op3') (hf : Fit o) : ∃ b, Ev (fun k => laws_plainOption.f k (ofOp o).f0 (ofOp o).f1 (ofOp o).f2) b ∧ (b = true → Plain o) := by
  obtain ⟨b0, ht, hb0⟩ := tail_ev o hf
  have hlen : (((([B o.1, B o.2.1, B o.2.2] : List ByteArray)).length : Nat) : Int) = 3 := rfl
  have w1 : wrap64 (0 + 1) = 1 := by unfold wrap64; omega
  have w2 : wrap64 (1 + 1) = 2 := by unfold wrap64; omega
  have w3 : wrap64 (2 + 1) = 3 := by unfold wrap64; omega
  have e3 : Ev (fun k => laws_plainOption.l0 k [B o.1, B o.2.1, B o.2.2] 3 3 (B o.1) (B o.2.1) (B o.2.2)) b0 := Ev.step (fun k => by simp only [laws_plainOption.l0]; rw [if_neg (by omega)]) ht
  have one : ∀ (i : Int) (x : Bs) (v : Bool), 0 ≤ i → i < 3 → x.length ≤ 2147483647 → rdOf ByteArray.empty [B o.1, B o.2.1, B o.2.2] i = B x → Ev (fun k => laws_plainOption.l0 k [B o.1, B o.2.1, B o.2.2] 3 (wrap64 (i + 1)) (B o.1) (B o.2.1) (B o.2.2)) v → ∃ b, Ev (fun k => laws_plainOption.l0 k [B o.1, B o.2.1, B o.2.2] 3 i (B o.1) (B o.2.1) (B o.2.2)) b ∧ (b = true → v = true ∧ Seen x) := by
    intro i x v h0 h3 hx hr hev
    obtain ⟨b, hb, hbs⟩ := seen_ev x hx _ v hev
    refine ⟨b, Ev.step (fun k => ?_) hb, hbs⟩
    simp only [laws_plainOption.l0]
    rw [if_pos h3, if_pos h0, hlen, if_pos h3, hr]
  obtain ⟨b3, hev3, hb3⟩ := one 2 o.2.2 b0 (by omega) (by omega) hf.2.2 rfl (by rw [w3]; exact e3)
  obtain ⟨b2, hev2, hb2⟩ := one 1 o.2.1 b3 (by omega) (by omega) hf.2.1 rfl (by rw [w2]; exact hev3)
  obtain ⟨b1, hev1, hb1⟩ := one 0 o.1 b2 (by omega) (by omega) hf.1 rfl (by rw [w1]; exact hev2)
  refine ⟨b1, Ev.same (fun k => ?_) hev1, fun h => ?_⟩
  · unfold laws_plainOption.f ofOp
    rfl
  · obtain ⟨h2, s1⟩ := hb1 h
    obtain ⟨h3, s2⟩ := hb2 h2
    obtain ⟨h0, s3⟩ := hb3 h3
    obtain ⟨p1, p2, p3, p4, p5⟩ := hb0 h0
    exact ⟨s1, s2, s3, p1, p2, p3, p4, p5⟩
theorem plains_ev (L : List Op3') (hL : L.length ≤ 2147483647) (hF : ∀ o ∈ L, Fit o) : ∀ (r pre : List Op3'), L = pre ++ r → ∃ b, Ev (fun k => laws_plainOptions.l0 k (L.map ofOp) (L.map ofOp) ((L.map ofOp).length : Int) (pre.length : Int)) b ∧ (b = true → L.length ≤ 200 ∧ ∀ o ∈ r, Plain o)
  | [], pre, e => ⟨decide (((L.map ofOp).length : Int) ≤ 200), Ev.of1 fun k => by
    simp only [laws_plainOptions.l0]
    rw [if_neg (by rw [List.length_map, e]; simp)], fun h => ⟨by rw [List.length_map] at h; have := of_decide_eq_true h; omega, fun o ho => by simp at ho⟩⟩
  | o :: r, pre, e => by
    have hlen : L.length = pre.length + (r.length + 1) := by rw [e]; simp
    have h1 : (pre.length : Int) < ((L.map ofOp).length : Int) := by rw [List.length_map]; omega
    obtain ⟨b, hb, hf⟩ := loop3_ev o (hF o (by rw [e]; simp))
    have hrd := rd29 L pre o r e
    cases b with
    | false =>
      refine ⟨false, Ev.step (fun k => ?_) (Ev.bind hb (C := fun t k => if t = true then laws_plainOptions.l0 k (L.map ofOp) (L.map ofOp) ((L.map ofOp).length : Int) (wrap64 ((pre.length : Int) + 1)) else some false) (Ev.of fun k => by rw [if_neg (by simp)])), by simp⟩
      simp only [laws_plainOptions.l0]
      rw [if_pos h1, if_pos (by omega), if_pos h1, hrd]
    | true =>
      obtain ⟨b2, hev, hb2⟩ := plains_ev L hL hF r (pre ++ [o]) (by rw [e]; simp)
      refine ⟨b2, Ev.step (fun k => ?_) (Ev.bind hb (C := fun t k => if t = true then laws_plainOptions.l0 k (L.map ofOp) (L.map ofOp) ((L.map ofOp).length : Int) (wrap64 ((pre.length : Int) + 1)) else some false) (Ev.same (fun k => by rw [if_pos rfl, wr_next _ (by omega), ← snoc_len pre o]) hev)), fun ht => ⟨(hb2 ht).1, fun x hx => ?_⟩⟩
      · simp only [laws_plainOptions.l0]
        rw [if_pos h1, if_pos (by omega), if_pos h1, hrd]
      · rcases List.mem_cons.1 hx with rfl | hx
        · exact hf rfl
        · exact (hb2 ht).2 x hx
theorem plains_f (L : List Op3') (hL : L.length ≤ 2147483647) (hF : ∀ o ∈ L, Fit o) : ∃ b, Ev (fun k => laws_plainOptions.f k (L.map ofOp)) b ∧ (b = true → L.length ≤ 200 ∧ ∀ o ∈ L, Plain o) := plains_ev L hL hF L [] rfl
theorem same_ev (L : List Op3') (hL : L.length ≤ 2147483647) : ∀ (r pre : List Op3'), L = pre ++ r → Ev (fun k => laws_sameOptions.l0 k (L.map ofOp) (L.map ofOp) ((L.map ofOp).length : Int) (pre.length : Int)) true
  | [], pre, e => Ev.of1 fun k => by
    simp only [laws_sameOptions.l0]
    rw [if_neg (by rw [List.length_map, e]; simp)]
  | o :: r, pre, e => by
    have hlen : L.length = pre.length + (r.length + 1) := by rw [e]; simp
    have h1 : (pre.length : Int) < ((L.map ofOp).length : Int) := by rw [List.length_map]; omega
    have hrd := rd29 L pre o r e
    refine Ev.step (fun k => ?_) (same_ev L hL r (pre ++ [o]) (by rw [e]; simp))
    simp only [laws_sameOptions.l0]
    rw [if_pos h1, if_pos (by omega), if_pos h1, if_pos h1, hrd, if_neg (by simp), wr_next _ (by omega), snoc_len]
theorem same_f (L : List Op3') (hL : L.length ≤ 2147483647) : Ev (fun k => laws_sameOptions.f k (L.map ofOp) (L.map ofOp)) true :=
  Ev.same (fun k => by unfold laws_sameOptions.f; rw [if_pos rfl]; rfl) (same_ev L hL L [] rfl)
end Go.Proofs.YtocdnceckljnaaaDoor.Pu
namespace Go.Proofs.YtocdnceckljnaaaDoor.Pu
open Go.RowKit Go.Proofs.YtocdnceckljnaaaDoorW.PrintWords Go.Proofs.YtocdnceckljnaaaDoorW.PrintLast
open Go.Proofs.YtocdnceckljnaaaDoor.QV0
open Go.Proofs.YtocdnceckljnaaaDoor.U (Bs B B_data B_size Op3' keysF)
set_option linter.unusedVariables false
set_option linter.unusedSimpArgs false
def ofS (L : List Op3') (s : Bs) : List Op3' := L.filter (fun o => o.1 = s)
def groupK (L : List Op3') (ks : List Bs) : List Op3' := ks.flatMap (ofS L)
def groupL (L : List Op3') : List Op3' := groupK L (keysF L)
theorem ofS_len (L : List Op3') (s : Bs) : (ofS L s).length ≤ L.length := List.length_filter_le _ _
theorem groupK_len (L : List Op3') (ks : List Bs) : (groupK L ks).length ≤ ks.length * L.length := by
  induction ks with
  | nil => simp [groupK]
  | cons s ks ih =>
    unfold groupK at ih ⊢
    rw [List.flatMap_cons, List.length_append, List.length_cons, Nat.succ_mul]
    have := ofS_len L s
    omega
theorem groupK_small (L pre : List Op3') (hL : L.length ≤ 200) (hp : pre.length ≤ 200) : (groupK L (keysF pre)).length ≤ 40000 := by
  have h1 := groupK_len L (keysF pre)
  have h2 := U.keysF_len pre
  have h3 : (keysF pre).length * L.length ≤ 200 * 200 := Nat.mul_le_mul (by omega) hL
  omega
section
variable (L : List Op3') (hL : L.length ≤ 200)
include hL
omit hL in
theorem g2_ev (pre : List Op3') (o : Op3') (X : List Op3') (x6 : Bool) (v : List S29) (Y : List Op3') (hY : Y.length ≤ 200) : ∀ (r p : List Op3') (X : List Op3'), Y = p ++ r → X.length + r.length ≤ 100000 →
    Ev (fun k => laws_grouped.l0 k (L.map ofOp) ((X ++ if x6 = true then ofS r o.1 else []).map ofOp) (L.map ofOp) ((L.map ofOp).length : Int) (wrap64 ((pre.length : Int) + 1))) v →
    Ev (fun k => laws_grouped.l2 k (L.map ofOp) (X.map ofOp) x6 (L.map ofOp) ((L.map ofOp).length : Int) (pre.length : Int) (Y.map ofOp) ((Y.map ofOp).length : Int) (p.length : Int) (B o.1) (B o.2.1) (B o.2.2)) v
  | [], p, X, e, hX, h => by
    refine Ev.step (fun k => ?_) h
    simp only [laws_grouped.l2]
    rw [if_neg (by rw [List.length_map, e]; simp)]
    have : (if x6 = true then ofS [] o.1 else []) = ([] : List Op3') := by split <;> rfl
    rw [this, List.append_nil]
  | y :: r, p, X, e, hX, h => by
    have hlen : Y.length = p.length + (r.length + 1) := by rw [e]; simp
    have h1 : (p.length : Int) < ((Y.map ofOp).length : Int) := by rw [List.length_map]; omega
    have hrd := rd29 Y p y r e
    have hw : wrap64 ((p.length : Int) + 1) = (((p ++ [y]).length : Nat) : Int) := by rw [wr_next _ (by omega), snoc_len]
    rw [List.length_cons] at hX
    cases x6 with
    | false =>
      refine Ev.step (fun k => ?_) (g2_ev pre o X false v Y hY r (p ++ [y]) X (by rw [e]; simp) (by omega) (by simpa using h))
      simp only [laws_grouped.l2]
      rw [if_pos h1, if_pos (by omega), if_pos h1, if_neg (by simp), hw]
    | true =>
      by_cases hy : y.1 = o.1
      · have e2 : X ++ ofS (y :: r) o.1 = (X ++ [y]) ++ ofS r o.1 := by unfold ofS; rw [List.filter_cons, if_pos (by simpa using hy)]; simp
        refine Ev.step (fun k => ?_) (g2_ev pre o X true v Y hY r (p ++ [y]) (X ++ [y]) (by rw [e]; simp) (by simp; omega) (by rw [if_pos rfl] at h ⊢; rw [← e2]; exact h))
        simp only [laws_grouped.l2]
        rw [if_pos h1, if_pos (by omega), if_pos h1, if_pos trivial, hrd, if_pos (by show (B y.1).toList = _; rw [B_toList, B_toList]; exact hy), if_pos (by rw [List.length_map]; omega), hw, List.map_append]
        rfl
      · have e2 : ofS (y :: r) o.1 = ofS r o.1 := by unfold ofS; rw [List.filter_cons, if_neg (by simpa using hy)]
        refine Ev.step (fun k => ?_) (g2_ev pre o X true v Y hY r (p ++ [y]) X (by rw [e]; simp) (by omega) (by rw [if_pos rfl] at h ⊢; rw [← e2]; exact h))
        simp only [laws_grouped.l2]
        rw [if_pos h1, if_pos (by omega), if_pos h1, if_pos trivial, hrd, if_neg (by show ¬ (B y.1).toList = _; rw [B_toList, B_toList]; exact hy), hw]
theorem g1_ev (pre : List Op3') (o : Op3') (r0 : List Op3') (e0 : L = pre ++ o :: r0) (X : List Op3') (v : List S29) (b : Bool) : ∀ (r p : List Op3') (x6 : Bool), pre = p ++ r → b = (x6 && r.all (fun y => y.1 != o.1)) →
    Ev (fun k => laws_grouped.l2 k (L.map ofOp) (X.map ofOp) b (L.map ofOp) ((L.map ofOp).length : Int) (pre.length : Int) ((L.drop pre.length).map ofOp) (((L.drop pre.length).map ofOp).length : Int) 0 (B o.1) (B o.2.1) (B o.2.2)) v →
    Ev (fun k => laws_grouped.l1 k (L.map ofOp) (X.map ofOp) (pre.length : Int) x6 (L.map ofOp) ((L.map ofOp).length : Int) (pre.length : Int) (pre.map ofOp) ((pre.map ofOp).length : Int) (p.length : Int) (B o.1) (B o.2.1) (B o.2.2)) v
  | [], p, x6, e, hb, h => by
    have hlen : L.length = pre.length + (r0.length + 1) := by rw [e0]; simp
    have hbx : b = x6 := by rw [hb]; simp
    subst hbx
    refine Ev.step (fun k => ?_) h
    simp only [laws_grouped.l1]
    rw [if_neg (by rw [List.length_map, e]; simp), if_pos (by omega), if_pos (by rw [List.length_map]; omega), Option.bind_some, Int.toNat_natCast, List.map_drop]
  | y :: r, p, x6, e, hb, h => by
    have hlen : pre.length = p.length + (r.length + 1) := by rw [e]; simp
    have hlenL : L.length = pre.length + (r0.length + 1) := by rw [e0]; simp
    have h1 : (p.length : Int) < ((pre.map ofOp).length : Int) := by rw [List.length_map]; omega
    have hrd := rd29 pre p y r e
    have hw : wrap64 ((p.length : Int) + 1) = (((p ++ [y]).length : Nat) : Int) := by rw [wr_next _ (by omega), snoc_len]
    cases x6 with
    | false =>
      refine Ev.step (fun k => ?_) (g1_ev pre o r0 e0 X v b r (p ++ [y]) false (by rw [e]; simp) (by simpa using hb) h)
      simp only [laws_grouped.l1]
      rw [if_pos h1, if_pos (by omega), if_pos h1, if_neg (by simp), hw]
    | true =>
      refine Ev.step (fun k => ?_) (g1_ev pre o r0 e0 X v b r (p ++ [y]) (y.1 != o.1) (by rw [e]; simp) (by rw [hb, List.all_cons, Bool.true_and]) h)
      simp only [laws_grouped.l1]
      rw [if_pos h1, if_pos (by omega), if_pos h1, if_pos trivial, hrd, hw]
      show laws_grouped.l1 k _ _ _ ((B y.1).toList != (B o.1).toList) _ _ _ _ _ _ _ _ _ = _
      rw [B_toList, B_toList]
theorem g0_ev : ∀ (r pre : List Op3'), L = pre ++ r → Ev (fun k => laws_grouped.l0 k (L.map ofOp) ((groupK L (keysF pre)).map ofOp) (L.map ofOp) ((L.map ofOp).length : Int) (pre.length : Int)) ((groupL L).map ofOp)
  | [], pre, e => by
    rw [List.append_nil] at e
    subst e
    refine Ev.of1 fun k => ?_
    simp only [laws_grouped.l0]
    rw [if_neg (by simp)]
    rfl
  | o :: r, pre, e => by
    have hlen : L.length = pre.length + (r.length + 1) := by rw [e]; simp
    have h1 : (pre.length : Int) < ((L.map ofOp).length : Int) := by rw [List.length_map]; omega
    have hrd := rd29 L pre o r e
    have hsm := groupK_small L pre hL (by omega)
    have ih := g0_ev r (pre ++ [o]) (by rw [e]; simp)
    have hdrop : L.drop pre.length = o :: r := by rw [e]; simp
    have htake : L.take pre.length = pre := by rw [e]; simp
    have hstep : groupK L (keysF (pre ++ [o])) = groupK L (keysF pre) ++ if (pre.all (fun y => y.1 != o.1)) = true then ofS (o :: r) o.1 else [] := by
      rw [U.keysF_snoc]
      unfold U.addKey
      by_cases hin : o.1 ∈ keysF pre
      · rw [if_pos hin, if_neg, List.append_nil]
        rw [List.all_eq_true]
        intro hall
        rw [U.mem_keysF] at hin
        obtain ⟨y, hy, hyo⟩ := List.mem_map.1 hin
        have := hall y hy
        simp [hyo] at this
      · have hall : pre.all (fun y => y.1 != o.1) = true := by
          rw [List.all_eq_true]
          intro y hy
          rw [bne_iff_ne]
          intro hyo
          exact hin ((U.mem_keysF pre o.1).2 (List.mem_map.2 ⟨y, hy, hyo⟩))
        rw [if_neg hin, if_pos hall]
        unfold groupK
        rw [List.flatMap_append]
        congr 1
        simp only [List.flatMap_cons, List.flatMap_nil, List.append_nil]
        unfold ofS
        rw [e, List.filter_append]
        have : pre.filter (fun x => decide (x.1 = o.1)) = [] := by
          rw [List.filter_eq_nil_iff]
          intro y hy
          have := List.all_eq_true.1 hall y hy
          simpa using this
        rw [this, List.nil_append]
    have hin2 := g2_ev L pre o (groupK L (keysF pre)) (pre.all (fun y => y.1 != o.1)) ((groupL L).map ofOp) (o :: r) (by simp; omega) (o :: r) [] (groupK L (keysF pre)) rfl (by simp; omega)
      (by rw [← hstep, wr_next _ (by omega), ← snoc_len pre o]; exact ih)
    have hin1 := g1_ev L hL pre o r e (groupK L (keysF pre)) ((groupL L).map ofOp) (pre.all (fun y => y.1 != o.1)) pre [] true rfl (by simp)
      (by rw [hdrop]; exact hin2)
    refine Ev.step (fun k => ?_) hin1
    simp only [laws_grouped.l0]
    rw [if_pos h1, if_pos (by omega), if_pos h1, if_pos (by omega), Option.bind_some, hrd, Int.toNat_natCast, ← List.map_take, htake]
    rfl
theorem grouped_f : Ev (fun k => laws_grouped.f k (L.map ofOp)) ((groupL L).map ofOp) := g0_ev L hL L [] rfl
end
end Go.Proofs.YtocdnceckljnaaaDoor.Pu
namespace Go.Proofs.YtocdnceckljnaaaDoor.Pu
open Go.RowKit Go.Proofs.YtocdnceckljnaaaDoorW.PrintWords Go.Proofs.YtocdnceckljnaaaDoorW.PrintLast
open Go.Proofs.YtocdnceckljnaaaDoor.QV0
open Go.Proofs.YtocdnceckljnaaaDoor.U (Bs B B_data B_size Op3' keysF eolL eolR cutEnd upto past stepF lexF putD readF PD St soStep spN lineF linesF secF accF writeF addLast)
set_option linter.unusedVariables false
set_option linter.unusedSimpArgs false
theorem tw_app (d : UInt8) (a r : Bs) (h : d ∉ a) : (a ++ d :: r).takeWhile (fun c => c != d) = a := by
  rw [List.takeWhile_append_of_pos (fun c hc => by rw [bne_iff_ne]; rintro rfl; exact h hc)]
  simp
theorem dw_app (d : UInt8) (a r : Bs) (h : d ∉ a) : (a ++ d :: r).dropWhile (fun c => c != d) = d :: r := by
  rw [List.dropWhile_append_of_pos (fun c hc => by rw [bne_iff_ne]; rintro rfl; exact h hc)]
  simp
theorem eolL_app (a r : Bs) (h : (10 : UInt8) ∉ a) : eolL (a ++ 10 :: r) = a := tw_app 10 a r h
theorem eolR_app (a r : Bs) (h : (10 : UInt8) ∉ a) : eolR (a ++ 10 :: r) = r := by unfold eolR; rw [dw_app 10 a r h]; rfl
theorem upto_app (d : UInt8) (a r : Bs) (h : d ∉ a) : upto d (a ++ d :: r) = a := tw_app d a r h
theorem past_app (d : UInt8) (a r : Bs) (h : d ∉ a) : past d (a ++ d :: r) = r := by unfold past; rw [dw_app d a r h]; rfl
theorem near (a r : Bs) (h : a.length < 2048) : (a ++ 10 :: r).length < 2048 ∨ (10 : UInt8) ∈ (a ++ 10 :: r).take 2048 := by
  right
  rw [List.take_append, List.mem_append]
  right
  obtain ⟨j, hj⟩ : ∃ j, 2048 - a.length = j + 1 := ⟨2047 - a.length, by omega⟩
  rw [hj]
  simp
theorem prn_ne {s : Bs} (h : s.all prn = true) (d : UInt8) (hd : prn d = false) : d ∉ s := fun hm => by
  have := List.all_eq_true.1 h d hm
  rw [hd] at this
  simp at this
theorem prn_sp {c : UInt8} (h : prn c = true) (h32 : c ≠ 32) : Lib.isSp c = false := by
  unfold prn at h
  simp only [Bool.and_eq_true, decide_eq_true_eq] at h
  have h2 : c.toNat ≠ 32 := fun e => h32 (UInt8.toNat_inj.1 e)
  unfold Lib.isSp
  simp only [Bool.or_eq_false_iff, beq_eq_false_iff_ne, ne_eq]
  refine ⟨⟨⟨⟨⟨?_, ?_⟩, ?_⟩, ?_⟩, ?_⟩, h32⟩ <;> (rintro rfl; revert h; decide)
theorem dw_self {p : UInt8 → Bool} (l : Bs) (h : ∀ c t, l = c :: t → p c = false) : l.dropWhile p = l := by
  cases l with
  | nil => rfl
  | cons c t => rw [List.dropWhile_cons, if_neg (by rw [h c t rfl]; simp)]
theorem trim_seen {s : Bs} (h : Seen s) : Lib.trimSpace s = s := by
  have hp : ∀ c ∈ s, prn c = true := fun c hc => List.all_eq_true.1 h.all c hc
  have e1 : s.dropWhile Lib.isSp = s := dw_self s fun c t e => prn_sp (hp c (by rw [e]; simp)) (h.first c t e)
  have e2 : s.reverse.dropWhile Lib.isSp = s.reverse := dw_self s.reverse fun c t e => by
    have e' : s = t.reverse ++ [c] := by rw [← List.reverse_reverse s, e, List.reverse_cons]
    exact prn_sp (hp c (by rw [e']; simp)) (h.last c _ e')
  unfold Lib.trimSpace
  rw [e1, e2, List.reverse_reverse]
inductive Ln where
  | sec (s : Bs)
  | opt (n v : Bs)
  | rem (x : Bs)
def Ln.text : Ln → Bs
  | .sec s => 91 :: (s ++ [93])
  | .opt n v => n ++ 61 :: v
  | .rem x => x
def Ln.line (l : Ln) : Bs := l.text ++ [10]
def Ln.core : Ln → Bool
  | .rem _ => false
  | .sec _ => true
  | .opt _ _ => true
def textOf (d : List Ln) : Bs := d.flatMap Ln.line
theorem textOf_nil : textOf [] = [] := rfl
theorem textOf_cons (l : Ln) (d : List Ln) : textOf (l :: d) = l.text ++ 10 :: textOf d := by simp [textOf, Ln.line]
theorem textOf_app (a b : List Ln) : textOf (a ++ b) = textOf a ++ textOf b := by simp [textOf]
def RemOk (x : Bs) : Prop := x.all prn = true ∧ x.length ≤ 400 ∧ (x = [] ∨ ∃ c t, x = c :: t ∧ (c = 35 ∨ c = 59) ∧ Lib.hasSuffix (cutEnd 32 t) [92] = false)
def Ln.Ok : Ln → Prop
  | .sec s => Seen s ∧ (93 : UInt8) ∉ s
  | .opt n v => Seen n ∧ Seen v ∧ (61 : UInt8) ∉ n ∧ (∃ c t, n = c :: t ∧ isLetter c = true) ∧ ∀ t, v ≠ t ++ [92]
  | .rem x => RemOk x
theorem Ln.Ok.prn {l : Ln} (h : l.Ok) : l.text.all prn = true := by
  cases l with
  | sec s => simp [Ln.text, h.1.all]; decide
  | opt n v => simp [Ln.text, h.1.all, h.2.1.all]; decide
  | rem x => exact h.1
theorem Ln.Ok.len {l : Ln} (h : l.Ok) : l.text.length ≤ 801 := by
  cases l with
  | sec s => have := h.1.len; simp [Ln.text]; omega
  | opt n v => have := h.1.len; have := h.2.1.len; simp [Ln.text]; omega
  | rem x => have := h.2.1; simp [Ln.text]; omega
theorem textOf_len (d : List Ln) (h : ∀ l ∈ d, l.Ok) : (textOf d).length ≤ 802 * d.length ∧ d.length ≤ (textOf d).length := by
  induction d with
  | nil => simp [textOf]
  | cons l d ih =>
    have h1 := ih (fun l hl => h l (List.mem_cons_of_mem _ hl))
    have h2 := (h l List.mem_cons_self).len
    rw [textOf_cons]
    simp
    omega
theorem textOf_asc (d : List Ln) (h : ∀ l ∈ d, l.Ok) : ∀ c ∈ textOf d, c.toNat < 128 := by
  intro c hc
  obtain ⟨l, hl, hc⟩ := List.mem_flatMap.1 hc
  unfold Ln.line at hc
  rcases List.mem_append.1 hc with hc | hc
  · have := List.all_eq_true.1 (h l hl).prn c hc
    unfold Pu.prn at this
    simp at this
    omega
  · obtain rfl := List.mem_singleton.1 hc
    decide
def evs : Bs → List Ln → List PD
  | _, [] => []
  | _, .sec s :: r => (true, s, [], []) :: evs s r
  | s, .opt n v :: r => (false, s, n, v) :: evs s r
  | s, .rem _ :: r => evs s r
theorem evs_len (s : Bs) (d : List Ln) : (evs s d).length ≤ d.length := by
  induction d generalizing s with
  | nil => simp [evs]
  | cons l d ih =>
    cases l with
    | sec t => have := ih t; simp [evs]; omega
    | opt n v => have := ih s; simp [evs]; omega
    | rem x => have := ih s; simp [evs]; omega
theorem evs_core (s : Bs) (d : List Ln) : evs s (d.filter Ln.core) = evs s d := by
  induction d generalizing s with
  | nil => rfl
  | cons l d ih =>
    cases l with
    | sec t => rw [List.filter_cons_of_pos (by rfl)]; simp only [evs, ih]
    | opt n v => rw [List.filter_cons_of_pos (by rfl)]; simp only [evs, ih]
    | rem x => rw [List.filter_cons_of_neg (by simp [Ln.core])]; simp only [evs, ih]
def Lex (n : Nat) (st : St) (rest : Bs) (D R : List PD) : Prop := ∀ k, n ≤ k → lexF k st rest D = some R
theorem Lex.step {n : Nat} {st st' : St} {rest rest' : Bs} {D R d : List PD} (hc : rest.length < 2048 ∨ (10 : UInt8) ∈ rest.take 2048) (hs : stepF st rest = some (some st', rest', d)) (hD : D.length < 900000000) (h : Lex n st' rest' (D ++ d) R) : Lex (n + 1) st rest D R := by
  intro k hk
  obtain ⟨j, rfl⟩ : ∃ j, k = j + 1 := ⟨k - 1, by omega⟩
  simp only [lexF]
  rw [if_pos hc, hs, Option.bind_some, if_pos hD]
  exact h j (by omega)
theorem Lex.more {n m : Nat} {st : St} {rest : Bs} {D R : List PD} (h : Lex n st rest D R) (hm : n ≤ m) : Lex m st rest D R := fun k hk => h k (by omega)
theorem Lex.last {st : St} {D : List PD} (hs : stepF st [] = some (none, [], [])) (hD : D.length < 900000000) : Lex 1 st [] D D := by
  intro k hk
  obtain ⟨j, rfl⟩ : ∃ j, k = j + 1 := ⟨k - 1, by omega⟩
  simp only [lexF]
  rw [if_pos (Or.inl (by simp)), hs, Option.bind_some, if_pos hD, List.append_nil]
theorem lex_sec (n : Nat) (s : Bs) (hs : Ln.Ok (.sec s)) (r : Bs) (D R : List PD) (hD : D.length < 900000000) (h : Lex n (.secOpt s) r (D ++ [(true, s, [], [])]) R) : Lex (n + 2) .secName (s ++ 93 :: 10 :: r) D R := by
  have h10 : (10 : UInt8) ∉ s := prn_ne hs.1.all 10 (by decide)
  have hl := hs.1.len
  refine Lex.step (st' := .suffix s) (rest' := 10 :: r) (d := []) ?_ ?_ hD ?_
  · have := near (s ++ [93]) r (by simp; omega)
    simpa using this
  · simp only [stepF]
    rw [if_pos (by simp), upto_app 93 s _ hs.2, past_app 93 s _ hs.2]
  · rw [List.append_nil]
    refine Lex.step (near [] r (by simp)) ?_ hD h
    simp only [stepF]
    have e1 : eolL (10 :: r) = [] := eolL_app [] r (by simp)
    have e2 : eolR (10 :: r) = r := eolR_app [] r (by simp)
    rw [e1, e2, if_pos ⟨by simp, rfl⟩]
theorem letter_not {c : UInt8} (h : isLetter c = true) : spN c.toNat = false ∧ c.toNat ≠ 91 ∧ ¬ (c.toNat = 35 ∨ c.toNat = 59) := by
  unfold isLetter at h
  unfold spN
  simp at h ⊢
  omega
theorem lex_line (n : Nat) (l : Ln) (hl : l.Ok) (s : Bs) (r : Bs) (D R : List PD) (hD : D.length < 900000000) (h : ∀ s', evs s [l] = evs s [l] → (match l with | .sec t => s' = t | _ => s' = s) → Lex n (.secOpt s') r (D ++ evs s [l]) R) : Lex (n + 3) (.secOpt s) (l.text ++ 10 :: r) D R := by
  have hn := near l.text r (by have := hl.len; omega)
  cases l with
  | sec t =>
    refine Lex.step hn (st' := .secName) (rest' := t ++ 93 :: 10 :: r) (d := []) ?_ hD ?_
    · show stepF (.secOpt s) (91 :: (t ++ [93]) ++ 10 :: r) = _
      rw [List.cons_append]
      simp only [stepF, soStep]
      rw [if_neg (by decide), if_pos (show UInt8.toNat 91 = 91 from rfl)]
      simp
    · rw [List.append_nil]
      exact lex_sec n t hl r D R hD (h t rfl rfl)
  | opt m v =>
    obtain ⟨h1, h2, h3, ⟨c, t, rfl, hc⟩, h5⟩ := hl
    obtain ⟨q1, q2, q3⟩ := letter_not hc
    have e0 : (Ln.opt (c :: t) v).text ++ 10 :: r = (c :: t) ++ 61 :: (v ++ 10 :: r) := by simp [Ln.text]
    rw [e0] at hn ⊢
    have m10 : (10 : UInt8) ∉ (c :: t) := prn_ne h1.all 10 (by decide)
    have m13 : (13 : UInt8) ∉ (c :: t) := prn_ne h1.all 13 (by decide)
    have v10 : (10 : UInt8) ∉ v := prn_ne h2.all 10 (by decide)
    have v13 : (13 : UInt8) ∉ v := prn_ne h2.all 13 (by decide)
    refine Lex.step hn (st' := .optName s) (rest' := (c :: t) ++ 61 :: (v ++ 10 :: r)) (d := []) ?_ hD ?_
    · rw [List.cons_append]
      simp only [stepF, soStep]
      rw [q1, if_neg (by simp), if_neg q2, if_neg q3]
    · rw [List.append_nil]
      refine Lex.step hn (st' := .optVal s (c :: t)) (rest' := v ++ 10 :: r) (d := []) ?_ hD ?_
      · simp only [stepF]
        rw [upto_app 61 _ _ h3, past_app 61 _ _ h3, if_pos ⟨by simp, m10, m13⟩, trim_seen h1]
      · rw [List.append_nil]
        refine Lex.step (near v r (by have := h2.len; omega)) (st' := .secOpt s) (rest' := r) (d := [(false, s, c :: t, v)]) ?_ hD (h s rfl rfl)
        have hsf : Lib.hasSuffix v [92] = false := by
          cases hh : Lib.hasSuffix v [92]
          · rfl
          · obtain ⟨t', ht⟩ := (U.suffix_iff _ 92).1 hh
            exact absurd ht (h5 t')
        simp only [stepF]
        rw [eolL_app v r v10, eolR_app v r v10, if_pos ⟨v13, hsf⟩, trim_seen h2]
  | rem x =>
    obtain ⟨h1, h2, h3⟩ := hl
    have hs : Lex n (.secOpt s) r D R := by
      have := h s rfl rfl
      simpa [evs] using this
    rcases h3 with rfl | ⟨c, t, rfl, hc, hb⟩
    · refine (Lex.step (n := n) hn (st' := .secOpt s) (rest' := r) (d := []) ?_ hD (by rw [List.append_nil]; exact hs)).more (by omega)
      show stepF (.secOpt s) (10 :: r) = _
      simp only [stepF, soStep]
      rw [if_pos (by decide)]
    · have x10 : (10 : UInt8) ∉ t := fun hm => prn_ne h1 10 (by decide) (List.mem_cons_of_mem _ hm)
      have x13 : (13 : UInt8) ∉ t := fun hm => prn_ne h1 13 (by decide) (List.mem_cons_of_mem _ hm)
      refine (Lex.step (n := n + 1) hn (st' := .ign (some s)) (rest' := t ++ 10 :: r) (d := []) ?_ hD ?_).more (by omega)
      · show stepF (.secOpt s) (c :: t ++ 10 :: r) = _
        rw [List.cons_append]
        simp only [stepF, soStep]
        rcases hc with rfl | rfl
        · rw [if_neg (by decide), if_neg (by decide), if_pos (by decide)]
        · rw [if_neg (by decide), if_neg (by decide), if_pos (by decide)]
      · rw [List.append_nil]
        rw [List.length_cons] at h2
        refine Lex.step (near t r (by omega)) (st' := .secOpt s) (rest' := r) (d := []) ?_ hD (by rw [List.append_nil]; exact hs)
        simp only [stepF]
        rw [eolL_app t r x10, eolR_app t r x10, if_pos ⟨x13, hb⟩]
theorem evs_cons (s : Bs) (l : Ln) (d : List Ln) : evs s (l :: d) = evs s [l] ++ evs (match l with | .sec t => t | _ => s) d := by
  cases l <;> simp [evs]
theorem lex_lines (d : List Ln) (h : ∀ l ∈ d, l.Ok) : ∀ (s : Bs) (D : List PD), D.length + d.length < 900000000 → Lex (3 * d.length + 1) (.secOpt s) (textOf d) D (D ++ evs s d) := by
  induction d with
  | nil =>
    intro s D hD
    rw [textOf_nil, evs, List.append_nil]
    exact Lex.last rfl (by simpa using hD)
  | cons l d ih =>
    intro s D hD
    rw [List.length_cons] at hD ⊢
    rw [textOf_cons, evs_cons, ← List.append_assoc]
    have hle : (evs s [l]).length ≤ 1 := evs_len s [l]
    refine (lex_line (3 * d.length + 1) l (h l List.mem_cons_self) s _ D _ (by omega) (fun s' _ hs' => ?_)).more (by omega)
    have := ih (fun x hx => h x (List.mem_cons_of_mem _ hx)) s' (D ++ evs s [l]) (by rw [List.length_append]; omega)
    cases l <;> (simp only at hs'; subst hs'; exact this)
theorem lex_text (d : List Ln) (h : ∀ l ∈ d, l.Ok) (hf : d = [] ∨ ∃ t r, d = .sec t :: r) (hd : d.length < 800000000) : lexF (3 * (textOf d).length + 10) .next (textOf d) [] = some (evs [] d) := by
  have hl := (textOf_len d h).2
  rcases hf with rfl | ⟨t, r, rfl⟩
  · rfl
  · have ht : Ln.Ok (.sec t) := h _ List.mem_cons_self
    rw [List.length_cons] at hd hl
    have e0 : textOf (.sec t :: r) = 91 :: (t ++ 93 :: 10 :: textOf r) := by rw [textOf_cons]; simp [Ln.text]
    have h1 := lex_lines r (fun l hl => h l (List.mem_cons_of_mem _ hl)) t [(true, t, [], [])] (by simp; omega)
    have h2 := lex_sec _ t ht (textOf r) [] _ (by simp) h1
    have h3 : Lex _ .next (textOf (.sec t :: r)) [] _ := Lex.step (near (Ln.text (.sec t)) (textOf r) (by have := ht.len; omega) |> fun q => by rw [textOf_cons]; exact q) (st' := .secName) (rest' := t ++ 93 :: 10 :: textOf r) (d := []) (by
      rw [e0]
      simp only [stepF]
      rw [if_pos (by decide)]) (by simp) h2
    exact h3 _ (by omega)
abbrev Gs := List (Bs × List (Bs × Bs))
def gDoc (g : Bs × List (Bs × Bs)) : List Ln := .sec g.1 :: g.2.map fun e => .opt e.1 e.2
def gEvs (g : Bs × List (Bs × Bs)) : List PD := (true, g.1, [], []) :: g.2.map fun e => (false, g.1, e.1, e.2)
def gOps (g : Bs × List (Bs × Bs)) : List Op3' := g.2.map fun e => (g.1, e.1, e.2)
theorem evs_opts (s : Bs) (es : List (Bs × Bs)) (d : List Ln) : evs s ((es.map fun e => Ln.opt e.1 e.2) ++ d) = (es.map fun e => (false, s, e.1, e.2)) ++ evs s d := by
  induction es with
  | nil => rfl
  | cons e es ih => simp [evs, ih]
theorem evs_gs (gs : Gs) (s : Bs) : evs s (gs.flatMap gDoc) = gs.flatMap gEvs := by
  induction gs generalizing s with
  | nil => rfl
  | cons g gs ih =>
    rw [List.flatMap_cons, List.flatMap_cons, gDoc, gEvs, List.cons_append, evs, evs_opts, ih, List.cons_append]
theorem putD_opts (s : Bs) (es : List (Bs × Bs)) (r : List PD) : ∀ (S : Gs) (a : List (Bs × Bs)) (O : List Op3'), putD ((es.map fun e => (false, s, e.1, e.2)) ++ r) (S ++ [(s, a)]) O = putD r (S ++ [(s, a ++ es)]) (O ++ es.map fun e => (s, e.1, e.2)) := by
  induction es with
  | nil => intro S a O; simp
  | cons e es ih =>
    intro S a O
    rw [List.map_cons, List.cons_append, putD, if_neg (by simp)]
    have : addLast (S ++ [(s, a)]) (e.1, e.2) = S ++ [(s, a ++ [e])] := by unfold addLast; simp
    rw [this, ih]
    simp
theorem putD_gs (gs : Gs) : ∀ (S : Gs) (O : List Op3'), putD (gs.flatMap gEvs) S O = some (S ++ gs, O ++ gs.flatMap gOps) := by
  induction gs with
  | nil => intro S O; simp [putD]
  | cons g gs ih =>
    intro S O
    rw [List.flatMap_cons, gEvs, List.cons_append, putD, putD_opts g.1 g.2 _ S [] O, ih, List.flatMap_cons, gOps]
    simp
theorem core_gs (gs : Gs) (d : List Ln) (e : d.filter Ln.core = gs.flatMap gDoc) : evs [] d = gs.flatMap gEvs := by rw [← evs_core, e, evs_gs]
theorem read_text (d : List Ln) (h : ∀ l ∈ d, l.Ok) (hf : d = [] ∨ ∃ t r, d = .sec t :: r) (hd : d.length < 800000000) (gs : Gs) (e : d.filter Ln.core = gs.flatMap gDoc) : readF (textOf d) = some (gs, gs.flatMap gOps) := by
  unfold readF
  rw [lex_text d h hf hd, Option.bind_some, core_gs gs d e]
  have h1 := evs_len [] d
  rw [core_gs gs d e] at h1
  rw [if_pos (by omega), putD_gs gs [] []]
  rfl
def gsK (L : List Op3') (ks : List Bs) : Gs := ks.map fun s => (s, (ofS L s).map (·.2))
def docK (L : List Op3') (ks : List Bs) (j : Nat) : List Ln := (List.range j).flatMap fun i => gDoc (ks.getD i [], (ofS L (ks.getD i [])).map (·.2)) ++ if i + 1 < ks.length then [.rem []] else []
def docL (L : List Op3') : List Ln := docK L (keysF L) (keysF L).length
theorem lines_text (l : List Op3') : linesF l = textOf ((l.map (·.2)).map fun e => .opt e.1 e.2) := by
  induction l with
  | nil => rfl
  | cons o l ih =>
    unfold linesF at ih ⊢
    rw [List.flatMap_cons, ih, List.map_cons, List.map_cons, textOf_cons]
    simp [lineF, Ln.text]
theorem sec_text (L : List Op3') (s : Bs) : secF L s = textOf (gDoc (s, (ofS L s).map (·.2))) := by
  unfold secF gDoc
  rw [textOf_cons, lines_text]
  simp [Ln.text, ofS]
theorem doc_text (L : List Op3') (ks : List Bs) (j : Nat) : accF L ks j = textOf (docK L ks j) := by
  unfold accF docK
  induction j with
  | zero => rfl
  | succ j ih =>
    rw [List.range_succ, List.flatMap_append, List.flatMap_append, textOf_app, ih]
    congr 1
    simp only [List.flatMap_cons, List.flatMap_nil, List.append_nil]
    rw [textOf_app, sec_text]
    congr 1
    split <;> rfl
theorem write_text (L : List Op3') : writeF L = textOf (docL L) := doc_text L _ _
theorem gDoc_core (g : Bs × List (Bs × Bs)) : (gDoc g).filter Ln.core = gDoc g := by
  rw [List.filter_eq_self]
  intro l hl
  rcases List.mem_cons.1 hl with rfl | hl
  · rfl
  · obtain ⟨e, _, rfl⟩ := List.mem_map.1 hl
    rfl
theorem docK_core (L : List Op3') (ks : List Bs) (j : Nat) (hj : j ≤ ks.length) : (docK L ks j).filter Ln.core = (gsK L (ks.take j)).flatMap gDoc := by
  unfold docK gsK
  induction j with
  | zero => simp
  | succ j ih =>
    rw [List.range_succ, List.flatMap_append, List.filter_append, ih (by omega), List.take_add_one, List.map_append, List.flatMap_append]
    congr 1
    have hk : ks[j]? = some (ks.getD j []) := by rw [List.getD_eq_getElem?_getD, List.getElem?_eq_getElem (by omega)]; rfl
    rw [hk]
    simp only [List.flatMap_cons, List.flatMap_nil, List.append_nil, Option.toList_some, List.map_cons, List.map_nil]
    rw [List.filter_append, gDoc_core]
    split <;> simp [Ln.core]
theorem docL_core (L : List Op3') : (docL L).filter Ln.core = (gsK L (keysF L)).flatMap gDoc := by
  have := docK_core L (keysF L) _ (Nat.le_refl _)
  rwa [List.take_length] at this
theorem gsK_ops (L : List Op3') (ks : List Bs) : (gsK L ks).flatMap gOps = groupK L ks := by
  unfold gsK groupK
  induction ks with
  | nil => rfl
  | cons s ks ih =>
    rw [List.map_cons, List.flatMap_cons, ih, List.flatMap_cons]
    congr 1
    unfold gOps
    rw [List.map_map]
    conv => rhs; rw [← List.map_id (ofS L s)]
    refine List.map_congr_left fun o ho => ?_
    have : o.1 = s := by simpa [ofS] using (List.mem_filter.1 ho).2
    subst this
    rfl
theorem docL_ok (L : List Op3') (h : ∀ o ∈ L, Plain o) : ∀ l ∈ docL L, l.Ok := by
  intro l hl
  obtain ⟨i, hi, hl⟩ := List.mem_flatMap.1 hl
  rw [List.mem_range] at hi
  have hk : (keysF L).getD i [] ∈ keysF L := by
    rw [List.getD_eq_getElem?_getD, List.getElem?_eq_getElem hi]
    exact List.getElem_mem hi
  rcases List.mem_append.1 hl with hl | hl
  · rcases List.mem_cons.1 hl with rfl | hl
    · obtain ⟨o, ho, e⟩ := List.mem_map.1 ((U.mem_keysF _ _).1 hk)
      have := h o ho
      show Seen _ ∧ _
      dsimp only
      rw [← e]
      exact ⟨this.s, this.brack.2⟩
    · obtain ⟨e, he, rfl⟩ := List.mem_map.1 hl
      obtain ⟨o, ho, rfl⟩ := List.mem_map.1 he
      have := h o (List.mem_filter.1 ho).1
      exact ⟨this.n, this.v, this.eqs, this.head, this.tail⟩
  · split at hl
    · obtain rfl := List.mem_singleton.1 hl
      exact ⟨rfl, by simp, .inl rfl⟩
    · simp at hl
theorem docL_first (L : List Op3') : docL L = [] ∨ ∃ t r, docL L = .sec t :: r := by
  unfold docL docK
  cases h : (keysF L).length with
  | zero => left; rfl
  | succ n =>
    right
    rw [List.range_succ_eq_map, List.flatMap_cons, gDoc, List.cons_append, List.cons_append]
    exact ⟨_, _, rfl⟩
theorem keysF_nodup (L : List Op3') : (keysF L).Nodup := by
  induction L using U.snoc_ind with
  | h0 => simp [keysF]
  | h1 l o ih =>
    rw [U.keysF_snoc]
    unfold U.addKey
    split
    · exact ih
    · rename_i hn
      rw [List.nodup_append]
      exact ⟨ih, by simp, fun a ha b hb => by rw [List.mem_singleton] at hb; rintro rfl; exact hn (hb ▸ ha)⟩
theorem groupK_le (ks : List Bs) : ∀ L : List Op3', ks.Nodup → (groupK L ks).length ≤ L.length := by
  induction ks with
  | nil => intro L _; simp [groupK]
  | cons s ks ih =>
    intro L hnd
    rw [List.nodup_cons] at hnd
    have e1 : groupK L ks = groupK (L.filter (fun o => ¬ o.1 = s)) ks := by
      unfold groupK
      rw [List.flatMap_def, List.flatMap_def]
      congr 1
      refine List.map_congr_left fun t ht => ?_
      unfold ofS
      rw [List.filter_filter]
      refine List.filter_congr fun o _ => ?_
      by_cases h : o.1 = t
      · have : o.1 ≠ s := fun e => hnd.1 (by rw [← e, h]; exact ht)
        simp [h]
        rintro rfl
        exact hnd.1 ht
      · simp [h]
    have h2 := ih (L.filter (fun o => ¬ o.1 = s)) hnd.2
    rw [← e1] at h2
    have h3 : L.length = (ofS L s).length + (L.filter (fun o => ¬ o.1 = s)).length := by
      have := List.length_eq_countP_add_countP (l := L) (fun o : Op3' => decide (o.1 = s))
      rw [this, List.countP_eq_length_filter, List.countP_eq_length_filter]
      unfold ofS
      congr 2
      exact List.filter_congr fun o _ => by simp
    unfold groupK at h2 ⊢
    rw [List.flatMap_cons, List.length_append]
    omega
theorem gDoc_len (g : Bs × List (Bs × Bs)) : (gDoc g).length = g.2.length + 1 := by unfold gDoc; simp
theorem docK_len (L : List Op3') (ks : List Bs) (j : Nat) (hj : j ≤ ks.length) : (docK L ks j).length ≤ 2 * j + (groupK L (ks.take j)).length := by
  unfold docK groupK
  induction j with
  | zero => simp
  | succ j ih =>
    have hk : ks[j]? = some (ks.getD j []) := by rw [List.getD_eq_getElem?_getD, List.getElem?_eq_getElem (by omega)]; rfl
    have := ih (by omega)
    have hb : (if j + 1 < ks.length then [Ln.rem []] else ([] : List Ln)).length ≤ 1 := by split <;> simp
    rw [List.range_succ, List.flatMap_append, List.length_append, List.take_add_one, List.flatMap_append, List.length_append, hk]
    simp only [List.flatMap_cons, List.flatMap_nil, List.append_nil, Option.toList_some, List.length_append, gDoc_len, List.length_map]
    omega
theorem docL_len (L : List Op3') : (docL L).length ≤ 3 * L.length := by
  have h1 := docK_len L (keysF L) _ (Nat.le_refl _)
  rw [List.take_length] at h1
  have h2 := groupK_le (keysF L) L (keysF_nodup L)
  have h3 := U.keysF_len L
  unfold docL
  omega
end Go.Proofs.YtocdnceckljnaaaDoor.Pu
namespace Go.Proofs.YtocdnceckljnaaaDoor.Pu
open Go.RowKit Go.Proofs.YtocdnceckljnaaaDoorW.PrintWords Go.Proofs.YtocdnceckljnaaaDoorW.PrintLast
open Go.Proofs.YtocdnceckljnaaaDoor.QV0
open Go.Proofs.YtocdnceckljnaaaDoor.U (Bs B B_data B_size Op3' keysF cutEnd readF writeF)
set_option linter.unusedVariables false
set_option linter.unusedSimpArgs false
theorem Ev.bind' {α β : Type} {A : Nat → Option α} {C : α → Nat → Option β} {F : Nat → Option β} {a : α} {v : β} (hF : ∀ k, F k = (A k).bind fun t => C t k) (ha : Ev A a) (hc : Ev (C a) v) : Ev F v := Ev.same hF (Ev.bind ha hc)
theorem read_f (d : List Ln) (h : ∀ l ∈ d, l.Ok) (hf : d = [] ∨ ∃ t r, d = .sec t :: r) (hd : d.length ≤ 100000) (gs : Gs) (e : d.filter Ln.core = gs.flatMap gDoc) (hg : (gs.flatMap gOps).length ≤ 100000) : impl_UnitRead.f (B (textOf d)) = some ((gs.flatMap gOps).map ofOp, 0) := by
  have hl := (textOf_len d h).1
  unfold impl_UnitRead.f
  rw [if_pos ⟨by rw [B_data]; exact textOf_asc d h, by rw [B_size]; omega⟩, B_data, read_text d h hf (by omega) gs e, Option.bind_some, if_pos (by dsimp only; omega)]
section
variable (L : List Op3') (rs : List Bs) (at_ : List Int)
variable (D : List Ln) (hDl : D.length ≤ 600) (hR : rs.length ≤ 40) (hRl : ∀ x ∈ rs, x.length ≤ 2147483647)
include hDl hR hRl in
end
end Go.Proofs.YtocdnceckljnaaaDoor.Pu
namespace Go.Proofs.YtocdnceckljnaaaDoor.Pu
open Go.RowKit Go.Proofs.YtocdnceckljnaaaDoorW.PrintWords Go.Proofs.YtocdnceckljnaaaDoorW.PrintLast
open Go.Proofs.YtocdnceckljnaaaDoor.QV0
open Go.Proofs.YtocdnceckljnaaaDoor.U (Bs B B_data B_size Op3' keysF writeF accF secF linesF lineF writeG accG secG entsG readF)
set_option linter.unusedVariables false
set_option linter.unusedSimpArgs false
def stepS (S : Gs) (o : Op3') : Gs := match S.getLast? with
  | none => S ++ [(o.1, [o.2])]
  | some y => if y.1 = o.1 then S.dropLast ++ [(y.1, y.2 ++ [o.2])] else S ++ [(o.1, [o.2])]
theorem stepS_nil (o : Op3') : stepS [] o = [(o.1, [o.2])] := rfl
theorem stepS_snoc (T : Gs) (y : Bs × List (Bs × Bs)) (o : Op3') : stepS (T ++ [y]) o = if y.1 = o.1 then T ++ [(y.1, y.2 ++ [o.2])] else (T ++ [y]) ++ [(o.1, [o.2])] := by
  unfold stepS
  simp
theorem step_len (S : Gs) (o : Op3') (n : Nat) (h : S.length ≤ n ∧ ∀ g ∈ S, g.2.length ≤ n) : (stepS S o).length ≤ n + 1 ∧ ∀ g ∈ stepS S o, g.2.length ≤ n + 1 := by
  rcases List.eq_nil_or_concat S with rfl | ⟨T, y, rfl⟩
  · rw [stepS_nil]
    refine ⟨by simp, fun g hg => ?_⟩
    rw [List.mem_singleton.1 hg]
    simp
  · rw [List.concat_eq_append] at h ⊢
    rw [stepS_snoc]
    rw [List.length_append, List.length_singleton] at h
    split
    · refine ⟨by simp; omega, fun g hg => ?_⟩
      rcases List.mem_append.1 hg with hg | hg
      · have := h.2 g (List.mem_append_left _ hg); omega
      · rw [List.mem_singleton.1 hg]
        have := h.2 y (by simp)
        simp only [List.length_append, List.length_cons, List.length_nil]; omega
    · refine ⟨by simp; omega, fun g hg => ?_⟩
      rcases List.mem_append.1 hg with hg | hg
      · have := h.2 g hg; omega
      · rw [List.mem_singleton.1 hg]; simp
theorem fold_len (G : List Op3') : (G.foldl stepS []).length ≤ G.length ∧ ∀ g ∈ G.foldl stepS [], g.2.length ≤ G.length := by
  induction G using U.snoc_ind with
  | h0 => exact ⟨by simp, fun g hg => by simp at hg⟩
  | h1 l o ih =>
    rw [List.foldl_append, List.length_append, List.length_singleton]
    exact step_len _ o _ ih
theorem rd52 (S pre : Gs) (x : Bs × List (Bs × Bs)) (r : Gs) (h : S = pre ++ x :: r) : rd_T52 (S.map sec52) (pre.length : Int) = sec52 x := by
  unfold rd_T52
  rw [h]
  simp [List.getD_eq_getElem?_getD]
theorem so_step (G : List Op3') (hG : G.length ≤ 100000) (pre : List Op3') (o : Op3') (r : List Op3') (e : G = pre ++ o :: r) (S : Gs) (hS : S.length ≤ 100000 ∧ ∀ g ∈ S, g.2.length ≤ 100000) (v : List S52)
    (h : Ev (fun k => laws_sectionsOf.l0 k ((stepS S o).map sec52) (G.map ofOp) ((G.map ofOp).length : Int) ((pre ++ [o]).length : Nat)) v) :
    Ev (fun k => laws_sectionsOf.l0 k (S.map sec52) (G.map ofOp) ((G.map ofOp).length : Int) (pre.length : Int)) v := by
  have hlen : G.length = pre.length + (r.length + 1) := by rw [e]; simp
  have h1 : (pre.length : Int) < ((G.map ofOp).length : Int) := by rw [List.length_map]; omega
  have hrd := rd29 G pre o r e
  rw [snoc_len] at h
  have hl : (S.map sec52).length = S.length := List.length_map _
  have hy : wrap64 (((S.map sec52 ++ [(⟨B o.1, ([] : List S74)⟩ : S52)]).length : Int) - 1) = ((S.map sec52).length : Int) := by
    rw [List.length_append, List.length_singleton, wr_pred _ (by omega) (by omega)]
    simp
  have hrn : rd_T52 (S.map sec52 ++ [(⟨B o.1, ([] : List S74)⟩ : S52)]) ((S.map sec52).length : Int) = ⟨B o.1, []⟩ := by
    unfold rd_T52
    simp [List.getD_eq_getElem?_getD]
  have hset : (S.map sec52 ++ [(⟨B o.1, ([] : List S74)⟩ : S52)]).set (S.map sec52).length ⟨B o.1, [] ++ [(⟨B o.2.1, B o.2.2⟩ : S74)]⟩ = (S ++ [(o.1, [o.2])]).map sec52 := by
    simp [sec52, ent74]
  rcases List.eq_nil_or_concat S with rfl | ⟨T, y, rfl⟩
  · rw [stepS_nil] at h
    refine Ev.step (fun k => ?_) h
    simp only [laws_sectionsOf.l0]
    rw [if_pos h1, if_pos (by omega), if_pos h1, if_pos (by simp), if_pos (by simp), hrd]
    show (Option.bind (some (List.map sec52 [] ++ [(⟨B o.1, []⟩ : S52)])) _) = _
    rw [Option.bind_some, hy, if_pos (by omega), if_pos (by rw [List.length_append, List.length_singleton]; omega), hrn, if_pos (by simp), Int.toNat_natCast, wr_next _ (by omega)]
    show laws_sectionsOf.l0 k ((List.map sec52 [] ++ [(⟨B o.1, []⟩ : S52)]).set (List.map sec52 ([] : Gs)).length ⟨B o.1, [] ++ [(⟨B o.2.1, B o.2.2⟩ : S74)]⟩) _ _ _ = _
    rw [hset]
    rfl
  · rw [List.concat_eq_append] at h hS hl hy hrn hset ⊢
    rw [stepS_snoc] at h
    have hTl : ((T ++ [y]).map sec52).length = T.length + 1 := by simp
    have hw : wrap64 ((((T ++ [y]).map sec52).length : Int) - 1) = (T.length : Int) := by
      rw [hTl, wr_pred _ (by omega) (by rw [List.length_append] at hS; have := hS.1; omega)]
      simp
    have hry := rd52 (T ++ [y]) T y [] rfl
    have hyl := hS.2 y (by simp)
    by_cases hyo : y.1 = o.1
    · rw [if_pos hyo] at h
      refine Ev.step (fun k => ?_) h
      simp only [laws_sectionsOf.l0]
      rw [if_pos h1, if_pos (by omega), if_pos h1, if_neg (by omega), hw, if_pos (by omega), if_pos (by omega), hry, hrd, if_pos (by show (B y.1).toList = (B o.1).toList; rw [hyo]), if_pos (by show (y.2.map ent74).length < _; rw [List.length_map]; omega), Int.toNat_natCast, wr_next _ (by omega)]
      have : ((T ++ [y]).map sec52).set T.length ⟨(sec52 y).f0, (sec52 y).f1 ++ [(⟨(ofOp o).f1, (ofOp o).f2⟩ : S74)]⟩ = (T ++ [(y.1, y.2 ++ [o.2])]).map sec52 := by
        simp [sec52, ent74, ofOp]
      rw [this]
    · rw [if_neg hyo] at h
      refine Ev.step (fun k => ?_) h
      simp only [laws_sectionsOf.l0]
      rw [if_pos h1, if_pos (by omega), if_pos h1, if_neg (by omega), hw, if_pos (by omega), if_pos (by omega), hry, hrd, if_neg (by show ¬ (B y.1).toList = (B o.1).toList; rw [B_toList, B_toList]; exact hyo), if_pos (by omega)]
      show (Option.bind (some (List.map sec52 (T ++ [y]) ++ [(⟨B o.1, []⟩ : S52)])) _) = _
      rw [Option.bind_some, hy, if_pos (by omega), if_pos (by rw [List.length_append, List.length_singleton]; omega), hrn, if_pos (by simp), Int.toNat_natCast, wr_next _ (by omega)]
      show laws_sectionsOf.l0 k ((List.map sec52 (T ++ [y]) ++ [(⟨B o.1, []⟩ : S52)]).set (List.map sec52 (T ++ [y])).length ⟨B o.1, [] ++ [(⟨B o.2.1, B o.2.2⟩ : S74)]⟩) _ _ _ = _
      rw [hset]
theorem so_ev (G : List Op3') (hG : G.length ≤ 100000) : ∀ (r pre : List Op3'), G = pre ++ r → Ev (fun k => laws_sectionsOf.l0 k ((pre.foldl stepS []).map sec52) (G.map ofOp) ((G.map ofOp).length : Int) (pre.length : Int)) ((G.foldl stepS []).map sec52)
  | [], pre, e => by
    rw [List.append_nil] at e
    subst e
    refine Ev.of1 fun k => ?_
    simp only [laws_sectionsOf.l0]
    rw [if_neg (by simp)]
  | o :: r, pre, e => by
    have hlen : G.length = pre.length + (r.length + 1) := by rw [e]; simp
    have ih := so_ev G hG r (pre ++ [o]) (by rw [e]; simp)
    have hf := fold_len pre
    refine so_step G hG pre o r e _ ⟨by omega, fun g hg => by have := hf.2 g hg; omega⟩ _ ?_
    rw [List.foldl_append] at ih
    exact ih
theorem fold_same (s : Bs) : ∀ (l : List Op3') (T : Gs) (a : List (Bs × Bs)), (∀ o ∈ l, o.1 = s) → l.foldl stepS (T ++ [(s, a)]) = T ++ [(s, a ++ l.map (·.2))]
  | [], T, a, h => by simp
  | o :: l, T, a, h => by
    rw [List.foldl_cons, stepS_snoc, if_pos (h o List.mem_cons_self).symm, fold_same s l T _ (fun x hx => h x (List.mem_cons_of_mem _ hx))]
    simp
theorem fold_new (s : Bs) (l : List Op3') (S : Gs) (hl : l ≠ []) (h : ∀ o ∈ l, o.1 = s) (hS : ∀ T y, S = T ++ [y] → y.1 ≠ s) : l.foldl stepS S = S ++ [(s, l.map (·.2))] := by
  cases l with
  | nil => exact absurd rfl hl
  | cons o l =>
    have ho := h o List.mem_cons_self
    have e1 : stepS S o = S ++ [(s, [o.2])] := by
      rcases List.eq_nil_or_concat S with rfl | ⟨T, y, rfl⟩
      · rw [stepS_nil, ho]; rfl
      · rw [List.concat_eq_append] at hS ⊢
        rw [stepS_snoc, if_neg (by rw [ho]; exact hS T y rfl), ho]
    rw [List.foldl_cons, e1, fold_same s l S _ (fun x hx => h x (List.mem_cons_of_mem _ hx))]
    simp
theorem fold_groups (L : List Op3') : ∀ (ks : List Bs) (S : Gs), ks.Nodup → (∀ s ∈ ks, ofS L s ≠ []) → (∀ T y, S = T ++ [y] → y.1 ∉ ks) → (ks.flatMap (ofS L)).foldl stepS S = S ++ gsK L ks
  | [], S, _, _, _ => by simp [gsK]
  | s :: ks, S, hn, hne, hS => by
    rw [List.nodup_cons] at hn
    rw [List.flatMap_cons, List.foldl_append, fold_new s (ofS L s) S (hne s List.mem_cons_self) (fun o ho => by simpa [ofS] using (List.mem_filter.1 ho).2) (fun T y h e => hS T y h (by rw [e]; exact List.mem_cons_self)),
      fold_groups L ks _ hn.2 (fun t ht => hne t (List.mem_cons_of_mem _ ht)) (fun T y h => ?_)]
    · unfold gsK
      simp
    · have := List.append_inj_right' h rfl
      simp at this
      rw [← this]
      exact hn.1
theorem fold_groupL (L : List Op3') : (groupL L).foldl stepS [] = gsK L (keysF L) := by
  have := fold_groups L (keysF L) [] (keysF_nodup L) (fun s hs he => by
    obtain ⟨o, ho, e⟩ := List.mem_map.1 ((U.mem_keysF _ _).1 hs)
    have : o ∈ ofS L s := List.mem_filter.2 ⟨ho, by simpa using e⟩
    rw [he] at this
    simp at this) (fun T y h => by simp at h)
  have h2 : groupL L = (keysF L).flatMap (ofS L) := rfl
  rw [h2, this, List.nil_append]
theorem fl1_ev (gs : Gs) (v : List S29) (pre : Gs) (g : Bs × List (Bs × Bs)) (X : List Op3') (hX : X.length + g.2.length ≤ 100000) (hp : pre.length ≤ 100000)
    (h : Ev (fun k => laws_flat.l0 k ((X ++ gOps g).map ofOp) (gs.map sec52) ((gs.map sec52).length : Int) ((pre.length + 1 : Nat) : Int)) v) : ∀ (r p : List (Bs × Bs)), g.2 = p ++ r →
    Ev (fun k => laws_flat.l1 k ((X ++ p.map (fun e => (g.1, e.1, e.2))).map ofOp) (gs.map sec52) ((gs.map sec52).length : Int) (pre.length : Int) (g.2.map ent74) ((g.2.map ent74).length : Int) (p.length : Int) (B g.1) (g.2.map ent74)) v
  | [], p, e => by
    rw [List.append_nil] at e
    refine Ev.step (fun k => ?_) h
    simp only [laws_flat.l1]
    rw [if_neg (by rw [List.length_map, e]; omega), wr_next _ (by omega)]
    unfold gOps
    rw [e]
  | x :: r, p, e => by
    have hlen : g.2.length = p.length + (r.length + 1) := by rw [e]; simp
    have h1 : (p.length : Int) < ((g.2.map ent74).length : Int) := by rw [List.length_map]; omega
    have hrd : rd_T74 (g.2.map ent74) (p.length : Int) = ent74 x := by
      unfold rd_T74
      rw [e]
      simp [List.getD_eq_getElem?_getD]
    have ih := fl1_ev gs v pre g X hX hp h r (p ++ [x]) (by rw [e]; simp)
    refine Ev.step (fun k => ?_) ih
    simp only [laws_flat.l1]
    rw [if_pos h1, if_pos (by omega), if_pos h1, if_pos (by rw [List.length_map, List.length_append, List.length_map]; omega), hrd, wr_next _ (by omega), ← snoc_len p x]
    congr 1
    simp [ofOp, ent74]
theorem fl0_ev (gs : Gs) (hN : (gs.flatMap gOps).length ≤ 100000) (hg : gs.length ≤ 100000) : ∀ (r pre : Gs), gs = pre ++ r → Ev (fun k => laws_flat.l0 k ((pre.flatMap gOps).map ofOp) (gs.map sec52) ((gs.map sec52).length : Int) (pre.length : Int)) ((gs.flatMap gOps).map ofOp)
  | [], pre, e => by
    rw [List.append_nil] at e
    subst e
    refine Ev.of1 fun k => ?_
    simp only [laws_flat.l0]
    rw [if_neg (by simp)]
  | g :: r, pre, e => by
    have hlen : gs.length = pre.length + (r.length + 1) := by rw [e]; simp
    have h1 : (pre.length : Int) < ((gs.map sec52).length : Int) := by rw [List.length_map]; omega
    have hrd := rd52 gs pre g r e
    have hsz : (pre.flatMap gOps).length + g.2.length ≤ 100000 := by
      rw [e, List.flatMap_append, List.flatMap_cons, List.length_append, List.length_append] at hN
      have : (gOps g).length = g.2.length := List.length_map _
      omega
    have ih := fl0_ev gs hN hg r (pre ++ [g]) (by rw [e]; simp)
    rw [snoc_len, List.flatMap_append] at ih
    have e3 : [g].flatMap gOps = gOps g := by simp
    rw [e3] at ih
    have := fl1_ev gs ((gs.flatMap gOps).map ofOp) pre g (pre.flatMap gOps) hsz (by omega) ih g.2 [] rfl
    rw [List.map_nil, List.append_nil] at this
    refine Ev.step (fun k => ?_) this
    simp only [laws_flat.l0]
    rw [if_pos h1, if_pos (by omega), if_pos h1, hrd]
    rfl
theorem flat_f (gs : Gs) (hN : (gs.flatMap gOps).length ≤ 100000) (hg : gs.length ≤ 100000) : Ev (fun k => laws_flat.f k (gs.map sec52)) ((gs.flatMap gOps).map ofOp) := fl0_ev gs hN hg gs [] rfl
theorem gp_sec (gs : Gs) : (gs.map sec52).map gpOf = gs := by
  rw [List.map_map]
  conv => rhs; rw [← List.map_id gs]
  refine List.map_congr_left fun g _ => ?_
  unfold Function.comp gpOf sec52 gpEnt
  dsimp only
  rw [B_data, List.map_map]
  have : (g.2.map ((fun e : S74 => (e.f0.data.toList, e.f1.data.toList)) ∘ ent74)) = g.2 := by
    conv => rhs; rw [← List.map_id g.2]
    refine List.map_congr_left fun e _ => ?_
    unfold Function.comp ent74
    dsimp only
    rw [B_data, B_data]
    rfl
  rw [this]
  rfl
theorem secG_secF (L : List Op3') (s : Bs) : secG (s, (ofS L s).map (·.2)) = secF L s := by
  unfold secG secF entsG linesF
  congr 1
  unfold ofS
  rw [List.flatMap_def, List.flatMap_def, List.map_map]
  congr 1
theorem accG_accF (L : List Op3') (j : Nat) (hj : j ≤ (keysF L).length) : accG (gsK L (keysF L)) j = accF L (keysF L) j := by
  induction j with
  | zero => rfl
  | succ j ih =>
    rw [U.accG_succ, U.accF_succ, ih (by omega)]
    have hg : (gsK L (keysF L)).getD j ([], []) = ((keysF L).getD j [], (ofS L ((keysF L).getD j [])).map (·.2)) := by
      unfold gsK
      rw [List.getD_eq_getElem?_getD, List.getD_eq_getElem?_getD, List.getElem?_map, List.getElem?_eq_getElem (by omega)]
      rfl
    have hl : (gsK L (keysF L)).length = (keysF L).length := List.length_map _
    rw [hg, secG_secF, hl]
theorem writeG_writeF (L : List Op3') : writeG (gsK L (keysF L)) = writeF L := by
  have hl : (gsK L (keysF L)).length = (keysF L).length := List.length_map _
  unfold writeG writeF
  rw [hl]
  exact accG_accF L _ (Nat.le_refl _)
theorem gs_short (L : List Op3') (hL : L.length ≤ 200) (hP : ∀ o ∈ L, Plain o) : gshortB (gsK L (keysF L)) = true := by
  have hk := U.keysF_len L
  unfold gshortB gshB
  simp only [Bool.and_eq_true, decide_eq_true_eq, List.all_eq_true]
  refine ⟨by unfold gsK; rw [List.length_map]; omega, fun g hg => ?_⟩
  obtain ⟨s, hs, rfl⟩ := List.mem_map.1 hg
  obtain ⟨o, ho, rfl⟩ := List.mem_map.1 ((U.mem_keysF _ _).1 hs)
  have hp := (hP o ho).s.len
  have hl := ofS_len L o.1
  refine ⟨by dsimp only; omega, by rw [List.length_map]; omega, fun e he => ?_⟩
  obtain ⟨y, hy, rfl⟩ := List.mem_map.1 he
  have hq := hP y (List.mem_filter.1 hy).1
  have h1 := hq.n.len
  have h2 := hq.v.len
  exact ⟨by omega, by omega⟩
theorem gs_ok (L : List Op3') (hL : L.length ≤ 200) : secOkB (gsK L (keysF L)) = true := by
  have hk := U.keysF_len L
  unfold secOkB
  simp only [Bool.and_eq_true, decide_eq_true_eq, List.all_eq_true]
  refine ⟨by unfold gsK; rw [List.length_map]; omega, fun g hg => ?_⟩
  obtain ⟨s, hs, rfl⟩ := List.mem_map.1 hg
  have hl := ofS_len L s
  rw [List.length_map]
  omega
theorem us0_ev (gs : Gs) (hN : (gs.flatMap gOps).length ≤ 100000) (hg : gs.length ≤ 100000) : ∀ (r pre : Gs), gs = pre ++ r → Ev (fun k => laws_FnUnitSections.l0 k (gs.map sec52) (gs.map sec52) ((gs.flatMap gOps).map ofOp) ((gs.map sec52).length : Int) (pre.length : Int)) true
  | [], pre, e => by
    have hf := flat_f gs hN hg
    have hs := same_f (gs.flatMap gOps) (by omega)
    refine Ev.step (fun k => by simp only [laws_FnUnitSections.l0]; rw [if_neg (by rw [List.length_map, e]; simp)]) ?_
    refine Ev.bind hf ?_
    refine Ev.bind hf ?_
    refine Ev.bind hs ?_
    refine Ev.same (fun k => by rw [if_pos rfl]) ?_
    refine Ev.bind hf ?_
    refine Ev.bind hs ?_
    exact Ev.of fun k => by rw [if_pos rfl]; rfl
  | g :: r, pre, e => by
    have hlen : gs.length = pre.length + (r.length + 1) := by rw [e]; simp
    have h1 : (pre.length : Int) < ((gs.map sec52).length : Int) := by rw [List.length_map]; omega
    have hrd := rd52 gs pre g r e
    refine Ev.step (fun k => ?_) (us0_ev gs hN hg r (pre ++ [g]) (by rw [e]; simp))
    simp only [laws_FnUnitSections.l0]
    rw [if_pos h1, if_pos (by omega), if_pos h1, if_pos h1, if_pos trivial, wr_next _ (by omega), snoc_len]
theorem sections_f (L : List Op3') : Ev (fun k => laws_FnUnitSections.f k (L.map ofOp)) true := by
  obtain ⟨b7, h7, hf7⟩ := fits7_f L
  refine Ev.bind' (fun k => by unfold laws_FnUnitSections.f; rfl) h7 ?_
  cases b7 with
  | false => exact Ev.of fun k => by rw [if_neg (by simp)]
  | true =>
    obtain ⟨hl, hfit⟩ := hf7 rfl
    obtain ⟨bp, hp, hpl⟩ := plains_f L hl hfit
    refine Ev.same (fun k => by rw [if_pos rfl]) (Ev.bind hp ?_)
    cases bp with
    | false => exact Ev.of fun k => by rw [if_neg (by simp)]
    | true =>
      obtain ⟨hL, hP⟩ := hpl rfl
      have hgl := groupK_le (keysF L) L (keysF_nodup L)
      have hkl := U.keysF_len L
      have hgsl : (gsK L (keysF L)).length = (keysF L).length := List.length_map _
      have hso : Ev (fun k => laws_sectionsOf.f k (L.map ofOp)) ((gsK L (keysF L)).map sec52) := by
        refine Ev.bind' (fun k => by unfold laws_sectionsOf.f; rfl) (grouped_f L hL) ?_
        have := so_ev (groupL L) (by unfold groupL; omega) (groupL L) [] rfl
        rw [fold_groupL] at this
        exact this
      refine Ev.same (fun k => by rw [if_pos rfl]) (Ev.bind hso ?_)
      have hw : impl_UnitWriteSections.f ((gsK L (keysF L)).map sec52) = some (B (textOf (docL L))) := by
        unfold impl_UnitWriteSections.f
        rw [gp_sec, if_pos (gs_short L hL hP), writeG_writeF, write_text]
      have hdl := docL_len L
      have hops : ((gsK L (keysF L)).flatMap gOps).length ≤ 100000 := by rw [gsK_ops]; omega
      have hrd := read_f (docL L) (docL_ok L hP) (docL_first L) (by omega) (gsK L (keysF L)) (docL_core L) hops
      have hrs : impl_UnitReadSections.f (B (textOf (docL L))) = some ((gsK L (keysF L)).map sec52, 0) := by
        have htl := (textOf_len (docL L) (docL_ok L hP)).1
        unfold impl_UnitReadSections.f
        rw [if_pos ⟨by rw [B_data]; exact textOf_asc _ (docL_ok L hP), by rw [B_size]; omega⟩, B_data, read_text (docL L) (docL_ok L hP) (docL_first L) (by omega) (gsK L (keysF L)) (docL_core L), Option.bind_some, if_pos (gs_ok L hL)]
      have hfin : Ev (fun k => laws_FnUnitSections.j0 k ((gsK L (keysF L)).map sec52) ((gsK L (keysF L)).map sec52) (((gsK L (keysF L)).flatMap gOps).map ofOp) ((((gsK L (keysF L)).map sec52).length : Int) != (((gsK L (keysF L)).map sec52).length : Int))) true := by
        refine Ev.step (fun k => ?_) (us0_ev (gsK L (keysF L)) hops (by omega) (gsK L (keysF L)) [] rfl)
        simp only [laws_FnUnitSections.j0]
        rw [if_neg (by simp)]
        rfl
      refine Ev.same (fun k => ?_) hfin
      rw [hw, Option.bind_some, hrs, Option.bind_some, hrd, Option.bind_some, if_pos rfl, if_pos rfl]
end Go.Proofs.YtocdnceckljnaaaDoor.Pu
namespace Go.Proofs.YtocdnceckljnaaaDoor.fnUnitSections
open Go.ChangeShapes Go.WideShapes Go.ChangeAt Go.RowKit
open Go.Proofs.YtocdnceckljnaaaDoorW.PrintWords Go.Proofs.YtocdnceckljnaaaDoor.QV0 Go.Proofs.YtocdnceckljnaaaDoor.UCk
open Go.Proofs.YtocdnceckljnaaaDoor.U (Bs B Op3')
set_option linter.unusedVariables false
set_option linter.unusedSimpArgs false
theorem laid_met (os : Os) (args : Array Value) : laidMet Tryd.prog Rows.fnUnitSectionsRow.laid ((laidWorld os).forCall (fun _ _ => 0) ⟨#[], args, []⟩).memory :=
  (LaidIn.of_run [4, 6, N0, N0 + 1, 5, 8, 3] 8 (by kernel_rfl) (by kernel_rfl) (by kernel_rfl) (by kernel_rfl)).met
theorem witness_row (os : Os) {H : Type} (enc : TypeId × Value → H) :
    (OpenSpec.ofChange Rows.fnUnitSectionsSpec).preRow enc Tryd.prog Tryd.f7 Rows.fnUnitSectionsRow.domain false Rows.fnUnitSectionsRow.laid ((laidWorld os).forCall (fun _ _ => 0) ⟨#[], #[.slice none 0 0], []⟩).memory #[.slice none 0 0] := by
  have hw : (DataW.whole enc Tryd.prog ((laidWorld os).forCall (fun _ _ => 0) ⟨#[], #[.slice none 0 0], []⟩).memory Tryd.f7.params.toList Rows.fnUnitSectionsSpec.vars false (#[.slice none 0 0] : Array Value).toList 8).map (fun x => (x.1, x.2.1)) =
      some ([.nil], []) := by kernel_rfl
  obtain ⟨⟨x1, x2, x3⟩, hx, hx1⟩ := Option.map_eq_some_iff.1 hw
  simp only [Prod.mk.injEq] at hx1
  obtain ⟨rfl, rfl⟩ := hx1
  exact OpenSpec.preRow_of_cond 8 hx (by kernel_rfl) (fun k hk => by cases hk) (by kernel_rfl) (laid_met os _)
set_option maxRecDepth 100000 in
theorem lifted (os : Os) (started : os.Started) (H : Type) (enc : TypeId × Value → H) (F : Stop.Interp) :
    ReturnsInHanded {} Tryd.checked os 7 .any ((OpenSpec.ofChange Rows.fnUnitSectionsSpec).preRow enc Tryd.prog Tryd.f7 Rows.fnUnitSectionsRow.domain false Rows.fnUnitSectionsRow.laid) (((OpenSpec.ofChange Rows.fnUnitSectionsSpec).at F).post enc Tryd.prog Tryd.f7 false true false false) := by
  refine returnsInHanded_of_row (C := Tryd.checked) (s := OpenSpec.ofChange Rows.fnUnitSectionsSpec) own started (by kernel_rfl) Tryd.func7
    (witness_row_atRef (enc := enc) (C := Tryd.checked) false (laidWorld os) #[.slice none 0 0] rfl (by kernel_rfl) (by kernel_rfl) (by kernel_rfl) (witness_row os enc)) ?_
  intro W base args ds gs before hval0 hW hcnd _ hsz0 hL hsh _
  have hsz : (DataW.weightsEach Tryd.prog (Tryd.f7.params.toList ++ (OpenSpec.ofChange Rows.fnUnitSectionsSpec).bare.plain.varTypes Tryd.prog) (ds ++ gs)).all (· ≤ reachBytes) = true := hsz0
  have hval : ∀ (j : Nat) t v, Tryd.f7.params[j]? = some t → args[j]? = some v → Value.okWide Tryd.prog W .any base t v := hval0
  have hW' := hW
  obtain ⟨p, q, hA0, hV, rfl, hfz, hnd⟩ := hW
  have hA : DataW.TrodAll enc Tryd.prog W 0 (fun _ => true) true Tryd.f7.params.toList args.toList ds p := hA0
  rw [Tryd.params7] at hA hval hsz
  obtain ⟨v0, vs0, d0, ds0, p0, q0, hargs, rfl, rfl, h0, r0⟩ := trodAll_cons hA
  obtain ⟨rfl, rfl, rfl⟩ := trodAll_nil r0
  obtain rfl : args = #[v0] := by cases args; simp_all
  obtain ⟨rfl, rfl⟩ := trodVars_none hV
  obtain ⟨a0, len0, cap0, rfl⟩ := okWide_slice Tryd.underlying32 (hval 0 32 v0 rfl rfl)
  have k0 := h0
  have lt0 : ∀ x ∈ p0, x.block < W.heap.size := by obtain ⟨m, hm⟩ := k0; exact DataW.trod_lt m _ _ _ hm
  obtain ⟨l0, hlen0, hcap0, hC0⟩ : ∃ l : List S29, l.length = len0 ∧ len0 ≤ cap0 ∧ Kd.C k29 W a0 l.length l := by
    obtain ⟨fuel, hf⟩ := h0
    exact open_opts hf
  subst hlen0
  clear hA0 hval0 hsz0 hsz
  obtain ⟨L0, rfl⟩ := opts_map l0
  obtain ⟨k, hk⟩ := (Pu.sections_f L0).get
  refine (laws_FnUnitSections.calls k a0 cap0 _ true W (tabs_of hL) hC0 hcap0 hk).mono fun e W' ⟨he, bel⟩ => ?_
  subst he
  exact ⟨_, rfl, _, _, _, [], _, [], hW', trodAll_mk1 (shut_bool Tryd.underlying4 _), (trodAll_cons_mk (Below.trod laidOut (by kernel_rfl) (of_decide_eq_true (by kernel_rfl)) k0 bel lt0) trodAll_mk0), rfl, bel.frame _, fun h => by cases h⟩
theorem said : Rows.FnUnitSectionsSaid :=
  OpenClaim.holds_of_cond 7 Tryd.f7 rfl rfl rfl rfl rfl rfl rfl ⟨rfl, rfl, rfl, rfl, rfl⟩ rfl rfl rfl rfl rfl (by kernel_rfl) Tryd.func7 (by kernel_rfl)
    (of_decide_eq_true (by kernel_rfl)) (by unfold Func.isWrapper; first | (rw [if_pos (by decide +kernel)]; kernel_rfl) | (rw [if_neg (by decide +kernel)]; exact ⟨rfl, rfl⟩))
    (fun os started H enc _ F => by rw [OpenClaim.pre_eq_preRow]; exact lifted os started H enc F)
theorem plain (f : FuncId) (fn : Func) (hf : Tryd.pinned.checked.prog.funcNamed "pub-frontispiece/laws.FnUnitSections" = some f) (hfn : Tryd.pinned.checked.prog.funcs[f]? = some fn) :
    true = Tryd.pinned.checked.prog.looks [] ∧ ∀ (j : Nat) t, fn.params[j]? = some t → Tryd.pinned.checked.prog.wantsStandIn t = false := by
  obtain rfl : f = 7 := Option.some.inj ((show Tryd.prog.funcNamed "pub-frontispiece/laws.FnUnitSections" = some 7 by kernel_rfl).symm.trans hf) |>.symm
  obtain rfl : fn = Tryd.f7 := (Option.some.inj (Tryd.func7.symm.trans hfn)).symm
  refine ⟨by kernel_rfl, fun j t ht => ?_⟩
  rw [Tryd.params7] at ht
  obtain rfl : t = 32 := by simpa using Array.mem_of_getElem? ht
  exact (show Tryd.prog.wantsStandIn 32 = false by kernel_rfl)
theorem card : Rows.FnUnitSectionsCardSaid :=
  Claim7.holds_tied_plain_at .later [] _ _ _ _ said (fun _ h => by cases h) (by kernel_rfl) (fun _ h => by cases h) fnUnitSections_row_tie rfl ⟨rfl, rfl⟩ (by kernel_rfl) rfl plain (by kernel_rfl)
#print axioms card
end Go.Proofs.YtocdnceckljnaaaDoor.fnUnitSections
namespace Go.Proofs.YtocdnceckljnaaaDoor
theorem fnUnitSections_card_holds : Rows.FnUnitSectionsCardSaid := fnUnitSections.card
end Go.Proofs.YtocdnceckljnaaaDoor
