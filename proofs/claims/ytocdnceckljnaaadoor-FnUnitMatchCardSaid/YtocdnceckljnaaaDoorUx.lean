/- laws.FnUnitMatch answers true. Conditions: the tables of bytes, strings and unicode/utf8 as they are laid. -/
import Derived.Test.YtocdnceckljnaaaDoorUv
namespace Go.Proofs.YtocdnceckljnaaaDoor.U
open Go.RowKit Go.Proofs.YtocdnceckljnaaaDoorW.PrintWords Go.Proofs.YtocdnceckljnaaaDoorW.PrintLast Go.Proofs.YtocdnceckljnaaaDoorW.PrintMore
set_option linter.unusedVariables false
set_option linter.unusedSimpArgs false
theorem eq29 (a b : Op3) (w : World) : (binOp .eql 29 (.agg (cellsOf a)) (.agg (cellsOf b))).run Tryd.prog w = .ok (.bool (decide (a = b))) w := by
  obtain ⟨s1, n1, v1⟩ := a
  obtain ⟨s2, n2, v2⟩ := b
  unfold cellsOf
  go_simp
  simp only [B_toList]
  by_cases h1 : s1 = s2
  · by_cases h2 : n1 = n2
    · by_cases h3 : v1 = v2 <;> simp [h1, h2, h3]
    · simp [h1, h2]
  · simp [h1]
def fits (a : Op3) : Bool := decide (a.1.length ≤ 2147483647) && (decide (a.2.1.length ≤ 2147483647) && decide (a.2.2.length ≤ 2147483647))
set_option maxHeartbeats 4000000 in
set_option maxRecDepth 100000 in
theorem fits8 (a : Op3) (w : World) : Calls Tryd.prog 14 #[.agg (cellsOf a)] w fun e w' => e = .returned (.bool (fits a)) ∧ Below w.heap.size w w' := by
  obtain ⟨s, n, v⟩ := a
  have HB := Aside0.mk (below_new w (Obj.cells (cellsOf (s, n, v)) 29))
  have z1 : (B s).size = s.length := B_size s
  have z2 : (B n).size = n.length := B_size n
  have z3 : (B v).size = v.length := B_size v
  unfold fits
  unfold cellsOf at HB ⊢
  simp only
  by_cases h1 : s.length ≤ 2147483647
  · have q1 : decide ((2147483647 : Int) < (s.length : Int)) = false := decide_eq_false (by omega)
    rw [decide_eq_true h1, Bool.true_and]
    clear h1
    by_cases h2 : n.length ≤ 2147483647
    · have q2 : decide ((2147483647 : Int) < (n.length : Int)) = false := decide_eq_false (by omega)
      rw [decide_eq_true h2, Bool.true_and]
      clear h2
      by_cases h3 : v.length ≤ 2147483647
      · have q3 : decide ((2147483647 : Int) < (v.length : Int)) = false := decide_eq_false (by omega)
        rw [decide_eq_true h3]
        clear h3
        go_enter Tryd.func14, Tryd.ntmps14
        go_wp2
        go_ret
        exact ⟨rfl, HB.out⟩
      · have q3 : decide ((2147483647 : Int) < (v.length : Int)) = true := decide_eq_true (by omega)
        rw [decide_eq_false h3]
        clear h3
        go_enter Tryd.func14, Tryd.ntmps14
        go_wp2
        go_ret
        exact ⟨rfl, HB.out⟩
    · have q2 : decide ((2147483647 : Int) < (n.length : Int)) = true := decide_eq_true (by omega)
      rw [decide_eq_false h2, Bool.false_and]
      clear h2
      go_enter Tryd.func14, Tryd.ntmps14
      go_wp2
      go_ret
      exact ⟨rfl, HB.out⟩
  · have q1 : decide ((2147483647 : Int) < (s.length : Int)) = true := decide_eq_true (by omega)
    rw [decide_eq_false h1, Bool.false_and]
    clear h1
    go_enter Tryd.func14, Tryd.ntmps14
    go_wp2
    go_ret
    exact ⟨rfl, HB.out⟩
set_option maxHeartbeats 40000000 in
set_option maxRecDepth 100000 in
theorem fn_unit_match (a b : Op3) (w : World) (ht : Tabs w) : Calls Tryd.prog 4 #[.agg (cellsOf a), .agg (cellsOf b)] w fun e w' => e = .returned (.bool true) ∧ Below w.heap.size w w' := by
  obtain ⟨hb0, hb1, hb2⟩ := alloc2_facts w (Obj.cells (cellsOf a) 29) (Obj.cells (cellsOf b) 29)
  have HB := Aside0.mk hb0
  have Hb1 := Aside0.mk hb1
  have Hb2 := Aside0.mk hb2
  have HT := Aside0.mk ht
  clear hb0 hb1 hb2 ht
  have UA := Aside0.mk (fun (w : World) => (show Calls Tryd.prog 15 #[.agg #[.string (B a.1), .string (B a.2.1), .string (B a.2.2)], .agg #[.string (B a.1), .string (B a.2.1), .string (B a.2.2)]] w (fun e w' => e = .returned (.bool true) ∧ Below w.heap.size w w') from (unit_match a a w).mono (fun e w' h => ⟨by rw [h.1, decide_eq_true rfl], h.2⟩)))
  have F8 := Aside0.mk (fun (x : Op3) (w : World) => (show Calls Tryd.prog 14 #[.agg #[.string (B x.1), .string (B x.2.1), .string (B x.2.2)]] w (fun e w' => e = .returned (.bool (fits x)) ∧ Below w.heap.size w w') from fits8 x w))
  have UM := Aside0.mk (fun (x y : Op3) (w : World) => (show Calls Tryd.prog 15 #[.agg #[.string (B x.1), .string (B x.2.1), .string (B x.2.2)], .agg #[.string (B y.1), .string (B y.2.1), .string (B y.2.2)]] w (fun e w' => e = .returned (.bool (decide (x = y))) ∧ Below w.heap.size w w') from unit_match x y w))
  go_enter Tryd.func4, Tryd.ntmps4
  go_upto_region 1 with (fail)
  generalize ((w.alloc (Obj.cells (cellsOf a) 29)).alloc (Obj.cells (cellsOf b) 29)) = W at HB Hb1 Hb2 ⊢
  generalize w.heap.size + 1 = B2 at Hb2 ⊢
  generalize hB1 : w.heap.size = B1 at Hb1 ⊢
  have HB1 := Aside0.mk hB1
  clear hB1
  have a0 : W.cell? ⟨B1, 0, none⟩ = some (.string (B a.1)) := cell_of_blk Hb1.out 0 _ rfl
  have a1 : W.cell? ⟨B1, 1, none⟩ = some (.string (B a.2.1)) := cell_of_blk Hb1.out 1 _ rfl
  have a2 : W.cell? ⟨B1, 2, none⟩ = some (.string (B a.2.2)) := cell_of_blk Hb1.out 2 _ rfl
  have b0 : W.cell? ⟨B2, 0, none⟩ = some (.string (B b.1)) := cell_of_blk Hb2.out 0 _ rfl
  have b1 : W.cell? ⟨B2, 1, none⟩ = some (.string (B b.2.1)) := cell_of_blk Hb2.out 1 _ rfl
  have b2 : W.cell? ⟨B2, 2, none⟩ = some (.string (B b.2.2)) := cell_of_blk Hb2.out 2 _ rfl
  cases hfa : fits a with
  | false =>
    have HFA := Aside0.mk hfa
    clear hfa
    go_wp2_with (go_at_call 14; with_reducible refine (F8.out a _).mono ?_; rintro e w1 ⟨rfl, hb⟩; rw [HFA.out]; have HB3 := Aside0.mk (below_over HB.out hb); clear hb)
    go_ret
    exact ⟨rfl, HB1.out ▸ HB3.out⟩
  | true =>
    have HFA := Aside0.mk hfa
    clear hfa
    cases hfb : fits b with
    | false =>
      have HFB := Aside0.mk hfb
      clear hfb
      go_wp2_with (first
        | (go_at_call 14; with_reducible refine (F8.out a W).mono ?_; rintro e w1 ⟨rfl, hb⟩; rw [HFA.out]; have HB3 := Aside0.mk (below_over HB.out hb); have b01 := keepcell hb b0; have b11 := keepcell hb b1; have b21 := keepcell hb b2; clear hb)
        | (go_at_call 14; with_reducible refine (F8.out b _).mono ?_; rintro e w2 ⟨rfl, hb⟩; rw [HFB.out]; have HB4 := Aside0.mk (below_over HB3.out hb); clear hb))
      go_ret
      exact ⟨rfl, HB1.out ▸ HB4.out⟩
    | true =>
      have HFB := Aside0.mk hfb
      clear hfb
      go_upto_region 3 with (first
        | (go_at_call 14; with_reducible refine (F8.out a W).mono ?_; rintro e w1 ⟨rfl, hb⟩; rw [HFA.out]; have HB3 := Aside0.mk hb; have b01 := keepcell hb b0; have b11 := keepcell hb b1; have b21 := keepcell hb b2; clear hb)
        | (go_at_call 14; with_reducible refine (F8.out b _).mono ?_; rintro e w2 ⟨rfl, hb⟩; rw [HFB.out]; have HB4 := Aside0.mk (below_over HB3.out hb); clear hb))
      have HW2 := Aside0.mk (below_over HB.out HB4.out)
      have HTS := Aside0.mk (fun (W' : World) (hb : Below w2.heap.size w2 W') => HT.out.below (below_over HW2.out hb))
      have x0 := keepcell HB4.out a0
      have x1 := keepcell HB4.out a1
      have x2 := keepcell HB4.out a2
      have y0 := keepcell HB4.out b0
      have y1 := keepcell HB4.out b1
      have y2 := keepcell HB4.out b2
      clear a0 a1 a2 b0 b1 b2 b01 b11 b21 HB3 HB4 Hb1 Hb2 HB HFA HFB HT
      have hb0 : Below w2.heap.size w2 w2.drew := below_drew (Below.refl _ _)
      have hda : decide (a = a) = true := by simp
      have HDA := Aside0.mk hda
      clear hda
      by_cases hab : a = b
      · have HD := Aside0.mk (show decide (a = b) = true from decide_eq_true hab)
        have heq : ∀ w : World, (binOp .eql 29 (.agg #[.string (B a.1), .string (B a.2.1), .string (B a.2.2)]) (.agg #[.string (B b.1), .string (B b.2.1), .string (B b.2.2)])).run Tryd.prog w = .ok (.bool true) w := fun w => by rw [← HD.out]; exact eq29 a b w
        clear hab
        go_region_held (fun w' => Below w2.heap.size w2 w' ∧ w'.cell? ⟨B1, 0, none⟩ = some (.string (B a.1)) ∧ w'.cell? ⟨B1, 1, none⟩ = some (.string (B a.2.1)) ∧ w'.cell? ⟨B1, 2, none⟩ = some (.string (B a.2.2)) ∧ w'.cell? ⟨B2, 0, none⟩ = some (.string (B b.1)) ∧ w'.cell? ⟨B2, 1, none⟩ = some (.string (B b.2.1)) ∧ w'.cell? ⟨B2, 2, none⟩ = some (.string (B b.2.2)))
          (first
            | (go_split_ands; exact ⟨by assumption, by assumption, by assumption, by assumption, by assumption, by assumption, by assumption⟩)
            | (go_split_ands; exact ⟨below_over (by assumption) (by assumption), keepcell (by assumption) (by assumption), keepcell (by assumption) (by assumption), keepcell (by assumption) (by assumption), keepcell (by assumption) (by assumption), keepcell (by assumption) (by assumption), keepcell (by assumption) (by assumption)⟩)
            | go_keep)
          (first
            | (go_at_call 15; with_reducible refine (UM.out a b _).mono ?_; rintro e w5 ⟨rfl, hb5⟩; rw [HD.out])
            | (go_at_call 15; with_reducible refine (UA.out _).mono ?_; rintro e w6 ⟨rfl, hb6⟩)
            | (go_at_call 16; with_reducible refine (reads_calls _ (HTS.out _ (by first | assumption | (go_split_ands; assumption)))).mono ?_; rintro e w7 ⟨rfl, hb7⟩))
        all_goals (rename_i hHeld)
        all_goals (go_wp2; go_ret; exact ⟨rfl, HB1.out ▸ below_over HW2.out hHeld.1⟩)
      · have HD := Aside0.mk (show decide (a = b) = false from decide_eq_false hab)
        have heq : ∀ w : World, (binOp .eql 29 (.agg #[.string (B a.1), .string (B a.2.1), .string (B a.2.2)]) (.agg #[.string (B b.1), .string (B b.2.1), .string (B b.2.2)])).run Tryd.prog w = .ok (.bool false) w := fun w => by rw [← HD.out]; exact eq29 a b w
        clear hab
        go_region_held (fun w' => Below w2.heap.size w2 w' ∧ w'.cell? ⟨B1, 0, none⟩ = some (.string (B a.1)) ∧ w'.cell? ⟨B1, 1, none⟩ = some (.string (B a.2.1)) ∧ w'.cell? ⟨B1, 2, none⟩ = some (.string (B a.2.2)) ∧ w'.cell? ⟨B2, 0, none⟩ = some (.string (B b.1)) ∧ w'.cell? ⟨B2, 1, none⟩ = some (.string (B b.2.1)) ∧ w'.cell? ⟨B2, 2, none⟩ = some (.string (B b.2.2)))
          (first
            | (go_split_ands; exact ⟨by assumption, by assumption, by assumption, by assumption, by assumption, by assumption, by assumption⟩)
            | (go_split_ands; exact ⟨below_over (by assumption) (by assumption), keepcell (by assumption) (by assumption), keepcell (by assumption) (by assumption), keepcell (by assumption) (by assumption), keepcell (by assumption) (by assumption), keepcell (by assumption) (by assumption), keepcell (by assumption) (by assumption)⟩)
            | go_keep)
          (first
            | (go_at_call 15; with_reducible refine (UM.out a b _).mono ?_; rintro e w5 ⟨rfl, hb5⟩; rw [HD.out])
            | (go_at_call 15; with_reducible refine (UA.out _).mono ?_; rintro e w6 ⟨rfl, hb6⟩)
            | (go_at_call 16; with_reducible refine (reads_calls _ (HTS.out _ (by first | assumption | (go_split_ands; assumption)))).mono ?_; rintro e w7 ⟨rfl, hb7⟩))
        all_goals (rename_i hHeld)
        all_goals (go_wp2; go_ret; exact ⟨rfl, HB1.out ▸ below_over HW2.out hHeld.1⟩)
end Go.Proofs.YtocdnceckljnaaaDoor.U
