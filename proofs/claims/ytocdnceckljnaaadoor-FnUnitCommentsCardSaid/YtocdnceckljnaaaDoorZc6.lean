/- The texts QV0x5, without what the claims do not use, laid together by a program of this session (wip/tools/bundle.py). Conditions: those of each theorem. -/
import Derived.Test.YtocdnceckljnaaaDoorZc5
namespace Go.Proofs.YtocdnceckljnaaaDoor.QV0
open Go.RowKit Go.Proofs.YtocdnceckljnaaaDoorW.PrintWords Go.Proofs.YtocdnceckljnaaaDoorW.PrintLast Go.Proofs.YtocdnceckljnaaaDoorW.PrintMore
attribute [local go_sem] max2_int min2_int max_two min_two max_three min_three max_four min_four
set_option linter.unusedVariables false
set_option linter.unusedSimpArgs false
mutual
def laws_FnUnitComments.j0 : Nat → List (S29) → List ByteArray → List Int → Bool → Option (Bool)
 | 0, _, _, _, _ => none
 | k + 1, x0, x1, x2, x30 => if x30 = true then (some true) else ((laws_plainOptions.f k x0).bind fun t139 => (if t139 = true then (laws_FnUnitComments.j1 k x0 x1 x2 (decide ((x1.length : Int) > 40))) else (laws_FnUnitComments.j1 k x0 x1 x2 true)))
def laws_FnUnitComments.j1 : Nat → List (S29) → List ByteArray → List Int → Bool → Option (Bool)
 | 0, _, _, _, _ => none
 | k + 1, x0, x1, x2, x38 => if x38 = true then (some true) else ((impl_UnitWrite.f x0).bind fun t143 => (laws_FnUnitComments.l0 k x0 x1 x2 (([] : List ByteArray)) 0 t143 (t143.size : Int) 0))
def laws_FnUnitComments.l0 : Nat → List (S29) → List ByteArray → List Int → List ByteArray → Int → ByteArray → Int → Int → Option (Bool)
 | 0, _, _, _, _, _, _, _, _ => none
 | k + 1, x0, x1, x2, x7, x8, x9, x43, x44 => if x44 < x43 then (if 0 ≤ x44 then (if x44 < (x9.size : Int) then (if (bt x9 x44) = 10 then (if 0 ≤ x8 then (if x8 ≤ (wrap64 (x44 + 1)) then (if (wrap64 (x44 + 1)) ≤ (x9.size : Int) then (if x7.length < 8796093022208 then (laws_FnUnitComments.l0 k x0 x1 x2 (x7 ++ [x9.extract (x8 : Int).toNat ((wrap64 (x44 + 1)) : Int).toNat]) (wrap64 (x44 + 1)) x9 x43 (wrap64 (x44 + 1))) else (none)) else (none)) else (none)) else (none)) else (laws_FnUnitComments.l0 k x0 x1 x2 x7 x8 x9 x43 (wrap64 (x44 + 1)))) else (none)) else (none)) else (if x8 = (x9.size : Int) then (laws_FnUnitComments.l1 k x0 x1 x2 x7 (⟨#[]⟩ : ByteArray) x7 (x7.length : Int) 0) else (some false))
def laws_FnUnitComments.l1 : Nat → List (S29) → List ByteArray → List Int → List ByteArray → ByteArray → List ByteArray → Int → Int → Option (Bool)
 | 0, _, _, _, _, _, _, _, _ => none
 | k + 1, x0, x1, x2, x7, x11, x66, x67, x68 => if x68 < x67 then (if 0 ≤ x68 then (if x68 < (x66.length : Int) then (if x11.size + (rdOf ByteArray.empty x66 x68).size ≤ 9223372036854775807 then (laws_FnUnitComments.l2 k x0 x1 x2 x7 (x11 ++ (rdOf ByteArray.empty x66 x68)) x68 x66 x67 x68 x1 (x1.length : Int) 0) else (none)) else (none)) else (none)) else ((impl_UnitRead.f x11).bind fun bt153 => (if bt153.2 = 0 then ((laws_grouped.f k x0).bind fun t157 => ((laws_sameOptions.f k bt153.1 t157).bind fun t160 => (if t160 = true then ((laws_reads.f).bind fun t161 => (some t161)) else (some false)))) else (some false)))
def laws_FnUnitComments.l2 : Nat → List (S29) → List ByteArray → List Int → List ByteArray → ByteArray → Int → List ByteArray → Int → Int → List ByteArray → Int → Int → Option (Bool)
 | 0, _, _, _, _, _, _, _, _, _, _, _, _ => none
 | k + 1, x0, x1, x2, x7, x11, x12, x66, x67, x68, x76, x77, x78 => if x78 < x77 then (if 0 ≤ x78 then (if x78 < (x76.length : Int) then (if x78 < (x2.length : Int) then (if (x7.length : Int) = 0 then (none) else (laws_FnUnitComments.j5 k x0 x1 x2 x7 x11 x12 (rdOf ByteArray.empty x76 x78) x66 x67 x68 x76 x77 x78 ((Int.tmod (wrap64 (rd x2 x78)) (x7.length : Int)) == x12))) else (laws_FnUnitComments.j5 k x0 x1 x2 x7 x11 x12 (rdOf ByteArray.empty x76 x78) x66 x67 x68 x76 x77 x78 false)) else (none)) else (none)) else (laws_FnUnitComments.l1 k x0 x1 x2 x7 x11 x66 x67 (wrap64 (x68 + 1)))
def laws_FnUnitComments.j5 : Nat → List (S29) → List ByteArray → List Int → List ByteArray → ByteArray → Int → ByteArray → List ByteArray → Int → Int → List ByteArray → Int → Int → Bool → Option (Bool)
 | 0, _, _, _, _, _, _, _, _, _, _, _, _, _, _ => none
 | k + 1, x0, x1, x2, x7, x11, x12, x15, x66, x67, x68, x76, x77, x78, x98 => if x98 = true then ((laws_printable.f k x15).bind fun t150 => (if t150 = true then (if (x15.size : Int) > 400 then (some true) else (if x15.toList = ([] : List UInt8) then (if x15.size + 1 ≤ 9223372036854775807 then (if x11.size + (x15 ++ (⟨#[10]⟩ : ByteArray)).size ≤ 9223372036854775807 then (laws_FnUnitComments.l2 k x0 x1 x2 x7 (x11 ++ (x15 ++ (⟨#[10]⟩ : ByteArray))) x12 x66 x67 x68 x76 x77 (wrap64 (x78 + 1))) else (none)) else (none)) else (if 0 < (x15.size : Int) then (if (bt x15 0) = 35 then ((laws_goesOn.f k x15).bind fun t151 => (if t151 = true then (some true) else (if x15.size + 1 ≤ 9223372036854775807 then (if x11.size + (x15 ++ (⟨#[10]⟩ : ByteArray)).size ≤ 9223372036854775807 then (laws_FnUnitComments.l2 k x0 x1 x2 x7 (x11 ++ (x15 ++ (⟨#[10]⟩ : ByteArray))) x12 x66 x67 x68 x76 x77 (wrap64 (x78 + 1))) else (none)) else (none)))) else (if (bt x15 0) = 59 then ((laws_goesOn.f k x15).bind fun t152 => (if t152 = true then (some true) else (if x15.size + 1 ≤ 9223372036854775807 then (if x11.size + (x15 ++ (⟨#[10]⟩ : ByteArray)).size ≤ 9223372036854775807 then (laws_FnUnitComments.l2 k x0 x1 x2 x7 (x11 ++ (x15 ++ (⟨#[10]⟩ : ByteArray))) x12 x66 x67 x68 x76 x77 (wrap64 (x78 + 1))) else (none)) else (none)))) else (some true))) else (none)))) else (some true))) else (laws_FnUnitComments.l2 k x0 x1 x2 x7 x11 x12 x66 x67 x68 x76 x77 (wrap64 (x78 + 1)))
end
def laws_FnUnitComments.f (k : Nat) (l0 : List (S29)) (l1 : List ByteArray) (l2 : List Int) : Option (Bool) := (laws_zzFits7.f k l0).bind fun t137 => (if t137 = true then ((laws_zzFits4.f k l1).bind fun t138 => (if t138 = true then (laws_FnUnitComments.j0 k l0 l1 l2 (decide ((l2.length : Int) > 2147483647))) else (laws_FnUnitComments.j0 k l0 l1 l2 true))) else (laws_FnUnitComments.j0 k l0 l1 l2 true))
set_option maxHeartbeats 8000000 in
set_option maxRecDepth 100000 in
theorem laws_FnUnitComments.calls (k : Nat) (A0 : Option Addr) (c0 : Nat) (l0 : List (S29)) (A1 : Option Addr) (c1 : Nat) (l1 : List ByteArray) (A2 : Option Addr) (c2 : Nat) (l2 : List Int) (r : Bool) (w : World) (hTabs : U.Tabs w) (hr0 : Kd.C k29 w A0 l0.length l0) (hc0 : l0.length ≤ c0) (hr1 : Kd.C Kd.string w A1 l1.length l1) (hc1 : l1.length ≤ c1) (hr2 : Kd.C (Kd.int .u8) w A2 l2.length l2) (hc2 : l2.length ≤ c2) (h : laws_FnUnitComments.f k l0 l1 l2 = some r) :
 Calls Tryd.prog 5 #[.slice A0 l0.length c0, .slice A1 l1.length c1, .slice A2 l2.length c2] w fun e w' => e = .returned (.bool r) ∧ Below w.heap.size w w' := by
 have HTabs := Aside0.mk hTabs
 clear hTabs
 have HR0 := Aside0.mk hr0
 have HC0 := Aside0.mk hc0
 clear hr0 hc0
 have HR1 := Aside0.mk hr1
 have HC1 := Aside0.mk hc1
 clear hr1 hc1
 have HR2 := Aside0.mk hr2
 have HC2 := Aside0.mk hc2
 clear hr2 hc2
 have HB := Aside0.mk (Below.refl w.heap.size w)
 have H : ((laws_zzFits7.f k l0).bind fun t137 => (if t137 = true then ((laws_zzFits4.f k l1).bind fun t138 => (if t138 = true then (laws_FnUnitComments.j0 k l0 l1 l2 (decide ((l2.length : Int) > 2147483647))) else (laws_FnUnitComments.j0 k l0 l1 l2 true))) else (laws_FnUnitComments.j0 k l0 l1 l2 true))) = some r := h
 clear h
 have HC4 := Aside0.mk H
 clear H
 go_enter Tryd.func5, Tryd.ntmps5
 go_upto_region 1 with (fail)
 go_cut [30] (fun v30 wc => ∃ (kq : Nat) (x30_3 : Bool), v30 = .bool x30_3 ∧ Aside0 (laws_FnUnitComments.j0 kq l0 l1 l2 x30_3 = some r) ∧ Aside0 (kq ≤ k) ∧ Aside0 (Below w.heap.size w wc))
 case first =>
  have H := HC4.out
  clear HC4
  replace H := Option.bind_eq_some_iff.mp H
  obtain ⟨t137, A50, H⟩ := H
  (try dsimp only at H)
  have A5 := Aside0.mk A50
  clear A50
  by_cases c6 : t137 = true
  · subst c6
    rw [if_pos rfl] at H
    have H1 := H
    clear H
    have H := H1
    clear H1
    replace H := Option.bind_eq_some_iff.mp H
    obtain ⟨t138, A70, H⟩ := H
    (try dsimp only at H)
    have A7 := Aside0.mk A70
    clear A70
    by_cases c8 : t138 = true
    · subst c8
      have H1 : (laws_FnUnitComments.j0 k l0 l1 l2 (decide ((l2.length : Int) > 2147483647))) = some r := by rw [if_pos rfl] at H; exact H
      clear H
      have H := H1
      clear H1
      have H' := Aside0.mk H
      clear H
      go_wp2_with (first | ((with_reducible refine gate_callee (f := 17) rfl ?_); refine goesL_ (some 19) rfl rfl Tryd.func17 (by kernel_rfl) rfl #[.slice A0 l0.length c0] rfl (by (try simp only [List.map_toArray, List.map_cons, List.map_nil]); first | done | rfl | (simp only [List.length_drop, List.length_take]; rfl)) ?_; (with_reducible refine (laws_zzFits7.calls k _ _ l0 true _ ?side1 ?side2 A5.out).mono ?_); (case side1 => repeat (first | exact (Kd.C_below HR0.out HB.out) | (with_reducible refine Kd.C_alloc ?_ _) | (with_reducible refine Kd.C_drewN ?_ _) | (with_reducible refine Kd.C_drew ?_))); (case side2 => exact HC0.out); rintro e w9 ⟨rfl, hb⟩; refine ⟨_, rfl, ?_⟩; have n0_ := Aside0.mk (below_step (by repeat (first | (with_reducible first | exact HB.out | apply below_alloc | apply pw_below_drewN | apply below_drew1) | exact HB.out)) hb); clear HB; have HB := n0_; clear n0_; (try clear hb); (try clear hb2); (try clear hk); (try clear hi)) | (go_at_call 8; (with_reducible refine (laws_zzFits4.calls k _ _ l1 true _ ?side1 ?side2 A7.out).mono ?_); (case side1 => repeat (first | exact (Kd.C_below HR1.out HB.out) | (with_reducible refine Kd.C_alloc ?_ _) | (with_reducible refine Kd.C_drewN ?_ _) | (with_reducible refine Kd.C_drew ?_))); (case side2 => exact HC1.out); rintro e w' ⟨rfl, ⟨nd, rfl⟩⟩))
      go_meet
      case rel => exact ⟨_, (decide ((l2.length : Int) > 2147483647)), (by first | rfl | (simp; done) | (simp [*]; done)), H', ⟨by first | omega | exact Nat.le_refl _⟩, ⟨by repeat (first | (with_reducible first | exact HB.out | apply below_alloc | apply pw_below_drewN | apply below_drew1) | exact HB.out)⟩⟩
    · replace c8 := Bool.eq_false_iff.mpr c8
      subst c8
      have H1 : (laws_FnUnitComments.j0 k l0 l1 l2 true) = some r := by rw [if_neg (show ¬ (false = true) by decide)] at H; exact H
      clear H
      have H := H1
      clear H1
      have H' := Aside0.mk H
      clear H
      go_wp2_with (first | ((with_reducible refine gate_callee (f := 17) rfl ?_); refine goesL_ (some 19) rfl rfl Tryd.func17 (by kernel_rfl) rfl #[.slice A0 l0.length c0] rfl (by (try simp only [List.map_toArray, List.map_cons, List.map_nil]); first | done | rfl | (simp only [List.length_drop, List.length_take]; rfl)) ?_; (with_reducible refine (laws_zzFits7.calls k _ _ l0 true _ ?side1 ?side2 A5.out).mono ?_); (case side1 => repeat (first | exact (Kd.C_below HR0.out HB.out) | (with_reducible refine Kd.C_alloc ?_ _) | (with_reducible refine Kd.C_drewN ?_ _) | (with_reducible refine Kd.C_drew ?_))); (case side2 => exact HC0.out); rintro e w10 ⟨rfl, hb⟩; refine ⟨_, rfl, ?_⟩; have n0_ := Aside0.mk (below_step (by repeat (first | (with_reducible first | exact HB.out | apply below_alloc | apply pw_below_drewN | apply below_drew1) | exact HB.out)) hb); clear HB; have HB := n0_; clear n0_; (try clear hb); (try clear hb2); (try clear hk); (try clear hi)) | (go_at_call 8; (with_reducible refine (laws_zzFits4.calls k _ _ l1 false _ ?side1 ?side2 A7.out).mono ?_); (case side1 => repeat (first | exact (Kd.C_below HR1.out HB.out) | (with_reducible refine Kd.C_alloc ?_ _) | (with_reducible refine Kd.C_drewN ?_ _) | (with_reducible refine Kd.C_drew ?_))); (case side2 => exact HC1.out); rintro e w' ⟨rfl, ⟨nd, rfl⟩⟩))
      go_meet
      case rel => exact ⟨_, (true), (by first | rfl | (simp; done) | (simp [*]; done)), H', ⟨by first | omega | exact Nat.le_refl _⟩, ⟨by repeat (first | (with_reducible first | exact HB.out | apply below_alloc | apply pw_below_drewN | apply below_drew1) | exact HB.out)⟩⟩
  · replace c6 := Bool.eq_false_iff.mpr c6
    subst c6
    have H1 : (laws_FnUnitComments.j0 k l0 l1 l2 true) = some r := by rw [if_neg (show ¬ (false = true) by decide)] at H; exact H
    clear H
    have H := H1
    clear H1
    have H' := Aside0.mk H
    clear H
    go_wp2_with (first | ((with_reducible refine gate_callee (f := 17) rfl ?_); refine goesL_ (some 19) rfl rfl Tryd.func17 (by kernel_rfl) rfl #[.slice A0 l0.length c0] rfl (by (try simp only [List.map_toArray, List.map_cons, List.map_nil]); first | done | rfl | (simp only [List.length_drop, List.length_take]; rfl)) ?_; (with_reducible refine (laws_zzFits7.calls k _ _ l0 false _ ?side1 ?side2 A5.out).mono ?_); (case side1 => repeat (first | exact (Kd.C_below HR0.out HB.out) | (with_reducible refine Kd.C_alloc ?_ _) | (with_reducible refine Kd.C_drewN ?_ _) | (with_reducible refine Kd.C_drew ?_))); (case side2 => exact HC0.out); rintro e w11 ⟨rfl, hb⟩; refine ⟨_, rfl, ?_⟩; have n0_ := Aside0.mk (below_step (by repeat (first | (with_reducible first | exact HB.out | apply below_alloc | apply pw_below_drewN | apply below_drew1) | exact HB.out)) hb); clear HB; have HB := n0_; clear n0_; (try clear hb); (try clear hb2); (try clear hk); (try clear hi)))
    go_meet
    case rel => exact ⟨_, (true), (by first | rfl | (simp; done) | (simp [*]; done)), H', ⟨by first | omega | exact Nat.le_refl _⟩, ⟨by repeat (first | (with_reducible first | exact HB.out | apply below_alloc | apply pw_below_drewN | apply below_drew1) | exact HB.out)⟩⟩
 case rest =>
  clear HC4
  try clear c1
  try clear c2
  try clear p2
  try clear c5
  try clear c6
  try clear c8
  obtain ⟨kq, x30_3, rfl, HA, HJ3, HB⟩ := hcut
  cases kq with
  | zero => exact absurd HA.out (by simp [laws_FnUnitComments.j0])
  | succ kj3 =>
   have H := HA.out
   clear HA
   simp only [laws_FnUnitComments.j0] at H
   by_cases c12 : x30_3 = true
   · subst c12
     have H1 : (some true) = some r := by rw [if_pos rfl] at H; exact H
     clear H
     have H := H1
     clear H1
     obtain rfl := Option.some.inj H
     go_wp2
     go_ret
     exact ⟨by first | rfl | (simp [errW_none, errW_some] <;> rfl) | (simp [*, errW_none, errW_some] <;> rfl), by repeat (first | (with_reducible first | exact HB.out | apply below_alloc | apply pw_below_drewN | apply below_drew1) | exact HB.out)⟩
   · replace c12 := Bool.eq_false_iff.mpr c12
     subst c12
     have H1 : ((laws_plainOptions.f kj3 l0).bind fun t139 => (if t139 = true then (laws_FnUnitComments.j1 kj3 l0 l1 l2 (decide ((l1.length : Int) > 40))) else (laws_FnUnitComments.j1 kj3 l0 l1 l2 true))) = some r := by rw [if_neg (show ¬ (false = true) by decide)] at H; exact H
     clear H
     have H := H1
     clear H1
     have HC13 := Aside0.mk H
     clear H
     go_upto_region 3 with (fail)
     go_cut [38] (fun v38 wc => ∃ (kq : Nat) (x38_12 : Bool), v38 = .bool x38_12 ∧ Aside0 (laws_FnUnitComments.j1 kq l0 l1 l2 x38_12 = some r) ∧ Aside0 (kq ≤ kj3) ∧ Aside0 (Below w.heap.size w wc))
     case first =>
      have H := HC13.out
      clear HC13
      replace H := Option.bind_eq_some_iff.mp H
      obtain ⟨t139, A140, H⟩ := H
      (try dsimp only at H)
      have A14 := Aside0.mk A140
      clear A140
      by_cases c15 : t139 = true
      · subst c15
        have H1 : (laws_FnUnitComments.j1 kj3 l0 l1 l2 (decide ((l1.length : Int) > 40))) = some r := by rw [if_pos rfl] at H; exact H
        clear H
        have H := H1
        clear H1
        have H' := Aside0.mk H
        clear H
        go_wp2_with (first | ((with_reducible refine gate_callee (f := 18) rfl ?_); refine goesL_ (some 32) rfl rfl Tryd.func18 (by kernel_rfl) rfl #[.slice A0 l0.length c0] rfl (by (try simp only [List.map_toArray, List.map_cons, List.map_nil]); first | done | rfl | (simp only [List.length_drop, List.length_take]; rfl)) ?_; (with_reducible refine (laws_plainOptions.calls kj3 _ _ l0 true _ ?side1 ?side2 A14.out).mono ?_); (case side1 => repeat (first | exact (Kd.C_below HR0.out HB.out) | (with_reducible refine Kd.C_alloc ?_ _) | (with_reducible refine Kd.C_drewN ?_ _) | (with_reducible refine Kd.C_drew ?_))); (case side2 => exact HC0.out); rintro e w16 ⟨rfl, hb⟩; refine ⟨_, rfl, ?_⟩; have n0_ := Aside0.mk (below_step (by repeat (first | (with_reducible first | exact HB.out | apply below_alloc | apply pw_below_drewN | apply below_drew1) | exact HB.out)) hb); clear HB; have HB := n0_; clear n0_; (try clear hb); (try clear hb2); (try clear hk); (try clear hi)))
        go_meet
        case rel => exact ⟨_, (decide ((l1.length : Int) > 40)), (by first | rfl | (simp; done) | (simp [*]; done)), H', ⟨by have := HJ3.out; first | omega | exact Nat.le_refl _⟩, ⟨by repeat (first | (with_reducible first | exact HB.out | apply below_alloc | apply pw_below_drewN | apply below_drew1) | exact HB.out)⟩⟩
      · replace c15 := Bool.eq_false_iff.mpr c15
        subst c15
        have H1 : (laws_FnUnitComments.j1 kj3 l0 l1 l2 true) = some r := by rw [if_neg (show ¬ (false = true) by decide)] at H; exact H
        clear H
        have H := H1
        clear H1
        have H' := Aside0.mk H
        clear H
        go_wp2_with (first | ((with_reducible refine gate_callee (f := 18) rfl ?_); refine goesL_ (some 32) rfl rfl Tryd.func18 (by kernel_rfl) rfl #[.slice A0 l0.length c0] rfl (by (try simp only [List.map_toArray, List.map_cons, List.map_nil]); first | done | rfl | (simp only [List.length_drop, List.length_take]; rfl)) ?_; (with_reducible refine (laws_plainOptions.calls kj3 _ _ l0 false _ ?side1 ?side2 A14.out).mono ?_); (case side1 => repeat (first | exact (Kd.C_below HR0.out HB.out) | (with_reducible refine Kd.C_alloc ?_ _) | (with_reducible refine Kd.C_drewN ?_ _) | (with_reducible refine Kd.C_drew ?_))); (case side2 => exact HC0.out); rintro e w17 ⟨rfl, hb⟩; refine ⟨_, rfl, ?_⟩; have n0_ := Aside0.mk (below_step (by repeat (first | (with_reducible first | exact HB.out | apply below_alloc | apply pw_below_drewN | apply below_drew1) | exact HB.out)) hb); clear HB; have HB := n0_; clear n0_; (try clear hb); (try clear hb2); (try clear hk); (try clear hi)))
        go_meet
        case rel => exact ⟨_, (true), (by first | rfl | (simp; done) | (simp [*]; done)), H', ⟨by have := HJ3.out; first | omega | exact Nat.le_refl _⟩, ⟨by repeat (first | (with_reducible first | exact HB.out | apply below_alloc | apply pw_below_drewN | apply below_drew1) | exact HB.out)⟩⟩
     case rest =>
      clear HC13
      try clear c1
      try clear c2
      try clear p2
      try clear c5
      try clear c6
      try clear c8
      try clear c12
      try clear c15
      try clear c17
      try clear p2
      obtain ⟨kq, x38_12, rfl, HA, HJ12, HB⟩ := hcut
      cases kq with
      | zero => exact absurd HA.out (by simp [laws_FnUnitComments.j1])
      | succ kj12 =>
       have H := HA.out
       clear HA
       simp only [laws_FnUnitComments.j1] at H
       by_cases c18 : x38_12 = true
       · subst c18
         have H1 : (some true) = some r := by rw [if_pos rfl] at H; exact H
         clear H
         have H := H1
         clear H1
         obtain rfl := Option.some.inj H
         go_wp2
         go_ret
         exact ⟨by first | rfl | (simp [errW_none, errW_some] <;> rfl) | (simp [*, errW_none, errW_some] <;> rfl), by repeat (first | (with_reducible first | exact HB.out | apply below_alloc | apply pw_below_drewN | apply below_drew1) | exact HB.out)⟩
       · replace c18 := Bool.eq_false_iff.mpr c18
         subst c18
         have H1 : ((impl_UnitWrite.f l0).bind fun t143 => (laws_FnUnitComments.l0 kj12 l0 l1 l2 (([] : List ByteArray)) 0 t143 (t143.size : Int) 0)) = some r := by rw [if_neg (show ¬ (false = true) by decide)] at H; exact H
         clear H
         have H := H1
         clear H1
         obtain ⟨y140, hy140⟩ : ∃ y_ : List ByteArray, y_ = (([] : List ByteArray)) := ⟨_, rfl⟩
         replace H : ((impl_UnitWrite.f l0).bind fun t143 => (laws_FnUnitComments.l0 kj12 l0 l1 l2 y140 0 t143 (t143.size : Int) 0)) = some r := by first | (rw [hy140]; with_reducible exact H) | (have H2_ := (Option.bind_some _ _).symm.trans H; rw [hy140]; with_reducible exact H2_) | (have H2_ := (Option.bind_some _ _).symm.trans H; with_reducible exact H2_) | with_reducible exact H | (rw [hy140]; exact H) | exact H
         have Ny140 := Aside0.mk hy140
         clear hy140
         replace H := Option.bind_eq_some_iff.mp H
         obtain ⟨t143, A190, H⟩ := H
         replace H : (laws_FnUnitComments.l0 kj12 l0 l1 l2 y140 0 t143 (t143.size : Int) 0) = some r := H
         have A19 := Aside0.mk A190
         clear A190
         have H' := Aside0.mk H
         clear H
         go_wp2_with (first | ((with_reducible refine gate_dst (N := 39) rfl ?_); (try (refine gate_guard (by rfl) ?_; dsimp only)); refine Kd.R_lit Kd.string _ 9 ?hg (N := 39) ?hd (xs := ([] : List ByteArray)) (inner := []) (ok := fun _ => True) (okp := fun _ => True) ?hr ?hp (fun _ hk => hk) trivial (Below.refl _ _) (Nat.le_refl _) (by simp) ?_; (case hd => rfl); (case hg => rfl); (case hr => first | (go_simp; done) | (go_simp; rfl)); (case hp => exact (Reps.none _ _)); intro v141 w20 ho21 hb hg_ hnew_; clear hg_ hnew_; (first | rw [← Ny140.out] at ho21 | (simp only [Int.reduceToNat] at ho21; rw [← Ny140.out] at ho21)); have n0_ := Aside0.mk (Kd.R_lower ho21 (below_size (by repeat (first | (with_reducible first | exact HB.out | apply below_alloc | apply pw_below_drewN | apply below_drew1) | exact HB.out)))); have n1_ := Aside0.mk (below_step (by repeat (first | (with_reducible first | exact HB.out | apply below_alloc | apply pw_below_drewN | apply below_drew1) | exact HB.out)) hb); clear HB; have HO142 := n0_; have HB := n1_; clear n0_ n1_; clear hb ho21) | ((with_reducible refine gate_callee (f := 19) rfl ?_); refine goesL_ (some 41) rfl rfl Tryd.func19 (by kernel_rfl) rfl #[.slice A0 l0.length c0] rfl (by (try simp only [List.map_toArray, List.map_cons, List.map_nil]); first | done | rfl | (simp only [List.length_drop, List.length_take]; rfl)) ?_; (with_reducible refine (impl_UnitWrite.calls _ _ l0 t143 _ ?side1 ?side2 A19.out).mono ?_); (case side1 => repeat (first | exact (Kd.C_below HR0.out HB.out) | (with_reducible refine Kd.C_alloc ?_ _) | (with_reducible refine Kd.C_drewN ?_ _) | (with_reducible refine Kd.C_drew ?_))); (case side2 => exact HC0.out); rintro e w22 ⟨rfl, hb⟩; refine ⟨_, rfl, ?_⟩; have n0_ := Aside0.mk (Kd.R_below (by (with_reducible repeat (first | apply Kd.R_alloc | apply Kd.R_drewN | apply Kd.R_drew)); exact HO142.out) hb); have n1_ := Aside0.mk (below_step (by repeat (first | (with_reducible first | exact HB.out | apply below_alloc | apply pw_below_drewN | apply below_drew1) | exact HB.out)) hb); clear HO142; clear HB; have HO142 := n0_; have HB := n1_; clear n0_ n1_; (try clear hb); (try clear hb2); (try clear hk); (try clear hi)))
         go_loopg [7, 8, 44] kj12 (fun kq v7 v8 v44 w' => ∃ (x7_3 : List ByteArray) (x8_3 : Int) (x44_3 : Int), v8 = .int .i64 x8_3 ∧ v44 = .int .i64 x44_3 ∧ Aside0 (laws_FnUnitComments.l0 kq l0 l1 l2 x7_3 x8_3 t143 (t143.size : Int) x44_3 = some r) ∧ Aside0 (kq ≤ kj12) ∧ Aside0 (Kd.R Kd.string 9 w' w.heap.size (fun _ => True) v7 x7_3) ∧ Aside0 (Below w.heap.size w w'))
         case atStart => exact ⟨(y140), (0), (0), (by first | rfl | (simp; done) | (simp [*]; done)), (by first | rfl | (simp; done) | (simp [*]; done)), H', ⟨Nat.le_refl _⟩, ⟨by (with_reducible repeat (first | apply Kd.R_alloc | apply Kd.R_drewN | apply Kd.R_drew)); exact HO142.out⟩, ⟨by repeat (first | (with_reducible first | exact HB.out | apply below_alloc | apply pw_below_drewN | apply below_drew1) | exact HB.out)⟩⟩
         case round =>
          clear H'
          try clear c1
          try clear c2
          try clear p2
          try clear c5
          try clear c6
          try clear c8
          try clear c12
          try clear c15
          try clear c17
          try clear c18
          try clear c19
          try clear p2
          obtain ⟨x7_3, x8_3, x44_3, rfl, rfl, HA, HK3, HO_7, HB⟩ := hrel
          cases gk with
          | zero => exact absurd HA.out (by simp [laws_FnUnitComments.l0])
          | succ k3 =>
           have H := HA.out
           clear HA
           simp only [laws_FnUnitComments.l0] at H
           by_cases c23 : x44_3 < (t143.size : Int)
           · rw [if_pos c23] at H
             have c23b0 : decide (x44_3 < (t143.size : Int)) = true := decide_eq_true c23
             clear c23
             by_cases c24 : 0 ≤ x44_3
             · rw [if_pos c24] at H
               have c24b0 : decide (0 ≤ x44_3) = true := decide_eq_true c24
               clear c24
               by_cases c25 : x44_3 < (t143.size : Int)
               · rw [if_pos c25] at H
                 have c25b0 : decide (x44_3 < (t143.size : Int)) = true := decide_eq_true c25
                 clear c25
                 by_cases c27 : (bt t143 x44_3) = 10
                 · rw [if_pos c27] at H
                   have c27b0 : ((bt t143 x44_3) == 10) = true := beq_iff_eq.mpr c27
                   have c27b1 : ((bt t143 x44_3) != 10) = false := bne_eq_false_iff_eq.mpr c27
                   clear c27
                   by_cases c28 : 0 ≤ x8_3
                   · rw [if_pos c28] at H
                     have c28b0 := eq_true c28
                     have c28b1 : decide (0 ≤ x8_3) = true := decide_eq_true c28
                     clear c28
                     by_cases c29 : x8_3 ≤ (wrap64 (x44_3 + 1))
                     · rw [if_pos c29] at H
                       have c29b0 := eq_true c29
                       have c29b1 : decide (x8_3 ≤ (wrap64 (x44_3 + 1))) = true := decide_eq_true c29
                       by_cases c30 : (wrap64 (x44_3 + 1)) ≤ (t143.size : Int)
                       · rw [if_pos c30] at H
                         have c30b0 := eq_true c30
                         have c30b1 : decide ((wrap64 (x44_3 + 1)) ≤ (t143.size : Int)) = true := decide_eq_true c30
                         by_cases c31 : x7_3.length < 8796093022208
                         · rw [if_pos c31] at H
                           have LMc31 := Aside0.mk c31
                           clear c31
                           obtain ⟨y144, hy144⟩ : ∃ y_ : List ByteArray, y_ = (x7_3 ++ [t143.extract (x8_3 : Int).toNat ((wrap64 (x44_3 + 1)) : Int).toNat]) := ⟨_, rfl⟩
                           replace H : (laws_FnUnitComments.l0 k3 l0 l1 l2 y144 (wrap64 (x44_3 + 1)) t143 (t143.size : Int) (wrap64 (x44_3 + 1))) = some r := by first | (rw [hy144]; with_reducible exact H) | (have H2_ := (Option.bind_some _ _).symm.trans H; rw [hy144]; with_reducible exact H2_) | (have H2_ := (Option.bind_some _ _).symm.trans H; with_reducible exact H2_) | with_reducible exact H | (rw [hy144]; exact H) | exact H
                           have Ny144 := Aside0.mk hy144
                           clear hy144
                           have H' := Aside0.mk H
                           clear H
                           have p26 : 0 ≤ (x44_3 : Int) := of_decide_eq_true (by first | (with_reducible assumption) | assumption)
                           have q26 : x44_3 < (t143.size : Int) := of_decide_eq_true (by first | (with_reducible assumption) | assumption)
                           have hx26 := bt_at t143 x44_3
                           replace p26 := eq_true p26
                           replace q26 := eq_true q26
                           go_wp2_with (first | ((with_reducible refine gate_builtin (b := .append) (xs := #[.tmp 51, .tmp 57]) rfl ?_); (try (refine gate_guard (by rfl) ?_; dsimp only)); at_builtin; refine Kd.R_append Kd.string (w0 := w) w.heap.size rfl (.tmp 51) (.tmp 57) 22 9 (.string ⟨#[]⟩) 16 rfl Tryd.underlying22 info9 rfl (by decide) (by omega) u7 x7_3 (t143.extract (x8_3 : Int).toNat ((wrap64 (x44_3 + 1)) : Int).toNat) [.string (t143.extract (x8_3 : Int).toNat ((wrap64 (x44_3 + 1)) : Int).toNat)] (fun _ => True) (fun _ => False) rfl rfl ?aP (fun _ hk => hk.elim) ?aF ?aO ?aB ?aS ?aL ?_; (case aP => exact rfl); (case aB => exact (by repeat (first | (with_reducible first | exact HB.out | apply below_alloc | apply pw_below_drewN | apply below_drew1) | exact HB.out))); (case aF => exact (fun _ _ => trivial)); (case aO => exact (by (with_reducible repeat (first | apply Kd.R_alloc | apply Kd.R_drewN | apply Kd.R_drew)); exact HO_7.out)); (case aS => exact (below_size (by repeat (first | (with_reducible first | exact HB.out | apply below_alloc | apply pw_below_drewN | apply below_drew1) | exact HB.out)))); (case aL => have := LMc31.out; omega); intro v145 w32 ho hb hg hat; rw [← Ny144.out] at ho; have n0_ := Aside0.mk (hb); have n1_ := Aside0.mk (ho); clear HB; clear HO_7; have HB := n0_; have HO146 := n1_; clear n0_ n1_; clear ho hb hg hat))
                           go_roundg k3
                           case measure => have := HJ3.out; have := HJ12.out; have := HK3.out; omega
                           case rel => exact ⟨(y144), (wrap64 (x44_3 + 1)), (wrap64 (x44_3 + 1)), (by first | rfl | (simp; done) | (simp [*]; done)), (by first | rfl | (simp; done) | (simp [*]; done)), H', ⟨by have := HJ3.out; have := HJ12.out; have := HK3.out; omega⟩, ⟨by (with_reducible repeat (first | apply Kd.R_alloc | apply Kd.R_drewN | apply Kd.R_drew)); exact HO146.out⟩, ⟨by repeat (first | (with_reducible first | exact HB.out | apply below_alloc | apply pw_below_drewN | apply below_drew1) | exact HB.out)⟩⟩
                         · rw [if_neg c31] at H
                           exact absurd H (by simp)
                       · rw [if_neg c30] at H
                         exact absurd H (by simp)
                     · rw [if_neg c29] at H
                       exact absurd H (by simp)
                   · rw [if_neg c28] at H
                     exact absurd H (by simp)
                 · rw [if_neg c27] at H
                   have c27b0 : ((bt t143 x44_3) == 10) = false := beq_eq_false_iff_ne.mpr c27
                   have c27b1 : ((bt t143 x44_3) != 10) = true := bne_iff_ne.mpr c27
                   have H' := Aside0.mk H
                   clear H
                   have p26 : 0 ≤ (x44_3 : Int) := of_decide_eq_true (by first | (with_reducible assumption) | assumption)
                   have q26 : x44_3 < (t143.size : Int) := of_decide_eq_true (by first | (with_reducible assumption) | assumption)
                   have hx26 := bt_at t143 x44_3
                   replace p26 := eq_true p26
                   replace q26 := eq_true q26
                   go_wp2
                   go_roundg k3
                   case measure => have := HJ3.out; have := HJ12.out; have := HK3.out; omega
                   case rel => exact ⟨(x7_3), (x8_3), (wrap64 (x44_3 + 1)), (by first | rfl | (simp; done) | (simp [*]; done)), (by first | rfl | (simp; done) | (simp [*]; done)), H', ⟨by have := HJ3.out; have := HJ12.out; have := HK3.out; omega⟩, ⟨by (with_reducible repeat (first | apply Kd.R_alloc | apply Kd.R_drewN | apply Kd.R_drew)); exact HO_7.out⟩, ⟨by repeat (first | (with_reducible first | exact HB.out | apply below_alloc | apply pw_below_drewN | apply below_drew1) | exact HB.out)⟩⟩
               · rw [if_neg c25] at H
                 exact absurd H (by simp)
             · rw [if_neg c24] at H
               exact absurd H (by simp)
           · rw [if_neg c23] at H
             have c23b0 : decide (x44_3 < (t143.size : Int)) = false := decide_eq_false c23
             clear c23
             by_cases c33 : x8_3 = (t143.size : Int)
             · rw [if_pos c33] at H
               have c33b0 : (x8_3 == (t143.size : Int)) = true := beq_iff_eq.mpr c33
               have c33b1 : (x8_3 != (t143.size : Int)) = false := bne_eq_false_iff_eq.mpr c33
               clear c33
               have H' := Aside0.mk H
               clear H
               obtain ⟨Ao34, co34, eo34⟩ := Kd.R_slice HO_7.out
               subst eo34
               go_wp2
               go_loopg [11, 68] k3 (fun kq v11 v68 w' => ∃ (x11_4 : ByteArray) (x68_4 : Int), v11 = .string x11_4 ∧ v68 = .int .i64 x68_4 ∧ Aside0 (laws_FnUnitComments.l1 kq l0 l1 l2 x7_3 x11_4 x7_3 (x7_3.length : Int) x68_4 = some r) ∧ Aside0 (kq ≤ k3) ∧ Aside0 (Kd.R Kd.string 9 w' w.heap.size (fun _ => True) (.slice Ao34 x7_3.length co34) x7_3) ∧ Aside0 (Kd.R Kd.string 9 w' w.heap.size (fun _ => True) (.slice Ao34 x7_3.length co34) x7_3) ∧ Aside0 (Below w.heap.size w w'))
               case atStart => exact ⟨((⟨#[]⟩ : ByteArray)), (0), (by first | rfl | (simp; done) | (simp [*]; done)), (by first | rfl | (simp; done) | (simp [*]; done)), H', ⟨Nat.le_refl _⟩, ⟨by (with_reducible repeat (first | apply Kd.R_alloc | apply Kd.R_drewN | apply Kd.R_drew)); exact HO_7.out⟩, ⟨by (with_reducible repeat (first | apply Kd.R_alloc | apply Kd.R_drewN | apply Kd.R_drew)); exact HO_7.out⟩, ⟨by repeat (first | (with_reducible first | exact HB.out | apply below_alloc | apply pw_below_drewN | apply below_drew1) | exact HB.out)⟩⟩
               case round =>
                clear H'
                try clear c1
                try clear c2
                try clear p2
                try clear q2
                try clear hx2
                try clear c3
                try clear c5
                try clear c6
                try clear p6
                try clear c8
                try clear c12
                try clear c15
                try clear c17
                try clear c18
                try clear c19
                try clear c23
                try clear c23b0
                try clear c24
                try clear c24b0
                try clear c25
                try clear c25b0
                try clear p26
                try clear q26
                try clear hx26
                try clear c27
                try clear c27b0
                try clear c27b1
                try clear c28
                try clear c28b0
                try clear c28b1
                try clear c29
                try clear c29b0
                try clear c29b1
                try clear c30
                try clear c30b0
                try clear c30b1
                try clear c31
                try clear c33
                try clear c33b0
                try clear c33b1
                try clear p2
                try clear p26
                try clear q26
                obtain ⟨x11_4, x68_4, rfl, rfl, HA, HK4, HO_7, HO_66, HB⟩ := hrel
                cases gk with
                | zero => exact absurd HA.out (by simp [laws_FnUnitComments.l1])
                | succ k4 =>
                 have H := HA.out
                 clear HA
                 simp only [laws_FnUnitComments.l1] at H
                 by_cases c35 : x68_4 < (x7_3.length : Int)
                 · rw [if_pos c35] at H
                   have c35b0 : decide (x68_4 < (x7_3.length : Int)) = true := decide_eq_true c35
                   clear c35
                   by_cases c36 : 0 ≤ x68_4
                   · rw [if_pos c36] at H
                     have c36b0 : decide (0 ≤ x68_4) = true := decide_eq_true c36
                     clear c36
                     by_cases c37 : x68_4 < (x7_3.length : Int)
                     · rw [if_pos c37] at H
                       have c37b0 : decide (x68_4 < (x7_3.length : Int)) = true := decide_eq_true c37
                       clear c37
                       by_cases c38 : x11_4.size + (rdOf ByteArray.empty x7_3 x68_4).size ≤ 9223372036854775807
                       · rw [if_pos c38] at H
                         have c38b0 := eq_true c38
                         have c38b1 : decide (x11_4.size + (rdOf ByteArray.empty x7_3 x68_4).size ≤ 9223372036854775807) = true := decide_eq_true c38
                         try have c38b2 : (9223372036854775807 < x11_4.size + (rdOf ByteArray.empty x7_3 x68_4).size) = False := eq_false (Nat.not_lt.2 c38)
                         have H' := Aside0.mk H
                         clear H
                         have p147 : 0 ≤ (x68_4 : Int) := of_decide_eq_true (by first | (with_reducible assumption) | assumption)
                         have q147 : x68_4 < (x7_3.length : Int) := of_decide_eq_true (by first | (with_reducible assumption) | assumption)
                         obtain ⟨ad147, e147, hx147_0⟩ := Kd.at_string (Kd.R_reads' HO_66.out).2.2 x68_4 p147 q147
                         cases e147
                         replace p147 := eq_true p147
                         replace q147 := eq_true q147
                         go_wp2
                         go_loopg [11, 78] k4 (fun kq v11 v78 w' => ∃ (x11_5 : ByteArray) (x78_5 : Int), v11 = .string x11_5 ∧ v78 = .int .i64 x78_5 ∧ Aside0 (laws_FnUnitComments.l2 kq l0 l1 l2 x7_3 x11_5 x68_4 x7_3 (x7_3.length : Int) x68_4 l1 (l1.length : Int) x78_5 = some r) ∧ Aside0 (kq ≤ k4) ∧ Aside0 (Kd.R Kd.string 9 w' w.heap.size (fun _ => True) (.slice (some ad147) x7_3.length co34) x7_3) ∧ Aside0 (Kd.R Kd.string 9 w' w.heap.size (fun _ => True) (.slice (some ad147) x7_3.length co34) x7_3) ∧ Aside0 (Below w.heap.size w w'))
                         case atStart => exact ⟨(x11_4 ++ (rdOf ByteArray.empty x7_3 x68_4)), (0), (by first | rfl | (simp; done) | (simp [*]; done)), (by first | rfl | (simp; done) | (simp [*]; done)), H', ⟨Nat.le_refl _⟩, ⟨by (with_reducible repeat (first | apply Kd.R_alloc | apply Kd.R_drewN | apply Kd.R_drew)); exact HO_7.out⟩, ⟨by (with_reducible repeat (first | apply Kd.R_alloc | apply Kd.R_drewN | apply Kd.R_drew)); exact HO_66.out⟩, ⟨by repeat (first | (with_reducible first | exact HB.out | apply below_alloc | apply pw_below_drewN | apply below_drew1) | exact HB.out)⟩⟩
                         case round =>
                          clear H'
                          try clear c1
                          try clear p1
                          try clear q1
                          try clear hx1
                          try clear c2
                          try clear p2
                          try clear q2
                          try clear hx2
                          try clear c3
                          try clear c5
                          try clear c6
                          try clear p6
                          try clear c8
                          try clear c12
                          try clear p14
                          try clear q14
                          try clear hx14
                          try clear c15
                          try clear c17
                          try clear c18
                          try clear c19
                          try clear c23
                          try clear c23b0
                          try clear c24
                          try clear c24b0
                          try clear c25
                          try clear c25b0
                          try clear p26
                          try clear q26
                          try clear hx26
                          try clear c27
                          try clear c27b0
                          try clear c27b1
                          try clear c28
                          try clear c28b0
                          try clear c28b1
                          try clear c29
                          try clear c29b0
                          try clear c29b1
                          try clear c30
                          try clear c30b0
                          try clear c30b1
                          try clear c31
                          try clear c33
                          try clear c33b0
                          try clear c33b1
                          try clear c35
                          try clear c35b0
                          try clear c36
                          try clear c36b0
                          try clear c37
                          try clear c37b0
                          try clear c38
                          try clear c38b0
                          try clear c38b1
                          try clear c38b2
                          try clear hx147_0
                          try clear p147
                          try clear p2
                          try clear p26
                          try clear p6
                          try clear q147
                          try clear q2
                          try clear q26
                          obtain ⟨x11_5, x78_5, rfl, rfl, HA, HK5, HO_7, HO_66, HB⟩ := hrel
                          cases gk with
                          | zero => exact absurd HA.out (by simp [laws_FnUnitComments.l2])
                          | succ k5 =>
                           have H := HA.out
                           clear HA
                           simp only [laws_FnUnitComments.l2] at H
                           by_cases c39 : x78_5 < (l1.length : Int)
                           · rw [if_pos c39] at H
                             have c39b0 : decide (x78_5 < (l1.length : Int)) = true := decide_eq_true c39
                             clear c39
                             by_cases c40 : 0 ≤ x78_5
                             · rw [if_pos c40] at H
                               have c40b0 : decide (0 ≤ x78_5) = true := decide_eq_true c40
                               clear c40
                               by_cases c41 : x78_5 < (l1.length : Int)
                               · rw [if_pos c41] at H
                                 have c41b0 : decide (x78_5 < (l1.length : Int)) = true := decide_eq_true c41
                                 clear c41
                                 have HC42 := Aside0.mk H
                                 clear H
                                 have p148 : 0 ≤ (x78_5 : Int) := of_decide_eq_true (by first | (with_reducible assumption) | assumption)
                                 have q148 : x78_5 < (l1.length : Int) := of_decide_eq_true (by first | (with_reducible assumption) | assumption)
                                 obtain ⟨ad148, e148, hx148_0⟩ := Kd.at_string HR1.out x78_5 p148 q148
                                 cases e148
                                 replace hx148_0 := (HB.out.cell (World.block_lt_of_cell? w _ hx148_0)).trans hx148_0
                                 replace p148 := eq_true p148
                                 replace q148 := eq_true q148
                                 go_upto_region 25 with (fail)
                                 go_cut [98] (fun v98 wc => ∃ (kq : Nat) (x98_41 : Bool), v98 = .bool x98_41 ∧ Aside0 (laws_FnUnitComments.j5 kq l0 l1 l2 x7_3 x11_5 x68_4 (rdOf ByteArray.empty l1 x78_5) x7_3 (x7_3.length : Int) x68_4 l1 (l1.length : Int) x78_5 x98_41 = some r) ∧ Aside0 (kq ≤ k5) ∧ Aside0 (Kd.R Kd.string 9 wc w.heap.size (fun _ => True) (.slice (some ad147) x7_3.length co34) x7_3) ∧ Aside0 (Kd.R Kd.string 9 wc w.heap.size (fun _ => True) (.slice (some ad147) x7_3.length co34) x7_3) ∧ Aside0 (Below w.heap.size w wc))
                                 case first =>
                                  have H := HC42.out
                                  clear HC42
                                  by_cases c43 : x78_5 < (l2.length : Int)
                                  · rw [if_pos c43] at H
                                    have c43b0 : decide (x78_5 < (l2.length : Int)) = true := decide_eq_true c43
                                    clear c43
                                    (first | rw [c43b0] | (simp only [i64_w, i32_w]; rw [c43b0]) | skip)
                                    by_cases c44 : (x7_3.length : Int) = 0
                                    · rw [if_pos c44] at H
                                      exact absurd H (by simp)
                                    · rw [if_neg c44] at H
                                      have c44b0 : ((x7_3.length : Int) == 0) = false := beq_eq_false_iff_ne.mpr c44
                                      have c44b1 : ((x7_3.length : Int) != 0) = true := bne_iff_ne.mpr c44
                                      have c44b2 : ¬ (x7_3 = []) := fun h_ => c44 (by rw [h_]; rfl)
                                      have H' := Aside0.mk H
                                      clear H
                                      have p149 : 0 ≤ (x78_5 : Int) := of_decide_eq_true (by first | (with_reducible assumption) | assumption)
                                      have q149 : x78_5 < (l2.length : Int) := of_decide_eq_true (by first | (with_reducible assumption) | assumption)
                                      obtain ⟨ad149, e149, hx149_0⟩ := Kd.at_int HR2.out x78_5 p149 q149
                                      cases e149
                                      replace hx149_0 := (HB.out.cell (World.block_lt_of_cell? w _ hx149_0)).trans hx149_0
                                      replace p149 := eq_true p149
                                      replace q149 := eq_true q149
                                      go_wp2
                                      go_meet
                                      case rel => exact ⟨_, (((Int.tmod (wrap64 (rd l2 x78_5)) (x7_3.length : Int)) == x68_4)), (by first | rfl | (simp; done) | (simp [*]; done)), H', ⟨by have := HJ3.out; have := HJ12.out; have := HK3.out; have := HK4.out; have := HK5.out; first | omega | exact Nat.le_refl _⟩, ⟨by (with_reducible repeat (first | apply Kd.R_alloc | apply Kd.R_drewN | apply Kd.R_drew)); exact HO_7.out⟩, ⟨by (with_reducible repeat (first | apply Kd.R_alloc | apply Kd.R_drewN | apply Kd.R_drew)); exact HO_66.out⟩, ⟨by repeat (first | (with_reducible first | exact HB.out | apply below_alloc | apply pw_below_drewN | apply below_drew1) | exact HB.out)⟩⟩
                                  · rw [if_neg c43] at H
                                    have c43b0 : decide (x78_5 < (l2.length : Int)) = false := decide_eq_false c43
                                    clear c43
                                    (first | rw [c43b0] | (simp only [i64_w, i32_w]; rw [c43b0]) | skip)
                                    have H' := Aside0.mk H
                                    clear H
                                    go_wp2
                                    go_meet
                                    case rel => exact ⟨_, (false), (by first | rfl | (simp; done) | (simp [*]; done)), H', ⟨by have := HJ3.out; have := HJ12.out; have := HK3.out; have := HK4.out; have := HK5.out; first | omega | exact Nat.le_refl _⟩, ⟨by (with_reducible repeat (first | apply Kd.R_alloc | apply Kd.R_drewN | apply Kd.R_drew)); exact HO_7.out⟩, ⟨by (with_reducible repeat (first | apply Kd.R_alloc | apply Kd.R_drewN | apply Kd.R_drew)); exact HO_66.out⟩, ⟨by repeat (first | (with_reducible first | exact HB.out | apply below_alloc | apply pw_below_drewN | apply below_drew1) | exact HB.out)⟩⟩
                                 case rest =>
                                  clear HC42
                                  try clear c1
                                  try clear p1
                                  try clear q1
                                  try clear hx1
                                  try clear c2
                                  try clear p2
                                  try clear q2
                                  try clear hx2
                                  try clear c3
                                  try clear c4
                                  try clear c5
                                  try clear c6
                                  try clear p6
                                  try clear c8
                                  try clear c12
                                  try clear p14
                                  try clear q14
                                  try clear hx14
                                  try clear c15
                                  try clear c17
                                  try clear c18
                                  try clear c19
                                  try clear c23
                                  try clear c23b0
                                  try clear c24
                                  try clear c24b0
                                  try clear c25
                                  try clear c25b0
                                  try clear p26
                                  try clear q26
                                  try clear hx26
                                  try clear c27
                                  try clear c27b0
                                  try clear c27b1
                                  try clear c28
                                  try clear c28b0
                                  try clear c28b1
                                  try clear c29
                                  try clear c29b0
                                  try clear c29b1
                                  try clear c30
                                  try clear c30b0
                                  try clear c30b1
                                  try clear c31
                                  try clear c33
                                  try clear c33b0
                                  try clear c33b1
                                  try clear c35
                                  try clear c35b0
                                  try clear c36
                                  try clear c36b0
                                  try clear c37
                                  try clear c37b0
                                  try clear c38
                                  try clear c38b0
                                  try clear c38b1
                                  try clear c38b2
                                  try clear c39
                                  try clear c39b0
                                  try clear c40
                                  try clear c40b0
                                  try clear c41
                                  try clear c41b0
                                  try clear c43
                                  try clear c43b0
                                  try clear c44
                                  try clear c44b0
                                  try clear c44b1
                                  try clear c44b2
                                  try clear hx147_0
                                  try clear hx148_0
                                  try clear hx149_0
                                  try clear p1
                                  try clear p14
                                  try clear p147
                                  try clear p148
                                  try clear p149
                                  try clear p2
                                  try clear p26
                                  try clear p6
                                  try clear q1
                                  try clear q14
                                  try clear q147
                                  try clear q148
                                  try clear q149
                                  try clear q2
                                  try clear q26
                                  obtain ⟨kq, x98_41, rfl, HA, HJ41, HO_7, HO_66, HB⟩ := hcut
                                  cases kq with
                                  | zero => exact absurd HA.out (by simp [laws_FnUnitComments.j5])
                                  | succ kj41 =>
                                   have H := HA.out
                                   clear HA
                                   simp only [laws_FnUnitComments.j5] at H
                                   by_cases c45 : x98_41 = true
                                   · subst c45
                                     rw [if_pos rfl] at H
                                     have H1 := H
                                     clear H
                                     have H := H1
                                     clear H1
                                     replace H := Option.bind_eq_some_iff.mp H
                                     obtain ⟨t150, A460, H⟩ := H
                                     (try dsimp only at H)
                                     have A46 := Aside0.mk A460
                                     clear A460
                                     by_cases c47 : t150 = true
                                     · subst c47
                                       rw [if_pos rfl] at H
                                       have H1 := H
                                       clear H
                                       have H := H1
                                       clear H1
                                       by_cases c48 : ((rdOf ByteArray.empty l1 x78_5).size : Int) > 400
                                       · rw [if_pos c48] at H
                                         have c48b0 : decide (400 < ((rdOf ByteArray.empty l1 x78_5).size : Int)) = true := decide_eq_true c48
                                         have c48b1 : decide (400 < (rdOf ByteArray.empty l1 x78_5).size) = true := decide_eq_true (by omega)
                                         clear c48
                                         obtain rfl := Option.some.inj H
                                         go_wp2_with (first | ((with_reducible refine gate_callee (f := 20) rfl ?_); refine goesL_ (some 100) rfl rfl Tryd.func20 (by kernel_rfl) rfl #[.string (rdOf ByteArray.empty l1 x78_5)] rfl (by (try simp only [List.map_toArray, List.map_cons, List.map_nil]); first | done | rfl | (simp only [List.length_drop, List.length_take]; rfl)) ?_; (with_reducible refine (laws_printable.calls kj41 (rdOf ByteArray.empty l1 x78_5) true _ A46.out).mono ?_); rintro e w' ⟨rfl, ⟨nd, rfl⟩⟩; refine ⟨_, rfl, ?_⟩))
                                         go_ret
                                         exact ⟨by first | rfl | (simp [errW_none, errW_some] <;> rfl) | (simp [*, errW_none, errW_some] <;> rfl), by repeat (first | (with_reducible first | exact HB.out | apply below_alloc | apply pw_below_drewN | apply below_drew1) | exact HB.out)⟩
                                       · rw [if_neg c48] at H
                                         have c48b0 : decide (400 < ((rdOf ByteArray.empty l1 x78_5).size : Int)) = false := decide_eq_false c48
                                         have c48b1 : decide (400 < (rdOf ByteArray.empty l1 x78_5).size) = false := decide_eq_false (by omega)
                                         clear c48
                                         by_cases c49 : (rdOf ByteArray.empty l1 x78_5).toList = ([] : List UInt8)
                                         · rw [if_pos c49] at H
                                           have c49b0 : ((rdOf ByteArray.empty l1 x78_5).toList == ([] : List UInt8)) = true := beq_iff_eq.mpr c49
                                           have c49b1 : ((rdOf ByteArray.empty l1 x78_5).toList != ([] : List UInt8)) = false := bne_eq_false_iff_eq.mpr c49
                                           clear c49
                                           by_cases c50 : (rdOf ByteArray.empty l1 x78_5).size + 1 ≤ 9223372036854775807
                                           · rw [if_pos c50] at H
                                             have c50b0 := eq_true c50
                                             have c50b1 : decide ((rdOf ByteArray.empty l1 x78_5).size + 1 ≤ 9223372036854775807) = true := decide_eq_true c50
                                             try have c50b2 : (9223372036854775807 < (rdOf ByteArray.empty l1 x78_5).size + 1) = False := eq_false (Nat.not_lt.2 c50)
                                             by_cases c51 : x11_5.size + ((rdOf ByteArray.empty l1 x78_5) ++ (⟨#[10]⟩ : ByteArray)).size ≤ 9223372036854775807
                                             · rw [if_pos c51] at H
                                               have c51b0 := eq_true c51
                                               have c51b1 : decide (x11_5.size + ((rdOf ByteArray.empty l1 x78_5) ++ (⟨#[10]⟩ : ByteArray)).size ≤ 9223372036854775807) = true := decide_eq_true c51
                                               try have c51b2 : (9223372036854775807 < x11_5.size + ((rdOf ByteArray.empty l1 x78_5) ++ (⟨#[10]⟩ : ByteArray)).size) = False := eq_false (Nat.not_lt.2 c51)
                                               have c51b3 : (9223372036854775807 < x11_5.size + ((rdOf ByteArray.empty l1 x78_5).size + 1)) = False := by have h_ := c51b2; simp only [ByteArray.size_append] at h_; exact h_
                                               have H' := Aside0.mk H
                                               clear H
                                               go_wp2_with (first | ((with_reducible refine gate_callee (f := 20) rfl ?_); refine goesL_ (some 100) rfl rfl Tryd.func20 (by kernel_rfl) rfl #[.string (rdOf ByteArray.empty l1 x78_5)] rfl (by (try simp only [List.map_toArray, List.map_cons, List.map_nil]); first | done | rfl | (simp only [List.length_drop, List.length_take]; rfl)) ?_; (with_reducible refine (laws_printable.calls kj41 (rdOf ByteArray.empty l1 x78_5) true _ A46.out).mono ?_); rintro e w' ⟨rfl, ⟨nd, rfl⟩⟩; refine ⟨_, rfl, ?_⟩))
                                               go_roundg kj41
                                               case measure => have := HJ3.out; have := HJ12.out; have := HK3.out; have := HK4.out; have := HK5.out; have := HJ41.out; omega
                                               case rel => exact ⟨(x11_5 ++ ((rdOf ByteArray.empty l1 x78_5) ++ (⟨#[10]⟩ : ByteArray))), (wrap64 (x78_5 + 1)), (by first | rfl | (simp; done) | (simp [*]; done)), (by first | rfl | (simp; done) | (simp [*]; done)), H', ⟨by have := HJ3.out; have := HJ12.out; have := HK3.out; have := HK4.out; have := HK5.out; have := HJ41.out; omega⟩, ⟨by (with_reducible repeat (first | apply Kd.R_alloc | apply Kd.R_drewN | apply Kd.R_drew)); exact HO_7.out⟩, ⟨by (with_reducible repeat (first | apply Kd.R_alloc | apply Kd.R_drewN | apply Kd.R_drew)); exact HO_66.out⟩, ⟨by repeat (first | (with_reducible first | exact HB.out | apply below_alloc | apply pw_below_drewN | apply below_drew1) | exact HB.out)⟩⟩
                                             · rw [if_neg c51] at H
                                               exact absurd H (by simp)
                                           · rw [if_neg c50] at H
                                             exact absurd H (by simp)
                                         · rw [if_neg c49] at H
                                           have c49b0 : ((rdOf ByteArray.empty l1 x78_5).toList == ([] : List UInt8)) = false := beq_eq_false_iff_ne.mpr c49
                                           have c49b1 : ((rdOf ByteArray.empty l1 x78_5).toList != ([] : List UInt8)) = true := bne_iff_ne.mpr c49
                                           by_cases c52 : 0 < ((rdOf ByteArray.empty l1 x78_5).size : Int)
                                           · rw [if_pos c52] at H
                                             have c52b0 : decide (0 < ((rdOf ByteArray.empty l1 x78_5).size : Int)) = true := decide_eq_true c52
                                             have c52b1 : decide (0 < (rdOf ByteArray.empty l1 x78_5).size) = true := decide_eq_true (by omega)
                                             clear c52
                                             by_cases c54 : (bt (rdOf ByteArray.empty l1 x78_5) 0) = 35
                                             · rw [if_pos c54] at H
                                               have c54b0 : ((bt (rdOf ByteArray.empty l1 x78_5) 0) == 35) = true := beq_iff_eq.mpr c54
                                               have c54b1 : ((bt (rdOf ByteArray.empty l1 x78_5) 0) != 35) = false := bne_eq_false_iff_eq.mpr c54
                                               clear c54
                                               replace H := Option.bind_eq_some_iff.mp H
                                               obtain ⟨t151, A550, H⟩ := H
                                               (try dsimp only at H)
                                               have A55 := Aside0.mk A550
                                               clear A550
                                               by_cases c56 : t151 = true
                                               · subst c56
                                                 have H1 : (some true) = some r := by rw [if_pos rfl] at H; exact H
                                                 clear H
                                                 have H := H1
                                                 clear H1
                                                 obtain rfl := Option.some.inj H
                                                 go_wp2_with (first | ((with_reducible refine gate_callee (f := 20) rfl ?_); refine goesL_ (some 100) rfl rfl Tryd.func20 (by kernel_rfl) rfl #[.string (rdOf ByteArray.empty l1 x78_5)] rfl (by (try simp only [List.map_toArray, List.map_cons, List.map_nil]); first | done | rfl | (simp only [List.length_drop, List.length_take]; rfl)) ?_; (with_reducible refine (laws_printable.calls kj41 (rdOf ByteArray.empty l1 x78_5) true _ A46.out).mono ?_); rintro e w' ⟨rfl, ⟨nd, rfl⟩⟩; refine ⟨_, rfl, ?_⟩; have p53 : 0 ≤ (0 : Int) := (by omega); have q53 : 0 < (rdOf ByteArray.empty l1 x78_5).size := (by have : (0 : Int) < ((rdOf ByteArray.empty l1 x78_5).size : Int) := of_decide_eq_true (by first | (with_reducible assumption) | assumption); omega); have hx53 : ∀ h : 0 < (rdOf ByteArray.empty l1 x78_5).size, (((rdOf ByteArray.empty l1 x78_5)[0]'h).toNat : Int) = bt (rdOf ByteArray.empty l1 x78_5) 0 := bt_at (rdOf ByteArray.empty l1 x78_5) 0; clear p53; have qi53 : (0 < ((rdOf ByteArray.empty l1 x78_5).size : Int)) = True := eq_true (of_decide_eq_true (by first | (with_reducible assumption) | assumption)); replace q53 := eq_true q53) | (go_at_call 21; (with_reducible refine (laws_goesOn.calls kj41 (rdOf ByteArray.empty l1 x78_5) true _ A55.out).mono ?_); rintro e w' ⟨rfl, ⟨nd, rfl⟩⟩))
                                                 go_ret
                                                 exact ⟨by first | rfl | (simp [errW_none, errW_some] <;> rfl) | (simp [*, errW_none, errW_some] <;> rfl), by repeat (first | (with_reducible first | exact HB.out | apply below_alloc | apply pw_below_drewN | apply below_drew1) | exact HB.out)⟩
                                               · replace c56 := Bool.eq_false_iff.mpr c56
                                                 subst c56
                                                 have H1 : (if (rdOf ByteArray.empty l1 x78_5).size + 1 ≤ 9223372036854775807 then (if x11_5.size + ((rdOf ByteArray.empty l1 x78_5) ++ (⟨#[10]⟩ : ByteArray)).size ≤ 9223372036854775807 then (laws_FnUnitComments.l2 kj41 l0 l1 l2 x7_3 (x11_5 ++ ((rdOf ByteArray.empty l1 x78_5) ++ (⟨#[10]⟩ : ByteArray))) x68_4 x7_3 (x7_3.length : Int) x68_4 l1 (l1.length : Int) (wrap64 (x78_5 + 1))) else (none)) else (none)) = some r := by rw [if_neg (show ¬ (false = true) by decide)] at H; exact H
                                                 clear H
                                                 have H := H1
                                                 clear H1
                                                 by_cases c57 : (rdOf ByteArray.empty l1 x78_5).size + 1 ≤ 9223372036854775807
                                                 · rw [if_pos c57] at H
                                                   have c57b0 := eq_true c57
                                                   have c57b1 : decide ((rdOf ByteArray.empty l1 x78_5).size + 1 ≤ 9223372036854775807) = true := decide_eq_true c57
                                                   try have c57b2 : (9223372036854775807 < (rdOf ByteArray.empty l1 x78_5).size + 1) = False := eq_false (Nat.not_lt.2 c57)
                                                   by_cases c58 : x11_5.size + ((rdOf ByteArray.empty l1 x78_5) ++ (⟨#[10]⟩ : ByteArray)).size ≤ 9223372036854775807
                                                   · rw [if_pos c58] at H
                                                     have c58b0 := eq_true c58
                                                     have c58b1 : decide (x11_5.size + ((rdOf ByteArray.empty l1 x78_5) ++ (⟨#[10]⟩ : ByteArray)).size ≤ 9223372036854775807) = true := decide_eq_true c58
                                                     try have c58b2 : (9223372036854775807 < x11_5.size + ((rdOf ByteArray.empty l1 x78_5) ++ (⟨#[10]⟩ : ByteArray)).size) = False := eq_false (Nat.not_lt.2 c58)
                                                     have c58b3 : (9223372036854775807 < x11_5.size + ((rdOf ByteArray.empty l1 x78_5).size + 1)) = False := by have h_ := c58b2; simp only [ByteArray.size_append] at h_; exact h_
                                                     have H' := Aside0.mk H
                                                     clear H
                                                     go_wp2_with (first | ((with_reducible refine gate_callee (f := 20) rfl ?_); refine goesL_ (some 100) rfl rfl Tryd.func20 (by kernel_rfl) rfl #[.string (rdOf ByteArray.empty l1 x78_5)] rfl (by (try simp only [List.map_toArray, List.map_cons, List.map_nil]); first | done | rfl | (simp only [List.length_drop, List.length_take]; rfl)) ?_; (with_reducible refine (laws_printable.calls kj41 (rdOf ByteArray.empty l1 x78_5) true _ A46.out).mono ?_); rintro e w' ⟨rfl, ⟨nd, rfl⟩⟩; refine ⟨_, rfl, ?_⟩; have p53 : 0 ≤ (0 : Int) := (by omega); have q53 : 0 < (rdOf ByteArray.empty l1 x78_5).size := (by have : (0 : Int) < ((rdOf ByteArray.empty l1 x78_5).size : Int) := of_decide_eq_true (by first | (with_reducible assumption) | assumption); omega); have hx53 : ∀ h : 0 < (rdOf ByteArray.empty l1 x78_5).size, (((rdOf ByteArray.empty l1 x78_5)[0]'h).toNat : Int) = bt (rdOf ByteArray.empty l1 x78_5) 0 := bt_at (rdOf ByteArray.empty l1 x78_5) 0; clear p53; have qi53 : (0 < ((rdOf ByteArray.empty l1 x78_5).size : Int)) = True := eq_true (of_decide_eq_true (by first | (with_reducible assumption) | assumption)); replace q53 := eq_true q53) | (go_at_call 21; (with_reducible refine (laws_goesOn.calls kj41 (rdOf ByteArray.empty l1 x78_5) false _ A55.out).mono ?_); rintro e w' ⟨rfl, ⟨nd, rfl⟩⟩))
                                                     go_roundg kj41
                                                     case measure => have := HJ3.out; have := HJ12.out; have := HK3.out; have := HK4.out; have := HK5.out; have := HJ41.out; omega
                                                     case rel => exact ⟨(x11_5 ++ ((rdOf ByteArray.empty l1 x78_5) ++ (⟨#[10]⟩ : ByteArray))), (wrap64 (x78_5 + 1)), (by first | rfl | (simp; done) | (simp [*]; done)), (by first | rfl | (simp; done) | (simp [*]; done)), H', ⟨by have := HJ3.out; have := HJ12.out; have := HK3.out; have := HK4.out; have := HK5.out; have := HJ41.out; omega⟩, ⟨by (with_reducible repeat (first | apply Kd.R_alloc | apply Kd.R_drewN | apply Kd.R_drew)); exact HO_7.out⟩, ⟨by (with_reducible repeat (first | apply Kd.R_alloc | apply Kd.R_drewN | apply Kd.R_drew)); exact HO_66.out⟩, ⟨by repeat (first | (with_reducible first | exact HB.out | apply below_alloc | apply pw_below_drewN | apply below_drew1) | exact HB.out)⟩⟩
                                                   · rw [if_neg c58] at H
                                                     exact absurd H (by simp)
                                                 · rw [if_neg c57] at H
                                                   exact absurd H (by simp)
                                             · rw [if_neg c54] at H
                                               have c54b0 : ((bt (rdOf ByteArray.empty l1 x78_5) 0) == 35) = false := beq_eq_false_iff_ne.mpr c54
                                               have c54b1 : ((bt (rdOf ByteArray.empty l1 x78_5) 0) != 35) = true := bne_iff_ne.mpr c54
                                               by_cases c60 : (bt (rdOf ByteArray.empty l1 x78_5) 0) = 59
                                               · rw [if_pos c60] at H
                                                 have c60b0 : ((bt (rdOf ByteArray.empty l1 x78_5) 0) == 59) = true := beq_iff_eq.mpr c60
                                                 have c60b1 : ((bt (rdOf ByteArray.empty l1 x78_5) 0) != 59) = false := bne_eq_false_iff_eq.mpr c60
                                                 clear c60
                                                 replace H := Option.bind_eq_some_iff.mp H
                                                 obtain ⟨t152, A610, H⟩ := H
                                                 (try dsimp only at H)
                                                 have A61 := Aside0.mk A610
                                                 clear A610
                                                 by_cases c62 : t152 = true
                                                 · subst c62
                                                   have H1 : (some true) = some r := by rw [if_pos rfl] at H; exact H
                                                   clear H
                                                   have H := H1
                                                   clear H1
                                                   obtain rfl := Option.some.inj H
                                                   go_wp2_with (first | ((with_reducible refine gate_callee (f := 20) rfl ?_); refine goesL_ (some 100) rfl rfl Tryd.func20 (by kernel_rfl) rfl #[.string (rdOf ByteArray.empty l1 x78_5)] rfl (by (try simp only [List.map_toArray, List.map_cons, List.map_nil]); first | done | rfl | (simp only [List.length_drop, List.length_take]; rfl)) ?_; (with_reducible refine (laws_printable.calls kj41 (rdOf ByteArray.empty l1 x78_5) true _ A46.out).mono ?_); rintro e w' ⟨rfl, ⟨nd, rfl⟩⟩; refine ⟨_, rfl, ?_⟩; have p53 : 0 ≤ (0 : Int) := (by omega); have q53 : 0 < (rdOf ByteArray.empty l1 x78_5).size := (by have : (0 : Int) < ((rdOf ByteArray.empty l1 x78_5).size : Int) := of_decide_eq_true (by first | (with_reducible assumption) | assumption); omega); have hx53 : ∀ h : 0 < (rdOf ByteArray.empty l1 x78_5).size, (((rdOf ByteArray.empty l1 x78_5)[0]'h).toNat : Int) = bt (rdOf ByteArray.empty l1 x78_5) 0 := bt_at (rdOf ByteArray.empty l1 x78_5) 0; clear p53; have qi53 : (0 < ((rdOf ByteArray.empty l1 x78_5).size : Int)) = True := eq_true (of_decide_eq_true (by first | (with_reducible assumption) | assumption)); replace q53 := eq_true q53; have p59 : 0 ≤ (0 : Int) := (by omega); have q59 : 0 < (rdOf ByteArray.empty l1 x78_5).size := (by have : (0 : Int) < ((rdOf ByteArray.empty l1 x78_5).size : Int) := of_decide_eq_true (by first | (with_reducible assumption) | assumption); omega); have hx59 : ∀ h : 0 < (rdOf ByteArray.empty l1 x78_5).size, (((rdOf ByteArray.empty l1 x78_5)[0]'h).toNat : Int) = bt (rdOf ByteArray.empty l1 x78_5) 0 := bt_at (rdOf ByteArray.empty l1 x78_5) 0; clear p59; have qi59 : (0 < ((rdOf ByteArray.empty l1 x78_5).size : Int)) = True := eq_true (of_decide_eq_true (by first | (with_reducible assumption) | assumption)); replace q59 := eq_true q59) | (go_at_call 21; (with_reducible refine (laws_goesOn.calls kj41 (rdOf ByteArray.empty l1 x78_5) true _ A61.out).mono ?_); rintro e w' ⟨rfl, ⟨nd, rfl⟩⟩))
                                                   go_ret
                                                   exact ⟨by first | rfl | (simp [errW_none, errW_some] <;> rfl) | (simp [*, errW_none, errW_some] <;> rfl), by repeat (first | (with_reducible first | exact HB.out | apply below_alloc | apply pw_below_drewN | apply below_drew1) | exact HB.out)⟩
                                                 · replace c62 := Bool.eq_false_iff.mpr c62
                                                   subst c62
                                                   have H1 : (if (rdOf ByteArray.empty l1 x78_5).size + 1 ≤ 9223372036854775807 then (if x11_5.size + ((rdOf ByteArray.empty l1 x78_5) ++ (⟨#[10]⟩ : ByteArray)).size ≤ 9223372036854775807 then (laws_FnUnitComments.l2 kj41 l0 l1 l2 x7_3 (x11_5 ++ ((rdOf ByteArray.empty l1 x78_5) ++ (⟨#[10]⟩ : ByteArray))) x68_4 x7_3 (x7_3.length : Int) x68_4 l1 (l1.length : Int) (wrap64 (x78_5 + 1))) else (none)) else (none)) = some r := by rw [if_neg (show ¬ (false = true) by decide)] at H; exact H
                                                   clear H
                                                   have H := H1
                                                   clear H1
                                                   by_cases c63 : (rdOf ByteArray.empty l1 x78_5).size + 1 ≤ 9223372036854775807
                                                   · rw [if_pos c63] at H
                                                     have c63b0 := eq_true c63
                                                     have c63b1 : decide ((rdOf ByteArray.empty l1 x78_5).size + 1 ≤ 9223372036854775807) = true := decide_eq_true c63
                                                     try have c63b2 : (9223372036854775807 < (rdOf ByteArray.empty l1 x78_5).size + 1) = False := eq_false (Nat.not_lt.2 c63)
                                                     by_cases c64 : x11_5.size + ((rdOf ByteArray.empty l1 x78_5) ++ (⟨#[10]⟩ : ByteArray)).size ≤ 9223372036854775807
                                                     · rw [if_pos c64] at H
                                                       have c64b0 := eq_true c64
                                                       have c64b1 : decide (x11_5.size + ((rdOf ByteArray.empty l1 x78_5) ++ (⟨#[10]⟩ : ByteArray)).size ≤ 9223372036854775807) = true := decide_eq_true c64
                                                       try have c64b2 : (9223372036854775807 < x11_5.size + ((rdOf ByteArray.empty l1 x78_5) ++ (⟨#[10]⟩ : ByteArray)).size) = False := eq_false (Nat.not_lt.2 c64)
                                                       have c64b3 : (9223372036854775807 < x11_5.size + ((rdOf ByteArray.empty l1 x78_5).size + 1)) = False := by have h_ := c64b2; simp only [ByteArray.size_append] at h_; exact h_
                                                       have H' := Aside0.mk H
                                                       clear H
                                                       go_wp2_with (first | ((with_reducible refine gate_callee (f := 20) rfl ?_); refine goesL_ (some 100) rfl rfl Tryd.func20 (by kernel_rfl) rfl #[.string (rdOf ByteArray.empty l1 x78_5)] rfl (by (try simp only [List.map_toArray, List.map_cons, List.map_nil]); first | done | rfl | (simp only [List.length_drop, List.length_take]; rfl)) ?_; (with_reducible refine (laws_printable.calls kj41 (rdOf ByteArray.empty l1 x78_5) true _ A46.out).mono ?_); rintro e w' ⟨rfl, ⟨nd, rfl⟩⟩; refine ⟨_, rfl, ?_⟩; have p53 : 0 ≤ (0 : Int) := (by omega); have q53 : 0 < (rdOf ByteArray.empty l1 x78_5).size := (by have : (0 : Int) < ((rdOf ByteArray.empty l1 x78_5).size : Int) := of_decide_eq_true (by first | (with_reducible assumption) | assumption); omega); have hx53 : ∀ h : 0 < (rdOf ByteArray.empty l1 x78_5).size, (((rdOf ByteArray.empty l1 x78_5)[0]'h).toNat : Int) = bt (rdOf ByteArray.empty l1 x78_5) 0 := bt_at (rdOf ByteArray.empty l1 x78_5) 0; clear p53; have qi53 : (0 < ((rdOf ByteArray.empty l1 x78_5).size : Int)) = True := eq_true (of_decide_eq_true (by first | (with_reducible assumption) | assumption)); replace q53 := eq_true q53; have p59 : 0 ≤ (0 : Int) := (by omega); have q59 : 0 < (rdOf ByteArray.empty l1 x78_5).size := (by have : (0 : Int) < ((rdOf ByteArray.empty l1 x78_5).size : Int) := of_decide_eq_true (by first | (with_reducible assumption) | assumption); omega); have hx59 : ∀ h : 0 < (rdOf ByteArray.empty l1 x78_5).size, (((rdOf ByteArray.empty l1 x78_5)[0]'h).toNat : Int) = bt (rdOf ByteArray.empty l1 x78_5) 0 := bt_at (rdOf ByteArray.empty l1 x78_5) 0; clear p59; have qi59 : (0 < ((rdOf ByteArray.empty l1 x78_5).size : Int)) = True := eq_true (of_decide_eq_true (by first | (with_reducible assumption) | assumption)); replace q59 := eq_true q59) | (go_at_call 21; (with_reducible refine (laws_goesOn.calls kj41 (rdOf ByteArray.empty l1 x78_5) false _ A61.out).mono ?_); rintro e w' ⟨rfl, ⟨nd, rfl⟩⟩))
                                                       go_roundg kj41
                                                       case measure => have := HJ3.out; have := HJ12.out; have := HK3.out; have := HK4.out; have := HK5.out; have := HJ41.out; omega
                                                       case rel => exact ⟨(x11_5 ++ ((rdOf ByteArray.empty l1 x78_5) ++ (⟨#[10]⟩ : ByteArray))), (wrap64 (x78_5 + 1)), (by first | rfl | (simp; done) | (simp [*]; done)), (by first | rfl | (simp; done) | (simp [*]; done)), H', ⟨by have := HJ3.out; have := HJ12.out; have := HK3.out; have := HK4.out; have := HK5.out; have := HJ41.out; omega⟩, ⟨by (with_reducible repeat (first | apply Kd.R_alloc | apply Kd.R_drewN | apply Kd.R_drew)); exact HO_7.out⟩, ⟨by (with_reducible repeat (first | apply Kd.R_alloc | apply Kd.R_drewN | apply Kd.R_drew)); exact HO_66.out⟩, ⟨by repeat (first | (with_reducible first | exact HB.out | apply below_alloc | apply pw_below_drewN | apply below_drew1) | exact HB.out)⟩⟩
                                                     · rw [if_neg c64] at H
                                                       exact absurd H (by simp)
                                                   · rw [if_neg c63] at H
                                                     exact absurd H (by simp)
                                               · rw [if_neg c60] at H
                                                 have c60b0 : ((bt (rdOf ByteArray.empty l1 x78_5) 0) == 59) = false := beq_eq_false_iff_ne.mpr c60
                                                 have c60b1 : ((bt (rdOf ByteArray.empty l1 x78_5) 0) != 59) = true := bne_iff_ne.mpr c60
                                                 obtain rfl := Option.some.inj H
                                                 go_wp2_with (first | ((with_reducible refine gate_callee (f := 20) rfl ?_); refine goesL_ (some 100) rfl rfl Tryd.func20 (by kernel_rfl) rfl #[.string (rdOf ByteArray.empty l1 x78_5)] rfl (by (try simp only [List.map_toArray, List.map_cons, List.map_nil]); first | done | rfl | (simp only [List.length_drop, List.length_take]; rfl)) ?_; (with_reducible refine (laws_printable.calls kj41 (rdOf ByteArray.empty l1 x78_5) true _ A46.out).mono ?_); rintro e w' ⟨rfl, ⟨nd, rfl⟩⟩; refine ⟨_, rfl, ?_⟩; have p53 : 0 ≤ (0 : Int) := (by omega); have q53 : 0 < (rdOf ByteArray.empty l1 x78_5).size := (by have : (0 : Int) < ((rdOf ByteArray.empty l1 x78_5).size : Int) := of_decide_eq_true (by first | (with_reducible assumption) | assumption); omega); have hx53 : ∀ h : 0 < (rdOf ByteArray.empty l1 x78_5).size, (((rdOf ByteArray.empty l1 x78_5)[0]'h).toNat : Int) = bt (rdOf ByteArray.empty l1 x78_5) 0 := bt_at (rdOf ByteArray.empty l1 x78_5) 0; clear p53; have qi53 : (0 < ((rdOf ByteArray.empty l1 x78_5).size : Int)) = True := eq_true (of_decide_eq_true (by first | (with_reducible assumption) | assumption)); replace q53 := eq_true q53; have p59 : 0 ≤ (0 : Int) := (by omega); have q59 : 0 < (rdOf ByteArray.empty l1 x78_5).size := (by have : (0 : Int) < ((rdOf ByteArray.empty l1 x78_5).size : Int) := of_decide_eq_true (by first | (with_reducible assumption) | assumption); omega); have hx59 : ∀ h : 0 < (rdOf ByteArray.empty l1 x78_5).size, (((rdOf ByteArray.empty l1 x78_5)[0]'h).toNat : Int) = bt (rdOf ByteArray.empty l1 x78_5) 0 := bt_at (rdOf ByteArray.empty l1 x78_5) 0; clear p59; have qi59 : (0 < ((rdOf ByteArray.empty l1 x78_5).size : Int)) = True := eq_true (of_decide_eq_true (by first | (with_reducible assumption) | assumption)); replace q59 := eq_true q59))
                                                 go_ret
                                                 exact ⟨by first | rfl | (simp [errW_none, errW_some] <;> rfl) | (simp [*, errW_none, errW_some] <;> rfl), by repeat (first | (with_reducible first | exact HB.out | apply below_alloc | apply pw_below_drewN | apply below_drew1) | exact HB.out)⟩
                                           · rw [if_neg c52] at H
                                             exact absurd H (by simp)
                                     · replace c47 := Bool.eq_false_iff.mpr c47
                                       subst c47
                                       have H1 : (some true) = some r := by rw [if_neg (show ¬ (false = true) by decide)] at H; exact H
                                       clear H
                                       have H := H1
                                       clear H1
                                       obtain rfl := Option.some.inj H
                                       go_wp2_with (first | ((with_reducible refine gate_callee (f := 20) rfl ?_); refine goesL_ (some 100) rfl rfl Tryd.func20 (by kernel_rfl) rfl #[.string (rdOf ByteArray.empty l1 x78_5)] rfl (by (try simp only [List.map_toArray, List.map_cons, List.map_nil]); first | done | rfl | (simp only [List.length_drop, List.length_take]; rfl)) ?_; (with_reducible refine (laws_printable.calls kj41 (rdOf ByteArray.empty l1 x78_5) false _ A46.out).mono ?_); rintro e w' ⟨rfl, ⟨nd, rfl⟩⟩; refine ⟨_, rfl, ?_⟩))
                                       go_ret
                                       exact ⟨by first | rfl | (simp [errW_none, errW_some] <;> rfl) | (simp [*, errW_none, errW_some] <;> rfl), by repeat (first | (with_reducible first | exact HB.out | apply below_alloc | apply pw_below_drewN | apply below_drew1) | exact HB.out)⟩
                                   · replace c45 := Bool.eq_false_iff.mpr c45
                                     subst c45
                                     have H1 : (laws_FnUnitComments.l2 kj41 l0 l1 l2 x7_3 x11_5 x68_4 x7_3 (x7_3.length : Int) x68_4 l1 (l1.length : Int) (wrap64 (x78_5 + 1))) = some r := by rw [if_neg (show ¬ (false = true) by decide)] at H; exact H
                                     clear H
                                     have H := H1
                                     clear H1
                                     have H' := Aside0.mk H
                                     clear H
                                     go_wp2
                                     go_roundg kj41
                                     case measure => have := HJ3.out; have := HJ12.out; have := HK3.out; have := HK4.out; have := HK5.out; have := HJ41.out; omega
                                     case rel => exact ⟨(x11_5), (wrap64 (x78_5 + 1)), (by first | rfl | (simp; done) | (simp [*]; done)), (by first | rfl | (simp; done) | (simp [*]; done)), H', ⟨by have := HJ3.out; have := HJ12.out; have := HK3.out; have := HK4.out; have := HK5.out; have := HJ41.out; omega⟩, ⟨by (with_reducible repeat (first | apply Kd.R_alloc | apply Kd.R_drewN | apply Kd.R_drew)); exact HO_7.out⟩, ⟨by (with_reducible repeat (first | apply Kd.R_alloc | apply Kd.R_drewN | apply Kd.R_drew)); exact HO_66.out⟩, ⟨by repeat (first | (with_reducible first | exact HB.out | apply below_alloc | apply pw_below_drewN | apply below_drew1) | exact HB.out)⟩⟩
                               · rw [if_neg c41] at H
                                 exact absurd H (by simp)
                             · rw [if_neg c40] at H
                               exact absurd H (by simp)
                           · rw [if_neg c39] at H
                             have c39b0 : decide (x78_5 < (l1.length : Int)) = false := decide_eq_false c39
                             clear c39
                             have H' := Aside0.mk H
                             clear H
                             go_wp2
                             go_roundg k5
                             case measure => have := HJ3.out; have := HJ12.out; have := HK3.out; have := HK4.out; have := HK5.out; omega
                             case rel => exact ⟨(x11_5), (wrap64 (x68_4 + 1)), (by first | rfl | (simp; done) | (simp [*]; done)), (by first | rfl | (simp; done) | (simp [*]; done)), H', ⟨by have := HJ3.out; have := HJ12.out; have := HK3.out; have := HK4.out; have := HK5.out; omega⟩, ⟨by (with_reducible repeat (first | apply Kd.R_alloc | apply Kd.R_drewN | apply Kd.R_drew)); exact HO_7.out⟩, ⟨by (with_reducible repeat (first | apply Kd.R_alloc | apply Kd.R_drewN | apply Kd.R_drew)); exact HO_66.out⟩, ⟨by repeat (first | (with_reducible first | exact HB.out | apply below_alloc | apply pw_below_drewN | apply below_drew1) | exact HB.out)⟩⟩
                       · rw [if_neg c38] at H
                         exact absurd H (by simp)
                     · rw [if_neg c37] at H
                       exact absurd H (by simp)
                   · rw [if_neg c36] at H
                     exact absurd H (by simp)
                 · rw [if_neg c35] at H
                   have c35b0 : decide (x68_4 < (x7_3.length : Int)) = false := decide_eq_false c35
                   clear c35
                   replace H := Option.bind_eq_some_iff.mp H
                   obtain ⟨⟨t153, t154⟩, A650, H⟩ := H
                   replace H : (if t154 = 0 then ((laws_grouped.f k4 l0).bind fun t157 => ((laws_sameOptions.f k4 t153 t157).bind fun t160 => (if t160 = true then ((laws_reads.f).bind fun t161 => (some t161)) else (some false)))) else (some false)) = some r := H
                   have A65 := Aside0.mk A650
                   clear A650
                   by_cases c66 : t154 = 0
                   · rw [if_pos c66] at H
                     have c66b0 : (t154 == 0) = true := beq_iff_eq.mpr c66
                     have c66b1 : (t154 != 0) = false := bne_eq_false_iff_eq.mpr c66
                     clear c66
                     replace H := Option.bind_eq_some_iff.mp H
                     obtain ⟨t157, A670, H⟩ := H
                     (try dsimp only at H)
                     have A67 := Aside0.mk A670
                     clear A670
                     replace H := Option.bind_eq_some_iff.mp H
                     obtain ⟨t160, A680, H⟩ := H
                     replace H : (if t160 = true then ((laws_reads.f).bind fun t161 => (some t161)) else (some false)) = some r := H
                     have A68 := Aside0.mk A680
                     clear A680
                     by_cases c69 : t160 = true
                     · subst c69
                       have H1 : ((laws_reads.f).bind fun t161 => (some t161)) = some r := by rw [if_pos rfl] at H; exact H
                       clear H
                       have H := H1
                       clear H1
                       replace H := Option.bind_eq_some_iff.mp H
                       obtain ⟨t161, A700, H⟩ := H
                       replace H : (some t161) = some r := H
                       have A70 := Aside0.mk A700
                       clear A700
                       obtain rfl := Option.some.inj H
                       go_wp2_with (first | ((with_reducible refine gate_callee (f := 22) rfl ?_); refine goesL_ (some 133) rfl rfl Tryd.func22 (by kernel_rfl) rfl #[.string x11_4] rfl (by (try simp only [List.map_toArray, List.map_cons, List.map_nil]); first | done | rfl | (simp only [List.length_drop, List.length_take]; rfl)) ?_; (with_reducible refine (impl_UnitRead.calls x11_4 t153 t154 _ A65.out).mono ?_); rintro e w71 ⟨v155, rfl, ho0, hb⟩; refine ⟨_, rfl, ?_⟩; have n0_ := Aside0.mk (Kd.R_below (by (with_reducible repeat (first | apply Kd.R_alloc | apply Kd.R_drewN | apply Kd.R_drew)); exact HO_7.out) hb); have n1_ := Aside0.mk (Kd.R_below (by (with_reducible repeat (first | apply Kd.R_alloc | apply Kd.R_drewN | apply Kd.R_drew)); exact HO_66.out) hb); have n2_ := Aside0.mk (Kd.R_lower ho0 (below_size (by repeat (first | (with_reducible first | exact HB.out | apply below_alloc | apply pw_below_drewN | apply below_drew1) | exact HB.out)))); have n3_ := Aside0.mk (below_step (by repeat (first | (with_reducible first | exact HB.out | apply below_alloc | apply pw_below_drewN | apply below_drew1) | exact HB.out)) hb); clear HO_7; clear HO_66; clear HB; have HO_7 := n0_; have HO_66 := n1_; have HO156 := n2_; have HB := n3_; clear n0_ n1_ n2_ n3_; (try clear hb); (try clear hb2); (try clear hk); (try clear hi); (try clear ho0)) | (go_at_call 24; (with_reducible refine (laws_grouped.calls k4 _ _ l0 t157 _ ?side1 ?side2 A67.out).mono ?_); (case side1 => repeat (first | exact (Kd.C_below HR0.out HB.out) | (with_reducible refine Kd.C_alloc ?_ _) | (with_reducible refine Kd.C_drewN ?_ _) | (with_reducible refine Kd.C_drew ?_))); (case side2 => exact HC0.out); rintro e w72 ⟨v158, rfl, ho0, hb⟩; have n0_ := Aside0.mk (Kd.R_below (by (with_reducible repeat (first | apply Kd.R_alloc | apply Kd.R_drewN | apply Kd.R_drew)); exact HO_7.out) hb); have n1_ := Aside0.mk (Kd.R_below (by (with_reducible repeat (first | apply Kd.R_alloc | apply Kd.R_drewN | apply Kd.R_drew)); exact HO_66.out) hb); have n2_ := Aside0.mk (Kd.R_below (by (with_reducible repeat (first | apply Kd.R_alloc | apply Kd.R_drewN | apply Kd.R_drew)); exact HO156.out) hb); have n3_ := Aside0.mk (Kd.R_lower ho0 (below_size (by repeat (first | (with_reducible first | exact HB.out | apply below_alloc | apply pw_below_drewN | apply below_drew1) | exact HB.out)))); have n4_ := Aside0.mk (below_step (by repeat (first | (with_reducible first | exact HB.out | apply below_alloc | apply pw_below_drewN | apply below_drew1) | exact HB.out)) hb); clear HO_7; clear HO_66; clear HO156; clear HB; have HO_7 := n0_; have HO_66 := n1_; have HO156 := n2_; have HO159 := n3_; have HB := n4_; clear n0_ n1_ n2_ n3_ n4_; (try clear hb); (try clear hb2); (try clear hk); (try clear hi); (try clear ho0); obtain ⟨Ao73, co73, eo73⟩ := Kd.R_slice HO156.out; subst eo73; obtain ⟨Ao74, co74, eo74⟩ := Kd.R_slice HO159.out; subst eo74) | (go_at_call 23; (with_reducible refine (laws_sameOptions.calls k4 _ _ t153 _ _ t157 true _ ?side1 ?side2 ?side3 ?side4 A68.out).mono ?_); (case side1 => repeat (first | exact (Kd.R_reads' HO156.out).2.2 | (with_reducible refine Kd.C_alloc ?_ _) | (with_reducible refine Kd.C_drewN ?_ _) | (with_reducible refine Kd.C_drew ?_))); (case side2 => exact (Kd.R_reads' HO156.out).2.1); (case side3 => repeat (first | exact (Kd.R_reads' HO159.out).2.2 | (with_reducible refine Kd.C_alloc ?_ _) | (with_reducible refine Kd.C_drewN ?_ _) | (with_reducible refine Kd.C_drew ?_))); (case side4 => exact (Kd.R_reads' HO159.out).2.1); rintro e w' ⟨rfl, ⟨nd, rfl⟩⟩) | (go_at_call 16; (with_reducible refine (laws_reads.calls  t161 _ A70.out).mono ?_); rintro e w75 ⟨rfl, hb⟩; have n0_ := Aside0.mk (Kd.R_below (by (with_reducible repeat (first | apply Kd.R_alloc | apply Kd.R_drewN | apply Kd.R_drew)); exact HO_7.out) hb); have n1_ := Aside0.mk (Kd.R_below (by (with_reducible repeat (first | apply Kd.R_alloc | apply Kd.R_drewN | apply Kd.R_drew)); exact HO_66.out) hb); have n2_ := Aside0.mk (Kd.R_below (by (with_reducible repeat (first | apply Kd.R_alloc | apply Kd.R_drewN | apply Kd.R_drew)); exact HO156.out) hb); have n3_ := Aside0.mk (Kd.R_below (by (with_reducible repeat (first | apply Kd.R_alloc | apply Kd.R_drewN | apply Kd.R_drew)); exact HO159.out) hb); have n4_ := Aside0.mk (below_step (by repeat (first | (with_reducible first | exact HB.out | apply below_alloc | apply pw_below_drewN | apply below_drew1) | exact HB.out)) hb); clear HO_7; clear HO_66; clear HO156; clear HO159; clear HB; have HO_7 := n0_; have HO_66 := n1_; have HO156 := n2_; have HO159 := n3_; have HB := n4_; clear n0_ n1_ n2_ n3_ n4_; (try clear hb); (try clear hb2); (try clear hk); (try clear hi)))
                       go_ret
                       exact ⟨by first | rfl | (simp [errW_none, errW_some] <;> rfl) | (simp [*, errW_none, errW_some] <;> rfl), by repeat (first | (with_reducible first | exact HB.out | apply below_alloc | apply pw_below_drewN | apply below_drew1) | exact HB.out)⟩
                     · replace c69 := Bool.eq_false_iff.mpr c69
                       subst c69
                       have H1 : (some false) = some r := by rw [if_neg (show ¬ (false = true) by decide)] at H; exact H
                       clear H
                       have H := H1
                       clear H1
                       obtain rfl := Option.some.inj H
                       go_wp2_with (first | ((with_reducible refine gate_callee (f := 22) rfl ?_); refine goesL_ (some 133) rfl rfl Tryd.func22 (by kernel_rfl) rfl #[.string x11_4] rfl (by (try simp only [List.map_toArray, List.map_cons, List.map_nil]); first | done | rfl | (simp only [List.length_drop, List.length_take]; rfl)) ?_; (with_reducible refine (impl_UnitRead.calls x11_4 t153 t154 _ A65.out).mono ?_); rintro e w76 ⟨v155, rfl, ho0, hb⟩; refine ⟨_, rfl, ?_⟩; have n0_ := Aside0.mk (Kd.R_below (by (with_reducible repeat (first | apply Kd.R_alloc | apply Kd.R_drewN | apply Kd.R_drew)); exact HO_7.out) hb); have n1_ := Aside0.mk (Kd.R_below (by (with_reducible repeat (first | apply Kd.R_alloc | apply Kd.R_drewN | apply Kd.R_drew)); exact HO_66.out) hb); have n2_ := Aside0.mk (Kd.R_lower ho0 (below_size (by repeat (first | (with_reducible first | exact HB.out | apply below_alloc | apply pw_below_drewN | apply below_drew1) | exact HB.out)))); have n3_ := Aside0.mk (below_step (by repeat (first | (with_reducible first | exact HB.out | apply below_alloc | apply pw_below_drewN | apply below_drew1) | exact HB.out)) hb); clear HO_7; clear HO_66; clear HB; have HO_7 := n0_; have HO_66 := n1_; have HO156 := n2_; have HB := n3_; clear n0_ n1_ n2_ n3_; (try clear hb); (try clear hb2); (try clear hk); (try clear hi); (try clear ho0)) | (go_at_call 24; (with_reducible refine (laws_grouped.calls k4 _ _ l0 t157 _ ?side1 ?side2 A67.out).mono ?_); (case side1 => repeat (first | exact (Kd.C_below HR0.out HB.out) | (with_reducible refine Kd.C_alloc ?_ _) | (with_reducible refine Kd.C_drewN ?_ _) | (with_reducible refine Kd.C_drew ?_))); (case side2 => exact HC0.out); rintro e w77 ⟨v158, rfl, ho0, hb⟩; have n0_ := Aside0.mk (Kd.R_below (by (with_reducible repeat (first | apply Kd.R_alloc | apply Kd.R_drewN | apply Kd.R_drew)); exact HO_7.out) hb); have n1_ := Aside0.mk (Kd.R_below (by (with_reducible repeat (first | apply Kd.R_alloc | apply Kd.R_drewN | apply Kd.R_drew)); exact HO_66.out) hb); have n2_ := Aside0.mk (Kd.R_below (by (with_reducible repeat (first | apply Kd.R_alloc | apply Kd.R_drewN | apply Kd.R_drew)); exact HO156.out) hb); have n3_ := Aside0.mk (Kd.R_lower ho0 (below_size (by repeat (first | (with_reducible first | exact HB.out | apply below_alloc | apply pw_below_drewN | apply below_drew1) | exact HB.out)))); have n4_ := Aside0.mk (below_step (by repeat (first | (with_reducible first | exact HB.out | apply below_alloc | apply pw_below_drewN | apply below_drew1) | exact HB.out)) hb); clear HO_7; clear HO_66; clear HO156; clear HB; have HO_7 := n0_; have HO_66 := n1_; have HO156 := n2_; have HO159 := n3_; have HB := n4_; clear n0_ n1_ n2_ n3_ n4_; (try clear hb); (try clear hb2); (try clear hk); (try clear hi); (try clear ho0); obtain ⟨Ao78, co78, eo78⟩ := Kd.R_slice HO156.out; subst eo78; obtain ⟨Ao79, co79, eo79⟩ := Kd.R_slice HO159.out; subst eo79) | (go_at_call 23; (with_reducible refine (laws_sameOptions.calls k4 _ _ t153 _ _ t157 false _ ?side1 ?side2 ?side3 ?side4 A68.out).mono ?_); (case side1 => repeat (first | exact (Kd.R_reads' HO156.out).2.2 | (with_reducible refine Kd.C_alloc ?_ _) | (with_reducible refine Kd.C_drewN ?_ _) | (with_reducible refine Kd.C_drew ?_))); (case side2 => exact (Kd.R_reads' HO156.out).2.1); (case side3 => repeat (first | exact (Kd.R_reads' HO159.out).2.2 | (with_reducible refine Kd.C_alloc ?_ _) | (with_reducible refine Kd.C_drewN ?_ _) | (with_reducible refine Kd.C_drew ?_))); (case side4 => exact (Kd.R_reads' HO159.out).2.1); rintro e w' ⟨rfl, ⟨nd, rfl⟩⟩))
                       go_ret
                       exact ⟨by first | rfl | (simp [errW_none, errW_some] <;> rfl) | (simp [*, errW_none, errW_some] <;> rfl), by repeat (first | (with_reducible first | exact HB.out | apply below_alloc | apply pw_below_drewN | apply below_drew1) | exact HB.out)⟩
                   · rw [if_neg c66] at H
                     have c66b0 : (t154 == 0) = false := beq_eq_false_iff_ne.mpr c66
                     have c66b1 : (t154 != 0) = true := bne_iff_ne.mpr c66
                     obtain rfl := Option.some.inj H
                     go_wp2_with (first | ((with_reducible refine gate_callee (f := 22) rfl ?_); refine goesL_ (some 133) rfl rfl Tryd.func22 (by kernel_rfl) rfl #[.string x11_4] rfl (by (try simp only [List.map_toArray, List.map_cons, List.map_nil]); first | done | rfl | (simp only [List.length_drop, List.length_take]; rfl)) ?_; (with_reducible refine (impl_UnitRead.calls x11_4 t153 t154 _ A65.out).mono ?_); rintro e w80 ⟨v155, rfl, ho0, hb⟩; refine ⟨_, rfl, ?_⟩; have n0_ := Aside0.mk (Kd.R_below (by (with_reducible repeat (first | apply Kd.R_alloc | apply Kd.R_drewN | apply Kd.R_drew)); exact HO_7.out) hb); have n1_ := Aside0.mk (Kd.R_below (by (with_reducible repeat (first | apply Kd.R_alloc | apply Kd.R_drewN | apply Kd.R_drew)); exact HO_66.out) hb); have n2_ := Aside0.mk (Kd.R_lower ho0 (below_size (by repeat (first | (with_reducible first | exact HB.out | apply below_alloc | apply pw_below_drewN | apply below_drew1) | exact HB.out)))); have n3_ := Aside0.mk (below_step (by repeat (first | (with_reducible first | exact HB.out | apply below_alloc | apply pw_below_drewN | apply below_drew1) | exact HB.out)) hb); clear HO_7; clear HO_66; clear HB; have HO_7 := n0_; have HO_66 := n1_; have HO156 := n2_; have HB := n3_; clear n0_ n1_ n2_ n3_; (try clear hb); (try clear hb2); (try clear hk); (try clear hi); (try clear ho0)))
                     go_ret
                     exact ⟨by first | rfl | (simp [errW_none, errW_some] <;> rfl) | (simp [*, errW_none, errW_some] <;> rfl), by repeat (first | (with_reducible first | exact HB.out | apply below_alloc | apply pw_below_drewN | apply below_drew1) | exact HB.out)⟩
             · rw [if_neg c33] at H
               have c33b0 : (x8_3 == (t143.size : Int)) = false := beq_eq_false_iff_ne.mpr c33
               have c33b1 : (x8_3 != (t143.size : Int)) = true := bne_iff_ne.mpr c33
               obtain rfl := Option.some.inj H
               go_wp2
               go_ret
               exact ⟨by first | rfl | (simp [errW_none, errW_some] <;> rfl) | (simp [*, errW_none, errW_some] <;> rfl), by repeat (first | (with_reducible first | exact HB.out | apply below_alloc | apply pw_below_drewN | apply below_drew1) | exact HB.out)⟩
end Go.Proofs.YtocdnceckljnaaaDoor.QV0
