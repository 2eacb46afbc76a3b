/- The texts QA0xB, BBuddyinfo, Bu, without what the claims do not use, laid together by a program of this session (wip/tools/bundle.py). Conditions: those of each theorem. -/
import Derived.Test.YtabfehcpcjcomaaGreatDoorIc3
namespace Go.Proofs.YtabfehcpcjcomaaGreatDoor.QA0
open Go.RowKit Go.Proofs.YtabfehcpcjcomaaGreatDoorW.PrintWords Go.Proofs.YtabfehcpcjcomaaGreatDoorW.PrintLast Go.Proofs.YtabfehcpcjcomaaGreatDoorW.PrintMore
attribute [local go_sem] max2_int min2_int max_two min_two max_three min_three max_four min_four
set_option linter.unusedVariables false
set_option linter.unusedSimpArgs false
def strconv_ParseFloat.f (a0 : ByteArray) (a1 : Int) : Option (Nat × Option Int) := R.floatF a0 a1
theorem strconv_ParseFloat.calls (a0 : ByteArray) (a1 : Int) (r1 : Nat) (r2 : Option Int) (w : World) (h : strconv_ParseFloat.f a0 a1 = some (r1, r2)) (ht : R.LTabs w := by first | assumption | exact Aside0.out ‹Aside0 (R.LTabs _)› | exact R.LTabs.below (Aside0.out ‹Aside0 (R.LTabs _)›) (by repeat (first | (with_reducible first | exact Aside0.out ‹Aside0 (Below _ _ _)› | exact Below.refl _ _ | apply below_alloc | apply pw_below_drewN | apply below_drew1)))) :
 Calls Tryz.prog 133 #[.string a0, .int .i64 a1] w fun e w' => e = .returned (.tuple #[.float .f64 r1, errW r2]) ∧ Drawn0 w w' :=
 (R.float_calls a0 a1 r1 r2 w h ht).mono fun e w' ⟨he, hr, hw⟩ => ⟨by rw [he, hr, errW_none], by rw [hw]; exact Drawn0.refl _⟩
def stringslite_HasSuffix.f (a0 : ByteArray) (a1 : ByteArray) : Option (Bool) := if (a0.size : Int) ≥ (a1.size : Int) then (if 0 ≤ (wrap64 ((a0.size : Int) - (a1.size : Int))) then (if (wrap64 ((a0.size : Int) - (a1.size : Int))) ≤ (a0.size : Int) then (some ((a0.extract ((wrap64 ((a0.size : Int) - (a1.size : Int))) : Int).toNat a0.size).toList == a1.toList)) else (none)) else (none)) else (some false)
set_option maxHeartbeats 8000000 in
set_option maxRecDepth 100000 in
theorem stringslite_HasSuffix.calls (a0 : ByteArray) (a1 : ByteArray) (r : Bool) (w : World) (h : stringslite_HasSuffix.f a0 a1 = some r) :
 Calls Tryz.prog 158 #[.string a0, .string a1] w fun e w' => e = .returned (.bool r) ∧ Drawn0 w w' := by
 have H : (if (a0.size : Int) ≥ (a1.size : Int) then (if 0 ≤ (wrap64 ((a0.size : Int) - (a1.size : Int))) then (if (wrap64 ((a0.size : Int) - (a1.size : Int))) ≤ (a0.size : Int) then (some ((a0.extract ((wrap64 ((a0.size : Int) - (a1.size : Int))) : Int).toNat a0.size).toList == a1.toList)) else (none)) else (none)) else (some false)) = some r := h; clear h
 by_cases c3 : (a0.size : Int) ≥ (a1.size : Int)
 · rw [if_pos c3] at H; have c3b0 : decide ((a1.size : Int) ≤ (a0.size : Int)) = true := decide_eq_true c3; have c3b1 : decide (a1.size ≤ a0.size) = true := decide_eq_true (Int.ofNat_le.mp c3); clear c3; obtain ⟨ji4, hji4⟩ : ∃ j_ : Int, (wrap64 ((a0.size : Int) - (a1.size : Int))) = j_ := ⟨_, rfl⟩
   replace H : (if 0 ≤ (ji4) then (if (ji4) ≤ (a0.size : Int) then (some ((a0.extract ((ji4) : Int).toNat a0.size).toList == a1.toList)) else (none)) else (none)) = some r := by first | (rw [hji4] at H; exact H) | (simp only [hji4] at H ⊢; exact H)
   have hji4w : (IntKind.i64.wrap ((a0.size : Int) - (a1.size : Int))) = ji4 := (i64_w _).trans hji4
   by_cases c5 : 0 ≤ (ji4)
   · rw [if_pos c5] at H; have c5b0 := eq_true c5; have c5b1 : decide (0 ≤ (ji4)) = true := decide_eq_true c5; clear c5
     by_cases c6 : (ji4) ≤ (a0.size : Int)
     · rw [if_pos c6] at H; have c6b0 := eq_true c6; have c6b1 : decide ((ji4) ≤ (a0.size : Int)) = true := decide_eq_true c6; clear c6; obtain rfl := Option.some.inj H
       go_enter Tryz.func158, Tryz.ntmps158
       go_wp2
       go_ret
       exact ⟨by first | rfl | (simp; done) | (simp only [← hji4] <;> (first | rfl | simp)) | (simp [*]; done), by repeat (first | exact Drawn0.refl _ | apply Drawn0.step)⟩
     · rw [if_neg c6] at H; exact absurd H (by simp)
   · rw [if_neg c5] at H; exact absurd H (by simp)
 · rw [if_neg c3] at H; have c3b0 : decide ((a1.size : Int) ≤ (a0.size : Int)) = false := decide_eq_false c3; have c3b1 : decide (a1.size ≤ a0.size) = false := decide_eq_false (fun h => c3 (Int.ofNat_le.mpr h)); clear c3; obtain rfl := Option.some.inj H
   go_enter Tryz.func158, Tryz.ntmps158
   go_wp2
   go_ret
   exact ⟨by first | rfl | (simp; done) | (simp [*]; done) | (simp; cases a0.toList <;> rfl), by repeat (first | exact Drawn0.refl _ | apply Drawn0.step)⟩
def stringslite_TrimSuffix.f (a0 : ByteArray) (a1 : ByteArray) : Option (ByteArray) := (stringslite_HasSuffix.f a0 a1).bind fun t1534 => (if t1534 = true then (if 0 ≤ (wrap64 ((a0.size : Int) - (a1.size : Int))) then (if (wrap64 ((a0.size : Int) - (a1.size : Int))) ≤ (a0.size : Int) then (some (a0.extract 0 ((wrap64 ((a0.size : Int) - (a1.size : Int))) : Int).toNat)) else (none)) else (none)) else (some a0))
set_option maxHeartbeats 8000000 in
set_option maxRecDepth 100000 in
theorem stringslite_TrimSuffix.calls (a0 : ByteArray) (a1 : ByteArray) (r : ByteArray) (w : World) (h : stringslite_TrimSuffix.f a0 a1 = some r) :
 Calls Tryz.prog 148 #[.string a0, .string a1] w fun e w' => e = .returned (.string r) ∧ Drawn0 w w' := by
 have H : ((stringslite_HasSuffix.f a0 a1).bind fun t1534 => (if t1534 = true then (if 0 ≤ (wrap64 ((a0.size : Int) - (a1.size : Int))) then (if (wrap64 ((a0.size : Int) - (a1.size : Int))) ≤ (a0.size : Int) then (some (a0.extract 0 ((wrap64 ((a0.size : Int) - (a1.size : Int))) : Int).toNat)) else (none)) else (none)) else (some a0))) = some r := h; clear h; replace H := Option.bind_eq_some_iff.mp H; obtain ⟨t1534, A30, H⟩ := H; (try dsimp only at H); have A3 := Aside0.mk A30; clear A30
 by_cases c4 : t1534 = true
 · subst c4; rw [if_pos rfl] at H; have H1 := H; clear H; have H := H1; clear H1; obtain ⟨ji5, hji5⟩ : ∃ j_ : Int, (wrap64 ((a0.size : Int) - (a1.size : Int))) = j_ := ⟨_, rfl⟩
   replace H : (if 0 ≤ (ji5) then (if (ji5) ≤ (a0.size : Int) then (some (a0.extract 0 ((ji5) : Int).toNat)) else (none)) else (none)) = some r := by first | (rw [hji5] at H; exact H) | (simp only [hji5] at H ⊢; exact H)
   (try rw [hji5] at A3); have hji5w : (IntKind.i64.wrap ((a0.size : Int) - (a1.size : Int))) = ji5 := (i64_w _).trans hji5
   by_cases c6 : 0 ≤ (ji5)
   · rw [if_pos c6] at H; have c6b0 := eq_true c6; have c6b1 : decide (0 ≤ (ji5)) = true := decide_eq_true c6; clear c6
     by_cases c7 : (ji5) ≤ (a0.size : Int)
     · rw [if_pos c7] at H; have c7b0 := eq_true c7; have c7b1 : decide ((ji5) ≤ (a0.size : Int)) = true := decide_eq_true c7; clear c7; obtain rfl := Option.some.inj H
       go_enter Tryz.func148, Tryz.ntmps148
       go_wp2_with (first | ((with_reducible refine gate_callee (f := 158) rfl ?_); refine goesL_ (some 7) rfl rfl Tryz.func158 (by kernel_rfl) rfl #[.string a0, .string a1] rfl R.tp ?_; (with_reducible refine (stringslite_HasSuffix.calls a0 a1 true _ A3.out).mono ?_); rintro e w' ⟨rfl, ⟨nd, rfl⟩⟩; refine ⟨_, rfl, ?_⟩))
       go_ret
       exact ⟨by first | rfl | (simp; done) | (simp only [← hji5] <;> (first | rfl | simp)) | (simp [*]; done), by repeat (first | exact Drawn0.refl _ | apply Drawn0.step)⟩
     · rw [if_neg c7] at H; exact absurd H (by simp)
   · rw [if_neg c6] at H; exact absurd H (by simp)
 · replace c4 := Bool.eq_false_iff.mpr c4; subst c4
   have H1 : (some a0) = some r := by rw [if_neg (show ¬ (false = true) by decide)] at H; exact H
   clear H; have H := H1; clear H1; obtain rfl := Option.some.inj H
   go_enter Tryz.func148, Tryz.ntmps148
   go_wp2_with (first | ((with_reducible refine gate_callee (f := 158) rfl ?_); refine goesL_ (some 7) rfl rfl Tryz.func158 (by kernel_rfl) rfl #[.string a0, .string a1] rfl R.tp ?_; (with_reducible refine (stringslite_HasSuffix.calls a0 a1 false _ A3.out).mono ?_); rintro e w' ⟨rfl, ⟨nd, rfl⟩⟩; refine ⟨_, rfl, ?_⟩))
   go_ret
   exact ⟨by first | rfl | (simp; done) | (simp [*]; done) | (simp; cases a0.toList <;> rfl), by repeat (first | exact Drawn0.refl _ | apply Drawn0.step)⟩
def strings_TrimSuffix.f (a0 : ByteArray) (a1 : ByteArray) : Option (ByteArray) := (stringslite_TrimSuffix.f a0 a1).bind fun t1535 => (some t1535)
set_option maxHeartbeats 8000000 in
set_option maxRecDepth 100000 in
theorem strings_TrimSuffix.calls (a0 : ByteArray) (a1 : ByteArray) (r : ByteArray) (w : World) (h : strings_TrimSuffix.f a0 a1 = some r) :
 Calls Tryz.prog 138 #[.string a0, .string a1] w fun e w' => e = .returned (.string r) ∧ Drawn0 w w' := by
 have H : ((stringslite_TrimSuffix.f a0 a1).bind fun t1535 => (some t1535)) = some r := h; clear h; replace H := Option.bind_eq_some_iff.mp H; obtain ⟨t1535, A30, H⟩ := H; replace H : (some t1535) = some r := H; have A3 := Aside0.mk A30; clear A30; obtain rfl := Option.some.inj H
 go_enter Tryz.func138, Tryz.ntmps138
 go_wp2_with (first | ((with_reducible refine gate_callee (f := 148) rfl ?_); refine goesL_ (some 7) rfl rfl Tryz.func148 (by kernel_rfl) rfl #[.string a0, .string a1] rfl R.tp ?_; (with_reducible refine (stringslite_TrimSuffix.calls a0 a1 t1535 _ A3.out).mono ?_); rintro e w' ⟨rfl, ⟨nd, rfl⟩⟩; refine ⟨_, rfl, ?_⟩))
 go_ret
 exact ⟨by first | rfl | (simp; done) | (simp [*]; done) | (simp; cases a0.toList <;> rfl), by repeat (first | exact Drawn0.refl _ | apply Drawn0.step)⟩
def texts_Lines_Err.f (s0_0 : ByteArray) (s0_1 : ByteArray) (s0_2 : Int) (s0_3 : Option Int) : Option (Option Int × ByteArray × ByteArray × Int × Option Int) := some (s0_3, s0_0, s0_1, s0_2, s0_3)
set_option maxHeartbeats 8000000 in
set_option maxRecDepth 100000 in
theorem texts_Lines_Err.calls (g : Nat) (s0_0 : ByteArray) (s0_1 : ByteArray) (s0_2 : Int) (s0_3 : Option Int) (r1 : Option Int) (r2 : ByteArray) (r3 : ByteArray) (r4 : Int) (r5 : Option Int) (w0 w : World) (hI : IsS187 w0 w g s0_0 s0_1 s0_2 s0_3) (hB : Below w0.heap.size w0 w) (h : texts_Lines_Err.f s0_0 s0_1 s0_2 s0_3 = some (r1, r2, r3, r4, r5)) :
 Calls Tryz.prog 139 #[.pointer (some ⟨g, 0, none⟩)] w fun e w' => e = .returned (errW r1) ∧ IsS187 w0 w' g r2 r3 r4 r5 ∧ Below w0.heap.size w0 w' ∧ KeepBut w w' g none := by
 have HI0 := Aside0.mk hI; have HK := Aside0.mk (KeepBut.refl w g none); have HL := Aside0.mk hB.size; clear hI; have HW0 := Aside0.mk hB.size; have HB := Aside0.mk hB; clear hB; have H : (some (s0_3, s0_0, s0_1, s0_2, s0_3)) = some (r1, r2, r3, r4, r5) := h; clear h; simp only [Option.some.injEq, Prod.mk.injEq] at H; obtain ⟨rfl, rfl, rfl, rfl, rfl⟩ := H; obtain ⟨HGz2, hgz2⟩ := HI0.out; have hcz2_0 := cellS187_0 HGz2; have hcz2_1 := cellS187_1 HGz2; have hcz2_2 := cellS187_2 HGz2; have hcz2_3 := cellS187_3 HGz2; have hfz2_0 := blk_frozen HGz2 0; have hfz2_1 := blk_frozen HGz2 1; have hfz2_2 := blk_frozen HGz2 2; have hfz2_3 := blk_frozen HGz2 3; clear HGz2 hgz2
 go_enter Tryz.func139, Tryz.ntmps139
 go_wp2
 go_ret
 exact ⟨by first | rfl | (simp [errW_none, errW_some] <;> rfl) | (simp [*, errW_none, errW_some] <;> rfl), by repeat (first | (with_reducible first | exact HI0.out | apply IsS187.alloc | apply IsS187.drewN | apply IsS187.drew | apply IsS187.set_0 | apply IsS187.set_1 | apply IsS187.set_2 | apply IsS187.set_3) | exact HI0.out), by repeat (first | (with_reducible first | exact HB.out | apply below_alloc | apply pw_below_drewN | apply below_drew1 | refine below_set ?_ (IsS187.ge HI0.out)) | exact HB.out), by repeat (first | (with_reducible first | exact HK.out | apply KeepBut.set_ | apply keep_drewN | apply keep_drew | apply keep_alloc) | exact HK.out)⟩
mutual
def procfs_parseBuddyInfo.l0 : Nat → List (S79) → Int → ByteArray → ByteArray → Int → Option Int → Option ((List (S79)) × Option Int)
 | 0, _, _, _, _, _, _ => none
 | k + 1, x4, x6, x1544000, x1544001, x1544002, x1544003 => (texts_Lines_Scan.f x1544000 x1544001 x1544002 x1544003).bind fun bt1544 => (if bt1544.1 = true then ((texts_Lines_Text.f bt1544.2.1 bt1544.2.2.1 bt1544.2.2.2.1 bt1544.2.2.2.2).bind fun bt1554 => ((strings_Fields.f bt1554.1).bind fun t1559 => (if (t1559.length : Int) < 4 then (none) else (if 1 < (t1559.length : Int) then ((strings_TrimSuffix.f (rdOf ByteArray.empty t1559 1) (⟨#[44]⟩ : ByteArray)).bind fun t1563 => (if 3 < (t1559.length : Int) then ((strings_TrimSuffix.f (rdOf ByteArray.empty t1559 3) (⟨#[44]⟩ : ByteArray)).bind fun t1565 => (if 4 ≤ (t1559.length : Int) then ((some (t1559.drop 4 : List ByteArray)).bind fun y1566 => (if x6 = (-1) then (procfs_parseBuddyInfo.j1 k x4 (y1566.length : Int) t1559 t1563 t1565 (y1566.length : Int) bt1554.2.1 bt1554.2.2.1 bt1554.2.2.2.1 bt1554.2.2.2.2) else (if x6 = (y1566.length : Int) then (procfs_parseBuddyInfo.j1 k x4 x6 t1559 t1563 t1565 (y1566.length : Int) bt1554.2.1 bt1554.2.2.1 bt1554.2.2.2.1 bt1554.2.2.2.2) else (none)))) else (none))) else (none))) else (none))))) else ((texts_Lines_Err.f bt1544.2.1 bt1544.2.2.1 bt1544.2.2.2.1 bt1544.2.2.2.2).bind fun bt1549 => (some (x4, bt1549.1))))
def procfs_parseBuddyInfo.j1 : Nat → List (S79) → Int → List ByteArray → ByteArray → ByteArray → Int → ByteArray → ByteArray → Int → Option Int → Option ((List (S79)) × Option Int)
 | 0, _, _, _, _, _, _, _, _, _, _ => none
 | k + 1, x4, x6, x9, x10, x11, x12, x1544000, x1544001, x1544002, x1544003 => if 0 ≤ x12 then (if (x12 : Int).toNat ≤ 35184372088832 then (procfs_parseBuddyInfo.l1 k x4 x6 x9 x10 x11 (List.replicate (x12 : Int).toNat 0) x12 0 x1544000 x1544001 x1544002 x1544003) else (none)) else (none)
def procfs_parseBuddyInfo.l1 : Nat → List (S79) → Int → List ByteArray → ByteArray → ByteArray → List Nat → Int → Int → ByteArray → ByteArray → Int → Option Int → Option ((List (S79)) × Option Int)
 | 0, _, _, _, _, _, _, _, _, _, _, _, _ => none
 | k + 1, x4, x6, x9, x10, x11, x13, x48, x49, x1544000, x1544001, x1544002, x1544003 => if x49 < x48 then (if 0 ≤ (wrap64 (x49 + 4)) then (if (wrap64 (x49 + 4)) < (x9.length : Int) then ((strconv_ParseFloat.f (rdOf ByteArray.empty x9 (wrap64 (x49 + 4))) 64).bind fun bt1574 => (if 0 ≤ x49 then (if x49 < (x13.length : Int) then (if bt1574.2.isNone = true then (procfs_parseBuddyInfo.l1 k x4 x6 x9 x10 x11 (x13.set (x49 : Int).toNat bt1574.1) x48 (wrap64 (x49 + 1)) x1544000 x1544001 x1544002 x1544003) else (none)) else (none)) else (none))) else (none)) else (none)) else (if x4.length < 2513169434916 then (procfs_parseBuddyInfo.l0 k (x4 ++ [(⟨x10, x11, x13⟩ : S79)]) x6 x1544000 x1544001 x1544002 x1544003) else (none))
end
def procfs_parseBuddyInfo.f (k : Nat) (a0 : ByteArray) : Option ((List (S79)) × Option Int) := (texts_NewLines.f a0).bind fun bt1539 => (procfs_parseBuddyInfo.l0 k (([] : List (S79))) (-1) bt1539.1 bt1539.2.1 bt1539.2.2.1 bt1539.2.2.2)
set_option maxHeartbeats 8000000 in
set_option maxRecDepth 100000 in
theorem procfs_parseBuddyInfo.calls (k : Nat) (a0 : ByteArray) (r1 : List (S79)) (r2 : Option Int) (w : World) (h : procfs_parseBuddyInfo.f k a0 = some (r1, r2)) (hTabs : R.LTabs w := by first | assumption | exact Aside0.out ‹Aside0 (R.LTabs _)› | exact R.LTabs.below (Aside0.out ‹Aside0 (R.LTabs _)›) (by repeat (first | (with_reducible first | exact Aside0.out ‹Aside0 (Below _ _ _)› | exact Below.refl _ _ | apply below_alloc | apply pw_below_drewN | apply below_drew1)))) :
 Calls Tryz.prog 112 #[.string a0] w fun e w' => ∃ v0_ : Value, e = .returned (.tuple #[v0_, errW r2]) ∧ Kd.S k79 79 w' w.heap.size (fun _ => True) v0_ r1 ∧ Below w.heap.size w w' := by
 have HTabs := Aside0.mk hTabs; clear hTabs; have hu79 := Tryz.underlying79; have hu133 := Tryz.underlying133; have HB := Aside0.mk (Below.refl w.heap.size w); have H : ((texts_NewLines.f a0).bind fun bt1539 => (procfs_parseBuddyInfo.l0 k (([] : List (S79))) (-1) bt1539.1 bt1539.2.1 bt1539.2.2.1 bt1539.2.2.2)) = some (r1, r2) := h; clear h; obtain ⟨y1536, hy1536⟩ : ∃ y_ : List (S79), y_ = (([] : List (S79))) := ⟨_, rfl⟩
 replace H : ((texts_NewLines.f a0).bind fun bt1539 => (procfs_parseBuddyInfo.l0 k y1536 (-1) bt1539.1 bt1539.2.1 bt1539.2.2.1 bt1539.2.2.2)) = some (r1, r2) := by first | (rw [hy1536]; with_reducible exact H) | (have H2_ := (Option.bind_some _ _).symm.trans H; rw [hy1536]; with_reducible exact H2_) | (have H2_ := (Option.bind_some _ _).symm.trans H; with_reducible exact H2_) | with_reducible exact H | (rw [hy1536]; exact H) | exact H
 have Ny1536 := Aside0.mk hy1536; clear hy1536; replace H := Option.bind_eq_some_iff.mp H; obtain ⟨⟨t1539, t1540, t1541, t1542⟩, A20, H⟩ := H; replace H : (procfs_parseBuddyInfo.l0 k y1536 (-1) t1539 t1540 t1541 t1542) = some (r1, r2) := H; have A2 := Aside0.mk A20; clear A20; have H' := Aside0.mk H; clear H
 go_enter Tryz.func112, Tryz.ntmps112
 go_wp2_with (first | ((with_reducible refine gate_dst (N := 15) rfl ?_); refine Kd.S_lit k79 _ 79 ?hg (N := 15) ?hd (xs := ([] : List (S79))) (inner := []) (ok := fun _ => True) (okp := fun _ => True) ?hr ?hp (fun _ hk => hk) trivial (Below.refl _ _) (Nat.le_refl _) (by simp) ?_; (case hd => rfl); (case hg => rfl); (case hr => first | (go_simp; done) | (go_simp; rfl)); (case hp => exact (Reps.none _ _)); intro v1537 w3 ho4 hb hg_ hnew_; clear hg_ hnew_; (first | rw [← Ny1536.out] at ho4 | (simp only [Int.reduceToNat] at ho4; rw [← Ny1536.out] at ho4)); have n0_ := Aside0.mk (Kd.S_lower ho4 (below_size (R.hb HB.out))); have n1_ := Aside0.mk (below_step (R.hb HB.out) hb); clear HB; have HO1538 := n0_; have HB := n1_; clear n0_ n1_; clear hb ho4) | ((with_reducible refine gate_callee (f := 135) rfl ?_); refine goesL_ (some 17) rfl rfl Tryz.func135 (by kernel_rfl) rfl #[.string a0] rfl R.tp ?_; (with_reducible refine (texts_NewLines.calls a0 t1539 t1540 t1541 t1542 w _ ?side1 A2.out).mono ?_); (case side1 => repeat (first | (with_reducible first | exact HB.out | apply below_alloc | apply pw_below_drewN | apply below_drew1) | exact HB.out)); rintro e w5 ⟨g1543, rfl, hi, hb, hb2⟩; refine ⟨_, rfl, ?_⟩; have n0_ := Aside0.mk (Kd.S_below (R.ls HO1538.out) hb2); have n1_ := Aside0.mk (hb); have n2_ := Aside0.mk (hi); clear HO1538; clear HB; have HO1538 := n0_; have HB := n1_; have HI1543 := n2_; clear n0_ n1_ n2_; (try clear hb); (try clear hb2); (try clear hk); (try clear hi); (try simp only [errW_none, errW_some])))
 go_loopg [4, 6] k (fun kq v4 v6 w' => ∃ (x4_1 : List (S79)) (x6_1 : Int) (x1544000_1 : ByteArray) (x1544001_1 : ByteArray) (x1544002_1 : Int) (x1544003_1 : Option Int), v6 = .int .i64 x6_1 ∧ Aside0 (procfs_parseBuddyInfo.l0 kq x4_1 x6_1 x1544000_1 x1544001_1 x1544002_1 x1544003_1 = some (r1, r2)) ∧ Aside0 (kq ≤ k) ∧ Aside0 (Kd.S k79 79 w' w.heap.size (fun _ => True) v4 x4_1) ∧ Aside0 (IsS187 w w' g1543 x1544000_1 x1544001_1 x1544002_1 x1544003_1) ∧ Aside0 (Below w.heap.size w w'))
 case atStart => exact ⟨(y1536), ((-1)), (t1539), (t1540), (t1541), (t1542), R.rs, H', ⟨Nat.le_refl _⟩, ⟨by (with_reducible repeat (first | apply Kd.S_alloc | apply Kd.S_drewN | apply Kd.S_drew)); exact HO1538.out⟩, ⟨by repeat (first | (with_reducible first | exact HI1543.out | apply IsS187.alloc | apply IsS187.drewN | apply IsS187.drew | apply IsS187.set_0 | apply IsS187.set_1 | apply IsS187.set_2 | apply IsS187.set_3) | exact HI1543.out)⟩, ⟨by repeat (first | (with_reducible first | exact HB.out | apply below_alloc | apply pw_below_drewN | apply below_drew1 | refine below_set ?_ (IsS187.ge HI1543.out)) | exact HB.out)⟩⟩
 case round =>
  clear H'; try clear c1
  try clear p2
  obtain ⟨x4_1, x6_1, x1544000_1, x1544001_1, x1544002_1, x1544003_1, rfl, HA, HK1, HO_4, HI1543, HB⟩ := hrel; cases gk with
  | zero => exact absurd HA.out (by simp [procfs_parseBuddyInfo.l0])
  | succ k1 =>
   have H := HA.out; clear HA; simp only [procfs_parseBuddyInfo.l0] at H; replace H := Option.bind_eq_some_iff.mp H; obtain ⟨⟨t1544, t1545, t1546, t1547, t1548⟩, A60, H⟩ := H; replace H : (if t1544 = true then ((texts_Lines_Text.f t1545 t1546 t1547 t1548).bind fun bt1554 => ((strings_Fields.f bt1554.1).bind fun t1559 => (if (t1559.length : Int) < 4 then (none) else (if 1 < (t1559.length : Int) then ((strings_TrimSuffix.f (rdOf ByteArray.empty t1559 1) (⟨#[44]⟩ : ByteArray)).bind fun t1563 => (if 3 < (t1559.length : Int) then ((strings_TrimSuffix.f (rdOf ByteArray.empty t1559 3) (⟨#[44]⟩ : ByteArray)).bind fun t1565 => (if 4 ≤ (t1559.length : Int) then ((some (t1559.drop 4 : List ByteArray)).bind fun y1566 => (if x6_1 = (-1) then (procfs_parseBuddyInfo.j1 k1 x4_1 (y1566.length : Int) t1559 t1563 t1565 (y1566.length : Int) bt1554.2.1 bt1554.2.2.1 bt1554.2.2.2.1 bt1554.2.2.2.2) else (if x6_1 = (y1566.length : Int) then (procfs_parseBuddyInfo.j1 k1 x4_1 x6_1 t1559 t1563 t1565 (y1566.length : Int) bt1554.2.1 bt1554.2.2.1 bt1554.2.2.2.1 bt1554.2.2.2.2) else (none)))) else (none))) else (none))) else (none))))) else ((texts_Lines_Err.f t1545 t1546 t1547 t1548).bind fun bt1549 => (some (x4_1, bt1549.1)))) = some (r1, r2) := H; have A6 := Aside0.mk A60; clear A60
   by_cases c7 : t1544 = true
   · subst c7; rw [if_pos rfl] at H; have H1 := H; clear H; have H := H1; clear H1; replace H := Option.bind_eq_some_iff.mp H; obtain ⟨⟨t1554, t1555, t1556, t1557, t1558⟩, A80, H⟩ := H; replace H : ((strings_Fields.f t1554).bind fun t1559 => (if (t1559.length : Int) < 4 then (none) else (if 1 < (t1559.length : Int) then ((strings_TrimSuffix.f (rdOf ByteArray.empty t1559 1) (⟨#[44]⟩ : ByteArray)).bind fun t1563 => (if 3 < (t1559.length : Int) then ((strings_TrimSuffix.f (rdOf ByteArray.empty t1559 3) (⟨#[44]⟩ : ByteArray)).bind fun t1565 => (if 4 ≤ (t1559.length : Int) then ((some (t1559.drop 4 : List ByteArray)).bind fun y1566 => (if x6_1 = (-1) then (procfs_parseBuddyInfo.j1 k1 x4_1 (y1566.length : Int) t1559 t1563 t1565 (y1566.length : Int) t1555 t1556 t1557 t1558) else (if x6_1 = (y1566.length : Int) then (procfs_parseBuddyInfo.j1 k1 x4_1 x6_1 t1559 t1563 t1565 (y1566.length : Int) t1555 t1556 t1557 t1558) else (none)))) else (none))) else (none))) else (none)))) = some (r1, r2) := H; have A8 := Aside0.mk A80; clear A80; replace H := Option.bind_eq_some_iff.mp H; obtain ⟨t1559, A90, H⟩ := H; (try dsimp only at H); have A9 := Aside0.mk A90; clear A90
     by_cases c10 : (t1559.length : Int) < 4
     · rw [if_pos c10] at H; exact absurd H (by simp)
     · rw [if_neg c10] at H; have c10b0 : decide ((t1559.length : Int) < 4) = false := decide_eq_false c10; have c10b1 : decide (t1559.length < 4) = false := decide_eq_false (by omega); clear c10
       by_cases c11 : 1 < (t1559.length : Int)
       · rw [if_pos c11] at H; have c11b0 : decide (1 < (t1559.length : Int)) = true := decide_eq_true c11; have c11b1 : decide (1 < t1559.length) = true := decide_eq_true (by omega); clear c11; replace H := Option.bind_eq_some_iff.mp H; obtain ⟨t1563, A120, H⟩ := H; (try dsimp only at H); have A12 := Aside0.mk A120; clear A120
         by_cases c13 : 3 < (t1559.length : Int)
         · rw [if_pos c13] at H; have c13b0 : decide (3 < (t1559.length : Int)) = true := decide_eq_true c13; have c13b1 : decide (3 < t1559.length) = true := decide_eq_true (by omega); clear c13; replace H := Option.bind_eq_some_iff.mp H; obtain ⟨t1565, A140, H⟩ := H; (try dsimp only at H); have A14 := Aside0.mk A140; clear A140
           by_cases c15 : 4 ≤ (t1559.length : Int)
           · rw [if_pos c15] at H; have c15b0 := eq_true c15; have c15b1 : decide (4 ≤ (t1559.length : Int)) = true := decide_eq_true c15; clear c15; obtain ⟨y1566, hy1566⟩ : ∃ y_ : List ByteArray, y_ = (t1559.drop 4) := ⟨_, rfl⟩
             replace H : (if x6_1 = (-1) then (procfs_parseBuddyInfo.j1 k1 x4_1 (y1566.length : Int) t1559 t1563 t1565 (y1566.length : Int) t1555 t1556 t1557 t1558) else (if x6_1 = (y1566.length : Int) then (procfs_parseBuddyInfo.j1 k1 x4_1 x6_1 t1559 t1563 t1565 (y1566.length : Int) t1555 t1556 t1557 t1558) else (none))) = some (r1, r2) := by first | (rw [hy1566]; with_reducible exact H) | (have H2_ := (Option.bind_some _ _).symm.trans H; rw [hy1566]; with_reducible exact H2_) | (have H2_ := (Option.bind_some _ _).symm.trans H; with_reducible exact H2_) | with_reducible exact H | (rw [hy1566]; exact H) | exact H
             have Ny1566 := Aside0.mk hy1566; clear hy1566; have HC16 := Aside0.mk H; clear H
             go_upto_if 40 with (first | ((with_reducible refine gate_callee (f := 136) rfl ?_); refine goesL_ (some 19) rfl rfl Tryz.func136 (by kernel_rfl) rfl #[.pointer (some ⟨g1543, 0, none⟩)] rfl R.tp ?_; (with_reducible refine (texts_Lines_Scan.calls g1543 x1544000_1 x1544001_1 x1544002_1 x1544003_1 true t1545 t1546 t1547 t1548 w _ ?side1 ?side2 A6.out).mono ?_); (case side1 => repeat (first | (with_reducible first | exact HI1543.out | apply IsS187.alloc | apply IsS187.drewN | apply IsS187.drew | apply IsS187.set_0 | apply IsS187.set_1 | apply IsS187.set_2 | apply IsS187.set_3) | exact HI1543.out)); (case side2 => repeat (first | (with_reducible first | exact HB.out | apply below_alloc | apply pw_below_drewN | apply below_drew1 | refine below_set ?_ (IsS187.ge HI1543.out)) | exact HB.out)); rintro e w17 ⟨rfl, hi, hb, hk⟩; refine ⟨_, rfl, ?_⟩; have n0_ := Aside0.mk (Kd.S_mono (Kd.S_keep (IsS187.apartS (show IsS187 w _ g1543 x1544000_1 x1544001_1 x1544002_1 x1544003_1 from by repeat (first | (with_reducible first | exact HI1543.out | apply IsS187.alloc | apply IsS187.drewN | apply IsS187.drew | apply IsS187.set_0 | apply IsS187.set_1 | apply IsS187.set_2 | apply IsS187.set_3) | exact HI1543.out)) (R.ls HO_4.out) (by decide)) hk (fun _ h => h.2)) (fun _ h => h.1)); have n1_ := Aside0.mk (hb); have n2_ := Aside0.mk (hi); clear HO_4; clear HB; clear HI1543; have HO_4 := n0_; have HB := n1_; have HI1543 := n2_; clear n0_ n1_ n2_; (try clear hb); (try clear hb2); (try clear hk); (try clear hi); (try simp only [errW_none, errW_some])) | ((with_reducible refine gate_callee (f := 137) rfl ?_); refine goesL_ (some 21) rfl rfl Tryz.func137 (by kernel_rfl) rfl #[.pointer (some ⟨g1543, 0, none⟩)] rfl R.tp ?_; (with_reducible refine (texts_Lines_Text.calls g1543 t1545 t1546 t1547 t1548 t1554 t1555 t1556 t1557 t1558 w _ ?side1 ?side2 A8.out).mono ?_); (case side1 => repeat (first | (with_reducible first | exact HI1543.out | apply IsS187.alloc | apply IsS187.drewN | apply IsS187.drew | apply IsS187.set_0 | apply IsS187.set_1 | apply IsS187.set_2 | apply IsS187.set_3) | exact HI1543.out)); (case side2 => repeat (first | (with_reducible first | exact HB.out | apply below_alloc | apply pw_below_drewN | apply below_drew1 | refine below_set ?_ (IsS187.ge HI1543.out)) | exact HB.out)); rintro e w18 ⟨rfl, hi, hb, hk⟩; refine ⟨_, rfl, ?_⟩; have n0_ := Aside0.mk (Kd.S_mono (Kd.S_keep (IsS187.apartS (show IsS187 w _ g1543 t1545 t1546 t1547 t1548 from by repeat (first | (with_reducible first | exact HI1543.out | apply IsS187.alloc | apply IsS187.drewN | apply IsS187.drew | apply IsS187.set_0 | apply IsS187.set_1 | apply IsS187.set_2 | apply IsS187.set_3) | exact HI1543.out)) (R.ls HO_4.out) (by decide)) hk (fun _ h => h.2)) (fun _ h => h.1)); have n1_ := Aside0.mk (hb); have n2_ := Aside0.mk (hi); clear HO_4; clear HB; clear HI1543; have HO_4 := n0_; have HB := n1_; have HI1543 := n2_; clear n0_ n1_ n2_; (try clear hb); (try clear hb2); (try clear hk); (try clear hi); (try simp only [errW_none, errW_some])) | ((with_reducible refine gate_callee (f := 132) rfl ?_); refine goesL_ (some 23) rfl rfl Tryz.func132 (by kernel_rfl) rfl #[.string t1554] rfl R.tp ?_; (with_reducible refine (strings_Fields.calls t1554 t1559 _ A9.out).mono ?_); rintro e w19 ⟨v1560, rfl, ho0, hb⟩; refine ⟨_, rfl, ?_⟩; have n0_ := Aside0.mk (Kd.S_below (R.ls HO_4.out) hb); have n1_ := Aside0.mk (Kd.R_lower ho0 (below_size (R.hc1 HB.out (IsS187.ge HI1543.out)))); have n2_ := Aside0.mk (IsS187.below (by repeat (first | (with_reducible first | exact HI1543.out | apply IsS187.alloc | apply IsS187.drewN | apply IsS187.drew | apply IsS187.set_0 | apply IsS187.set_1 | apply IsS187.set_2 | apply IsS187.set_3) | exact HI1543.out)) hb); have n3_ := Aside0.mk (below_step (R.hc1 HB.out (IsS187.ge HI1543.out)) hb); clear HO_4; clear HI1543; clear HB; have HO_4 := n0_; have HO1561 := n1_; have HI1543 := n2_; have HB := n3_; clear n0_ n1_ n2_ n3_; (try clear hb); (try clear hb2); (try clear hk); (try clear hi); (try clear ho0); obtain ⟨Ao20, co20, eo20⟩ := Kd.R_slice HO1561.out; subst eo20; have p1562 : 0 ≤ (1 : Int) := (by omega); have q1562 : 1 < (t1559.length : Int) := R.od; obtain ⟨ad1562, e1562, hx1562_0⟩ := Kd.at_string (Kd.R_reads' HO1561.out).2.2 1 p1562 q1562; cases e1562; (try simp only [show (1 : Int).toNat = 1 from rfl, Nat.reduceMul, Nat.reduceEqDiff, Go.Addr.add, ↓reduceIte] at hx1562_0); have qi1562 : (1 < t1559.length) = True := eq_true (by omega); (try rw [show ((1 : Int)).toNat = 1 from rfl] at hx1562_0); replace p1562 := eq_true p1562; replace q1562 := eq_true q1562) | ((with_reducible refine gate_callee (f := 138) rfl ?_); refine goesL_ (some 31) rfl rfl Tryz.func138 (by kernel_rfl) rfl #[.string (rdOf ByteArray.empty t1559 1), .string ⟨#[44]⟩] rfl R.tp ?_; (with_reducible refine (strings_TrimSuffix.calls (rdOf ByteArray.empty t1559 1) (⟨#[44]⟩ : ByteArray) t1563 _ A12.out).mono ?_); rintro e w' ⟨rfl, ⟨nd, rfl⟩⟩; refine ⟨_, rfl, ?_⟩; have p1564 : 0 ≤ (3 : Int) := (by omega); have q1564 : 3 < (t1559.length : Int) := R.od; obtain ⟨ad1564, e1564, hx1564_0⟩ := Kd.at_string (Kd.R_reads' HO1561.out).2.2 3 p1564 q1564; obtain rfl : ad1562 = ad1564 := (by injection e1564); (try simp only [show (3 : Int).toNat = 3 from rfl, Nat.reduceMul, Nat.reduceEqDiff, Go.Addr.add, ↓reduceIte] at hx1564_0); have qi1564 : (3 < t1559.length) = True := eq_true (by omega); (try rw [show ((3 : Int)).toNat = 3 from rfl] at hx1564_0); replace p1564 := eq_true p1564; replace q1564 := eq_true q1564) | ((with_reducible refine gate_callee (f := 138) rfl ?_); refine goesL_ (some 35) rfl rfl Tryz.func138 (by kernel_rfl) rfl #[.string (rdOf ByteArray.empty t1559 3), .string ⟨#[44]⟩] rfl R.tp ?_; (with_reducible refine (strings_TrimSuffix.calls (rdOf ByteArray.empty t1559 3) (⟨#[44]⟩ : ByteArray) t1565 _ A14.out).mono ?_); rintro e w' ⟨rfl, ⟨nd, rfl⟩⟩; refine ⟨_, rfl, ?_⟩; have q21 : (4 : Int) ≤ ((t1559.length : Int) : Int) := R.od; obtain ⟨i021, hi021, _, hsz21, _⟩ := info_parts info9; have hroom21 : t1559.length ≤ co20 := (Kd.R_reads' HO1561.out).2.1; have hC21 : Kd.C Kd.string _ (some ad1562) t1559.length t1559 := (Kd.R_reads' HO1561.out).2.2; have hcut21 := cut_from (P := Tryz.prog) 42 9 .i64 Tryz.underlying42 hi021 1 hsz21 (some ad1562) t1559.length co20 4 (by omega) q21; have hr21 := Kd.C_drop (m := (4 : Int).toNat) (c := co20) hC21 (by omega) hroom21; obtain ⟨A21, hA21⟩ : ∃ A1, A1 = (if co20 = (4 : Int).toNat then (some ad1562) else ((some ad1562) : Option Addr).map (·.add ((4 : Int).toNat * 1))) := ⟨_, rfl⟩; obtain ⟨c21, hc21⟩ : ∃ c1, c1 = co20 - (4 : Int).toNat := ⟨_, rfl⟩; have hy21 : y1566.length = t1559.length - (4 : Int).toNat := (by rw [Ny1566.out, List.length_drop] <;> omega); rw [show (t1559).drop (4 : Int).toNat = y1566 from Ny1566.out.symm] at hr21; replace hr21 : Kd.C Kd.string _ A21 y1566.length y1566 := (by rw [hA21]; exact hr21); rw [← hy21, ← hA21, ← hc21] at hcut21; have HR1569 := Aside0.mk hr21; have HC1569 := Aside0.mk (show y1566.length ≤ c21 from by rw [hy21, hc21]; exact Nat.sub_le_sub_right hroom21 _); clear hr21 hC21 hroom21 hi021 hsz21 hc21; have KY21 := Aside0.mk hy21; have KA21 := Aside0.mk hA21; clear hy21 hA21; have KL21 := Aside0.mk (show 4 ≤ t1559.length from by omega); replace q21 := eq_true q21))
             (try simp only [Act.put, List.setIfInBounds_toArray, List.set_cons_zero, List.set_cons_succ])
             go_cut [6] (fun v6 wc => ∃ (kq : Nat) (x6_15 : Int), v6 = .int .i64 x6_15 ∧ Aside0 (procfs_parseBuddyInfo.j1 kq x4_1 x6_15 t1559 t1563 t1565 (y1566.length : Int) t1555 t1556 t1557 t1558 = some (r1, r2)) ∧ Aside0 (kq ≤ k1) ∧ Aside0 (Kd.S k79 79 wc w.heap.size (fun _ => True) u4 x4_1) ∧ Aside0 (Kd.R Kd.string 9 wc w.heap.size (fun _ => True) (.slice (some ad1562) t1559.length co20) t1559) ∧ Aside0 (IsS187 w wc g1543 t1555 t1556 t1557 t1558) ∧ Aside0 (Below w.heap.size w wc))
             case first =>
              have H := HC16.out; clear HC16
              by_cases c22 : x6_1 = (-1)
              · rw [if_pos c22] at H; have c22b0 : (x6_1 == (-1)) = true := beq_iff_eq.mpr c22; have c22b1 : (x6_1 != (-1)) = false := bne_eq_false_iff_eq.mpr c22; clear c22; (first | rw [c22b0] | (simp only [i64_w, i32_w]; rw [c22b0]) | skip); have H' := Aside0.mk H; clear H; go_wp2
                go_meet
                case rel => exact ⟨_, ((y1566.length : Int)), R.rs, H', ⟨by have := HK1.out; first | omega | exact Nat.le_refl _⟩, ⟨by (with_reducible repeat (first | apply Kd.S_alloc | apply Kd.S_drewN | apply Kd.S_drew)); exact HO_4.out⟩, ⟨by (with_reducible repeat (first | apply Kd.R_alloc | apply Kd.R_drewN | apply Kd.R_drew)); exact HO1561.out⟩, ⟨by repeat (first | (with_reducible first | exact HI1543.out | apply IsS187.alloc | apply IsS187.drewN | apply IsS187.drew | apply IsS187.set_0 | apply IsS187.set_1 | apply IsS187.set_2 | apply IsS187.set_3) | exact HI1543.out)⟩, ⟨by repeat (first | (with_reducible first | exact HB.out | apply below_alloc | apply pw_below_drewN | apply below_drew1 | refine below_set ?_ (IsS187.ge HI1543.out)) | exact HB.out)⟩⟩
              · rw [if_neg c22] at H; have c22b0 : (x6_1 == (-1)) = false := beq_eq_false_iff_ne.mpr c22; have c22b1 : (x6_1 != (-1)) = true := bne_iff_ne.mpr c22; (first | rw [c22b0] | (simp only [i64_w, i32_w]; rw [c22b0]) | skip)
                by_cases c23 : x6_1 = (y1566.length : Int)
                · rw [if_pos c23] at H; have c23b0 : (x6_1 == (y1566.length : Int)) = true := beq_iff_eq.mpr c23; have c23b1 : (x6_1 != (y1566.length : Int)) = false := bne_eq_false_iff_eq.mpr c23; clear c23; have H' := Aside0.mk H; clear H; go_wp2
                  go_meet
                  case rel => exact ⟨_, (x6_1), R.rs, H', ⟨by have := HK1.out; first | omega | exact Nat.le_refl _⟩, ⟨by (with_reducible repeat (first | apply Kd.S_alloc | apply Kd.S_drewN | apply Kd.S_drew)); exact HO_4.out⟩, ⟨by (with_reducible repeat (first | apply Kd.R_alloc | apply Kd.R_drewN | apply Kd.R_drew)); exact HO1561.out⟩, ⟨by repeat (first | (with_reducible first | exact HI1543.out | apply IsS187.alloc | apply IsS187.drewN | apply IsS187.drew | apply IsS187.set_0 | apply IsS187.set_1 | apply IsS187.set_2 | apply IsS187.set_3) | exact HI1543.out)⟩, ⟨by repeat (first | (with_reducible first | exact HB.out | apply below_alloc | apply pw_below_drewN | apply below_drew1 | refine below_set ?_ (IsS187.ge HI1543.out)) | exact HB.out)⟩⟩
                · rw [if_neg c23] at H; exact absurd H (by simp)
             case rest =>
              clear HC16; try clear c1
              try clear p1
              try clear q1
              try clear hx1
              try clear qi1
              try clear c2
              try clear p2
              try clear q2
              try clear c7
              try clear c10
              try clear c10b0
              try clear c10b1
              try clear c11
              try clear c11b0
              try clear c11b1
              try clear c13
              try clear c13b0
              try clear c13b1
              try clear c15
              try clear c15b0
              try clear c15b1
              try clear p15
              try clear q15
              try clear hx15
              try clear qi15
              try clear c21
              try clear q21
              try clear c22
              try clear c22b0
              try clear c22b1
              try clear c23
              try clear c23b0
              try clear c23b1
              try clear hx1562_0
              try clear hx1564_0
              try clear p1562
              try clear p1564
              try clear p2
              try clear q1562
              try clear q1564
              try clear q21
              obtain ⟨kq, x6_15, rfl, HA, HJ15, HO_4, HO_9, HI1543, HB⟩ := hcut; cases kq with
              | zero => exact absurd HA.out (by simp [procfs_parseBuddyInfo.j1])
              | succ kj15 =>
               have H := HA.out; clear HA; simp only [procfs_parseBuddyInfo.j1] at H
               by_cases c24 : 0 ≤ (y1566.length : Int)
               · rw [if_pos c24] at H; have c24b0 := eq_true c24; have c24b1 : decide (0 ≤ (y1566.length : Int)) = true := decide_eq_true c24; clear c24
                 by_cases c25 : ((y1566.length : Int) : Int).toNat ≤ 35184372088832
                 · rw [if_pos c25] at H; have c25b0 := eq_true c25; have c25b1 : decide (((y1566.length : Int) : Int).toNat ≤ 35184372088832) = true := decide_eq_true c25; clear c25; obtain ⟨y1570, hy1570⟩ : ∃ y_ : List Nat, y_ = (List.replicate ((y1566.length : Int) : Int).toNat 0) := ⟨_, rfl⟩
                   replace H : (procfs_parseBuddyInfo.l1 kj15 x4_1 x6_15 t1559 t1563 t1565 y1570 (y1566.length : Int) 0 t1555 t1556 t1557 t1558) = some (r1, r2) := by first | (rw [hy1570]; with_reducible exact H) | (have H2_ := (Option.bind_some _ _).symm.trans H; rw [hy1570]; with_reducible exact H2_) | (have H2_ := (Option.bind_some _ _).symm.trans H; with_reducible exact H2_) | with_reducible exact H | (rw [hy1570]; exact H) | exact H
                   have Ny1570 := Aside0.mk hy1570; clear hy1570; have H' := Aside0.mk H; clear H
                   go_wp2_with (first | ((with_reducible refine gate_dst (N := 47) rfl ?_); refine Kd.R_make kF64 _ 31 rfl (N := 47) rfl 77 _ _ rfl (y1566.length : Int) rfl rfl Tryz.underlying77 (.float .f64 0) 8 info31 rfl (by decide) (by omega) 0 (ok := fun _ => True) (okp := fun _ => True) rfl (fun _ hk => hk) trivial (R.od) (Nat.le_trans (Nat.mul_le_mul_right _ (R.od : (y1566.length : Int).toNat ≤ 35184372088832)) (by omega)) (Below.refl _ _) (Nat.le_refl _) ?_; intro v1571 w26 ho27 hb hg_ hnew_; clear hg_ hnew_; (first | rw [← Ny1570.out] at ho27 | (simp only [Int.reduceToNat] at ho27; rw [← Ny1570.out] at ho27)); have n0_ := Aside0.mk (Kd.S_elder' (R.ls HO_4.out) (Kd.R_base ho27) hb); have n1_ := Aside0.mk (Kd.R_below (R.lr HO_9.out) hb); have n2_ := Aside0.mk (Kd.R_lower ho27 (below_size (R.hc1 HB.out (IsS187.ge HI1543.out)))); have n3_ := Aside0.mk (IsS187.below (by repeat (first | (with_reducible first | exact HI1543.out | apply IsS187.alloc | apply IsS187.drewN | apply IsS187.drew | apply IsS187.set_0 | apply IsS187.set_1 | apply IsS187.set_2 | apply IsS187.set_3) | exact HI1543.out)) hb); have n5_ := Aside0.mk (below_step (R.hc1 HB.out (IsS187.ge HI1543.out)) hb); clear HO_4; clear HO_9; clear HI1543; clear HB; have HO_4 := n0_; have HO_9 := n1_; have HO1572 := n2_; have HI1543 := n3_; have HB := n5_; clear n0_ n1_ n2_ n3_ n5_; clear hb ho27))
                   go_loopg [49] kj15 (fun kq v49 w' => ∃ (x13_3 : List Nat) (x49_3 : Int), v49 = .int .i64 x49_3 ∧ Aside0 (procfs_parseBuddyInfo.l1 kq x4_1 x6_15 t1559 t1563 t1565 x13_3 (y1566.length : Int) x49_3 t1555 t1556 t1557 t1558 = some (r1, r2)) ∧ Aside0 (kq ≤ kj15) ∧ Aside0 (Kd.S k79 79 w' w.heap.size (fun k_ => some k_ ≠ (v1571 : Value).ownBlock) u4 x4_1) ∧ Aside0 (Kd.R Kd.string 9 w' w.heap.size (fun _ => True) (.slice (some ad1562) t1559.length co20) t1559) ∧ Aside0 (Kd.R kF64 31 w' w.heap.size (fun _ => True) v1571 x13_3) ∧ Aside0 (IsS187 w w' g1543 t1555 t1556 t1557 t1558) ∧ Aside0 (Below w.heap.size w w'))
                   case atStart => exact ⟨(y1570), (0), R.rs, H', ⟨Nat.le_refl _⟩, ⟨by (with_reducible repeat (first | apply Kd.S_alloc | apply Kd.S_drewN | apply Kd.S_drew)); exact Kd.S_mono HO_4.out (fun _ hk => hk.2)⟩, ⟨by (with_reducible repeat (first | apply Kd.R_alloc | apply Kd.R_drewN | apply Kd.R_drew)); exact HO_9.out⟩, ⟨by (with_reducible repeat (first | apply Kd.R_alloc | apply Kd.R_drewN | apply Kd.R_drew)); exact HO1572.out⟩, ⟨by repeat (first | (with_reducible first | exact HI1543.out | apply IsS187.alloc | apply IsS187.drewN | apply IsS187.drew | apply IsS187.set_0 | apply IsS187.set_1 | apply IsS187.set_2 | apply IsS187.set_3) | exact HI1543.out)⟩, ⟨by repeat (first | (with_reducible first | exact HB.out | apply below_alloc | apply pw_below_drewN | apply below_drew1 | refine below_set ?_ (IsS187.ge HI1543.out)) | exact HB.out)⟩⟩
                   case round =>
                    clear H'; try clear c1
                    try clear p1
                    try clear q1
                    try clear hx1
                    try clear qi1
                    try clear c2
                    try clear p2
                    try clear q2
                    try clear c7
                    try clear c10
                    try clear c10b0
                    try clear c10b1
                    try clear c11
                    try clear c11b0
                    try clear c11b1
                    try clear c13
                    try clear c13b0
                    try clear c13b1
                    try clear c15
                    try clear c15b0
                    try clear c15b1
                    try clear p15
                    try clear q15
                    try clear hx15
                    try clear qi15
                    try clear c21
                    try clear q21
                    try clear c22
                    try clear c22b0
                    try clear c22b1
                    try clear c23
                    try clear c23b0
                    try clear c23b1
                    try clear c24
                    try clear c24b0
                    try clear c24b1
                    try clear c25
                    try clear c25b0
                    try clear c25b1
                    try clear hx1562_0
                    try clear hx1564_0
                    try clear p1
                    try clear p15
                    try clear p1562
                    try clear p1564
                    try clear p2
                    try clear q1
                    try clear q15
                    try clear q1562
                    try clear q1564
                    try clear q2
                    try clear q21
                    obtain ⟨x13_3, x49_3, rfl, HA, HK3, HO_4, HO_9, HO_13, HI1543, HB⟩ := hrel; cases gk with
                    | zero => exact absurd HA.out (by simp [procfs_parseBuddyInfo.l1])
                    | succ k3 =>
                     have H := HA.out; clear HA; simp only [procfs_parseBuddyInfo.l1] at H
                     by_cases c28 : x49_3 < (y1566.length : Int)
                     · rw [if_pos c28] at H; have c28b0 : decide (x49_3 < (y1566.length : Int)) = true := decide_eq_true c28; clear c28; obtain ⟨ji29, hji29⟩ : ∃ j_ : Int, (wrap64 (x49_3 + 4)) = j_ := ⟨_, rfl⟩
                       replace H : (if 0 ≤ (ji29) then (if (ji29) < (t1559.length : Int) then ((strconv_ParseFloat.f (rdOf ByteArray.empty t1559 (ji29)) 64).bind fun bt1574 => (if 0 ≤ x49_3 then (if x49_3 < (x13_3.length : Int) then (if bt1574.2.isNone = true then (procfs_parseBuddyInfo.l1 k3 x4_1 x6_15 t1559 t1563 t1565 (x13_3.set (x49_3 : Int).toNat bt1574.1) (y1566.length : Int) (wrap64 (x49_3 + 1)) t1555 t1556 t1557 t1558) else (none)) else (none)) else (none))) else (none)) else (none)) = some (r1, r2) := by first | (rw [hji29] at H; exact H) | (simp only [hji29] at H ⊢; exact H)
                       have hji29w : (IntKind.i64.wrap (x49_3 + 4)) = ji29 := (i64_w _).trans hji29
                       by_cases c30 : 0 ≤ (ji29)
                       · rw [if_pos c30] at H; have c30b0 : decide (0 ≤ (ji29)) = true := decide_eq_true c30; clear c30
                         by_cases c31 : (ji29) < (t1559.length : Int)
                         · rw [if_pos c31] at H; have c31b0 : decide ((ji29) < (t1559.length : Int)) = true := decide_eq_true c31; clear c31; replace H := Option.bind_eq_some_iff.mp H; obtain ⟨⟨t1574, t1575⟩, A320, H⟩ := H; replace H : (if 0 ≤ x49_3 then (if x49_3 < (x13_3.length : Int) then (if t1575.isNone = true then (procfs_parseBuddyInfo.l1 k3 x4_1 x6_15 t1559 t1563 t1565 (x13_3.set (x49_3 : Int).toNat t1574) (y1566.length : Int) (wrap64 (x49_3 + 1)) t1555 t1556 t1557 t1558) else (none)) else (none)) else (none)) = some (r1, r2) := H; have A32 := Aside0.mk A320; clear A320
                           by_cases c33 : 0 ≤ x49_3
                           · rw [if_pos c33] at H; have c33b0 : decide (0 ≤ x49_3) = true := decide_eq_true c33; clear c33
                             by_cases c34 : x49_3 < (x13_3.length : Int)
                             · rw [if_pos c34] at H; have c34b0 : decide (x49_3 < (x13_3.length : Int)) = true := decide_eq_true c34; clear c34; obtain ⟨y1576, hy1576⟩ : ∃ y_ : List Nat, y_ = (x13_3.set (x49_3 : Int).toNat t1574) := ⟨_, rfl⟩
                               replace H : (if t1575.isNone = true then (procfs_parseBuddyInfo.l1 k3 x4_1 x6_15 t1559 t1563 t1565 y1576 (y1566.length : Int) (wrap64 (x49_3 + 1)) t1555 t1556 t1557 t1558) else (none)) = some (r1, r2) := by first | (rw [hy1576]; with_reducible exact H) | (have H2_ := (Option.bind_some _ _).symm.trans H; rw [hy1576]; with_reducible exact H2_) | (have H2_ := (Option.bind_some _ _).symm.trans H; with_reducible exact H2_) | with_reducible exact H | (rw [hy1576]; exact H) | exact H
                               have Ny1576 := Aside0.mk hy1576; clear hy1576
                               rcases t1575 with _ | q1577
                               · have H1 : (procfs_parseBuddyInfo.l1 k3 x4_1 x6_15 t1559 t1563 t1565 y1576 (y1566.length : Int) (wrap64 (x49_3 + 1)) t1555 t1556 t1557 t1558) = some (r1, r2) := by rw [if_pos (show (none : Option Int).isNone = true by rfl)] at H; exact H
                                 clear H; have H := H1; clear H1; try simp only [errW_none, errW_some]
                                 have H' := Aside0.mk H; clear H; have p1573 : 0 ≤ ((ji29) : Int) := R.od; have q1573 : (ji29) < (t1559.length : Int) := R.od; obtain ⟨ad1573, e1573, hx1573_0⟩ := Kd.at_string (Kd.R_reads' HO_9.out).2.2 (ji29) p1573 q1573; obtain rfl : ad1562 = ad1573 := (by injection e1573); replace p1573 := eq_true p1573; replace q1573 := eq_true q1573
                                 go_wp2_with (first | ((with_reducible refine gate_callee (f := 133) rfl ?_); refine goesL_ (some 60) rfl rfl Tryz.func133 (by kernel_rfl) rfl #[.string (rdOf ByteArray.empty t1559 (ji29)), .int .i64 64] rfl (by (try simp only [List.map_toArray, List.map_cons, List.map_nil]); first | done | (simp only [hji29]; rfl) | rfl | (simp only [List.length_drop, List.length_take]; rfl)) ?_; (with_reducible refine (strconv_ParseFloat.calls (rdOf ByteArray.empty t1559 (ji29)) 64 t1574 none _ A32.out).mono ?_); rintro e w' ⟨rfl, ⟨nd, rfl⟩⟩; refine ⟨_, rfl, ?_⟩; (try simp only [errW_none, errW_some]); (try (rw [drewN_self wr]; generalize hq_ : World.drewN wr _ = wr; have n0_ : Aside0 (Kd.R kF64 31 wr w.heap.size (fun _ => True) v1571 x13_3) := ⟨by rw [← hq_]; exact (R.lr HO_13.out)⟩; have n1_ : Aside0 (Kd.S k79 79 wr w.heap.size (fun k_ => some k_ ≠ (v1571 : Value).ownBlock) u4 x4_1) := ⟨by rw [← hq_]; exact (R.ls HO_4.out)⟩; have n2_ : Aside0 (Kd.R Kd.string 9 wr w.heap.size (fun _ => True) (.slice (some ad1562) t1559.length co20) t1559) := ⟨by rw [← hq_]; exact (R.lr HO_9.out)⟩; have n3_ : Aside0 (IsS187 w wr g1543 t1555 t1556 t1557 t1558) := ⟨by rw [← hq_]; exact (by repeat (first | (with_reducible first | exact HI1543.out | apply IsS187.alloc | apply IsS187.drewN | apply IsS187.drew | apply IsS187.set_0 | apply IsS187.set_1 | apply IsS187.set_2 | apply IsS187.set_3) | exact HI1543.out))⟩; have n4_ : Aside0 (Below w.heap.size w wr) := ⟨by rw [← hq_]; exact (R.hc1 HB.out (IsS187.ge HI1543.out))⟩; clear HO_13 HO_4 HO_9 HI1543 HB hq_; have HO_13 := n0_; have HO_4 := n1_; have HO_9 := n2_; have HI1543 := n3_; have HB := n4_; clear n0_ n1_ n2_ n3_ n4_)); have p35 : 0 ≤ (x49_3 : Int) := R.od; have q35 : (x49_3 : Int) < ((x13_3.length : Int) : Int) := R.od; obtain ⟨go35, co35, eo35, gb35, gl35, cl35, HG35⟩ := Kd.R_form HO_13.out (by omega); (first | cases eo35 | (injection eo35 with ea_ en_ ec_; (first | subst ea_ | (injection ea_ with ea_; subst ea_)); subst ec_; clear en_)); have GB35 := Aside0.mk gb35; have GG35 := Aside0.mk HG35; clear gb35 gl35 HG35; obtain ⟨hx35_0, hf35_0⟩ := Kd.R_celln 0 HO_13.out (x49_3 : Int) p35 q35; replace p35 := eq_true p35; replace q35 := eq_true q35; obtain ⟨hy36_, hz36_⟩ := Kd.R_celln 0 HO_13.out (x49_3 : Int) (R.od) (R.od); have HP36 := Kd.R_putg HO_13.out (x49_3 : Int) t1574) | ((with_reducible refine gate_store (t := 31) (p := 63) rfl ?_); refine store_event (t := 31) (p := 63) (v := ?vo_w37) (w1 := (wr.setCell ⟨go35, (x49_3 : Int).toNat, none⟩ (.float .f64 t1574))) ?hg ?ho ?hn ?hr ?_; (case ho => rfl); (case hg => rfl); (case hn => rfl); (case hr => first | (go_simp; done) | (go_simp; rfl)); intro w37 hw; have hg : wr.grownBy w37 (some go35) := (by rw [hw]; exact HP36.2); have hp_ : Kd.R kF64 31 w37 w.heap.size (fun _ => True) (.slice (some ⟨go35, 0, none⟩) x13_3.length co35) y1576 := (by rw [hw, Ny1576.out]; exact HP36.1); clear HP36; have n0_ := Aside0.mk (Kd.S_after (v := (.slice (some ⟨go35, 0, none⟩) x13_3.length co35)) (v1 := (.slice (some ⟨go35, 0, none⟩) x13_3.length co35)) (ok := (fun _ => True)) (by (with_reducible repeat (first | apply Kd.S_alloc | apply Kd.S_drewN | apply Kd.S_drew)); exact Kd.S_mono HO_4.out (fun _ hk => ⟨trivial, hk⟩)) hg (.inl rfl)); have n1_ := Aside0.mk (Kd.R_over' (v := (.slice (some ⟨go35, 0, none⟩) x13_3.length co35)) (R.lr HO_9.out) (Kd.R_typed HO_13.out) (by decide) hg); have n2_ := Aside0.mk (hp_); have n3_ := Aside0.mk (IsS187.grown (by repeat (first | (with_reducible first | exact HI1543.out | apply IsS187.alloc | apply IsS187.drewN | apply IsS187.drew | apply IsS187.set_0 | apply IsS187.set_1 | apply IsS187.set_2 | apply IsS187.set_3) | exact HI1543.out)) hg (IsS187.own_ne HI1543.out HO_13.out (by decide))); have n4_ := Aside0.mk ((by rw [hw]; exact below_set (HB.out) GB35.out : Below w.heap.size w w37)); clear HO_4; clear HO_9; clear HO_13; clear HI1543; clear HB; have HO_4 := n0_; have HO_9 := n1_; have HO_13 := n2_; have HI1543 := n3_; have HB := n4_; clear n0_ n1_ n2_ n3_ n4_; clear hg hw hp_))
                                 go_roundg k3
                                 case measure => have := HK1.out; have := HJ15.out; have := HK3.out; omega
                                 case rel => exact ⟨(y1576), (wrap64 (x49_3 + 1)), R.rs, H', ⟨by have := HK1.out; have := HJ15.out; have := HK3.out; omega⟩, ⟨by (with_reducible repeat (first | apply Kd.S_alloc | apply Kd.S_drewN | apply Kd.S_drew)); exact Kd.S_mono HO_4.out (fun _ hk => hk.2)⟩, ⟨by (with_reducible repeat (first | apply Kd.R_alloc | apply Kd.R_drewN | apply Kd.R_drew)); exact HO_9.out⟩, ⟨by (with_reducible repeat (first | apply Kd.R_alloc | apply Kd.R_drewN | apply Kd.R_drew)); exact HO_13.out⟩, ⟨by repeat (first | (with_reducible first | exact HI1543.out | apply IsS187.alloc | apply IsS187.drewN | apply IsS187.drew | apply IsS187.set_0 | apply IsS187.set_1 | apply IsS187.set_2 | apply IsS187.set_3) | exact HI1543.out)⟩, ⟨by repeat (first | (with_reducible first | exact HB.out | apply below_alloc | apply pw_below_drewN | apply below_drew1 | refine below_set ?_ (IsS187.ge HI1543.out)) | exact HB.out)⟩⟩
                               · have H1 : (none) = some (r1, r2) := by rw [if_neg (show ¬ (some q1577).isNone = true by simp)] at H; exact H
                                 clear H; have H := H1; clear H1; try simp only [errW_none, errW_some]
                                 exact absurd H (by simp)
                             · rw [if_neg c34] at H; exact absurd H (by simp)
                           · rw [if_neg c33] at H; exact absurd H (by simp)
                         · rw [if_neg c31] at H; exact absurd H (by simp)
                       · rw [if_neg c30] at H; exact absurd H (by simp)
                     · rw [if_neg c28] at H; have c28b0 : decide (x49_3 < (y1566.length : Int)) = false := decide_eq_false c28; clear c28
                       by_cases c38 : x4_1.length < 2513169434916
                       · rw [if_pos c38] at H; have LMc38 := Aside0.mk c38; clear c38; obtain ⟨y1578, hy1578⟩ : ∃ y_ : List (S79), y_ = (x4_1 ++ [(⟨t1563, t1565, x13_3⟩ : S79)]) := ⟨_, rfl⟩
                         replace H : (procfs_parseBuddyInfo.l0 k3 y1578 x6_15 t1555 t1556 t1557 t1558) = some (r1, r2) := by first | (rw [hy1578]; with_reducible exact H) | (have H2_ := (Option.bind_some _ _).symm.trans H; rw [hy1578]; with_reducible exact H2_) | (have H2_ := (Option.bind_some _ _).symm.trans H; with_reducible exact H2_) | with_reducible exact H | (rw [hy1578]; exact H) | exact H
                         have Ny1578 := Aside0.mk hy1578; clear hy1578; have H' := Aside0.mk H; clear H; obtain ⟨Ao39, co39, eo39⟩ := Kd.R_slice HO_13.out; subst eo39
                         go_wp2_with (first | ((with_reducible refine gate_builtin (b := .append) (xs := #[.tmp 68, .tmp 73]) rfl ?_); at_builtin; refine Kd.S_append k79 (w0 := w) w.heap.size rfl (.tmp 68) (.tmp 73) 74 79 (.agg #[(.string ⟨#[]⟩), (.string ⟨#[]⟩), (.slice none 0 0)]) 56 rfl Tryz.underlying74 info79 rfl (by decide) (by omega) u4 x4_1 (⟨t1563, t1565, x13_3⟩ : S79) [.string t1563, .string t1565, .slice Ao39 x13_3.length co39] (fun _ => True) (fun k_ => some k_ = (.slice Ao39 x13_3.length co39 : Value).ownBlock) rfl rfl ?aP (fun k_ hk_ => ((Kd.R_mono (ok' := fun k_ => ((fun _ => True)) k_ ∧ some k_ ≠ (u4 : Value).ownBlock) (Kd.R_apart' (HO_13.out) (Kd.S_typed HO_4.out) (by decide)) (fun k_ hk => ⟨trivial, hk.2⟩))).1 k_ hk_.symm) ?aF ?aO ?aB ?aS ?aL ?_; (case aP => exact k79_mkM _ _ _ (⟨t1563, t1565, x13_3⟩ : S79) (Kd.R_mono (Kd.R_tight rfl (Kd.R_mono (ok' := fun k_ => ((fun _ => True)) k_ ∧ some k_ ≠ (u4 : Value).ownBlock) (Kd.R_apart' (HO_13.out) (Kd.S_typed HO_4.out) (by decide)) (fun k_ hk => ⟨trivial, hk.2⟩))) (fun _ h_ => h_))); (case aB => exact (R.hc1 HB.out (IsS187.ge HI1543.out))); (case aF => exact (fun _ _ => trivial)); (case aO => exact (by (with_reducible repeat (first | apply Kd.S_alloc | apply Kd.S_drewN | apply Kd.S_drew)); exact Kd.S_mono HO_4.out (fun k_ hk => ⟨trivial, fun e_ => hk e_⟩))); (case aS => exact (below_size (R.hc1 HB.out (IsS187.ge HI1543.out)))); (case aL => have := LMc38.out; omega); intro v1579 w40 ho hb hg hat; rw [← Ny1578.out] at ho; have n0_ := Aside0.mk (Kd.R_over' (R.lr HO_9.out) (Kd.S_typed (R.ls HO_4.out)) (by decide) hg); have n1_ := Aside0.mk (IsS187.grown (by repeat (first | (with_reducible first | exact HI1543.out | apply IsS187.alloc | apply IsS187.drewN | apply IsS187.drew | apply IsS187.set_0 | apply IsS187.set_1 | apply IsS187.set_2 | apply IsS187.set_3) | exact HI1543.out)) hg (IsS187.own_neS HI1543.out HO_4.out (by decide))); have n2_ := Aside0.mk (hb); have n3_ := Aside0.mk (ho); clear HO_9; clear HI1543; clear HB; clear HO_4; clear HO_13; have HO_9 := n0_; have HI1543 := n1_; have HB := n2_; have HO1580 := n3_; clear n0_ n1_ n2_ n3_; clear ho hb hg hat))
                         go_roundg k3
                         case measure => have := HK1.out; have := HJ15.out; have := HK3.out; omega
                         case rel => exact ⟨(y1578), (x6_15), (t1555), (t1556), (t1557), (t1558), R.rs, H', ⟨by have := HK1.out; have := HJ15.out; have := HK3.out; omega⟩, ⟨by (with_reducible repeat (first | apply Kd.S_alloc | apply Kd.S_drewN | apply Kd.S_drew)); exact HO1580.out⟩, ⟨by repeat (first | (with_reducible first | exact HI1543.out | apply IsS187.alloc | apply IsS187.drewN | apply IsS187.drew | apply IsS187.set_0 | apply IsS187.set_1 | apply IsS187.set_2 | apply IsS187.set_3) | exact HI1543.out)⟩, ⟨by repeat (first | (with_reducible first | exact HB.out | apply below_alloc | apply pw_below_drewN | apply below_drew1 | refine below_set ?_ (IsS187.ge HI1543.out)) | exact HB.out)⟩⟩
                       · rw [if_neg c38] at H; exact absurd H (by simp)
                 · rw [if_neg c25] at H; exact absurd H (by simp)
               · rw [if_neg c24] at H; exact absurd H (by simp)
           · rw [if_neg c15] at H; exact absurd H (by simp)
         · rw [if_neg c13] at H; exact absurd H (by simp)
       · rw [if_neg c11] at H; exact absurd H (by simp)
   · replace c7 := Bool.eq_false_iff.mpr c7; subst c7
     have H1 : ((texts_Lines_Err.f t1545 t1546 t1547 t1548).bind fun bt1549 => (some (x4_1, bt1549.1))) = some (r1, r2) := by rw [if_neg (show ¬ (false = true) by decide)] at H; exact H
     clear H; have H := H1; clear H1; replace H := Option.bind_eq_some_iff.mp H; obtain ⟨⟨t1549, t1550, t1551, t1552, t1553⟩, A410, H⟩ := H; replace H : (some (x4_1, t1549)) = some (r1, r2) := H; have A41 := Aside0.mk A410; clear A410; simp only [Option.some.injEq, Prod.mk.injEq] at H; obtain ⟨rfl, rfl⟩ := H
     go_wp2_with (first | ((with_reducible refine gate_callee (f := 136) rfl ?_); refine goesL_ (some 19) rfl rfl Tryz.func136 (by kernel_rfl) rfl #[.pointer (some ⟨g1543, 0, none⟩)] rfl R.tp ?_; (with_reducible refine (texts_Lines_Scan.calls g1543 x1544000_1 x1544001_1 x1544002_1 x1544003_1 false t1545 t1546 t1547 t1548 w _ ?side1 ?side2 A6.out).mono ?_); (case side1 => repeat (first | (with_reducible first | exact HI1543.out | apply IsS187.alloc | apply IsS187.drewN | apply IsS187.drew | apply IsS187.set_0 | apply IsS187.set_1 | apply IsS187.set_2 | apply IsS187.set_3) | exact HI1543.out)); (case side2 => repeat (first | (with_reducible first | exact HB.out | apply below_alloc | apply pw_below_drewN | apply below_drew1 | refine below_set ?_ (IsS187.ge HI1543.out)) | exact HB.out)); rintro e w42 ⟨rfl, hi, hb, hk⟩; refine ⟨_, rfl, ?_⟩; have n0_ := Aside0.mk (Kd.S_mono (Kd.S_keep (IsS187.apartS (show IsS187 w _ g1543 x1544000_1 x1544001_1 x1544002_1 x1544003_1 from by repeat (first | (with_reducible first | exact HI1543.out | apply IsS187.alloc | apply IsS187.drewN | apply IsS187.drew | apply IsS187.set_0 | apply IsS187.set_1 | apply IsS187.set_2 | apply IsS187.set_3) | exact HI1543.out)) (R.ls HO_4.out) (by decide)) hk (fun _ h => h.2)) (fun _ h => h.1)); have n1_ := Aside0.mk (hb); have n2_ := Aside0.mk (hi); clear HO_4; clear HB; clear HI1543; have HO_4 := n0_; have HB := n1_; have HI1543 := n2_; clear n0_ n1_ n2_; (try clear hb); (try clear hb2); (try clear hk); (try clear hi); (try simp only [errW_none, errW_some])) | ((with_reducible refine gate_callee (f := 139) rfl ?_); refine goesL_ (some 77) rfl rfl Tryz.func139 (by kernel_rfl) rfl #[.pointer (some ⟨g1543, 0, none⟩)] rfl R.tp ?_; (with_reducible refine (texts_Lines_Err.calls g1543 t1545 t1546 t1547 t1548 t1549 t1550 t1551 t1552 t1553 w _ ?side1 ?side2 A41.out).mono ?_); (case side1 => repeat (first | (with_reducible first | exact HI1543.out | apply IsS187.alloc | apply IsS187.drewN | apply IsS187.drew | apply IsS187.set_0 | apply IsS187.set_1 | apply IsS187.set_2 | apply IsS187.set_3) | exact HI1543.out)); (case side2 => repeat (first | (with_reducible first | exact HB.out | apply below_alloc | apply pw_below_drewN | apply below_drew1 | refine below_set ?_ (IsS187.ge HI1543.out)) | exact HB.out)); rintro e w43 ⟨rfl, hi, hb, hk⟩; refine ⟨_, rfl, ?_⟩; have n0_ := Aside0.mk (Kd.S_mono (Kd.S_keep (IsS187.apartS (show IsS187 w _ g1543 t1545 t1546 t1547 t1548 from by repeat (first | (with_reducible first | exact HI1543.out | apply IsS187.alloc | apply IsS187.drewN | apply IsS187.drew | apply IsS187.set_0 | apply IsS187.set_1 | apply IsS187.set_2 | apply IsS187.set_3) | exact HI1543.out)) (R.ls HO_4.out) (by decide)) hk (fun _ h => h.2)) (fun _ h => h.1)); have n1_ := Aside0.mk (hb); have n2_ := Aside0.mk (hi); clear HO_4; clear HB; clear HI1543; have HO_4 := n0_; have HB := n1_; have HI1543 := n2_; clear n0_ n1_ n2_; (try clear hb); (try clear hb2); (try clear hk); (try clear hi); (try simp only [errW_none, errW_some])))
     go_ret2; exact ⟨_, by first | rfl | (simp [errW_none, errW_some] <;> rfl) | (simp [*, errW_none, errW_some] <;> rfl), by (with_reducible repeat (first | apply Kd.S_alloc | apply Kd.S_drewN | apply Kd.S_drew)); exact HO_4.out, by repeat (first | (with_reducible first | exact HB.out | apply below_alloc | apply pw_below_drewN | apply below_drew1 | refine below_set ?_ (IsS187.ge HI1543.out)) | exact HB.out)⟩
end Go.Proofs.YtabfehcpcjcomaaGreatDoor.QA0
namespace Go.Proofs.YtabfehcpcjcomaaGreatDoor.R
open Go.RowKit Go.Proofs.YtabfehcpcjcomaaGreatDoor.QA0 Go.Proofs.YtabfehcpcjcomaaGreatDoorW.PrintWords Go.Proofs.YtabfehcpcjcomaaGreatDoorW.PrintLast Go.Proofs.YtabfehcpcjcomaaGreatDoorW.PrintMore
set_option linter.unusedVariables false
set_option linter.unusedSimpArgs false
theorem catch109 (p q : Addr) (w : World) :
    CallsD Tryz.prog 109 #[.pointer (some p), .pointer (some q)] .returning w fun e u' w' => e = .returned (.tuple #[]) ∧ u' = .returning ∧ w' = w := by
  refine callsD_of_wpS Tryz.func109 rfl fun c₀ cs hu => ?_
  apply wpS_seq
  apply wpS_region
  simp [wpOpsS, go_sem, recoverD, hu, Tryz.ntmps109, Exit.thenS]
  refine wpS_cond (t := false) (by simp [Act.eval, Array.replicate]) ?_
  simp only [Bool.false_eq_true, if_false]
  refine wpS_of_wp (wp_skip ?_)
  cases c₀
  simp_all [bodyPostS, results, Tryz.results109]
set_option maxHeartbeats 40000000 in
set_option maxRecDepth 100000 in
theorem tree_Buddyinfo (T : ByteArray) (x : S34) (Got : World → Nat → Value → Prop)
    (hread : ∀ W, LTabs W → Calls Tryz.prog 53 #[.agg #[.string T]] W fun e w' => ∃ v, e = .returned (.tuple #[v, .nilIface]) ∧ Got w' W.heap.size v ∧ Below W.heap.size W w')
    (hnode : ∀ W b v, Got W b v → Calls Tryz.prog 54 #[v] W fun e w' => ∃ u, e = .returned u ∧ IsNode w' W.heap.size u x ∧ Below W.heap.size W w')
    (w : World) (hT : LTabs w) :
    Calls Tryz.prog 52 #[.func (.func 53) #[.agg #[.string T]] #[], .func (.func 54) #[] #[]] w fun e w' => ∃ v, e = .returned (.tuple #[v, .int .i64 0]) ∧ IsNode w' w.heap.size v x ∧ Below w.heap.size w w' := by
  have HR0 := Aside0.mk hread
  have HN0 := Aside0.mk hnode
  have HTb := Aside0.mk hT
  have hnn : ∀ (w : World), (binOp .neq 133 .nilIface .nilIface).run Tryz.prog w = .ok (.bool false) w := fun _ => rfl
  clear hread hnode hT
  have hmf := hmf
  go_enter_defers Tryz.func52, Tryz.ntmps52
  go_upto_region 2 with (fail)
  clear hmf
  obtain ⟨hb0, hb1, hb2⟩ := alloc2_facts w (.cells z8 34) (.cells #[.int .i64 0] 3)
  have hs := (show ((w.alloc (.cells z8 34)).alloc (.cells #[.int .i64 0] 3)).heap.size = w.heap.size + 1 + 1 by simp)
  unfold z8 at hb0 hb1 hb2 hs
  have HB := Aside0.mk hb0
  have Hb1 := Aside0.mk hb1
  have Hb2 := Aside0.mk hb2
  have Hs := Aside0.mk hs
  have HTW := Aside0.mk (HTb.out.below hb0)
  clear hb0 hb1 hb2 hs
  generalize ((w.alloc (.cells #[.string ⟨#[]⟩, .int .i64 0, .bool false, .int .i64 0, .int .u64 0, .float .f64 0, .string ⟨#[]⟩, .slice none 0 0] 34)).alloc (.cells #[.int .i64 0] 3)) = W at HB Hb1 Hb2 HTW Hs ⊢
  go_wp2_with (first
    | (go_at_call 53; refine (HR0.out _ HTW.out).mono ?_; rintro e w1 ⟨vr, rfl, hg, hb⟩; have HG := Aside0.mk hg; have HBW1 := Aside0.mk hb; clear hg hb)
    | (go_at_call 54; refine (HN0.out _ _ _ HG.out).mono ?_; rintro e w2 ⟨_, rfl, ⟨v7, rfl, hR⟩, hb2⟩; obtain ⟨A7, c7, e7⟩ := Kd.R_slice hR; have HR := Aside0.mk hR; have HBW2 := Aside0.mk hb2; have E7 := Aside0.mk e7; have HBK := Aside0.mk (blk_below (blk_below Hb1.out HBW1.out) hb2); have HBI := Aside0.mk (blk_below (blk_below Hb2.out HBW1.out) hb2); clear hR hb2 e7)
    | ((with_reducible refine gate_ (.store 34 (.tmp 4) (.tmp 19)) rfl ?_); refine store_node_event rfl rfl (.tmp 4) (.tmp 19) rfl w.heap.size x E7.out rfl rfl HBK.out rfl ?_; intro w3 hw3 hbk3; have HI3 := Aside0.mk (by rw [hw3]; exact (setCells_far (nodeL x v7) 0 (w.heap.size + 1) (by omega)).trans HBI.out : w3.heap[w.heap.size + 1]? = some (.cells #[.int .i64 0] 3 (0, 0))); have HW3 := Aside0.mk hw3; have HB3 := Aside0.mk hbk3; clear hw3 hbk3; have hc5 := cell_of_blk HI3.out 0 _ rfl; have hf5 := blk_frozen HI3.out 0))
  refine leaves_cons (f := 109) (args := #[.pointer (some ⟨w.heap.size, 0, none⟩), .pointer (some ⟨w.heap.size + 1, 0, none⟩)]) (by simp) (by simp [go_sem]) ?_
  refine (catch109 ⟨w.heap.size, 0, none⟩ ⟨w.heap.size + 1, 0, none⟩ _).mono ?_
  rintro e u' w'' ⟨rfl, rfl, rfl⟩
  have hb1' : (w3.setCell ⟨w.heap.size + 1, 0, none⟩ (.int .i64 0)).heap[w.heap.size]? = some (.cells (nodeL x v7).toArray 34 (0, 0)) := (Below.heap_setCell w3 _ _ w.heap.size (by show w.heap.size ≠ w.heap.size + 1; omega)).trans HB3.out
  have hb2' : (w3.setCell ⟨w.heap.size + 1, 0, none⟩ (.int .i64 0)).heap[w.heap.size + 1]? = some (.cells #[.int .i64 0] 3 (0, 0)) := blk_set HI3.out 0 _
  have hnd := node_done2 (keepB HB.out HBW1.out (Nat.le_refl _)) (by have := HBW1.out.size; have := Hs.out; omega) HBW2.out HR.out (.int .i64 0)
  rw [← HW3.out] at hnd
  simp only [Leaves, settle]
  exact ⟨_, results_cc rfl _ _ w.heap.size (w.heap.size + 1) _ _ rfl rfl hb1' rfl hb2', _, rfl, hnd⟩
set_option maxHeartbeats 4000000 in
set_option maxRecDepth 100000 in
theorem door_Buddyinfo (T : ByteArray) (x : S34) (Got : World → Nat → Value → Prop)
    (hread : ∀ W, LTabs W → Calls Tryz.prog 53 #[.agg #[.string T]] W fun e w' => ∃ v, e = .returned (.tuple #[v, .nilIface]) ∧ Got w' W.heap.size v ∧ Below W.heap.size W w')
    (hnode : ∀ W b v, Got W b v → Calls Tryz.prog 54 #[v] W fun e w' => ∃ u, e = .returned u ∧ IsNode w' W.heap.size u x ∧ Below W.heap.size W w')
    (w : World) (hT : LTabs w) :
    Calls Tryz.prog 15 #[.string T] w fun e w' => ∃ v, e = .returned (.tuple #[v, .int .i64 0]) ∧ IsNode w' w.heap.size v x ∧ Below w.heap.size w w' := by
  have hb1 := blk_new w (.cells z8 34)
  have hB := below_alloc (Below.refl w.heap.size w) (.cells z8 34)
  have hs := (show (w.alloc (.cells z8 34)).heap.size = w.heap.size + 1 by simp)
  unfold z8 at hb1 hB hs
  have HB := Aside0.mk hB
  have Hb1 := Aside0.mk hb1
  have Hs := Aside0.mk hs
  have HR0 := Aside0.mk hread
  have HN0 := Aside0.mk hnode
  have HTW := Aside0.mk (hT.below hB)
  clear hb1 hB hs hread hnode hT
  have hmf := hmf
  go_enter Tryz.func15, Tryz.ntmps15
  go_upto_region 1 with (fail)
  generalize (w.alloc (.cells #[.string ⟨#[]⟩, .int .i64 0, .bool false, .int .i64 0, .int .u64 0, .float .f64 0, .string ⟨#[]⟩, .slice none 0 0] 34)) = W at HB Hb1 HTW Hs ⊢
  go_wp2_with (first
    | (go_at_call 42; refine (text_fs T _).mono ?_; rintro e w1 ⟨rfl, hb⟩; have HBW1 := Aside0.mk hb; clear hb)
    | (go_at_call 52; refine (tree_Buddyinfo T x Got HR0.out HN0.out _ (HTW.out.below HBW1.out)).mono ?_; rintro e w2 ⟨_, rfl, ⟨v7, rfl, hR⟩, hb2⟩; obtain ⟨A7, c7, e7⟩ := Kd.R_slice hR; have HR := Aside0.mk hR; have HBW2 := Aside0.mk hb2; have E7 := Aside0.mk e7; have HBK := Aside0.mk (blk_below (blk_below Hb1.out HBW1.out) hb2); clear hR hb2 e7)
    | ((with_reducible refine gate_ (.store 34 (.tmp 2) (.tmp 8)) rfl ?_); refine store_node_event rfl rfl (.tmp 2) (.tmp 8) rfl w.heap.size x E7.out rfl rfl HBK.out rfl ?_; intro w3 hw3 hbk3; have HW3 := Aside0.mk hw3; have HB3 := Aside0.mk hbk3; clear hw3 hbk3))
  have hnd := node_done (keepB HB.out HBW1.out (Nat.le_refl _)) (Nat.le_refl _) (by have := HBW1.out.size; have := Hs.out; omega) HBW2.out HR.out
  rw [← HW3.out] at hnd
  exact bodyPost_ret (results_ct rfl _ _ w.heap.size _ _ rfl rfl HB3.out rfl) rfl ⟨_, rfl, hnd⟩
end Go.Proofs.YtabfehcpcjcomaaGreatDoor.R
namespace Go.Proofs.YtabfehcpcjcomaaGreatDoor.R
open Go.RowKit Go.Proofs.YtabfehcpcjcomaaGreatDoor.QA0 Go.Proofs.YtabfehcpcjcomaaGreatDoorW.PrintWords Go.Proofs.YtabfehcpcjcomaaGreatDoorW.PrintLast Go.Proofs.YtabfehcpcjcomaaGreatDoorW.PrintMore
set_option linter.unusedVariables false
set_option linter.unusedSimpArgs false
set_option maxHeartbeats 4000000 in
set_option maxRecDepth 100000 in
theorem open_ok (T : ByteArray) (w : World) :
    Calls Tryz.prog 110 #[.string T] w fun e w' => e = .returned (.tuple #[.string T, .nilIface]) ∧ w' = w := by
  go_enter Tryz.func110, Tryz.ntmps110
  go_wp2
  exact bodyPost_ret (results_tmp2 rfl _ _ _) rfl ⟨rfl, rfl⟩
set_option maxHeartbeats 4000000 in
set_option maxRecDepth 100000 in
theorem close_d (T : ByteArray) (w : World) :
    CallsD Tryz.prog 111 #[.string T] .returning w fun e u' w' => e = .returned .nilIface ∧ u' = .returning ∧ w' = w := by
  refine (callsD_of_wp (P := Tryz.prog) (f := 111) (fn := Tryz.f111) Tryz.func111 rfl (R := fun e w' => e = .returned .nilIface ∧ w' = w) ?_).mono (fun e u' w' ⟨hu, he, hw⟩ => ⟨he, hu, hw⟩)
  rw [show (#[Value.string T] ++ Array.replicate (Tryz.f111.ntmps - (#[Value.string T] : Array Value).size) undef : Array Value) = #[.string T, undef, undef] from rfl]
  go_wp2
  go_ret
  exact ⟨rfl, rfl⟩
set_option maxHeartbeats 8000000 in
set_option maxRecDepth 100000 in
theorem fs_buddy (k : Nat) (T : ByteArray) (r : List S79) (w : World) (h : procfs_parseBuddyInfo.f k T = some (r, none)) (hT : LTabs w) :
    Calls Tryz.prog 53 #[.agg #[.string T]] w fun e w' => ∃ v : Value, e = .returned (.tuple #[v, .nilIface]) ∧ Kd.S k79 79 w' w.heap.size (fun _ => True) v r ∧ Below w.heap.size w w' := by
  have hb01 : Below w.heap.size w ((w.alloc (.cells #[.string T] 64)).alloc (.cells #[.string ⟨#[98, 117, 100, 100, 121, 105, 110, 102, 111]⟩] 9)) := below_alloc (below_alloc (Below.refl _ _) _) _
  have HB0 := Aside0.mk hb01
  have HT := Aside0.mk hT
  have HH := Aside0.mk h
  have hnn : ∀ (w : World), (binOp .neq 133 .nilIface .nilIface).run Tryz.prog w = .ok (.bool false) w := fun _ => rfl
  clear hb01 hT h
  go_enter_defers Tryz.func53, Tryz.ntmps53
  go_wp2_with (first
    | (go_at_call 104; refine (path_ok T _ _).mono ?_; rintro e w1 ⟨rfl, rfl⟩)
    | (go_at_call 110; refine (open_ok T _).mono ?_; rintro e w1 ⟨rfl, rfl⟩)
    | (go_at_call 112; refine (procfs_parseBuddyInfo.calls k T r none _ HH.out (HT.out.below HB0.out)).mono ?_; rintro e w3 ⟨v, rfl, hR, hb⟩; have HR' := Aside0.mk (Kd.S_lower hR HB0.out.size); have HB := Aside0.mk (keepB HB0.out hb (Nat.le_refl _)); clear hR hb))
  refine leaves_cons (f := 111) (args := #[.string T]) (by simp) (by simp [go_sem]) ?_
  refine (close_d T _).mono ?_
  rintro e u' w'' ⟨rfl, rfl, rfl⟩
  simp only [Leaves, settle]
  exact ⟨_, results_tmp2 rfl _ _ _, _, by rw [errW_none]; rfl, HR'.out, HB.out⟩
end Go.Proofs.YtabfehcpcjcomaaGreatDoor.R
