/- The texts QM0x6, without what the claims do not use, laid together by a program of this session (wip/tools/bundle.py). Conditions: those of each theorem. -/
import Derived.Test.YtcpldcndhijecaaDoorZc8
namespace Go.Proofs.YtcpldcndhijecaaDoor.QM0
open Go.RowKit Go.Proofs.YtcpldcndhijecaaDoorW.PrintWords Go.Proofs.YtcpldcndhijecaaDoorW.PrintLast Go.Proofs.YtcpldcndhijecaaDoorW.PrintMore
attribute [local go_sem] max2_int min2_int max_two min_two max_three min_three max_four min_four
set_option linter.unusedVariables false
set_option linter.unusedSimpArgs false
def spec_MountsPrint.l0 : Nat → ByteArray → List (S63) → Int → Int → Option (ByteArray × Int)
 | 0, _, _, _, _ => none
 | k + 1, x4, x7, x8, x9 => if x9 < x8 then (if 0 ≤ x9 then (if x9 < (x7.length : Int) then ((spec_mountValid.f k ((rd_T63 x7 x9).f0) ((rd_T63 x7 x9).f1) ((rd_T63 x7 x9).f2) ((rd_T63 x7 x9).f3) ((rd_T63 x7 x9).f4) ((rd_T63 x7 x9).f5) ((rd_T63 x7 x9).f6) ((rd_T63 x7 x9).f7) ((rd_T63 x7 x9).f8) ((rd_T63 x7 x9).f9) ((rd_T63 x7 x9).f10)).bind fun t154 => (if t154 = true then ((spec_natural.f k ((rd_T63 x7 x9).f0)).bind fun t155 => (if t155.size + 1 ≤ 9223372036854775807 then ((spec_natural.f k ((rd_T63 x7 x9).f1)).bind fun t156 => (if (t155 ++ (⟨#[32]⟩ : ByteArray)).size + t156.size ≤ 9223372036854775807 then (if ((t155 ++ (⟨#[32]⟩ : ByteArray)) ++ t156).size + 1 ≤ 9223372036854775807 then ((spec_natural.f k ((rd_T63 x7 x9).f2)).bind fun t157 => (if (((t155 ++ (⟨#[32]⟩ : ByteArray)) ++ t156) ++ (⟨#[32]⟩ : ByteArray)).size + t157.size ≤ 9223372036854775807 then (if ((((t155 ++ (⟨#[32]⟩ : ByteArray)) ++ t156) ++ (⟨#[32]⟩ : ByteArray)) ++ t157).size + 1 ≤ 9223372036854775807 then ((spec_natural.f k ((rd_T63 x7 x9).f3)).bind fun t158 => (if (((((t155 ++ (⟨#[32]⟩ : ByteArray)) ++ t156) ++ (⟨#[32]⟩ : ByteArray)) ++ t157) ++ (⟨#[58]⟩ : ByteArray)).size + t158.size ≤ 9223372036854775807 then (if ((((((t155 ++ (⟨#[32]⟩ : ByteArray)) ++ t156) ++ (⟨#[32]⟩ : ByteArray)) ++ t157) ++ (⟨#[58]⟩ : ByteArray)) ++ t158).size + 1 ≤ 9223372036854775807 then ((spec_octal.f k ((rd_T63 x7 x9).f4)).bind fun t159 => (if (((((((t155 ++ (⟨#[32]⟩ : ByteArray)) ++ t156) ++ (⟨#[32]⟩ : ByteArray)) ++ t157) ++ (⟨#[58]⟩ : ByteArray)) ++ t158) ++ (⟨#[32]⟩ : ByteArray)).size + t159.size ≤ 9223372036854775807 then (if ((((((((t155 ++ (⟨#[32]⟩ : ByteArray)) ++ t156) ++ (⟨#[32]⟩ : ByteArray)) ++ t157) ++ (⟨#[58]⟩ : ByteArray)) ++ t158) ++ (⟨#[32]⟩ : ByteArray)) ++ t159).size + 1 ≤ 9223372036854775807 then ((spec_octal.f k ((rd_T63 x7 x9).f5)).bind fun t160 => (if (((((((((t155 ++ (⟨#[32]⟩ : ByteArray)) ++ t156) ++ (⟨#[32]⟩ : ByteArray)) ++ t157) ++ (⟨#[58]⟩ : ByteArray)) ++ t158) ++ (⟨#[32]⟩ : ByteArray)) ++ t159) ++ (⟨#[32]⟩ : ByteArray)).size + t160.size ≤ 9223372036854775807 then (if ((((((((((t155 ++ (⟨#[32]⟩ : ByteArray)) ++ t156) ++ (⟨#[32]⟩ : ByteArray)) ++ t157) ++ (⟨#[58]⟩ : ByteArray)) ++ t158) ++ (⟨#[32]⟩ : ByteArray)) ++ t159) ++ (⟨#[32]⟩ : ByteArray)) ++ t160).size + 1 ≤ 9223372036854775807 then (if (((((((((((t155 ++ (⟨#[32]⟩ : ByteArray)) ++ t156) ++ (⟨#[32]⟩ : ByteArray)) ++ t157) ++ (⟨#[58]⟩ : ByteArray)) ++ t158) ++ (⟨#[32]⟩ : ByteArray)) ++ t159) ++ (⟨#[32]⟩ : ByteArray)) ++ t160) ++ (⟨#[32]⟩ : ByteArray)).size + ((rd_T63 x7 x9).f6).size ≤ 9223372036854775807 then (if x4.size + ((((((((((((t155 ++ (⟨#[32]⟩ : ByteArray)) ++ t156) ++ (⟨#[32]⟩ : ByteArray)) ++ t157) ++ (⟨#[58]⟩ : ByteArray)) ++ t158) ++ (⟨#[32]⟩ : ByteArray)) ++ t159) ++ (⟨#[32]⟩ : ByteArray)) ++ t160) ++ (⟨#[32]⟩ : ByteArray)) ++ ((rd_T63 x7 x9).f6)).size ≤ 9223372036854775807 then (if ((rd_T63 x7 x9).f7).toList = ([] : List UInt8) then (if 3 + ((rd_T63 x7 x9).f8).size ≤ 9223372036854775807 then (if ((⟨#[32, 45, 32]⟩ : ByteArray) ++ ((rd_T63 x7 x9).f8)).size + 1 ≤ 9223372036854775807 then ((spec_octal.f k ((rd_T63 x7 x9).f9)).bind fun t161 => (if (((⟨#[32, 45, 32]⟩ : ByteArray) ++ ((rd_T63 x7 x9).f8)) ++ (⟨#[32]⟩ : ByteArray)).size + t161.size ≤ 9223372036854775807 then (if ((((⟨#[32, 45, 32]⟩ : ByteArray) ++ ((rd_T63 x7 x9).f8)) ++ (⟨#[32]⟩ : ByteArray)) ++ t161).size + 1 ≤ 9223372036854775807 then (if (((((⟨#[32, 45, 32]⟩ : ByteArray) ++ ((rd_T63 x7 x9).f8)) ++ (⟨#[32]⟩ : ByteArray)) ++ t161) ++ (⟨#[32]⟩ : ByteArray)).size + ((rd_T63 x7 x9).f10).size ≤ 9223372036854775807 then (if ((((((⟨#[32, 45, 32]⟩ : ByteArray) ++ ((rd_T63 x7 x9).f8)) ++ (⟨#[32]⟩ : ByteArray)) ++ t161) ++ (⟨#[32]⟩ : ByteArray)) ++ ((rd_T63 x7 x9).f10)).size + 1 ≤ 9223372036854775807 then (if (x4 ++ ((((((((((((t155 ++ (⟨#[32]⟩ : ByteArray)) ++ t156) ++ (⟨#[32]⟩ : ByteArray)) ++ t157) ++ (⟨#[58]⟩ : ByteArray)) ++ t158) ++ (⟨#[32]⟩ : ByteArray)) ++ t159) ++ (⟨#[32]⟩ : ByteArray)) ++ t160) ++ (⟨#[32]⟩ : ByteArray)) ++ ((rd_T63 x7 x9).f6))).size + (((((((⟨#[32, 45, 32]⟩ : ByteArray) ++ ((rd_T63 x7 x9).f8)) ++ (⟨#[32]⟩ : ByteArray)) ++ t161) ++ (⟨#[32]⟩ : ByteArray)) ++ ((rd_T63 x7 x9).f10)) ++ (⟨#[10]⟩ : ByteArray)).size ≤ 9223372036854775807 then (spec_MountsPrint.l0 k ((x4 ++ ((((((((((((t155 ++ (⟨#[32]⟩ : ByteArray)) ++ t156) ++ (⟨#[32]⟩ : ByteArray)) ++ t157) ++ (⟨#[58]⟩ : ByteArray)) ++ t158) ++ (⟨#[32]⟩ : ByteArray)) ++ t159) ++ (⟨#[32]⟩ : ByteArray)) ++ t160) ++ (⟨#[32]⟩ : ByteArray)) ++ ((rd_T63 x7 x9).f6))) ++ (((((((⟨#[32, 45, 32]⟩ : ByteArray) ++ ((rd_T63 x7 x9).f8)) ++ (⟨#[32]⟩ : ByteArray)) ++ t161) ++ (⟨#[32]⟩ : ByteArray)) ++ ((rd_T63 x7 x9).f10)) ++ (⟨#[10]⟩ : ByteArray))) x7 x8 (wrap64 (x9 + 1))) else (none)) else (none)) else (none)) else (none)) else (none))) else (none)) else (none)) else (if 1 + ((rd_T63 x7 x9).f7).size ≤ 9223372036854775807 then (if (x4 ++ ((((((((((((t155 ++ (⟨#[32]⟩ : ByteArray)) ++ t156) ++ (⟨#[32]⟩ : ByteArray)) ++ t157) ++ (⟨#[58]⟩ : ByteArray)) ++ t158) ++ (⟨#[32]⟩ : ByteArray)) ++ t159) ++ (⟨#[32]⟩ : ByteArray)) ++ t160) ++ (⟨#[32]⟩ : ByteArray)) ++ ((rd_T63 x7 x9).f6))).size + ((⟨#[32]⟩ : ByteArray) ++ ((rd_T63 x7 x9).f7)).size ≤ 9223372036854775807 then (if 3 + ((rd_T63 x7 x9).f8).size ≤ 9223372036854775807 then (if ((⟨#[32, 45, 32]⟩ : ByteArray) ++ ((rd_T63 x7 x9).f8)).size + 1 ≤ 9223372036854775807 then ((spec_octal.f k ((rd_T63 x7 x9).f9)).bind fun t162 => (if (((⟨#[32, 45, 32]⟩ : ByteArray) ++ ((rd_T63 x7 x9).f8)) ++ (⟨#[32]⟩ : ByteArray)).size + t162.size ≤ 9223372036854775807 then (if ((((⟨#[32, 45, 32]⟩ : ByteArray) ++ ((rd_T63 x7 x9).f8)) ++ (⟨#[32]⟩ : ByteArray)) ++ t162).size + 1 ≤ 9223372036854775807 then (if (((((⟨#[32, 45, 32]⟩ : ByteArray) ++ ((rd_T63 x7 x9).f8)) ++ (⟨#[32]⟩ : ByteArray)) ++ t162) ++ (⟨#[32]⟩ : ByteArray)).size + ((rd_T63 x7 x9).f10).size ≤ 9223372036854775807 then (if ((((((⟨#[32, 45, 32]⟩ : ByteArray) ++ ((rd_T63 x7 x9).f8)) ++ (⟨#[32]⟩ : ByteArray)) ++ t162) ++ (⟨#[32]⟩ : ByteArray)) ++ ((rd_T63 x7 x9).f10)).size + 1 ≤ 9223372036854775807 then (if ((x4 ++ ((((((((((((t155 ++ (⟨#[32]⟩ : ByteArray)) ++ t156) ++ (⟨#[32]⟩ : ByteArray)) ++ t157) ++ (⟨#[58]⟩ : ByteArray)) ++ t158) ++ (⟨#[32]⟩ : ByteArray)) ++ t159) ++ (⟨#[32]⟩ : ByteArray)) ++ t160) ++ (⟨#[32]⟩ : ByteArray)) ++ ((rd_T63 x7 x9).f6))) ++ ((⟨#[32]⟩ : ByteArray) ++ ((rd_T63 x7 x9).f7))).size + (((((((⟨#[32, 45, 32]⟩ : ByteArray) ++ ((rd_T63 x7 x9).f8)) ++ (⟨#[32]⟩ : ByteArray)) ++ t162) ++ (⟨#[32]⟩ : ByteArray)) ++ ((rd_T63 x7 x9).f10)) ++ (⟨#[10]⟩ : ByteArray)).size ≤ 9223372036854775807 then (spec_MountsPrint.l0 k (((x4 ++ ((((((((((((t155 ++ (⟨#[32]⟩ : ByteArray)) ++ t156) ++ (⟨#[32]⟩ : ByteArray)) ++ t157) ++ (⟨#[58]⟩ : ByteArray)) ++ t158) ++ (⟨#[32]⟩ : ByteArray)) ++ t159) ++ (⟨#[32]⟩ : ByteArray)) ++ t160) ++ (⟨#[32]⟩ : ByteArray)) ++ ((rd_T63 x7 x9).f6))) ++ ((⟨#[32]⟩ : ByteArray) ++ ((rd_T63 x7 x9).f7))) ++ (((((((⟨#[32, 45, 32]⟩ : ByteArray) ++ ((rd_T63 x7 x9).f8)) ++ (⟨#[32]⟩ : ByteArray)) ++ t162) ++ (⟨#[32]⟩ : ByteArray)) ++ ((rd_T63 x7 x9).f10)) ++ (⟨#[10]⟩ : ByteArray))) x7 x8 (wrap64 (x9 + 1))) else (none)) else (none)) else (none)) else (none)) else (none))) else (none)) else (none)) else (none)) else (none))) else (none)) else (none)) else (none)) else (none))) else (none)) else (none))) else (none)) else (none))) else (none)) else (none))) else (none)) else (none))) else (none))) else (some ((⟨#[]⟩ : ByteArray), 2)))) else (none)) else (none)) else (some (x4, 1))
def spec_MountsPrint.f (k : Nat) (l0 : List (S63)) : Option (ByteArray × Int) := spec_MountsPrint.l0 k (⟨#[]⟩ : ByteArray) l0 (l0.length : Int) 0
def spec_MountsPrint.T7 : Bool × List (List Nat × List Nat) := (true, [([], []), ([], []), ([1], [1]), ([2], [2]), ([3], [3]), ([], []), ([5], [5]), ([6, 3], [6]), ([4, 7], [4, 7]), ([8], [8]), ([], []), ([10], [10]), ([11, 7], [11]), ([9, 12], [9, 12]), ([13], [13]), ([], []), ([15], [15]), ([16, 12], [16]), ([14, 17], [14, 17]), ([18], [18]), ([], []), ([20], [20]), ([21, 17], [21]), ([19, 22], [19, 22]), ([23], [23]), ([], []), ([25], [25]), ([26, 22], [26]), ([24, 27], [24, 27]), ([28], [28]), ([], []), ([30], [30]), ([29, 31], [29, 31]), ([0, 32], [0, 32]), ([33, 27, 0, 1, 2, 3, 4, 5, 6, 7, 8, 9, 10, 11, 12, 13, 14, 15, 16, 17, 18, 19, 20, 21, 22, 23, 24, 25, 26, 27, 28, 29, 30, 31, 32, 33], [0, 33])])
def spec_MountsPrint.B7 : List Nat := [0, 0, 2, 6, 14, 0, 32, 110, 254, 510, 0, 1024, 3310, 8190, 16382, 0, 32768, 105710, 262142, 524286, 0, 1048576, 3382510, 8388606, 16777214, 0, 33554432, 108240110, 268435454, 536870910, 0, 1073741824, 4294967294, 8589934591, 17179869183]
theorem spec_MountsPrint.tab7 : rtab .any (opsOf Tryd.f20 7) = spec_MountsPrint.T7 := by kernel_rfl
theorem spec_MountsPrint.bits7 : waitsOk spec_MountsPrint.T7.2 spec_MountsPrint.B7 = true := by kernel_rfl
def spec_MountsPrint.T10 : Bool × List (List Nat × List Nat) := (true, [([], []), ([], []), ([1], [1]), ([2], [2]), ([3], [3]), ([], []), ([5], [5]), ([6], [6]), ([4, 7], [4, 7]), ([8], [8]), ([], []), ([10], [10]), ([9, 11], [9, 11]), ([12], [12]), ([0, 13], [0, 13]), ([14, 7, 0, 1, 2, 3, 4, 5, 6, 7, 8, 9, 10, 11, 12, 13, 14], [0, 14])])
def spec_MountsPrint.B10 : List Nat := [0, 0, 2, 6, 14, 0, 32, 96, 254, 510, 0, 1024, 4094, 8190, 16383, 32767]
theorem spec_MountsPrint.tab10 : rtab .any (opsOf Tryd.f20 10) = spec_MountsPrint.T10 := by kernel_rfl
theorem spec_MountsPrint.bits10 : waitsOk spec_MountsPrint.T10.2 spec_MountsPrint.B10 = true := by kernel_rfl
set_option maxHeartbeats 8000000 in
set_option maxRecDepth 100000 in
theorem spec_MountsPrint.calls (k : Nat) (A0 : Option Addr) (c0 : Nat) (l0 : List (S63)) (r1 : ByteArray) (r2 : Int) (w : World) (hr0 : Kd.C k63 w A0 l0.length l0) (hc0 : l0.length ≤ c0) (h : spec_MountsPrint.f k l0 = some (r1, r2)) :
 Calls Tryd.prog 20 #[.slice A0 l0.length c0] w fun e w' => e = .returned (.tuple #[.string r1, .int .i64 r2]) ∧ Below w.heap.size w w' := by
 have hu63 := Tryd.underlying63
 have HR0 := Aside0.mk hr0
 have HC0 := Aside0.mk hc0
 clear hr0 hc0
 have HB := Aside0.mk (Below.refl w.heap.size w)
 have H : (spec_MountsPrint.l0 k (⟨#[]⟩ : ByteArray) l0 (l0.length : Int) 0) = some (r1, r2) := h
 clear h
 have H' := Aside0.mk H
 clear H
 go_enter Tryd.func20, Tryd.ntmps20
 go_wp2
 go_loopg [4, 9] k (fun kq v4 v9 w' => ∃ (x4_1 : ByteArray) (x9_1 : Int), v4 = .string x4_1 ∧ v9 = .int .i64 x9_1 ∧ Aside0 (spec_MountsPrint.l0 kq x4_1 l0 (l0.length : Int) x9_1 = some (r1, r2)) ∧ Aside0 (kq ≤ k) ∧ Aside0 (Below w.heap.size w w'))
 case atStart => exact ⟨((⟨#[]⟩ : ByteArray)), (0), (by first | rfl | (simp; done) | (simp [*]; done)), (by first | rfl | (simp; done) | (simp [*]; done)), H', ⟨Nat.le_refl _⟩, ⟨by repeat (first | (with_reducible first | exact HB.out | apply below_alloc | apply pw_below_drewN | apply below_drew1) | exact HB.out)⟩⟩
 case round =>
  clear H'
  obtain ⟨x4_1, x9_1, rfl, rfl, HA, HK1, HB⟩ := hrel
  cases gk with
  | zero => exact absurd HA.out (by simp [spec_MountsPrint.l0])
  | succ k1 =>
   have H := HA.out
   clear HA
   simp only [spec_MountsPrint.l0] at H
   by_cases c2 : x9_1 < (l0.length : Int)
   · rw [if_pos c2] at H
     have c2b0 : decide (x9_1 < (l0.length : Int)) = true := decide_eq_true c2
     clear c2
     by_cases c3 : 0 ≤ x9_1
     · rw [if_pos c3] at H
       have c3b0 : decide (0 ≤ x9_1) = true := decide_eq_true c3
       clear c3
       by_cases c4 : x9_1 < (l0.length : Int)
       · rw [if_pos c4] at H
         have c4b0 : decide (x9_1 < (l0.length : Int)) = true := decide_eq_true c4
         clear c4
         replace H := Option.bind_eq_some_iff.mp H
         obtain ⟨t154, A50, H⟩ := H
         (try dsimp only at H)
         have A5 := Aside0.mk A50
         clear A50
         by_cases c6 : t154 = true
         · subst c6
           rw [if_pos rfl] at H
           have H1 := H
           clear H
           have H := H1
           clear H1
           replace H := Option.bind_eq_some_iff.mp H
           obtain ⟨t155, A70, H⟩ := H
           (try dsimp only at H)
           have A7 := Aside0.mk A70
           clear A70
           by_cases c8 : t155.size + 1 ≤ 9223372036854775807
           · rw [if_pos c8] at H
             have c8b0 := eq_true c8
             have c8b1 : decide (t155.size + 1 ≤ 9223372036854775807) = true := decide_eq_true c8
             try have c8b2 : (9223372036854775807 < t155.size + 1) = False := eq_false (Nat.not_lt.2 c8)
             replace H := Option.bind_eq_some_iff.mp H
             obtain ⟨t156, A90, H⟩ := H
             (try dsimp only at H)
             have A9 := Aside0.mk A90
             clear A90
             by_cases c10 : (t155 ++ (⟨#[32]⟩ : ByteArray)).size + t156.size ≤ 9223372036854775807
             · rw [if_pos c10] at H
               have c10b0 := eq_true c10
               have c10b1 : decide ((t155 ++ (⟨#[32]⟩ : ByteArray)).size + t156.size ≤ 9223372036854775807) = true := decide_eq_true c10
               try have c10b2 : (9223372036854775807 < (t155 ++ (⟨#[32]⟩ : ByteArray)).size + t156.size) = False := eq_false (Nat.not_lt.2 c10)
               have c10b3 : (9223372036854775807 < t155.size + 1 + t156.size) = False := by have h_ := c10b2; simp only [ByteArray.size_append] at h_; exact h_
               by_cases c11 : ((t155 ++ (⟨#[32]⟩ : ByteArray)) ++ t156).size + 1 ≤ 9223372036854775807
               · rw [if_pos c11] at H
                 have c11b0 := eq_true c11
                 have c11b1 : decide (((t155 ++ (⟨#[32]⟩ : ByteArray)) ++ t156).size + 1 ≤ 9223372036854775807) = true := decide_eq_true c11
                 try have c11b2 : (9223372036854775807 < ((t155 ++ (⟨#[32]⟩ : ByteArray)) ++ t156).size + 1) = False := eq_false (Nat.not_lt.2 c11)
                 have c11b3 : (9223372036854775807 < t155.size + 1 + t156.size + 1) = False := by have h_ := c11b2; simp only [ByteArray.size_append] at h_; exact h_
                 replace H := Option.bind_eq_some_iff.mp H
                 obtain ⟨t157, A120, H⟩ := H
                 (try dsimp only at H)
                 have A12 := Aside0.mk A120
                 clear A120
                 by_cases c13 : (((t155 ++ (⟨#[32]⟩ : ByteArray)) ++ t156) ++ (⟨#[32]⟩ : ByteArray)).size + t157.size ≤ 9223372036854775807
                 · rw [if_pos c13] at H
                   have c13b0 := eq_true c13
                   have c13b1 : decide ((((t155 ++ (⟨#[32]⟩ : ByteArray)) ++ t156) ++ (⟨#[32]⟩ : ByteArray)).size + t157.size ≤ 9223372036854775807) = true := decide_eq_true c13
                   try have c13b2 : (9223372036854775807 < (((t155 ++ (⟨#[32]⟩ : ByteArray)) ++ t156) ++ (⟨#[32]⟩ : ByteArray)).size + t157.size) = False := eq_false (Nat.not_lt.2 c13)
                   have c13b3 : (9223372036854775807 < t155.size + 1 + t156.size + 1 + t157.size) = False := by have h_ := c13b2; simp only [ByteArray.size_append] at h_; exact h_
                   by_cases c14 : ((((t155 ++ (⟨#[32]⟩ : ByteArray)) ++ t156) ++ (⟨#[32]⟩ : ByteArray)) ++ t157).size + 1 ≤ 9223372036854775807
                   · rw [if_pos c14] at H
                     have c14b0 := eq_true c14
                     have c14b1 : decide (((((t155 ++ (⟨#[32]⟩ : ByteArray)) ++ t156) ++ (⟨#[32]⟩ : ByteArray)) ++ t157).size + 1 ≤ 9223372036854775807) = true := decide_eq_true c14
                     try have c14b2 : (9223372036854775807 < ((((t155 ++ (⟨#[32]⟩ : ByteArray)) ++ t156) ++ (⟨#[32]⟩ : ByteArray)) ++ t157).size + 1) = False := eq_false (Nat.not_lt.2 c14)
                     have c14b3 : (9223372036854775807 < t155.size + 1 + t156.size + 1 + t157.size + 1) = False := by have h_ := c14b2; simp only [ByteArray.size_append] at h_; exact h_
                     replace H := Option.bind_eq_some_iff.mp H
                     obtain ⟨t158, A150, H⟩ := H
                     (try dsimp only at H)
                     have A15 := Aside0.mk A150
                     clear A150
                     by_cases c16 : (((((t155 ++ (⟨#[32]⟩ : ByteArray)) ++ t156) ++ (⟨#[32]⟩ : ByteArray)) ++ t157) ++ (⟨#[58]⟩ : ByteArray)).size + t158.size ≤ 9223372036854775807
                     · rw [if_pos c16] at H
                       have c16b0 := eq_true c16
                       have c16b1 : decide ((((((t155 ++ (⟨#[32]⟩ : ByteArray)) ++ t156) ++ (⟨#[32]⟩ : ByteArray)) ++ t157) ++ (⟨#[58]⟩ : ByteArray)).size + t158.size ≤ 9223372036854775807) = true := decide_eq_true c16
                       try have c16b2 : (9223372036854775807 < (((((t155 ++ (⟨#[32]⟩ : ByteArray)) ++ t156) ++ (⟨#[32]⟩ : ByteArray)) ++ t157) ++ (⟨#[58]⟩ : ByteArray)).size + t158.size) = False := eq_false (Nat.not_lt.2 c16)
                       have c16b3 : (9223372036854775807 < t155.size + 1 + t156.size + 1 + t157.size + 1 + t158.size) = False := by have h_ := c16b2; simp only [ByteArray.size_append] at h_; exact h_
                       by_cases c17 : ((((((t155 ++ (⟨#[32]⟩ : ByteArray)) ++ t156) ++ (⟨#[32]⟩ : ByteArray)) ++ t157) ++ (⟨#[58]⟩ : ByteArray)) ++ t158).size + 1 ≤ 9223372036854775807
                       · rw [if_pos c17] at H
                         have c17b0 := eq_true c17
                         have c17b1 : decide (((((((t155 ++ (⟨#[32]⟩ : ByteArray)) ++ t156) ++ (⟨#[32]⟩ : ByteArray)) ++ t157) ++ (⟨#[58]⟩ : ByteArray)) ++ t158).size + 1 ≤ 9223372036854775807) = true := decide_eq_true c17
                         try have c17b2 : (9223372036854775807 < ((((((t155 ++ (⟨#[32]⟩ : ByteArray)) ++ t156) ++ (⟨#[32]⟩ : ByteArray)) ++ t157) ++ (⟨#[58]⟩ : ByteArray)) ++ t158).size + 1) = False := eq_false (Nat.not_lt.2 c17)
                         have c17b3 : (9223372036854775807 < t155.size + 1 + t156.size + 1 + t157.size + 1 + t158.size + 1) = False := by have h_ := c17b2; simp only [ByteArray.size_append] at h_; exact h_
                         replace H := Option.bind_eq_some_iff.mp H
                         obtain ⟨t159, A180, H⟩ := H
                         (try dsimp only at H)
                         have A18 := Aside0.mk A180
                         clear A180
                         by_cases c19 : (((((((t155 ++ (⟨#[32]⟩ : ByteArray)) ++ t156) ++ (⟨#[32]⟩ : ByteArray)) ++ t157) ++ (⟨#[58]⟩ : ByteArray)) ++ t158) ++ (⟨#[32]⟩ : ByteArray)).size + t159.size ≤ 9223372036854775807
                         · rw [if_pos c19] at H
                           have c19b0 := eq_true c19
                           have c19b1 : decide ((((((((t155 ++ (⟨#[32]⟩ : ByteArray)) ++ t156) ++ (⟨#[32]⟩ : ByteArray)) ++ t157) ++ (⟨#[58]⟩ : ByteArray)) ++ t158) ++ (⟨#[32]⟩ : ByteArray)).size + t159.size ≤ 9223372036854775807) = true := decide_eq_true c19
                           try have c19b2 : (9223372036854775807 < (((((((t155 ++ (⟨#[32]⟩ : ByteArray)) ++ t156) ++ (⟨#[32]⟩ : ByteArray)) ++ t157) ++ (⟨#[58]⟩ : ByteArray)) ++ t158) ++ (⟨#[32]⟩ : ByteArray)).size + t159.size) = False := eq_false (Nat.not_lt.2 c19)
                           have c19b3 : (9223372036854775807 < t155.size + 1 + t156.size + 1 + t157.size + 1 + t158.size + 1 + t159.size) = False := by have h_ := c19b2; simp only [ByteArray.size_append] at h_; exact h_
                           by_cases c20 : ((((((((t155 ++ (⟨#[32]⟩ : ByteArray)) ++ t156) ++ (⟨#[32]⟩ : ByteArray)) ++ t157) ++ (⟨#[58]⟩ : ByteArray)) ++ t158) ++ (⟨#[32]⟩ : ByteArray)) ++ t159).size + 1 ≤ 9223372036854775807
                           · rw [if_pos c20] at H
                             have c20b0 := eq_true c20
                             have c20b1 : decide (((((((((t155 ++ (⟨#[32]⟩ : ByteArray)) ++ t156) ++ (⟨#[32]⟩ : ByteArray)) ++ t157) ++ (⟨#[58]⟩ : ByteArray)) ++ t158) ++ (⟨#[32]⟩ : ByteArray)) ++ t159).size + 1 ≤ 9223372036854775807) = true := decide_eq_true c20
                             try have c20b2 : (9223372036854775807 < ((((((((t155 ++ (⟨#[32]⟩ : ByteArray)) ++ t156) ++ (⟨#[32]⟩ : ByteArray)) ++ t157) ++ (⟨#[58]⟩ : ByteArray)) ++ t158) ++ (⟨#[32]⟩ : ByteArray)) ++ t159).size + 1) = False := eq_false (Nat.not_lt.2 c20)
                             have c20b3 : (9223372036854775807 < t155.size + 1 + t156.size + 1 + t157.size + 1 + t158.size + 1 + t159.size + 1) = False := by have h_ := c20b2; simp only [ByteArray.size_append] at h_; exact h_
                             replace H := Option.bind_eq_some_iff.mp H
                             obtain ⟨t160, A210, H⟩ := H
                             (try dsimp only at H)
                             have A21 := Aside0.mk A210
                             clear A210
                             by_cases c22 : (((((((((t155 ++ (⟨#[32]⟩ : ByteArray)) ++ t156) ++ (⟨#[32]⟩ : ByteArray)) ++ t157) ++ (⟨#[58]⟩ : ByteArray)) ++ t158) ++ (⟨#[32]⟩ : ByteArray)) ++ t159) ++ (⟨#[32]⟩ : ByteArray)).size + t160.size ≤ 9223372036854775807
                             · rw [if_pos c22] at H
                               have c22b0 := eq_true c22
                               have c22b1 : decide ((((((((((t155 ++ (⟨#[32]⟩ : ByteArray)) ++ t156) ++ (⟨#[32]⟩ : ByteArray)) ++ t157) ++ (⟨#[58]⟩ : ByteArray)) ++ t158) ++ (⟨#[32]⟩ : ByteArray)) ++ t159) ++ (⟨#[32]⟩ : ByteArray)).size + t160.size ≤ 9223372036854775807) = true := decide_eq_true c22
                               try have c22b2 : (9223372036854775807 < (((((((((t155 ++ (⟨#[32]⟩ : ByteArray)) ++ t156) ++ (⟨#[32]⟩ : ByteArray)) ++ t157) ++ (⟨#[58]⟩ : ByteArray)) ++ t158) ++ (⟨#[32]⟩ : ByteArray)) ++ t159) ++ (⟨#[32]⟩ : ByteArray)).size + t160.size) = False := eq_false (Nat.not_lt.2 c22)
                               have c22b3 : (9223372036854775807 < t155.size + 1 + t156.size + 1 + t157.size + 1 + t158.size + 1 + t159.size + 1 + t160.size) = False := by have h_ := c22b2; simp only [ByteArray.size_append] at h_; exact h_
                               by_cases c23 : ((((((((((t155 ++ (⟨#[32]⟩ : ByteArray)) ++ t156) ++ (⟨#[32]⟩ : ByteArray)) ++ t157) ++ (⟨#[58]⟩ : ByteArray)) ++ t158) ++ (⟨#[32]⟩ : ByteArray)) ++ t159) ++ (⟨#[32]⟩ : ByteArray)) ++ t160).size + 1 ≤ 9223372036854775807
                               · rw [if_pos c23] at H
                                 have c23b0 := eq_true c23
                                 have c23b1 : decide (((((((((((t155 ++ (⟨#[32]⟩ : ByteArray)) ++ t156) ++ (⟨#[32]⟩ : ByteArray)) ++ t157) ++ (⟨#[58]⟩ : ByteArray)) ++ t158) ++ (⟨#[32]⟩ : ByteArray)) ++ t159) ++ (⟨#[32]⟩ : ByteArray)) ++ t160).size + 1 ≤ 9223372036854775807) = true := decide_eq_true c23
                                 try have c23b2 : (9223372036854775807 < ((((((((((t155 ++ (⟨#[32]⟩ : ByteArray)) ++ t156) ++ (⟨#[32]⟩ : ByteArray)) ++ t157) ++ (⟨#[58]⟩ : ByteArray)) ++ t158) ++ (⟨#[32]⟩ : ByteArray)) ++ t159) ++ (⟨#[32]⟩ : ByteArray)) ++ t160).size + 1) = False := eq_false (Nat.not_lt.2 c23)
                                 have c23b3 : (9223372036854775807 < t155.size + 1 + t156.size + 1 + t157.size + 1 + t158.size + 1 + t159.size + 1 + t160.size + 1) = False := by have h_ := c23b2; simp only [ByteArray.size_append] at h_; exact h_
                                 by_cases c24 : (((((((((((t155 ++ (⟨#[32]⟩ : ByteArray)) ++ t156) ++ (⟨#[32]⟩ : ByteArray)) ++ t157) ++ (⟨#[58]⟩ : ByteArray)) ++ t158) ++ (⟨#[32]⟩ : ByteArray)) ++ t159) ++ (⟨#[32]⟩ : ByteArray)) ++ t160) ++ (⟨#[32]⟩ : ByteArray)).size + ((rd_T63 l0 x9_1).f6).size ≤ 9223372036854775807
                                 · rw [if_pos c24] at H
                                   have c24b0 := eq_true c24
                                   have c24b1 : decide ((((((((((((t155 ++ (⟨#[32]⟩ : ByteArray)) ++ t156) ++ (⟨#[32]⟩ : ByteArray)) ++ t157) ++ (⟨#[58]⟩ : ByteArray)) ++ t158) ++ (⟨#[32]⟩ : ByteArray)) ++ t159) ++ (⟨#[32]⟩ : ByteArray)) ++ t160) ++ (⟨#[32]⟩ : ByteArray)).size + ((rd_T63 l0 x9_1).f6).size ≤ 9223372036854775807) = true := decide_eq_true c24
                                   try have c24b2 : (9223372036854775807 < (((((((((((t155 ++ (⟨#[32]⟩ : ByteArray)) ++ t156) ++ (⟨#[32]⟩ : ByteArray)) ++ t157) ++ (⟨#[58]⟩ : ByteArray)) ++ t158) ++ (⟨#[32]⟩ : ByteArray)) ++ t159) ++ (⟨#[32]⟩ : ByteArray)) ++ t160) ++ (⟨#[32]⟩ : ByteArray)).size + ((rd_T63 l0 x9_1).f6).size) = False := eq_false (Nat.not_lt.2 c24)
                                   have c24b3 : (9223372036854775807 < t155.size + 1 + t156.size + 1 + t157.size + 1 + t158.size + 1 + t159.size + 1 + t160.size + 1 + ((rd_T63 l0 x9_1).f6).size) = False := by have h_ := c24b2; simp only [ByteArray.size_append] at h_; exact h_
                                   by_cases c25 : x4_1.size + ((((((((((((t155 ++ (⟨#[32]⟩ : ByteArray)) ++ t156) ++ (⟨#[32]⟩ : ByteArray)) ++ t157) ++ (⟨#[58]⟩ : ByteArray)) ++ t158) ++ (⟨#[32]⟩ : ByteArray)) ++ t159) ++ (⟨#[32]⟩ : ByteArray)) ++ t160) ++ (⟨#[32]⟩ : ByteArray)) ++ ((rd_T63 l0 x9_1).f6)).size ≤ 9223372036854775807
                                   · rw [if_pos c25] at H
                                     have c25b0 := eq_true c25
                                     have c25b1 : decide (x4_1.size + ((((((((((((t155 ++ (⟨#[32]⟩ : ByteArray)) ++ t156) ++ (⟨#[32]⟩ : ByteArray)) ++ t157) ++ (⟨#[58]⟩ : ByteArray)) ++ t158) ++ (⟨#[32]⟩ : ByteArray)) ++ t159) ++ (⟨#[32]⟩ : ByteArray)) ++ t160) ++ (⟨#[32]⟩ : ByteArray)) ++ ((rd_T63 l0 x9_1).f6)).size ≤ 9223372036854775807) = true := decide_eq_true c25
                                     try have c25b2 : (9223372036854775807 < x4_1.size + ((((((((((((t155 ++ (⟨#[32]⟩ : ByteArray)) ++ t156) ++ (⟨#[32]⟩ : ByteArray)) ++ t157) ++ (⟨#[58]⟩ : ByteArray)) ++ t158) ++ (⟨#[32]⟩ : ByteArray)) ++ t159) ++ (⟨#[32]⟩ : ByteArray)) ++ t160) ++ (⟨#[32]⟩ : ByteArray)) ++ ((rd_T63 l0 x9_1).f6)).size) = False := eq_false (Nat.not_lt.2 c25)
                                     have c25b3 : (9223372036854775807 < x4_1.size + (t155.size + 1 + t156.size + 1 + t157.size + 1 + t158.size + 1 + t159.size + 1 + t160.size + 1 + ((rd_T63 l0 x9_1).f6).size)) = False := by have h_ := c25b2; simp only [ByteArray.size_append] at h_; exact h_
                                     by_cases c26 : ((rd_T63 l0 x9_1).f7).toList = ([] : List UInt8)
                                     · rw [if_pos c26] at H
                                       have c26b0 : (((rd_T63 l0 x9_1).f7).toList == ([] : List UInt8)) = true := beq_iff_eq.mpr c26
                                       have c26b1 : (((rd_T63 l0 x9_1).f7).toList != ([] : List UInt8)) = false := bne_eq_false_iff_eq.mpr c26
                                       clear c26
                                       by_cases c27 : 3 + ((rd_T63 l0 x9_1).f8).size ≤ 9223372036854775807
                                       · rw [if_pos c27] at H
                                         have c27b0 := eq_true c27
                                         have c27b1 : decide (3 + ((rd_T63 l0 x9_1).f8).size ≤ 9223372036854775807) = true := decide_eq_true c27
                                         try have c27b2 : (9223372036854775807 < 3 + ((rd_T63 l0 x9_1).f8).size) = False := eq_false (Nat.not_lt.2 c27)
                                         by_cases c28 : ((⟨#[32, 45, 32]⟩ : ByteArray) ++ ((rd_T63 l0 x9_1).f8)).size + 1 ≤ 9223372036854775807
                                         · rw [if_pos c28] at H
                                           have c28b0 := eq_true c28
                                           have c28b1 : decide (((⟨#[32, 45, 32]⟩ : ByteArray) ++ ((rd_T63 l0 x9_1).f8)).size + 1 ≤ 9223372036854775807) = true := decide_eq_true c28
                                           try have c28b2 : (9223372036854775807 < ((⟨#[32, 45, 32]⟩ : ByteArray) ++ ((rd_T63 l0 x9_1).f8)).size + 1) = False := eq_false (Nat.not_lt.2 c28)
                                           have c28b3 : (9223372036854775807 < 3 + ((rd_T63 l0 x9_1).f8).size + 1) = False := by have h_ := c28b2; simp only [ByteArray.size_append] at h_; exact h_
                                           replace H := Option.bind_eq_some_iff.mp H
                                           obtain ⟨t161, A290, H⟩ := H
                                           (try dsimp only at H)
                                           have A29 := Aside0.mk A290
                                           clear A290
                                           by_cases c30 : (((⟨#[32, 45, 32]⟩ : ByteArray) ++ ((rd_T63 l0 x9_1).f8)) ++ (⟨#[32]⟩ : ByteArray)).size + t161.size ≤ 9223372036854775807
                                           · rw [if_pos c30] at H
                                             have c30b0 := eq_true c30
                                             have c30b1 : decide ((((⟨#[32, 45, 32]⟩ : ByteArray) ++ ((rd_T63 l0 x9_1).f8)) ++ (⟨#[32]⟩ : ByteArray)).size + t161.size ≤ 9223372036854775807) = true := decide_eq_true c30
                                             try have c30b2 : (9223372036854775807 < (((⟨#[32, 45, 32]⟩ : ByteArray) ++ ((rd_T63 l0 x9_1).f8)) ++ (⟨#[32]⟩ : ByteArray)).size + t161.size) = False := eq_false (Nat.not_lt.2 c30)
                                             have c30b3 : (9223372036854775807 < 3 + ((rd_T63 l0 x9_1).f8).size + 1 + t161.size) = False := by have h_ := c30b2; simp only [ByteArray.size_append] at h_; exact h_
                                             by_cases c31 : ((((⟨#[32, 45, 32]⟩ : ByteArray) ++ ((rd_T63 l0 x9_1).f8)) ++ (⟨#[32]⟩ : ByteArray)) ++ t161).size + 1 ≤ 9223372036854775807
                                             · rw [if_pos c31] at H
                                               have c31b0 := eq_true c31
                                               have c31b1 : decide (((((⟨#[32, 45, 32]⟩ : ByteArray) ++ ((rd_T63 l0 x9_1).f8)) ++ (⟨#[32]⟩ : ByteArray)) ++ t161).size + 1 ≤ 9223372036854775807) = true := decide_eq_true c31
                                               try have c31b2 : (9223372036854775807 < ((((⟨#[32, 45, 32]⟩ : ByteArray) ++ ((rd_T63 l0 x9_1).f8)) ++ (⟨#[32]⟩ : ByteArray)) ++ t161).size + 1) = False := eq_false (Nat.not_lt.2 c31)
                                               have c31b3 : (9223372036854775807 < 3 + ((rd_T63 l0 x9_1).f8).size + 1 + t161.size + 1) = False := by have h_ := c31b2; simp only [ByteArray.size_append] at h_; exact h_
                                               by_cases c32 : (((((⟨#[32, 45, 32]⟩ : ByteArray) ++ ((rd_T63 l0 x9_1).f8)) ++ (⟨#[32]⟩ : ByteArray)) ++ t161) ++ (⟨#[32]⟩ : ByteArray)).size + ((rd_T63 l0 x9_1).f10).size ≤ 9223372036854775807
                                               · rw [if_pos c32] at H
                                                 have c32b0 := eq_true c32
                                                 have c32b1 : decide ((((((⟨#[32, 45, 32]⟩ : ByteArray) ++ ((rd_T63 l0 x9_1).f8)) ++ (⟨#[32]⟩ : ByteArray)) ++ t161) ++ (⟨#[32]⟩ : ByteArray)).size + ((rd_T63 l0 x9_1).f10).size ≤ 9223372036854775807) = true := decide_eq_true c32
                                                 try have c32b2 : (9223372036854775807 < (((((⟨#[32, 45, 32]⟩ : ByteArray) ++ ((rd_T63 l0 x9_1).f8)) ++ (⟨#[32]⟩ : ByteArray)) ++ t161) ++ (⟨#[32]⟩ : ByteArray)).size + ((rd_T63 l0 x9_1).f10).size) = False := eq_false (Nat.not_lt.2 c32)
                                                 have c32b3 : (9223372036854775807 < 3 + ((rd_T63 l0 x9_1).f8).size + 1 + t161.size + 1 + ((rd_T63 l0 x9_1).f10).size) = False := by have h_ := c32b2; simp only [ByteArray.size_append] at h_; exact h_
                                                 by_cases c33 : ((((((⟨#[32, 45, 32]⟩ : ByteArray) ++ ((rd_T63 l0 x9_1).f8)) ++ (⟨#[32]⟩ : ByteArray)) ++ t161) ++ (⟨#[32]⟩ : ByteArray)) ++ ((rd_T63 l0 x9_1).f10)).size + 1 ≤ 9223372036854775807
                                                 · rw [if_pos c33] at H
                                                   have c33b0 := eq_true c33
                                                   have c33b1 : decide (((((((⟨#[32, 45, 32]⟩ : ByteArray) ++ ((rd_T63 l0 x9_1).f8)) ++ (⟨#[32]⟩ : ByteArray)) ++ t161) ++ (⟨#[32]⟩ : ByteArray)) ++ ((rd_T63 l0 x9_1).f10)).size + 1 ≤ 9223372036854775807) = true := decide_eq_true c33
                                                   try have c33b2 : (9223372036854775807 < ((((((⟨#[32, 45, 32]⟩ : ByteArray) ++ ((rd_T63 l0 x9_1).f8)) ++ (⟨#[32]⟩ : ByteArray)) ++ t161) ++ (⟨#[32]⟩ : ByteArray)) ++ ((rd_T63 l0 x9_1).f10)).size + 1) = False := eq_false (Nat.not_lt.2 c33)
                                                   have c33b3 : (9223372036854775807 < 3 + ((rd_T63 l0 x9_1).f8).size + 1 + t161.size + 1 + ((rd_T63 l0 x9_1).f10).size + 1) = False := by have h_ := c33b2; simp only [ByteArray.size_append] at h_; exact h_
                                                   by_cases c34 : (x4_1 ++ ((((((((((((t155 ++ (⟨#[32]⟩ : ByteArray)) ++ t156) ++ (⟨#[32]⟩ : ByteArray)) ++ t157) ++ (⟨#[58]⟩ : ByteArray)) ++ t158) ++ (⟨#[32]⟩ : ByteArray)) ++ t159) ++ (⟨#[32]⟩ : ByteArray)) ++ t160) ++ (⟨#[32]⟩ : ByteArray)) ++ ((rd_T63 l0 x9_1).f6))).size + (((((((⟨#[32, 45, 32]⟩ : ByteArray) ++ ((rd_T63 l0 x9_1).f8)) ++ (⟨#[32]⟩ : ByteArray)) ++ t161) ++ (⟨#[32]⟩ : ByteArray)) ++ ((rd_T63 l0 x9_1).f10)) ++ (⟨#[10]⟩ : ByteArray)).size ≤ 9223372036854775807
                                                   · rw [if_pos c34] at H
                                                     have c34b0 := eq_true c34
                                                     have c34b1 : decide ((x4_1 ++ ((((((((((((t155 ++ (⟨#[32]⟩ : ByteArray)) ++ t156) ++ (⟨#[32]⟩ : ByteArray)) ++ t157) ++ (⟨#[58]⟩ : ByteArray)) ++ t158) ++ (⟨#[32]⟩ : ByteArray)) ++ t159) ++ (⟨#[32]⟩ : ByteArray)) ++ t160) ++ (⟨#[32]⟩ : ByteArray)) ++ ((rd_T63 l0 x9_1).f6))).size + (((((((⟨#[32, 45, 32]⟩ : ByteArray) ++ ((rd_T63 l0 x9_1).f8)) ++ (⟨#[32]⟩ : ByteArray)) ++ t161) ++ (⟨#[32]⟩ : ByteArray)) ++ ((rd_T63 l0 x9_1).f10)) ++ (⟨#[10]⟩ : ByteArray)).size ≤ 9223372036854775807) = true := decide_eq_true c34
                                                     try have c34b2 : (9223372036854775807 < (x4_1 ++ ((((((((((((t155 ++ (⟨#[32]⟩ : ByteArray)) ++ t156) ++ (⟨#[32]⟩ : ByteArray)) ++ t157) ++ (⟨#[58]⟩ : ByteArray)) ++ t158) ++ (⟨#[32]⟩ : ByteArray)) ++ t159) ++ (⟨#[32]⟩ : ByteArray)) ++ t160) ++ (⟨#[32]⟩ : ByteArray)) ++ ((rd_T63 l0 x9_1).f6))).size + (((((((⟨#[32, 45, 32]⟩ : ByteArray) ++ ((rd_T63 l0 x9_1).f8)) ++ (⟨#[32]⟩ : ByteArray)) ++ t161) ++ (⟨#[32]⟩ : ByteArray)) ++ ((rd_T63 l0 x9_1).f10)) ++ (⟨#[10]⟩ : ByteArray)).size) = False := eq_false (Nat.not_lt.2 c34)
                                                     have c34b3 : (9223372036854775807 < x4_1.size + (t155.size + 1 + t156.size + 1 + t157.size + 1 + t158.size + 1 + t159.size + 1 + t160.size + 1 + ((rd_T63 l0 x9_1).f6).size) + (3 + ((rd_T63 l0 x9_1).f8).size + 1 + t161.size + 1 + ((rd_T63 l0 x9_1).f10).size + 1)) = False := by have h_ := c34b2; simp only [ByteArray.size_append] at h_; exact h_
                                                     have H' := Aside0.mk H
                                                     clear H
                                                     have p152 : 0 ≤ (x9_1 : Int) := of_decide_eq_true (by first | (with_reducible assumption) | assumption)
                                                     have q152 : x9_1 < (l0.length : Int) := of_decide_eq_true (by first | (with_reducible assumption) | assumption)
                                                     obtain ⟨ad152, e152, hx152_0, hx152_1, hx152_2, hx152_3, hx152_4, hx152_5, hx152_6, hx152_7, hx152_8, hx152_9, hx152_10⟩ := at_T63 HR0.out x9_1 p152 q152
                                                     cases e152
                                                     replace hx152_0 := (HB.out.cell (World.block_lt_of_cell? w _ hx152_0)).trans hx152_0
                                                     replace hx152_1 := (HB.out.cell (World.block_lt_of_cell? w _ hx152_1)).trans hx152_1
                                                     replace hx152_2 := (HB.out.cell (World.block_lt_of_cell? w _ hx152_2)).trans hx152_2
                                                     replace hx152_3 := (HB.out.cell (World.block_lt_of_cell? w _ hx152_3)).trans hx152_3
                                                     replace hx152_4 := (HB.out.cell (World.block_lt_of_cell? w _ hx152_4)).trans hx152_4
                                                     replace hx152_5 := (HB.out.cell (World.block_lt_of_cell? w _ hx152_5)).trans hx152_5
                                                     replace hx152_6 := (HB.out.cell (World.block_lt_of_cell? w _ hx152_6)).trans hx152_6
                                                     replace hx152_7 := (HB.out.cell (World.block_lt_of_cell? w _ hx152_7)).trans hx152_7
                                                     replace hx152_8 := (HB.out.cell (World.block_lt_of_cell? w _ hx152_8)).trans hx152_8
                                                     replace hx152_9 := (HB.out.cell (World.block_lt_of_cell? w _ hx152_9)).trans hx152_9
                                                     replace hx152_10 := (HB.out.cell (World.block_lt_of_cell? w _ hx152_10)).trans hx152_10
                                                     replace p152 := eq_true p152
                                                     replace q152 := eq_true q152
                                                     try go_wp2_with (first | ((with_reducible refine gate_dst (N := 6) rfl ?_); refine Go.Last.box_store_event ?hg (N := 6) ?hd (c0 := #[.int .i64 0, .int .i64 0, .int .i64 0, .int .i64 0, .string (⟨#[]⟩ : ByteArray), .string (⟨#[]⟩ : ByteArray), .string (⟨#[]⟩ : ByteArray), .string (⟨#[]⟩ : ByteArray), .string (⟨#[]⟩ : ByteArray), .string (⟨#[]⟩ : ByteArray), .string (⟨#[]⟩ : ByteArray)]) (cs := #[.int .i64 ((rd_T63 l0 x9_1).f0), .int .i64 ((rd_T63 l0 x9_1).f1), .int .i64 ((rd_T63 l0 x9_1).f2), .int .i64 ((rd_T63 l0 x9_1).f3), .string ((rd_T63 l0 x9_1).f4), .string ((rd_T63 l0 x9_1).f5), .string ((rd_T63 l0 x9_1).f6), .string ((rd_T63 l0 x9_1).f7), .string ((rd_T63 l0 x9_1).f8), .string ((rd_T63 l0 x9_1).f9), .string ((rd_T63 l0 x9_1).f10)]) (t := 63) (P := Tryd.prog) ?hr rfl rfl (by first | (go_simp; done) | (go_simp; rfl)) (by first | (go_simp; done) | (go_simp; rfl)) (by kernel_rfl) rfl (by first | rfl | (simp [Value.oneCell']; done)) ?_; (case hd => rfl); (case hg => rfl); (case hr => first | (go_simp; done) | (go_simp; rfl)); intro gb153 hg w35 hbox hb; have n0_ := Aside0.mk (below_step (by repeat (first | (with_reducible first | exact HB.out | apply below_alloc | apply pw_below_drewN | apply below_drew1) | exact HB.out)) hb); have n1_ := Aside0.mk (hbox); have n2_ := Aside0.mk ((by rw [hg]; exact (below_size (by repeat (first | (with_reducible first | exact HB.out | apply below_alloc | apply pw_below_drewN | apply below_drew1) | exact HB.out))) : w.heap.size ≤ gb153)); have n3_ := Aside0.mk ((by rw [hg]; exact (below_size (by repeat (first | (with_reducible first | exact HB.out | apply below_alloc | apply pw_below_drewN | apply below_drew1) | exact HB.out))) : w.heap.size ≤ gb153)); clear HB; have HB := n0_; have BK153 := n1_; have GW153 := n2_; have GE153 := n3_; clear n0_ n1_ n2_ n3_; clear hb hbox hg; have hcz36_0 : w35.cell? ⟨gb153, 0, none⟩ = some (.int .i64 ((rd_T63 l0 x9_1).f0)) := (blk_cell BK153.out 0).trans rfl; have hcz36_1 : w35.cell? ⟨gb153, 1, none⟩ = some (.int .i64 ((rd_T63 l0 x9_1).f1)) := (blk_cell BK153.out 1).trans rfl; have hcz36_2 : w35.cell? ⟨gb153, 2, none⟩ = some (.int .i64 ((rd_T63 l0 x9_1).f2)) := (blk_cell BK153.out 2).trans rfl; have hcz36_3 : w35.cell? ⟨gb153, 3, none⟩ = some (.int .i64 ((rd_T63 l0 x9_1).f3)) := (blk_cell BK153.out 3).trans rfl; have hcz36_4 : w35.cell? ⟨gb153, 4, none⟩ = some (.string ((rd_T63 l0 x9_1).f4)) := (blk_cell BK153.out 4).trans rfl; have hcz36_5 : w35.cell? ⟨gb153, 5, none⟩ = some (.string ((rd_T63 l0 x9_1).f5)) := (blk_cell BK153.out 5).trans rfl; have hcz36_6 : w35.cell? ⟨gb153, 6, none⟩ = some (.string ((rd_T63 l0 x9_1).f6)) := (blk_cell BK153.out 6).trans rfl; have hcz36_7 : w35.cell? ⟨gb153, 7, none⟩ = some (.string ((rd_T63 l0 x9_1).f7)) := (blk_cell BK153.out 7).trans rfl; have hcz36_8 : w35.cell? ⟨gb153, 8, none⟩ = some (.string ((rd_T63 l0 x9_1).f8)) := (blk_cell BK153.out 8).trans rfl; have hcz36_9 : w35.cell? ⟨gb153, 9, none⟩ = some (.string ((rd_T63 l0 x9_1).f9)) := (blk_cell BK153.out 9).trans rfl; have hcz36_10 : w35.cell? ⟨gb153, 10, none⟩ = some (.string ((rd_T63 l0 x9_1).f10)) := (blk_cell BK153.out 10).trans rfl; have hfz36_0 := blk_frozen BK153.out 0; have hfz36_1 := blk_frozen BK153.out 1; have hfz36_2 := blk_frozen BK153.out 2; have hfz36_3 := blk_frozen BK153.out 3; have hfz36_4 := blk_frozen BK153.out 4; have hfz36_5 := blk_frozen BK153.out 5; have hfz36_6 := blk_frozen BK153.out 6; have hfz36_7 := blk_frozen BK153.out 7; have hfz36_8 := blk_frozen BK153.out 8; have hfz36_9 := blk_frozen BK153.out 9; have hfz36_10 := blk_frozen BK153.out 10) | ((with_reducible refine gate_callee (f := 31) rfl ?_); refine goesL_ (some 14) rfl rfl Tryd.func31 (by kernel_rfl) rfl #[.agg #[.int .i64 ((rd_T63 l0 x9_1).f0), .int .i64 ((rd_T63 l0 x9_1).f1), .int .i64 ((rd_T63 l0 x9_1).f2), .int .i64 ((rd_T63 l0 x9_1).f3), .string ((rd_T63 l0 x9_1).f4), .string ((rd_T63 l0 x9_1).f5), .string ((rd_T63 l0 x9_1).f6), .string ((rd_T63 l0 x9_1).f7), .string ((rd_T63 l0 x9_1).f8), .string ((rd_T63 l0 x9_1).f9), .string ((rd_T63 l0 x9_1).f10)]] rfl (by (try simp only [List.map_toArray, List.map_cons, List.map_nil]); first | done | rfl | (simp only [List.length_drop, List.length_take]; rfl)) ?_; (with_reducible refine (spec_mountValid.calls k1 ((rd_T63 l0 x9_1).f0) ((rd_T63 l0 x9_1).f1) ((rd_T63 l0 x9_1).f2) ((rd_T63 l0 x9_1).f3) ((rd_T63 l0 x9_1).f4) ((rd_T63 l0 x9_1).f5) ((rd_T63 l0 x9_1).f6) ((rd_T63 l0 x9_1).f7) ((rd_T63 l0 x9_1).f8) ((rd_T63 l0 x9_1).f9) ((rd_T63 l0 x9_1).f10) true _ A5.out).mono ?_); rintro e w37 ⟨rfl, hb⟩; refine ⟨_, rfl, ?_⟩; have n0_ := Aside0.mk (blk_below (g := gb153) (o := .cells #[.int .i64 ((rd_T63 l0 x9_1).f0), .int .i64 ((rd_T63 l0 x9_1).f1), .int .i64 ((rd_T63 l0 x9_1).f2), .int .i64 ((rd_T63 l0 x9_1).f3), .string ((rd_T63 l0 x9_1).f4), .string ((rd_T63 l0 x9_1).f5), .string ((rd_T63 l0 x9_1).f6), .string ((rd_T63 l0 x9_1).f7), .string ((rd_T63 l0 x9_1).f8), .string ((rd_T63 l0 x9_1).f9), .string ((rd_T63 l0 x9_1).f10)] 63 (0, 0)) (by (with_reducible repeat (first | refine blk_drewN ?_ _ | refine blk_drew ?_ | refine blk_alloc ?_ _)); exact BK153.out) hb); have n1_ := Aside0.mk (below_step (by repeat (first | (with_reducible first | exact HB.out | apply below_alloc | apply pw_below_drewN | apply below_drew1 | refine below_set ?_ GE153.out) | exact HB.out)) hb); clear BK153; clear HB; have BK153 := n0_; have HB := n1_; clear n0_ n1_; (try clear hb); (try clear hb2); (try clear hk); (try clear hi)))
                                                     have n0_ := Aside0.mk (blk_drew BK153.out)
                                                     have n1_ := Aside0.mk (below_drew1 HB.out)
                                                     clear BK153
                                                     clear HB
                                                     have BK153 := n0_
                                                     have HB := n1_
                                                     clear n0_ n1_
                                                     refine start_ (n := 35) (S := fun w' => w'.cell? ⟨gb153, 0, none⟩ = some (.int .i64 ((rd_T63 l0 x9_1).f0)) ∧ w'.cell? ⟨gb153, 1, none⟩ = some (.int .i64 ((rd_T63 l0 x9_1).f1)) ∧ w'.cell? ⟨gb153, 2, none⟩ = some (.int .i64 ((rd_T63 l0 x9_1).f2)) ∧ w'.cell? ⟨gb153, 3, none⟩ = some (.int .i64 ((rd_T63 l0 x9_1).f3)) ∧ w'.cell? ⟨gb153, 4, none⟩ = some (.string ((rd_T63 l0 x9_1).f4)) ∧ w'.cell? ⟨gb153, 5, none⟩ = some (.string ((rd_T63 l0 x9_1).f5)) ∧ w'.cell? ⟨gb153, 6, none⟩ = some (.string ((rd_T63 l0 x9_1).f6)) ∧ w'.cell? ⟨gb153, 7, none⟩ = some (.string ((rd_T63 l0 x9_1).f7)) ∧ w'.cell? ⟨gb153, 8, none⟩ = some (.string ((rd_T63 l0 x9_1).f8)) ∧ w'.cell? ⟨gb153, 9, none⟩ = some (.string ((rd_T63 l0 x9_1).f9)) ∧ w'.cell? ⟨gb153, 10, none⟩ = some (.string ((rd_T63 l0 x9_1).f10))) (ds := []) #[false, false, false, false, false, false, false, false, false, false, false, false, false, false, false, false, false, false, false, false, false, false, false, false, false, false, false, false, false, false, false, false, false, false, false] (by kernel_rfl) rfl rfl ⟨(blk_cell BK153.out 0).trans rfl, (blk_cell BK153.out 1).trans rfl, (blk_cell BK153.out 2).trans rfl, (blk_cell BK153.out 3).trans rfl, (blk_cell BK153.out 4).trans rfl, (blk_cell BK153.out 5).trans rfl, (blk_cell BK153.out 6).trans rfl, (blk_cell BK153.out 7).trans rfl, (blk_cell BK153.out 8).trans rfl, (blk_cell BK153.out 9).trans rfl, (blk_cell BK153.out 10).trans rfl⟩ (fun hHeld => ?_); refine with_tabW spec_MountsPrint.tab7 spec_MountsPrint.bits7 (fun HT_ HW_ => ?_)
                                                     generalize w37.drew = w38 at BK153 HB hHeld ⊢
                                                     refine pure_ (i := 0) (N := some 16) (v := ?_) (a' := ?_) #[true, false, false, false, false, false, false, false, false, false, false, false, false, false, false, false, false, false, false, false, false, false, false, false, false, false, false, false, false, false, false, false, false, false, false] rfl rfl (any_of HT_.out (by kernel_rfl)) (fun _ _ _ h => h) (Or.inl ⟨by rfl, ?_⟩) ?_ ?_
                                                     rotate_left
                                                     · intro w'
                                                       go_simp
                                                       with_reducible rfl
                                                     rotate_left
                                                     · simp only [Act.put, List.setIfInBounds_toArray, List.set_cons_zero, List.set_cons_succ, i64_w, i32_w]
                                                       rfl
                                                     refine pure_ (i := 1) (N := some 17) (v := ?_) (a' := ?_) #[true, true, false, false, false, false, false, false, false, false, false, false, false, false, false, false, false, false, false, false, false, false, false, false, false, false, false, false, false, false, false, false, false, false, false] rfl rfl (any_of HT_.out (by kernel_rfl)) (fun _ _ _ h => h) (Or.inl ⟨by rfl, ?_⟩) ?_ ?_
                                                     rotate_left
                                                     · intro w'
                                                       go_simp
                                                       with_reducible rfl
                                                     rotate_left
                                                     · simp only [Act.put, List.setIfInBounds_toArray, List.set_cons_zero, List.set_cons_succ, i64_w, i32_w]
                                                       rfl
                                                     refine pure_ (i := 5) (N := some 21) (v := ?_) (a' := ?_) #[true, true, false, false, false, true, false, false, false, false, false, false, false, false, false, false, false, false, false, false, false, false, false, false, false, false, false, false, false, false, false, false, false, false, false] rfl rfl (any_of HT_.out (by kernel_rfl)) (fun _ _ _ h => h) (Or.inl ⟨by rfl, ?_⟩) ?_ ?_
                                                     rotate_left
                                                     · intro w'
                                                       go_simp
                                                       with_reducible rfl
                                                     rotate_left
                                                     · simp only [Act.put, List.setIfInBounds_toArray, List.set_cons_zero, List.set_cons_succ, i64_w, i32_w]
                                                       rfl
                                                     refine pure_ (i := 10) (N := some 26) (v := ?_) (a' := ?_) #[true, true, false, false, false, true, false, false, false, false, true, false, false, false, false, false, false, false, false, false, false, false, false, false, false, false, false, false, false, false, false, false, false, false, false] rfl rfl (any_of HT_.out (by kernel_rfl)) (fun _ _ _ h => h) (Or.inl ⟨by rfl, ?_⟩) ?_ ?_
                                                     rotate_left
                                                     · intro w'
                                                       go_simp
                                                       with_reducible rfl
                                                     rotate_left
                                                     · simp only [Act.put, List.setIfInBounds_toArray, List.set_cons_zero, List.set_cons_succ, i64_w, i32_w]
                                                       rfl
                                                     refine pure_ (i := 15) (N := some 31) (v := ?_) (a' := ?_) #[true, true, false, false, false, true, false, false, false, false, true, false, false, false, false, true, false, false, false, false, false, false, false, false, false, false, false, false, false, false, false, false, false, false, false] rfl rfl (any_of HT_.out (by kernel_rfl)) (fun _ _ _ h => h) (Or.inl ⟨by rfl, ?_⟩) ?_ ?_
                                                     rotate_left
                                                     · intro w'
                                                       go_simp
                                                       with_reducible rfl
                                                     rotate_left
                                                     · simp only [Act.put, List.setIfInBounds_toArray, List.set_cons_zero, List.set_cons_succ, i64_w, i32_w]
                                                       rfl
                                                     refine pure_ (i := 20) (N := some 36) (v := ?_) (a' := ?_) #[true, true, false, false, false, true, false, false, false, false, true, false, false, false, false, true, false, false, false, false, true, false, false, false, false, false, false, false, false, false, false, false, false, false, false] rfl rfl (any_of HT_.out (by kernel_rfl)) (fun _ _ _ h => h) (Or.inl ⟨by rfl, ?_⟩) ?_ ?_
                                                     rotate_left
                                                     · intro w'
                                                       go_simp
                                                       with_reducible rfl
                                                     rotate_left
                                                     · simp only [Act.put, List.setIfInBounds_toArray, List.set_cons_zero, List.set_cons_succ, i64_w, i32_w]
                                                       rfl
                                                     refine pure_ (i := 25) (N := some 41) (v := ?_) (a' := ?_) #[true, true, false, false, false, true, false, false, false, false, true, false, false, false, false, true, false, false, false, false, true, false, false, false, false, true, false, false, false, false, false, false, false, false, false] rfl rfl (any_of HT_.out (by kernel_rfl)) (fun _ _ _ h => h) (Or.inl ⟨by rfl, ?_⟩) ?_ ?_
                                                     rotate_left
                                                     · intro w'
                                                       go_simp
                                                       with_reducible rfl
                                                     rotate_left
                                                     · simp only [Act.put, List.setIfInBounds_toArray, List.set_cons_zero, List.set_cons_succ, i64_w, i32_w]
                                                       rfl
                                                     refine pure_ (i := 30) (N := some 46) (v := ?_) (a' := ?_) #[true, true, false, false, false, true, false, false, false, false, true, false, false, false, false, true, false, false, false, false, true, false, false, false, false, true, false, false, false, false, true, false, false, false, false] rfl rfl (any_of HT_.out (by kernel_rfl)) (fun _ _ _ h => h) (Or.inl ⟨by rfl, ?_⟩) ?_ ?_
                                                     rotate_left
                                                     · intro w'
                                                       go_simp
                                                       with_reducible rfl
                                                     rotate_left
                                                     · simp only [Act.put, List.setIfInBounds_toArray, List.set_cons_zero, List.set_cons_succ, i64_w, i32_w]
                                                       rfl
                                                     refine take_ (i := 2) (N := some 18) (v := ?_) (a' := ?_) #[true, true, true, false, false, true, false, false, false, false, true, false, false, false, false, true, false, false, false, false, true, false, false, false, false, true, false, false, false, false, true, false, false, false, false] rfl rfl (take_ofW HT_.out HW_.out (by kernel_rfl)) (fun _ _ _ h => h) (Or.inl ⟨by rfl, ?_⟩) hHeld ?_ ?_
                                                     rotate_left
                                                     · rintro w' ⟨s0, s1, s2, s3, s4, s5, s6, s7, s8, s9, s10⟩
                                                       go_simp
                                                       with_reducible rfl
                                                     rotate_left
                                                     · simp only [Act.put, List.setIfInBounds_toArray, List.set_cons_zero, List.set_cons_succ, i64_w, i32_w]
                                                       rfl
                                                     refine take_ (i := 6) (N := some 22) (v := ?_) (a' := ?_) #[true, true, true, false, false, true, true, false, false, false, true, false, false, false, false, true, false, false, false, false, true, false, false, false, false, true, false, false, false, false, true, false, false, false, false] rfl rfl (take_ofW HT_.out HW_.out (by kernel_rfl)) (fun _ _ _ h => h) (Or.inl ⟨by rfl, ?_⟩) hHeld ?_ ?_
                                                     rotate_left
                                                     · rintro w' ⟨s0, s1, s2, s3, s4, s5, s6, s7, s8, s9, s10⟩
                                                       go_simp
                                                       with_reducible rfl
                                                     rotate_left
                                                     · simp only [Act.put, List.setIfInBounds_toArray, List.set_cons_zero, List.set_cons_succ, i64_w, i32_w]
                                                       rfl
                                                     refine take_ (i := 11) (N := some 27) (v := ?_) (a' := ?_) #[true, true, true, false, false, true, true, false, false, false, true, true, false, false, false, true, false, false, false, false, true, false, false, false, false, true, false, false, false, false, true, false, false, false, false] rfl rfl (take_ofW HT_.out HW_.out (by kernel_rfl)) (fun _ _ _ h => h) (Or.inl ⟨by rfl, ?_⟩) hHeld ?_ ?_
                                                     rotate_left
                                                     · rintro w' ⟨s0, s1, s2, s3, s4, s5, s6, s7, s8, s9, s10⟩
                                                       go_simp
                                                       with_reducible rfl
                                                     rotate_left
                                                     · simp only [Act.put, List.setIfInBounds_toArray, List.set_cons_zero, List.set_cons_succ, i64_w, i32_w]
                                                       rfl
                                                     refine take_ (i := 16) (N := some 32) (v := ?_) (a' := ?_) #[true, true, true, false, false, true, true, false, false, false, true, true, false, false, false, true, true, false, false, false, true, false, false, false, false, true, false, false, false, false, true, false, false, false, false] rfl rfl (take_ofW HT_.out HW_.out (by kernel_rfl)) (fun _ _ _ h => h) (Or.inl ⟨by rfl, ?_⟩) hHeld ?_ ?_
                                                     rotate_left
                                                     · rintro w' ⟨s0, s1, s2, s3, s4, s5, s6, s7, s8, s9, s10⟩
                                                       go_simp
                                                       with_reducible rfl
                                                     rotate_left
                                                     · simp only [Act.put, List.setIfInBounds_toArray, List.set_cons_zero, List.set_cons_succ, i64_w, i32_w]
                                                       rfl
                                                     refine take_ (i := 21) (N := some 37) (v := ?_) (a' := ?_) #[true, true, true, false, false, true, true, false, false, false, true, true, false, false, false, true, true, false, false, false, true, true, false, false, false, true, false, false, false, false, true, false, false, false, false] rfl rfl (take_ofW HT_.out HW_.out (by kernel_rfl)) (fun _ _ _ h => h) (Or.inl ⟨by rfl, ?_⟩) hHeld ?_ ?_
                                                     rotate_left
                                                     · rintro w' ⟨s0, s1, s2, s3, s4, s5, s6, s7, s8, s9, s10⟩
                                                       go_simp
                                                       with_reducible rfl
                                                     rotate_left
                                                     · simp only [Act.put, List.setIfInBounds_toArray, List.set_cons_zero, List.set_cons_succ, i64_w, i32_w]
                                                       rfl
                                                     refine take_ (i := 26) (N := some 42) (v := ?_) (a' := ?_) #[true, true, true, false, false, true, true, false, false, false, true, true, false, false, false, true, true, false, false, false, true, true, false, false, false, true, true, false, false, false, true, false, false, false, false] rfl rfl (take_ofW HT_.out HW_.out (by kernel_rfl)) (fun _ _ _ h => h) (Or.inl ⟨by rfl, ?_⟩) hHeld ?_ ?_
                                                     rotate_left
                                                     · rintro w' ⟨s0, s1, s2, s3, s4, s5, s6, s7, s8, s9, s10⟩
                                                       go_simp
                                                       with_reducible rfl
                                                     rotate_left
                                                     · simp only [Act.put, List.setIfInBounds_toArray, List.set_cons_zero, List.set_cons_succ, i64_w, i32_w]
                                                       rfl
                                                     refine take_ (i := 31) (N := some 47) (v := ?_) (a' := ?_) #[true, true, true, false, false, true, true, false, false, false, true, true, false, false, false, true, true, false, false, false, true, true, false, false, false, true, true, false, false, false, true, true, false, false, false] rfl rfl (take_ofW HT_.out HW_.out (by kernel_rfl)) (fun _ _ _ h => h) (Or.inl ⟨by rfl, ?_⟩) hHeld ?_ ?_
                                                     rotate_left
                                                     · rintro w' ⟨s0, s1, s2, s3, s4, s5, s6, s7, s8, s9, s10⟩
                                                       go_simp
                                                       with_reducible rfl
                                                     rotate_left
                                                     · simp only [Act.put, List.setIfInBounds_toArray, List.set_cons_zero, List.set_cons_succ, i64_w, i32_w]
                                                       rfl
                                                     refine one_ (i := 3) (N := some 19) #[true, true, true, true, false, true, true, false, false, false, true, true, false, false, false, true, true, false, false, false, true, true, false, false, false, true, true, false, false, false, true, true, false, false, false] rfl rfl (one_of HT_.out (by kernel_rfl)) (by decide) (fun K hK => ?_)
                                                     refine goes_ Tryd.func32 (by kernel_rfl) rfl #[.int .i64 ((rd_T63 l0 x9_1).f0)] (by rfl) rfl rfl (by (try simp only [List.map_toArray, List.map_cons, List.map_nil]); first | done | rfl | (simp only [List.length_drop, List.length_take]; rfl)) ?_
                                                     with_reducible refine (spec_natural.calls k1 ((rd_T63 l0 x9_1).f0) t155 _ A7.out).mono ?_
                                                     rintro e w39 ⟨rfl, hb⟩
                                                     refine ⟨_, rfl, ?_⟩
                                                     have n0_ := Aside0.mk (blk_below (g := gb153) (o := .cells #[.int .i64 ((rd_T63 l0 x9_1).f0), .int .i64 ((rd_T63 l0 x9_1).f1), .int .i64 ((rd_T63 l0 x9_1).f2), .int .i64 ((rd_T63 l0 x9_1).f3), .string ((rd_T63 l0 x9_1).f4), .string ((rd_T63 l0 x9_1).f5), .string ((rd_T63 l0 x9_1).f6), .string ((rd_T63 l0 x9_1).f7), .string ((rd_T63 l0 x9_1).f8), .string ((rd_T63 l0 x9_1).f9), .string ((rd_T63 l0 x9_1).f10)] 63 (0, 0)) (by (with_reducible repeat (first | refine blk_drewN ?_ _ | refine blk_drew ?_ | refine blk_alloc ?_ _)); exact BK153.out) hb)
                                                     have n1_ := Aside0.mk (below_step (by repeat (first | (with_reducible first | exact HB.out | apply below_alloc | apply pw_below_drewN | apply below_drew1 | refine below_set ?_ GE153.out) | exact HB.out)) hb)
                                                     clear BK153
                                                     clear HB
                                                     have BK153 := n0_
                                                     have HB := n1_
                                                     clear n0_ n1_
                                                     (try clear hb)
                                                     (try clear hb2)
                                                     (try clear hk)
                                                     (try clear hi)
                                                     refine hK.out _ _ ⟨(blk_cell BK153.out 0).trans rfl, (blk_cell BK153.out 1).trans rfl, (blk_cell BK153.out 2).trans rfl, (blk_cell BK153.out 3).trans rfl, (blk_cell BK153.out 4).trans rfl, (blk_cell BK153.out 5).trans rfl, (blk_cell BK153.out 6).trans rfl, (blk_cell BK153.out 7).trans rfl, (blk_cell BK153.out 8).trans rfl, (blk_cell BK153.out 9).trans rfl, (blk_cell BK153.out 10).trans rfl⟩ (fun hHeld => ?_)
                                                     clear hK K
                                                     refine norm_ (a' := ?_) ?_ ?_
                                                     rotate_left
                                                     · show Act.put _ (some 19) _ = _
                                                       simp only [Act.put, List.setIfInBounds_toArray, List.set_cons_zero, List.set_cons_succ, i64_w, i32_w]
                                                       rfl
                                                     refine pure_ (i := 4) (N := some 20) (v := ?_) (a' := ?_) #[true, true, true, true, true, true, true, false, false, false, true, true, false, false, false, true, true, false, false, false, true, true, false, false, false, true, true, false, false, false, true, true, false, false, false] rfl rfl (any_of HT_.out (by kernel_rfl)) (fun _ _ _ h => h) (Or.inl ⟨by rfl, ?_⟩) ?_ ?_
                                                     rotate_left
                                                     · intro w'
                                                       go_simp
                                                       with_reducible rfl
                                                     rotate_left
                                                     · simp only [Act.put, List.setIfInBounds_toArray, List.set_cons_zero, List.set_cons_succ, i64_w, i32_w]
                                                       rfl
                                                     refine one_ (i := 7) (N := some 23) #[true, true, true, true, true, true, true, true, false, false, true, true, false, false, false, true, true, false, false, false, true, true, false, false, false, true, true, false, false, false, true, true, false, false, false] rfl rfl (one_of HT_.out (by kernel_rfl)) (by decide) (fun K hK => ?_)
                                                     refine goes_ Tryd.func32 (by kernel_rfl) rfl #[.int .i64 ((rd_T63 l0 x9_1).f1)] (by rfl) rfl rfl (by (try simp only [List.map_toArray, List.map_cons, List.map_nil]); first | done | rfl | (simp only [List.length_drop, List.length_take]; rfl)) ?_
                                                     with_reducible refine (spec_natural.calls k1 ((rd_T63 l0 x9_1).f1) t156 _ A9.out).mono ?_
                                                     rintro e w40 ⟨rfl, hb⟩
                                                     refine ⟨_, rfl, ?_⟩
                                                     have n0_ := Aside0.mk (blk_below (g := gb153) (o := .cells #[.int .i64 ((rd_T63 l0 x9_1).f0), .int .i64 ((rd_T63 l0 x9_1).f1), .int .i64 ((rd_T63 l0 x9_1).f2), .int .i64 ((rd_T63 l0 x9_1).f3), .string ((rd_T63 l0 x9_1).f4), .string ((rd_T63 l0 x9_1).f5), .string ((rd_T63 l0 x9_1).f6), .string ((rd_T63 l0 x9_1).f7), .string ((rd_T63 l0 x9_1).f8), .string ((rd_T63 l0 x9_1).f9), .string ((rd_T63 l0 x9_1).f10)] 63 (0, 0)) (by (with_reducible repeat (first | refine blk_drewN ?_ _ | refine blk_drew ?_ | refine blk_alloc ?_ _)); exact BK153.out) hb)
                                                     have n1_ := Aside0.mk (below_step (by repeat (first | (with_reducible first | exact HB.out | apply below_alloc | apply pw_below_drewN | apply below_drew1 | refine below_set ?_ GE153.out) | exact HB.out)) hb)
                                                     clear BK153
                                                     clear HB
                                                     have BK153 := n0_
                                                     have HB := n1_
                                                     clear n0_ n1_
                                                     (try clear hb)
                                                     (try clear hb2)
                                                     (try clear hk)
                                                     (try clear hi)
                                                     refine hK.out _ _ ⟨(blk_cell BK153.out 0).trans rfl, (blk_cell BK153.out 1).trans rfl, (blk_cell BK153.out 2).trans rfl, (blk_cell BK153.out 3).trans rfl, (blk_cell BK153.out 4).trans rfl, (blk_cell BK153.out 5).trans rfl, (blk_cell BK153.out 6).trans rfl, (blk_cell BK153.out 7).trans rfl, (blk_cell BK153.out 8).trans rfl, (blk_cell BK153.out 9).trans rfl, (blk_cell BK153.out 10).trans rfl⟩ (fun hHeld => ?_)
                                                     clear hK K
                                                     refine norm_ (a' := ?_) ?_ ?_
                                                     rotate_left
                                                     · show Act.put _ (some 23) _ = _
                                                       simp only [Act.put, List.setIfInBounds_toArray, List.set_cons_zero, List.set_cons_succ, i64_w, i32_w]
                                                       rfl
                                                     refine pure_ (i := 8) (N := some 24) (v := ?_) (a' := ?_) #[true, true, true, true, true, true, true, true, true, false, true, true, false, false, false, true, true, false, false, false, true, true, false, false, false, true, true, false, false, false, true, true, false, false, false] rfl rfl (any_of HT_.out (by kernel_rfl)) (fun _ _ _ h => h) (Or.inl ⟨by rfl, ?_⟩) ?_ ?_
                                                     rotate_left
                                                     · intro w'
                                                       go_simp
                                                       with_reducible rfl
                                                     rotate_left
                                                     · simp only [Act.put, List.setIfInBounds_toArray, List.set_cons_zero, List.set_cons_succ, i64_w, i32_w]
                                                       rfl
                                                     refine pure_ (i := 9) (N := some 25) (v := ?_) (a' := ?_) #[true, true, true, true, true, true, true, true, true, true, true, true, false, false, false, true, true, false, false, false, true, true, false, false, false, true, true, false, false, false, true, true, false, false, false] rfl rfl (any_of HT_.out (by kernel_rfl)) (fun _ _ _ h => h) (Or.inl ⟨by rfl, ?_⟩) ?_ ?_
                                                     rotate_left
                                                     · intro w'
                                                       go_simp
                                                       with_reducible rfl
                                                     rotate_left
                                                     · simp only [Act.put, List.setIfInBounds_toArray, List.set_cons_zero, List.set_cons_succ, i64_w, i32_w]
                                                       rfl
                                                     refine one_ (i := 12) (N := some 28) #[true, true, true, true, true, true, true, true, true, true, true, true, true, false, false, true, true, false, false, false, true, true, false, false, false, true, true, false, false, false, true, true, false, false, false] rfl rfl (one_of HT_.out (by kernel_rfl)) (by decide) (fun K hK => ?_)
                                                     refine goes_ Tryd.func32 (by kernel_rfl) rfl #[.int .i64 ((rd_T63 l0 x9_1).f2)] (by rfl) rfl rfl (by (try simp only [List.map_toArray, List.map_cons, List.map_nil]); first | done | rfl | (simp only [List.length_drop, List.length_take]; rfl)) ?_
                                                     with_reducible refine (spec_natural.calls k1 ((rd_T63 l0 x9_1).f2) t157 _ A12.out).mono ?_
                                                     rintro e w41 ⟨rfl, hb⟩
                                                     refine ⟨_, rfl, ?_⟩
                                                     have n0_ := Aside0.mk (blk_below (g := gb153) (o := .cells #[.int .i64 ((rd_T63 l0 x9_1).f0), .int .i64 ((rd_T63 l0 x9_1).f1), .int .i64 ((rd_T63 l0 x9_1).f2), .int .i64 ((rd_T63 l0 x9_1).f3), .string ((rd_T63 l0 x9_1).f4), .string ((rd_T63 l0 x9_1).f5), .string ((rd_T63 l0 x9_1).f6), .string ((rd_T63 l0 x9_1).f7), .string ((rd_T63 l0 x9_1).f8), .string ((rd_T63 l0 x9_1).f9), .string ((rd_T63 l0 x9_1).f10)] 63 (0, 0)) (by (with_reducible repeat (first | refine blk_drewN ?_ _ | refine blk_drew ?_ | refine blk_alloc ?_ _)); exact BK153.out) hb)
                                                     have n1_ := Aside0.mk (below_step (by repeat (first | (with_reducible first | exact HB.out | apply below_alloc | apply pw_below_drewN | apply below_drew1 | refine below_set ?_ GE153.out) | exact HB.out)) hb)
                                                     clear BK153
                                                     clear HB
                                                     have BK153 := n0_
                                                     have HB := n1_
                                                     clear n0_ n1_
                                                     (try clear hb)
                                                     (try clear hb2)
                                                     (try clear hk)
                                                     (try clear hi)
                                                     refine hK.out _ _ ⟨(blk_cell BK153.out 0).trans rfl, (blk_cell BK153.out 1).trans rfl, (blk_cell BK153.out 2).trans rfl, (blk_cell BK153.out 3).trans rfl, (blk_cell BK153.out 4).trans rfl, (blk_cell BK153.out 5).trans rfl, (blk_cell BK153.out 6).trans rfl, (blk_cell BK153.out 7).trans rfl, (blk_cell BK153.out 8).trans rfl, (blk_cell BK153.out 9).trans rfl, (blk_cell BK153.out 10).trans rfl⟩ (fun hHeld => ?_)
                                                     clear hK K
                                                     refine norm_ (a' := ?_) ?_ ?_
                                                     rotate_left
                                                     · show Act.put _ (some 28) _ = _
                                                       simp only [Act.put, List.setIfInBounds_toArray, List.set_cons_zero, List.set_cons_succ, i64_w, i32_w]
                                                       rfl
                                                     refine pure_ (i := 13) (N := some 29) (v := ?_) (a' := ?_) #[true, true, true, true, true, true, true, true, true, true, true, true, true, true, false, true, true, false, false, false, true, true, false, false, false, true, true, false, false, false, true, true, false, false, false] rfl rfl (any_of HT_.out (by kernel_rfl)) (fun _ _ _ h => h) (Or.inl ⟨by rfl, ?_⟩) ?_ ?_
                                                     rotate_left
                                                     · intro w'
                                                       go_simp
                                                       with_reducible rfl
                                                     rotate_left
                                                     · simp only [Act.put, List.setIfInBounds_toArray, List.set_cons_zero, List.set_cons_succ, i64_w, i32_w]
                                                       rfl
                                                     refine pure_ (i := 14) (N := some 30) (v := ?_) (a' := ?_) #[true, true, true, true, true, true, true, true, true, true, true, true, true, true, true, true, true, false, false, false, true, true, false, false, false, true, true, false, false, false, true, true, false, false, false] rfl rfl (any_of HT_.out (by kernel_rfl)) (fun _ _ _ h => h) (Or.inl ⟨by rfl, ?_⟩) ?_ ?_
                                                     rotate_left
                                                     · intro w'
                                                       go_simp
                                                       with_reducible rfl
                                                     rotate_left
                                                     · simp only [Act.put, List.setIfInBounds_toArray, List.set_cons_zero, List.set_cons_succ, i64_w, i32_w]
                                                       rfl
                                                     refine one_ (i := 17) (N := some 33) #[true, true, true, true, true, true, true, true, true, true, true, true, true, true, true, true, true, true, false, false, true, true, false, false, false, true, true, false, false, false, true, true, false, false, false] rfl rfl (one_of HT_.out (by kernel_rfl)) (by decide) (fun K hK => ?_)
                                                     refine goes_ Tryd.func32 (by kernel_rfl) rfl #[.int .i64 ((rd_T63 l0 x9_1).f3)] (by rfl) rfl rfl (by (try simp only [List.map_toArray, List.map_cons, List.map_nil]); first | done | rfl | (simp only [List.length_drop, List.length_take]; rfl)) ?_
                                                     with_reducible refine (spec_natural.calls k1 ((rd_T63 l0 x9_1).f3) t158 _ A15.out).mono ?_
                                                     rintro e w42 ⟨rfl, hb⟩
                                                     refine ⟨_, rfl, ?_⟩
                                                     have n0_ := Aside0.mk (blk_below (g := gb153) (o := .cells #[.int .i64 ((rd_T63 l0 x9_1).f0), .int .i64 ((rd_T63 l0 x9_1).f1), .int .i64 ((rd_T63 l0 x9_1).f2), .int .i64 ((rd_T63 l0 x9_1).f3), .string ((rd_T63 l0 x9_1).f4), .string ((rd_T63 l0 x9_1).f5), .string ((rd_T63 l0 x9_1).f6), .string ((rd_T63 l0 x9_1).f7), .string ((rd_T63 l0 x9_1).f8), .string ((rd_T63 l0 x9_1).f9), .string ((rd_T63 l0 x9_1).f10)] 63 (0, 0)) (by (with_reducible repeat (first | refine blk_drewN ?_ _ | refine blk_drew ?_ | refine blk_alloc ?_ _)); exact BK153.out) hb)
                                                     have n1_ := Aside0.mk (below_step (by repeat (first | (with_reducible first | exact HB.out | apply below_alloc | apply pw_below_drewN | apply below_drew1 | refine below_set ?_ GE153.out) | exact HB.out)) hb)
                                                     clear BK153
                                                     clear HB
                                                     have BK153 := n0_
                                                     have HB := n1_
                                                     clear n0_ n1_
                                                     (try clear hb)
                                                     (try clear hb2)
                                                     (try clear hk)
                                                     (try clear hi)
                                                     refine hK.out _ _ ⟨(blk_cell BK153.out 0).trans rfl, (blk_cell BK153.out 1).trans rfl, (blk_cell BK153.out 2).trans rfl, (blk_cell BK153.out 3).trans rfl, (blk_cell BK153.out 4).trans rfl, (blk_cell BK153.out 5).trans rfl, (blk_cell BK153.out 6).trans rfl, (blk_cell BK153.out 7).trans rfl, (blk_cell BK153.out 8).trans rfl, (blk_cell BK153.out 9).trans rfl, (blk_cell BK153.out 10).trans rfl⟩ (fun hHeld => ?_)
                                                     clear hK K
                                                     refine norm_ (a' := ?_) ?_ ?_
                                                     rotate_left
                                                     · show Act.put _ (some 33) _ = _
                                                       simp only [Act.put, List.setIfInBounds_toArray, List.set_cons_zero, List.set_cons_succ, i64_w, i32_w]
                                                       rfl
                                                     refine pure_ (i := 18) (N := some 34) (v := ?_) (a' := ?_) #[true, true, true, true, true, true, true, true, true, true, true, true, true, true, true, true, true, true, true, false, true, true, false, false, false, true, true, false, false, false, true, true, false, false, false] rfl rfl (any_of HT_.out (by kernel_rfl)) (fun _ _ _ h => h) (Or.inl ⟨by rfl, ?_⟩) ?_ ?_
                                                     rotate_left
                                                     · intro w'
                                                       go_simp
                                                       with_reducible rfl
                                                     rotate_left
                                                     · simp only [Act.put, List.setIfInBounds_toArray, List.set_cons_zero, List.set_cons_succ, i64_w, i32_w]
                                                       rfl
                                                     refine pure_ (i := 19) (N := some 35) (v := ?_) (a' := ?_) #[true, true, true, true, true, true, true, true, true, true, true, true, true, true, true, true, true, true, true, true, true, true, false, false, false, true, true, false, false, false, true, true, false, false, false] rfl rfl (any_of HT_.out (by kernel_rfl)) (fun _ _ _ h => h) (Or.inl ⟨by rfl, ?_⟩) ?_ ?_
                                                     rotate_left
                                                     · intro w'
                                                       go_simp
                                                       with_reducible rfl
                                                     rotate_left
                                                     · simp only [Act.put, List.setIfInBounds_toArray, List.set_cons_zero, List.set_cons_succ, i64_w, i32_w]
                                                       rfl
                                                     refine one_ (i := 22) (N := some 38) #[true, true, true, true, true, true, true, true, true, true, true, true, true, true, true, true, true, true, true, true, true, true, true, false, false, true, true, false, false, false, true, true, false, false, false] rfl rfl (one_of HT_.out (by kernel_rfl)) (by decide) (fun K hK => ?_)
                                                     refine goes_ Tryd.func33 (by kernel_rfl) rfl #[.string ((rd_T63 l0 x9_1).f4)] (by rfl) rfl rfl (by (try simp only [List.map_toArray, List.map_cons, List.map_nil]); first | done | rfl | (simp only [List.length_drop, List.length_take]; rfl)) ?_
                                                     with_reducible refine (spec_octal.calls k1 ((rd_T63 l0 x9_1).f4) t159 _ A18.out).mono ?_
                                                     rintro e w43 ⟨rfl, hb⟩
                                                     refine ⟨_, rfl, ?_⟩
                                                     have n0_ := Aside0.mk (blk_below (g := gb153) (o := .cells #[.int .i64 ((rd_T63 l0 x9_1).f0), .int .i64 ((rd_T63 l0 x9_1).f1), .int .i64 ((rd_T63 l0 x9_1).f2), .int .i64 ((rd_T63 l0 x9_1).f3), .string ((rd_T63 l0 x9_1).f4), .string ((rd_T63 l0 x9_1).f5), .string ((rd_T63 l0 x9_1).f6), .string ((rd_T63 l0 x9_1).f7), .string ((rd_T63 l0 x9_1).f8), .string ((rd_T63 l0 x9_1).f9), .string ((rd_T63 l0 x9_1).f10)] 63 (0, 0)) (by (with_reducible repeat (first | refine blk_drewN ?_ _ | refine blk_drew ?_ | refine blk_alloc ?_ _)); exact BK153.out) hb)
                                                     have n1_ := Aside0.mk (below_step (by repeat (first | (with_reducible first | exact HB.out | apply below_alloc | apply pw_below_drewN | apply below_drew1 | refine below_set ?_ GE153.out) | exact HB.out)) hb)
                                                     clear BK153
                                                     clear HB
                                                     have BK153 := n0_
                                                     have HB := n1_
                                                     clear n0_ n1_
                                                     (try clear hb)
                                                     (try clear hb2)
                                                     (try clear hk)
                                                     (try clear hi)
                                                     refine hK.out _ _ ⟨(blk_cell BK153.out 0).trans rfl, (blk_cell BK153.out 1).trans rfl, (blk_cell BK153.out 2).trans rfl, (blk_cell BK153.out 3).trans rfl, (blk_cell BK153.out 4).trans rfl, (blk_cell BK153.out 5).trans rfl, (blk_cell BK153.out 6).trans rfl, (blk_cell BK153.out 7).trans rfl, (blk_cell BK153.out 8).trans rfl, (blk_cell BK153.out 9).trans rfl, (blk_cell BK153.out 10).trans rfl⟩ (fun hHeld => ?_)
                                                     clear hK K
                                                     refine norm_ (a' := ?_) ?_ ?_
                                                     rotate_left
                                                     · show Act.put _ (some 38) _ = _
                                                       simp only [Act.put, List.setIfInBounds_toArray, List.set_cons_zero, List.set_cons_succ, i64_w, i32_w]
                                                       rfl
                                                     refine pure_ (i := 23) (N := some 39) (v := ?_) (a' := ?_) #[true, true, true, true, true, true, true, true, true, true, true, true, true, true, true, true, true, true, true, true, true, true, true, true, false, true, true, false, false, false, true, true, false, false, false] rfl rfl (any_of HT_.out (by kernel_rfl)) (fun _ _ _ h => h) (Or.inl ⟨by rfl, ?_⟩) ?_ ?_
                                                     rotate_left
                                                     · intro w'
                                                       go_simp
                                                       with_reducible rfl
                                                     rotate_left
                                                     · simp only [Act.put, List.setIfInBounds_toArray, List.set_cons_zero, List.set_cons_succ, i64_w, i32_w]
                                                       rfl
                                                     refine pure_ (i := 24) (N := some 40) (v := ?_) (a' := ?_) #[true, true, true, true, true, true, true, true, true, true, true, true, true, true, true, true, true, true, true, true, true, true, true, true, true, true, true, false, false, false, true, true, false, false, false] rfl rfl (any_of HT_.out (by kernel_rfl)) (fun _ _ _ h => h) (Or.inl ⟨by rfl, ?_⟩) ?_ ?_
                                                     rotate_left
                                                     · intro w'
                                                       go_simp
                                                       with_reducible rfl
                                                     rotate_left
                                                     · simp only [Act.put, List.setIfInBounds_toArray, List.set_cons_zero, List.set_cons_succ, i64_w, i32_w]
                                                       rfl
                                                     refine one_ (i := 27) (N := some 43) #[true, true, true, true, true, true, true, true, true, true, true, true, true, true, true, true, true, true, true, true, true, true, true, true, true, true, true, true, false, false, true, true, false, false, false] rfl rfl (one_of HT_.out (by kernel_rfl)) (by decide) (fun K hK => ?_)
                                                     refine goes_ Tryd.func33 (by kernel_rfl) rfl #[.string ((rd_T63 l0 x9_1).f5)] (by rfl) rfl rfl (by (try simp only [List.map_toArray, List.map_cons, List.map_nil]); first | done | rfl | (simp only [List.length_drop, List.length_take]; rfl)) ?_
                                                     with_reducible refine (spec_octal.calls k1 ((rd_T63 l0 x9_1).f5) t160 _ A21.out).mono ?_
                                                     rintro e w44 ⟨rfl, hb⟩
                                                     refine ⟨_, rfl, ?_⟩
                                                     have n0_ := Aside0.mk (blk_below (g := gb153) (o := .cells #[.int .i64 ((rd_T63 l0 x9_1).f0), .int .i64 ((rd_T63 l0 x9_1).f1), .int .i64 ((rd_T63 l0 x9_1).f2), .int .i64 ((rd_T63 l0 x9_1).f3), .string ((rd_T63 l0 x9_1).f4), .string ((rd_T63 l0 x9_1).f5), .string ((rd_T63 l0 x9_1).f6), .string ((rd_T63 l0 x9_1).f7), .string ((rd_T63 l0 x9_1).f8), .string ((rd_T63 l0 x9_1).f9), .string ((rd_T63 l0 x9_1).f10)] 63 (0, 0)) (by (with_reducible repeat (first | refine blk_drewN ?_ _ | refine blk_drew ?_ | refine blk_alloc ?_ _)); exact BK153.out) hb)
                                                     have n1_ := Aside0.mk (below_step (by repeat (first | (with_reducible first | exact HB.out | apply below_alloc | apply pw_below_drewN | apply below_drew1 | refine below_set ?_ GE153.out) | exact HB.out)) hb)
                                                     clear BK153
                                                     clear HB
                                                     have BK153 := n0_
                                                     have HB := n1_
                                                     clear n0_ n1_
                                                     (try clear hb)
                                                     (try clear hb2)
                                                     (try clear hk)
                                                     (try clear hi)
                                                     refine hK.out _ _ ⟨(blk_cell BK153.out 0).trans rfl, (blk_cell BK153.out 1).trans rfl, (blk_cell BK153.out 2).trans rfl, (blk_cell BK153.out 3).trans rfl, (blk_cell BK153.out 4).trans rfl, (blk_cell BK153.out 5).trans rfl, (blk_cell BK153.out 6).trans rfl, (blk_cell BK153.out 7).trans rfl, (blk_cell BK153.out 8).trans rfl, (blk_cell BK153.out 9).trans rfl, (blk_cell BK153.out 10).trans rfl⟩ (fun hHeld => ?_)
                                                     clear hK K
                                                     refine norm_ (a' := ?_) ?_ ?_
                                                     rotate_left
                                                     · show Act.put _ (some 43) _ = _
                                                       simp only [Act.put, List.setIfInBounds_toArray, List.set_cons_zero, List.set_cons_succ, i64_w, i32_w]
                                                       rfl
                                                     refine pure_ (i := 28) (N := some 44) (v := ?_) (a' := ?_) #[true, true, true, true, true, true, true, true, true, true, true, true, true, true, true, true, true, true, true, true, true, true, true, true, true, true, true, true, true, false, true, true, false, false, false] rfl rfl (any_of HT_.out (by kernel_rfl)) (fun _ _ _ h => h) (Or.inl ⟨by rfl, ?_⟩) ?_ ?_
                                                     rotate_left
                                                     · intro w'
                                                       go_simp
                                                       with_reducible rfl
                                                     rotate_left
                                                     · simp only [Act.put, List.setIfInBounds_toArray, List.set_cons_zero, List.set_cons_succ, i64_w, i32_w]
                                                       rfl
                                                     refine pure_ (i := 29) (N := some 45) (v := ?_) (a' := ?_) #[true, true, true, true, true, true, true, true, true, true, true, true, true, true, true, true, true, true, true, true, true, true, true, true, true, true, true, true, true, true, true, true, false, false, false] rfl rfl (any_of HT_.out (by kernel_rfl)) (fun _ _ _ h => h) (Or.inl ⟨by rfl, ?_⟩) ?_ ?_
                                                     rotate_left
                                                     · intro w'
                                                       go_simp
                                                       with_reducible rfl
                                                     rotate_left
                                                     · simp only [Act.put, List.setIfInBounds_toArray, List.set_cons_zero, List.set_cons_succ, i64_w, i32_w]
                                                       rfl
                                                     refine pure_ (i := 32) (N := some 48) (v := ?_) (a' := ?_) #[true, true, true, true, true, true, true, true, true, true, true, true, true, true, true, true, true, true, true, true, true, true, true, true, true, true, true, true, true, true, true, true, true, false, false] rfl rfl (any_of HT_.out (by kernel_rfl)) (fun _ _ _ h => h) (Or.inl ⟨by rfl, ?_⟩) ?_ ?_
                                                     rotate_left
                                                     · intro w'
                                                       go_simp
                                                       with_reducible rfl
                                                     rotate_left
                                                     · simp only [Act.put, List.setIfInBounds_toArray, List.set_cons_zero, List.set_cons_succ, i64_w, i32_w]
                                                       rfl
                                                     refine pure_ (i := 33) (N := some 49) (v := ?_) (a' := ?_) #[true, true, true, true, true, true, true, true, true, true, true, true, true, true, true, true, true, true, true, true, true, true, true, true, true, true, true, true, true, true, true, true, true, true, false] rfl rfl (any_of HT_.out (by kernel_rfl)) (fun _ _ _ h => h) (Or.inl ⟨by rfl, ?_⟩) ?_ ?_
                                                     rotate_left
                                                     · intro w'
                                                       go_simp
                                                       with_reducible rfl
                                                     rotate_left
                                                     · simp only [Act.put, List.setIfInBounds_toArray, List.set_cons_zero, List.set_cons_succ, i64_w, i32_w]
                                                       rfl
                                                     refine pure_ (i := 34) (N := some 4) (v := ?_) (a' := ?_) #[true, true, true, true, true, true, true, true, true, true, true, true, true, true, true, true, true, true, true, true, true, true, true, true, true, true, true, true, true, true, true, true, true, true, true] rfl rfl (any_of HT_.out (by kernel_rfl)) (fun _ _ _ h => h) (Or.inl ⟨by rfl, ?_⟩) ?_ ?_
                                                     rotate_left
                                                     · intro w'
                                                       go_simp
                                                       with_reducible rfl
                                                     rotate_left
                                                     · simp only [Act.put, List.setIfInBounds_toArray, List.set_cons_zero, List.set_cons_succ, i64_w, i32_w]
                                                       rfl
                                                     refine done_ (done_of HT_.out (by kernel_rfl)) ?_
                                                     have hcz45_0 : w44.cell? ⟨gb153, 0, none⟩ = some (.int .i64 ((rd_T63 l0 x9_1).f0)) := (blk_cell BK153.out 0).trans rfl
                                                     have hcz45_1 : w44.cell? ⟨gb153, 1, none⟩ = some (.int .i64 ((rd_T63 l0 x9_1).f1)) := (blk_cell BK153.out 1).trans rfl
                                                     have hcz45_2 : w44.cell? ⟨gb153, 2, none⟩ = some (.int .i64 ((rd_T63 l0 x9_1).f2)) := (blk_cell BK153.out 2).trans rfl
                                                     have hcz45_3 : w44.cell? ⟨gb153, 3, none⟩ = some (.int .i64 ((rd_T63 l0 x9_1).f3)) := (blk_cell BK153.out 3).trans rfl
                                                     have hcz45_4 : w44.cell? ⟨gb153, 4, none⟩ = some (.string ((rd_T63 l0 x9_1).f4)) := (blk_cell BK153.out 4).trans rfl
                                                     have hcz45_5 : w44.cell? ⟨gb153, 5, none⟩ = some (.string ((rd_T63 l0 x9_1).f5)) := (blk_cell BK153.out 5).trans rfl
                                                     have hcz45_6 : w44.cell? ⟨gb153, 6, none⟩ = some (.string ((rd_T63 l0 x9_1).f6)) := (blk_cell BK153.out 6).trans rfl
                                                     have hcz45_7 : w44.cell? ⟨gb153, 7, none⟩ = some (.string ((rd_T63 l0 x9_1).f7)) := (blk_cell BK153.out 7).trans rfl
                                                     have hcz45_8 : w44.cell? ⟨gb153, 8, none⟩ = some (.string ((rd_T63 l0 x9_1).f8)) := (blk_cell BK153.out 8).trans rfl
                                                     have hcz45_9 : w44.cell? ⟨gb153, 9, none⟩ = some (.string ((rd_T63 l0 x9_1).f9)) := (blk_cell BK153.out 9).trans rfl
                                                     have hcz45_10 : w44.cell? ⟨gb153, 10, none⟩ = some (.string ((rd_T63 l0 x9_1).f10)) := (blk_cell BK153.out 10).trans rfl
                                                     have hfz45_0 := blk_frozen BK153.out 0
                                                     have hfz45_1 := blk_frozen BK153.out 1
                                                     have hfz45_2 := blk_frozen BK153.out 2
                                                     have hfz45_3 := blk_frozen BK153.out 3
                                                     have hfz45_4 := blk_frozen BK153.out 4
                                                     have hfz45_5 := blk_frozen BK153.out 5
                                                     have hfz45_6 := blk_frozen BK153.out 6
                                                     have hfz45_7 := blk_frozen BK153.out 7
                                                     have hfz45_8 := blk_frozen BK153.out 8
                                                     have hfz45_9 := blk_frozen BK153.out 9
                                                     have hfz45_10 := blk_frozen BK153.out 10
                                                     try go_wp2
                                                     have n0_ := Aside0.mk (blk_drew BK153.out)
                                                     have n1_ := Aside0.mk (below_drew1 HB.out)
                                                     clear BK153
                                                     clear HB
                                                     have BK153 := n0_
                                                     have HB := n1_
                                                     clear n0_ n1_
                                                     refine start_ (n := 16) (S := fun w' => w'.cell? ⟨gb153, 0, none⟩ = some (.int .i64 ((rd_T63 l0 x9_1).f0)) ∧ w'.cell? ⟨gb153, 1, none⟩ = some (.int .i64 ((rd_T63 l0 x9_1).f1)) ∧ w'.cell? ⟨gb153, 2, none⟩ = some (.int .i64 ((rd_T63 l0 x9_1).f2)) ∧ w'.cell? ⟨gb153, 3, none⟩ = some (.int .i64 ((rd_T63 l0 x9_1).f3)) ∧ w'.cell? ⟨gb153, 4, none⟩ = some (.string ((rd_T63 l0 x9_1).f4)) ∧ w'.cell? ⟨gb153, 5, none⟩ = some (.string ((rd_T63 l0 x9_1).f5)) ∧ w'.cell? ⟨gb153, 6, none⟩ = some (.string ((rd_T63 l0 x9_1).f6)) ∧ w'.cell? ⟨gb153, 7, none⟩ = some (.string ((rd_T63 l0 x9_1).f7)) ∧ w'.cell? ⟨gb153, 8, none⟩ = some (.string ((rd_T63 l0 x9_1).f8)) ∧ w'.cell? ⟨gb153, 9, none⟩ = some (.string ((rd_T63 l0 x9_1).f9)) ∧ w'.cell? ⟨gb153, 10, none⟩ = some (.string ((rd_T63 l0 x9_1).f10))) (ds := []) #[false, false, false, false, false, false, false, false, false, false, false, false, false, false, false, false] (by kernel_rfl) rfl rfl ⟨(blk_cell BK153.out 0).trans rfl, (blk_cell BK153.out 1).trans rfl, (blk_cell BK153.out 2).trans rfl, (blk_cell BK153.out 3).trans rfl, (blk_cell BK153.out 4).trans rfl, (blk_cell BK153.out 5).trans rfl, (blk_cell BK153.out 6).trans rfl, (blk_cell BK153.out 7).trans rfl, (blk_cell BK153.out 8).trans rfl, (blk_cell BK153.out 9).trans rfl, (blk_cell BK153.out 10).trans rfl⟩ (fun hHeld => ?_); refine with_tabW spec_MountsPrint.tab10 spec_MountsPrint.bits10 (fun HT_ HW_ => ?_)
                                                     generalize w44.drew = w46 at BK153 HB hHeld ⊢
                                                     refine pure_ (i := 0) (N := some 58) (v := ?_) (a' := ?_) #[true, false, false, false, false, false, false, false, false, false, false, false, false, false, false, false] rfl rfl (any_of HT_.out (by kernel_rfl)) (fun _ _ _ h => h) (Or.inl ⟨by rfl, ?_⟩) ?_ ?_
                                                     rotate_left
                                                     · intro w'
                                                       go_simp
                                                       with_reducible rfl
                                                     rotate_left
                                                     · simp only [Act.put, List.setIfInBounds_toArray, List.set_cons_zero, List.set_cons_succ, i64_w, i32_w]
                                                       rfl
                                                     refine pure_ (i := 1) (N := some 59) (v := ?_) (a' := ?_) #[true, true, false, false, false, false, false, false, false, false, false, false, false, false, false, false] rfl rfl (any_of HT_.out (by kernel_rfl)) (fun _ _ _ h => h) (Or.inl ⟨by rfl, ?_⟩) ?_ ?_
                                                     rotate_left
                                                     · intro w'
                                                       go_simp
                                                       with_reducible rfl
                                                     rotate_left
                                                     · simp only [Act.put, List.setIfInBounds_toArray, List.set_cons_zero, List.set_cons_succ, i64_w, i32_w]
                                                       rfl
                                                     refine pure_ (i := 5) (N := some 63) (v := ?_) (a' := ?_) #[true, true, false, false, false, true, false, false, false, false, false, false, false, false, false, false] rfl rfl (any_of HT_.out (by kernel_rfl)) (fun _ _ _ h => h) (Or.inl ⟨by rfl, ?_⟩) ?_ ?_
                                                     rotate_left
                                                     · intro w'
                                                       go_simp
                                                       with_reducible rfl
                                                     rotate_left
                                                     · simp only [Act.put, List.setIfInBounds_toArray, List.set_cons_zero, List.set_cons_succ, i64_w, i32_w]
                                                       rfl
                                                     refine pure_ (i := 10) (N := some 68) (v := ?_) (a' := ?_) #[true, true, false, false, false, true, false, false, false, false, true, false, false, false, false, false] rfl rfl (any_of HT_.out (by kernel_rfl)) (fun _ _ _ h => h) (Or.inl ⟨by rfl, ?_⟩) ?_ ?_
                                                     rotate_left
                                                     · intro w'
                                                       go_simp
                                                       with_reducible rfl
                                                     rotate_left
                                                     · simp only [Act.put, List.setIfInBounds_toArray, List.set_cons_zero, List.set_cons_succ, i64_w, i32_w]
                                                       rfl
                                                     refine take_ (i := 2) (N := some 60) (v := ?_) (a' := ?_) #[true, true, true, false, false, true, false, false, false, false, true, false, false, false, false, false] rfl rfl (take_ofW HT_.out HW_.out (by kernel_rfl)) (fun _ _ _ h => h) (Or.inl ⟨by rfl, ?_⟩) hHeld ?_ ?_
                                                     rotate_left
                                                     · rintro w' ⟨s0, s1, s2, s3, s4, s5, s6, s7, s8, s9, s10⟩
                                                       go_simp
                                                       with_reducible rfl
                                                     rotate_left
                                                     · simp only [Act.put, List.setIfInBounds_toArray, List.set_cons_zero, List.set_cons_succ, i64_w, i32_w]
                                                       rfl
                                                     refine pure_ (i := 3) (N := some 61) (v := ?_) (a' := ?_) #[true, true, true, true, false, true, false, false, false, false, true, false, false, false, false, false] rfl rfl (any_of HT_.out (by kernel_rfl)) (fun _ _ _ h => h) (Or.inl ⟨by rfl, ?_⟩) ?_ ?_
                                                     rotate_left
                                                     · intro w'
                                                       go_simp
                                                       with_reducible rfl
                                                     rotate_left
                                                     · simp only [Act.put, List.setIfInBounds_toArray, List.set_cons_zero, List.set_cons_succ, i64_w, i32_w]
                                                       rfl
                                                     refine pure_ (i := 4) (N := some 62) (v := ?_) (a' := ?_) #[true, true, true, true, true, true, false, false, false, false, true, false, false, false, false, false] rfl rfl (any_of HT_.out (by kernel_rfl)) (fun _ _ _ h => h) (Or.inl ⟨by rfl, ?_⟩) ?_ ?_
                                                     rotate_left
                                                     · intro w'
                                                       go_simp
                                                       with_reducible rfl
                                                     rotate_left
                                                     · simp only [Act.put, List.setIfInBounds_toArray, List.set_cons_zero, List.set_cons_succ, i64_w, i32_w]
                                                       rfl
                                                     refine take_ (i := 6) (N := some 64) (v := ?_) (a' := ?_) #[true, true, true, true, true, true, true, false, false, false, true, false, false, false, false, false] rfl rfl (take_ofW HT_.out HW_.out (by kernel_rfl)) (fun _ _ _ h => h) (Or.inl ⟨by rfl, ?_⟩) hHeld ?_ ?_
                                                     rotate_left
                                                     · rintro w' ⟨s0, s1, s2, s3, s4, s5, s6, s7, s8, s9, s10⟩
                                                       go_simp
                                                       with_reducible rfl
                                                     rotate_left
                                                     · simp only [Act.put, List.setIfInBounds_toArray, List.set_cons_zero, List.set_cons_succ, i64_w, i32_w]
                                                       rfl
                                                     refine take_ (i := 11) (N := some 69) (v := ?_) (a' := ?_) #[true, true, true, true, true, true, true, false, false, false, true, true, false, false, false, false] rfl rfl (take_ofW HT_.out HW_.out (by kernel_rfl)) (fun _ _ _ h => h) (Or.inl ⟨by rfl, ?_⟩) hHeld ?_ ?_
                                                     rotate_left
                                                     · rintro w' ⟨s0, s1, s2, s3, s4, s5, s6, s7, s8, s9, s10⟩
                                                       go_simp
                                                       with_reducible rfl
                                                     rotate_left
                                                     · simp only [Act.put, List.setIfInBounds_toArray, List.set_cons_zero, List.set_cons_succ, i64_w, i32_w]
                                                       rfl
                                                     refine one_ (i := 7) (N := some 65) #[true, true, true, true, true, true, true, true, false, false, true, true, false, false, false, false] rfl rfl (one_of HT_.out (by kernel_rfl)) (by decide) (fun K hK => ?_)
                                                     refine goes_ Tryd.func33 (by kernel_rfl) rfl #[.string ((rd_T63 l0 x9_1).f9)] (by rfl) rfl rfl (by (try simp only [List.map_toArray, List.map_cons, List.map_nil]); first | done | rfl | (simp only [List.length_drop, List.length_take]; rfl)) ?_
                                                     with_reducible refine (spec_octal.calls k1 ((rd_T63 l0 x9_1).f9) t161 _ A29.out).mono ?_
                                                     rintro e w47 ⟨rfl, hb⟩
                                                     refine ⟨_, rfl, ?_⟩
                                                     have n0_ := Aside0.mk (blk_below (g := gb153) (o := .cells #[.int .i64 ((rd_T63 l0 x9_1).f0), .int .i64 ((rd_T63 l0 x9_1).f1), .int .i64 ((rd_T63 l0 x9_1).f2), .int .i64 ((rd_T63 l0 x9_1).f3), .string ((rd_T63 l0 x9_1).f4), .string ((rd_T63 l0 x9_1).f5), .string ((rd_T63 l0 x9_1).f6), .string ((rd_T63 l0 x9_1).f7), .string ((rd_T63 l0 x9_1).f8), .string ((rd_T63 l0 x9_1).f9), .string ((rd_T63 l0 x9_1).f10)] 63 (0, 0)) (by (with_reducible repeat (first | refine blk_drewN ?_ _ | refine blk_drew ?_ | refine blk_alloc ?_ _)); exact BK153.out) hb)
                                                     have n1_ := Aside0.mk (below_step (by repeat (first | (with_reducible first | exact HB.out | apply below_alloc | apply pw_below_drewN | apply below_drew1 | refine below_set ?_ GE153.out) | exact HB.out)) hb)
                                                     clear BK153
                                                     clear HB
                                                     have BK153 := n0_
                                                     have HB := n1_
                                                     clear n0_ n1_
                                                     (try clear hb)
                                                     (try clear hb2)
                                                     (try clear hk)
                                                     (try clear hi)
                                                     refine hK.out _ _ ⟨(blk_cell BK153.out 0).trans rfl, (blk_cell BK153.out 1).trans rfl, (blk_cell BK153.out 2).trans rfl, (blk_cell BK153.out 3).trans rfl, (blk_cell BK153.out 4).trans rfl, (blk_cell BK153.out 5).trans rfl, (blk_cell BK153.out 6).trans rfl, (blk_cell BK153.out 7).trans rfl, (blk_cell BK153.out 8).trans rfl, (blk_cell BK153.out 9).trans rfl, (blk_cell BK153.out 10).trans rfl⟩ (fun hHeld => ?_)
                                                     clear hK K
                                                     refine norm_ (a' := ?_) ?_ ?_
                                                     rotate_left
                                                     · show Act.put _ (some 65) _ = _
                                                       simp only [Act.put, List.setIfInBounds_toArray, List.set_cons_zero, List.set_cons_succ, i64_w, i32_w]
                                                       rfl
                                                     refine pure_ (i := 8) (N := some 66) (v := ?_) (a' := ?_) #[true, true, true, true, true, true, true, true, true, false, true, true, false, false, false, false] rfl rfl (any_of HT_.out (by kernel_rfl)) (fun _ _ _ h => h) (Or.inl ⟨by rfl, ?_⟩) ?_ ?_
                                                     rotate_left
                                                     · intro w'
                                                       go_simp
                                                       with_reducible rfl
                                                     rotate_left
                                                     · simp only [Act.put, List.setIfInBounds_toArray, List.set_cons_zero, List.set_cons_succ, i64_w, i32_w]
                                                       rfl
                                                     refine pure_ (i := 9) (N := some 67) (v := ?_) (a' := ?_) #[true, true, true, true, true, true, true, true, true, true, true, true, false, false, false, false] rfl rfl (any_of HT_.out (by kernel_rfl)) (fun _ _ _ h => h) (Or.inl ⟨by rfl, ?_⟩) ?_ ?_
                                                     rotate_left
                                                     · intro w'
                                                       go_simp
                                                       with_reducible rfl
                                                     rotate_left
                                                     · simp only [Act.put, List.setIfInBounds_toArray, List.set_cons_zero, List.set_cons_succ, i64_w, i32_w]
                                                       rfl
                                                     refine pure_ (i := 12) (N := some 70) (v := ?_) (a' := ?_) #[true, true, true, true, true, true, true, true, true, true, true, true, true, false, false, false] rfl rfl (any_of HT_.out (by kernel_rfl)) (fun _ _ _ h => h) (Or.inl ⟨by rfl, ?_⟩) ?_ ?_
                                                     rotate_left
                                                     · intro w'
                                                       go_simp
                                                       with_reducible rfl
                                                     rotate_left
                                                     · simp only [Act.put, List.setIfInBounds_toArray, List.set_cons_zero, List.set_cons_succ, i64_w, i32_w]
                                                       rfl
                                                     refine pure_ (i := 13) (N := some 71) (v := ?_) (a' := ?_) #[true, true, true, true, true, true, true, true, true, true, true, true, true, true, false, false] rfl rfl (any_of HT_.out (by kernel_rfl)) (fun _ _ _ h => h) (Or.inl ⟨by rfl, ?_⟩) ?_ ?_
                                                     rotate_left
                                                     · intro w'
                                                       go_simp
                                                       with_reducible rfl
                                                     rotate_left
                                                     · simp only [Act.put, List.setIfInBounds_toArray, List.set_cons_zero, List.set_cons_succ, i64_w, i32_w]
                                                       rfl
                                                     refine pure_ (i := 14) (N := some 72) (v := ?_) (a' := ?_) #[true, true, true, true, true, true, true, true, true, true, true, true, true, true, true, false] rfl rfl (any_of HT_.out (by kernel_rfl)) (fun _ _ _ h => h) (Or.inl ⟨by rfl, ?_⟩) ?_ ?_
                                                     rotate_left
                                                     · intro w'
                                                       go_simp
                                                       with_reducible rfl
                                                     rotate_left
                                                     · simp only [Act.put, List.setIfInBounds_toArray, List.set_cons_zero, List.set_cons_succ, i64_w, i32_w]
                                                       rfl
                                                     refine pure_ (i := 15) (N := some 4) (v := ?_) (a' := ?_) #[true, true, true, true, true, true, true, true, true, true, true, true, true, true, true, true] rfl rfl (any_of HT_.out (by kernel_rfl)) (fun _ _ _ h => h) (Or.inl ⟨by rfl, ?_⟩) ?_ ?_
                                                     rotate_left
                                                     · intro w'
                                                       go_simp
                                                       with_reducible rfl
                                                     rotate_left
                                                     · simp only [Act.put, List.setIfInBounds_toArray, List.set_cons_zero, List.set_cons_succ, i64_w, i32_w]
                                                       rfl
                                                     refine done_ (done_of HT_.out (by kernel_rfl)) ?_
                                                     try go_wp2
                                                     go_roundg k1
                                                     case measure => have := HK1.out; omega
                                                     case rel => exact ⟨((x4_1 ++ ((((((((((((t155 ++ (⟨#[32]⟩ : ByteArray)) ++ t156) ++ (⟨#[32]⟩ : ByteArray)) ++ t157) ++ (⟨#[58]⟩ : ByteArray)) ++ t158) ++ (⟨#[32]⟩ : ByteArray)) ++ t159) ++ (⟨#[32]⟩ : ByteArray)) ++ t160) ++ (⟨#[32]⟩ : ByteArray)) ++ ((rd_T63 l0 x9_1).f6))) ++ (((((((⟨#[32, 45, 32]⟩ : ByteArray) ++ ((rd_T63 l0 x9_1).f8)) ++ (⟨#[32]⟩ : ByteArray)) ++ t161) ++ (⟨#[32]⟩ : ByteArray)) ++ ((rd_T63 l0 x9_1).f10)) ++ (⟨#[10]⟩ : ByteArray))), (wrap64 (x9_1 + 1)), (by first | rfl | (simp; done) | (simp [*]; done)), (by first | rfl | (simp; done) | (simp [*]; done)), H', ⟨by have := HK1.out; omega⟩, ⟨by repeat (first | (with_reducible first | exact HB.out | apply below_alloc | apply pw_below_drewN | apply below_drew1 | refine below_set ?_ GE153.out) | exact HB.out)⟩⟩
                                                   · rw [if_neg c34] at H
                                                     exact absurd H (by simp)
                                                 · rw [if_neg c33] at H
                                                   exact absurd H (by simp)
                                               · rw [if_neg c32] at H
                                                 exact absurd H (by simp)
                                             · rw [if_neg c31] at H
                                               exact absurd H (by simp)
                                           · rw [if_neg c30] at H
                                             exact absurd H (by simp)
                                         · rw [if_neg c28] at H
                                           exact absurd H (by simp)
                                       · rw [if_neg c27] at H
                                         exact absurd H (by simp)
                                     · rw [if_neg c26] at H
                                       have c26b0 : (((rd_T63 l0 x9_1).f7).toList == ([] : List UInt8)) = false := beq_eq_false_iff_ne.mpr c26
                                       have c26b1 : (((rd_T63 l0 x9_1).f7).toList != ([] : List UInt8)) = true := bne_iff_ne.mpr c26
                                       by_cases c48 : 1 + ((rd_T63 l0 x9_1).f7).size ≤ 9223372036854775807
                                       · rw [if_pos c48] at H
                                         have c48b0 := eq_true c48
                                         have c48b1 : decide (1 + ((rd_T63 l0 x9_1).f7).size ≤ 9223372036854775807) = true := decide_eq_true c48
                                         try have c48b2 : (9223372036854775807 < 1 + ((rd_T63 l0 x9_1).f7).size) = False := eq_false (Nat.not_lt.2 c48)
                                         by_cases c49 : (x4_1 ++ ((((((((((((t155 ++ (⟨#[32]⟩ : ByteArray)) ++ t156) ++ (⟨#[32]⟩ : ByteArray)) ++ t157) ++ (⟨#[58]⟩ : ByteArray)) ++ t158) ++ (⟨#[32]⟩ : ByteArray)) ++ t159) ++ (⟨#[32]⟩ : ByteArray)) ++ t160) ++ (⟨#[32]⟩ : ByteArray)) ++ ((rd_T63 l0 x9_1).f6))).size + ((⟨#[32]⟩ : ByteArray) ++ ((rd_T63 l0 x9_1).f7)).size ≤ 9223372036854775807
                                         · rw [if_pos c49] at H
                                           have c49b0 := eq_true c49
                                           have c49b1 : decide ((x4_1 ++ ((((((((((((t155 ++ (⟨#[32]⟩ : ByteArray)) ++ t156) ++ (⟨#[32]⟩ : ByteArray)) ++ t157) ++ (⟨#[58]⟩ : ByteArray)) ++ t158) ++ (⟨#[32]⟩ : ByteArray)) ++ t159) ++ (⟨#[32]⟩ : ByteArray)) ++ t160) ++ (⟨#[32]⟩ : ByteArray)) ++ ((rd_T63 l0 x9_1).f6))).size + ((⟨#[32]⟩ : ByteArray) ++ ((rd_T63 l0 x9_1).f7)).size ≤ 9223372036854775807) = true := decide_eq_true c49
                                           try have c49b2 : (9223372036854775807 < (x4_1 ++ ((((((((((((t155 ++ (⟨#[32]⟩ : ByteArray)) ++ t156) ++ (⟨#[32]⟩ : ByteArray)) ++ t157) ++ (⟨#[58]⟩ : ByteArray)) ++ t158) ++ (⟨#[32]⟩ : ByteArray)) ++ t159) ++ (⟨#[32]⟩ : ByteArray)) ++ t160) ++ (⟨#[32]⟩ : ByteArray)) ++ ((rd_T63 l0 x9_1).f6))).size + ((⟨#[32]⟩ : ByteArray) ++ ((rd_T63 l0 x9_1).f7)).size) = False := eq_false (Nat.not_lt.2 c49)
                                           have c49b3 : (9223372036854775807 < x4_1.size + (t155.size + 1 + t156.size + 1 + t157.size + 1 + t158.size + 1 + t159.size + 1 + t160.size + 1 + ((rd_T63 l0 x9_1).f6).size) + (1 + ((rd_T63 l0 x9_1).f7).size)) = False := by have h_ := c49b2; simp only [ByteArray.size_append] at h_; exact h_
                                           by_cases c50 : 3 + ((rd_T63 l0 x9_1).f8).size ≤ 9223372036854775807
                                           · rw [if_pos c50] at H
                                             have c50b0 := eq_true c50
                                             have c50b1 : decide (3 + ((rd_T63 l0 x9_1).f8).size ≤ 9223372036854775807) = true := decide_eq_true c50
                                             try have c50b2 : (9223372036854775807 < 3 + ((rd_T63 l0 x9_1).f8).size) = False := eq_false (Nat.not_lt.2 c50)
                                             by_cases c51 : ((⟨#[32, 45, 32]⟩ : ByteArray) ++ ((rd_T63 l0 x9_1).f8)).size + 1 ≤ 9223372036854775807
                                             · rw [if_pos c51] at H
                                               have c51b0 := eq_true c51
                                               have c51b1 : decide (((⟨#[32, 45, 32]⟩ : ByteArray) ++ ((rd_T63 l0 x9_1).f8)).size + 1 ≤ 9223372036854775807) = true := decide_eq_true c51
                                               try have c51b2 : (9223372036854775807 < ((⟨#[32, 45, 32]⟩ : ByteArray) ++ ((rd_T63 l0 x9_1).f8)).size + 1) = False := eq_false (Nat.not_lt.2 c51)
                                               have c51b3 : (9223372036854775807 < 3 + ((rd_T63 l0 x9_1).f8).size + 1) = False := by have h_ := c51b2; simp only [ByteArray.size_append] at h_; exact h_
                                               replace H := Option.bind_eq_some_iff.mp H
                                               obtain ⟨t162, A520, H⟩ := H
                                               (try dsimp only at H)
                                               have A52 := Aside0.mk A520
                                               clear A520
                                               by_cases c53 : (((⟨#[32, 45, 32]⟩ : ByteArray) ++ ((rd_T63 l0 x9_1).f8)) ++ (⟨#[32]⟩ : ByteArray)).size + t162.size ≤ 9223372036854775807
                                               · rw [if_pos c53] at H
                                                 have c53b0 := eq_true c53
                                                 have c53b1 : decide ((((⟨#[32, 45, 32]⟩ : ByteArray) ++ ((rd_T63 l0 x9_1).f8)) ++ (⟨#[32]⟩ : ByteArray)).size + t162.size ≤ 9223372036854775807) = true := decide_eq_true c53
                                                 try have c53b2 : (9223372036854775807 < (((⟨#[32, 45, 32]⟩ : ByteArray) ++ ((rd_T63 l0 x9_1).f8)) ++ (⟨#[32]⟩ : ByteArray)).size + t162.size) = False := eq_false (Nat.not_lt.2 c53)
                                                 have c53b3 : (9223372036854775807 < 3 + ((rd_T63 l0 x9_1).f8).size + 1 + t162.size) = False := by have h_ := c53b2; simp only [ByteArray.size_append] at h_; exact h_
                                                 by_cases c54 : ((((⟨#[32, 45, 32]⟩ : ByteArray) ++ ((rd_T63 l0 x9_1).f8)) ++ (⟨#[32]⟩ : ByteArray)) ++ t162).size + 1 ≤ 9223372036854775807
                                                 · rw [if_pos c54] at H
                                                   have c54b0 := eq_true c54
                                                   have c54b1 : decide (((((⟨#[32, 45, 32]⟩ : ByteArray) ++ ((rd_T63 l0 x9_1).f8)) ++ (⟨#[32]⟩ : ByteArray)) ++ t162).size + 1 ≤ 9223372036854775807) = true := decide_eq_true c54
                                                   try have c54b2 : (9223372036854775807 < ((((⟨#[32, 45, 32]⟩ : ByteArray) ++ ((rd_T63 l0 x9_1).f8)) ++ (⟨#[32]⟩ : ByteArray)) ++ t162).size + 1) = False := eq_false (Nat.not_lt.2 c54)
                                                   have c54b3 : (9223372036854775807 < 3 + ((rd_T63 l0 x9_1).f8).size + 1 + t162.size + 1) = False := by have h_ := c54b2; simp only [ByteArray.size_append] at h_; exact h_
                                                   by_cases c55 : (((((⟨#[32, 45, 32]⟩ : ByteArray) ++ ((rd_T63 l0 x9_1).f8)) ++ (⟨#[32]⟩ : ByteArray)) ++ t162) ++ (⟨#[32]⟩ : ByteArray)).size + ((rd_T63 l0 x9_1).f10).size ≤ 9223372036854775807
                                                   · rw [if_pos c55] at H
                                                     have c55b0 := eq_true c55
                                                     have c55b1 : decide ((((((⟨#[32, 45, 32]⟩ : ByteArray) ++ ((rd_T63 l0 x9_1).f8)) ++ (⟨#[32]⟩ : ByteArray)) ++ t162) ++ (⟨#[32]⟩ : ByteArray)).size + ((rd_T63 l0 x9_1).f10).size ≤ 9223372036854775807) = true := decide_eq_true c55
                                                     try have c55b2 : (9223372036854775807 < (((((⟨#[32, 45, 32]⟩ : ByteArray) ++ ((rd_T63 l0 x9_1).f8)) ++ (⟨#[32]⟩ : ByteArray)) ++ t162) ++ (⟨#[32]⟩ : ByteArray)).size + ((rd_T63 l0 x9_1).f10).size) = False := eq_false (Nat.not_lt.2 c55)
                                                     have c55b3 : (9223372036854775807 < 3 + ((rd_T63 l0 x9_1).f8).size + 1 + t162.size + 1 + ((rd_T63 l0 x9_1).f10).size) = False := by have h_ := c55b2; simp only [ByteArray.size_append] at h_; exact h_
                                                     by_cases c56 : ((((((⟨#[32, 45, 32]⟩ : ByteArray) ++ ((rd_T63 l0 x9_1).f8)) ++ (⟨#[32]⟩ : ByteArray)) ++ t162) ++ (⟨#[32]⟩ : ByteArray)) ++ ((rd_T63 l0 x9_1).f10)).size + 1 ≤ 9223372036854775807
                                                     · rw [if_pos c56] at H
                                                       have c56b0 := eq_true c56
                                                       have c56b1 : decide (((((((⟨#[32, 45, 32]⟩ : ByteArray) ++ ((rd_T63 l0 x9_1).f8)) ++ (⟨#[32]⟩ : ByteArray)) ++ t162) ++ (⟨#[32]⟩ : ByteArray)) ++ ((rd_T63 l0 x9_1).f10)).size + 1 ≤ 9223372036854775807) = true := decide_eq_true c56
                                                       try have c56b2 : (9223372036854775807 < ((((((⟨#[32, 45, 32]⟩ : ByteArray) ++ ((rd_T63 l0 x9_1).f8)) ++ (⟨#[32]⟩ : ByteArray)) ++ t162) ++ (⟨#[32]⟩ : ByteArray)) ++ ((rd_T63 l0 x9_1).f10)).size + 1) = False := eq_false (Nat.not_lt.2 c56)
                                                       have c56b3 : (9223372036854775807 < 3 + ((rd_T63 l0 x9_1).f8).size + 1 + t162.size + 1 + ((rd_T63 l0 x9_1).f10).size + 1) = False := by have h_ := c56b2; simp only [ByteArray.size_append] at h_; exact h_
                                                       by_cases c57 : ((x4_1 ++ ((((((((((((t155 ++ (⟨#[32]⟩ : ByteArray)) ++ t156) ++ (⟨#[32]⟩ : ByteArray)) ++ t157) ++ (⟨#[58]⟩ : ByteArray)) ++ t158) ++ (⟨#[32]⟩ : ByteArray)) ++ t159) ++ (⟨#[32]⟩ : ByteArray)) ++ t160) ++ (⟨#[32]⟩ : ByteArray)) ++ ((rd_T63 l0 x9_1).f6))) ++ ((⟨#[32]⟩ : ByteArray) ++ ((rd_T63 l0 x9_1).f7))).size + (((((((⟨#[32, 45, 32]⟩ : ByteArray) ++ ((rd_T63 l0 x9_1).f8)) ++ (⟨#[32]⟩ : ByteArray)) ++ t162) ++ (⟨#[32]⟩ : ByteArray)) ++ ((rd_T63 l0 x9_1).f10)) ++ (⟨#[10]⟩ : ByteArray)).size ≤ 9223372036854775807
                                                       · rw [if_pos c57] at H
                                                         have c57b0 := eq_true c57
                                                         have c57b1 : decide (((x4_1 ++ ((((((((((((t155 ++ (⟨#[32]⟩ : ByteArray)) ++ t156) ++ (⟨#[32]⟩ : ByteArray)) ++ t157) ++ (⟨#[58]⟩ : ByteArray)) ++ t158) ++ (⟨#[32]⟩ : ByteArray)) ++ t159) ++ (⟨#[32]⟩ : ByteArray)) ++ t160) ++ (⟨#[32]⟩ : ByteArray)) ++ ((rd_T63 l0 x9_1).f6))) ++ ((⟨#[32]⟩ : ByteArray) ++ ((rd_T63 l0 x9_1).f7))).size + (((((((⟨#[32, 45, 32]⟩ : ByteArray) ++ ((rd_T63 l0 x9_1).f8)) ++ (⟨#[32]⟩ : ByteArray)) ++ t162) ++ (⟨#[32]⟩ : ByteArray)) ++ ((rd_T63 l0 x9_1).f10)) ++ (⟨#[10]⟩ : ByteArray)).size ≤ 9223372036854775807) = true := decide_eq_true c57
                                                         try have c57b2 : (9223372036854775807 < ((x4_1 ++ ((((((((((((t155 ++ (⟨#[32]⟩ : ByteArray)) ++ t156) ++ (⟨#[32]⟩ : ByteArray)) ++ t157) ++ (⟨#[58]⟩ : ByteArray)) ++ t158) ++ (⟨#[32]⟩ : ByteArray)) ++ t159) ++ (⟨#[32]⟩ : ByteArray)) ++ t160) ++ (⟨#[32]⟩ : ByteArray)) ++ ((rd_T63 l0 x9_1).f6))) ++ ((⟨#[32]⟩ : ByteArray) ++ ((rd_T63 l0 x9_1).f7))).size + (((((((⟨#[32, 45, 32]⟩ : ByteArray) ++ ((rd_T63 l0 x9_1).f8)) ++ (⟨#[32]⟩ : ByteArray)) ++ t162) ++ (⟨#[32]⟩ : ByteArray)) ++ ((rd_T63 l0 x9_1).f10)) ++ (⟨#[10]⟩ : ByteArray)).size) = False := eq_false (Nat.not_lt.2 c57)
                                                         have c57b3 : (9223372036854775807 < x4_1.size + (t155.size + 1 + t156.size + 1 + t157.size + 1 + t158.size + 1 + t159.size + 1 + t160.size + 1 + ((rd_T63 l0 x9_1).f6).size) + (1 + ((rd_T63 l0 x9_1).f7).size) + (3 + ((rd_T63 l0 x9_1).f8).size + 1 + t162.size + 1 + ((rd_T63 l0 x9_1).f10).size + 1)) = False := by have h_ := c57b2; simp only [ByteArray.size_append] at h_; exact h_
                                                         have H' := Aside0.mk H
                                                         clear H
                                                         have p152 : 0 ≤ (x9_1 : Int) := of_decide_eq_true (by first | (with_reducible assumption) | assumption)
                                                         have q152 : x9_1 < (l0.length : Int) := of_decide_eq_true (by first | (with_reducible assumption) | assumption)
                                                         obtain ⟨ad152, e152, hx152_0, hx152_1, hx152_2, hx152_3, hx152_4, hx152_5, hx152_6, hx152_7, hx152_8, hx152_9, hx152_10⟩ := at_T63 HR0.out x9_1 p152 q152
                                                         cases e152
                                                         replace hx152_0 := (HB.out.cell (World.block_lt_of_cell? w _ hx152_0)).trans hx152_0
                                                         replace hx152_1 := (HB.out.cell (World.block_lt_of_cell? w _ hx152_1)).trans hx152_1
                                                         replace hx152_2 := (HB.out.cell (World.block_lt_of_cell? w _ hx152_2)).trans hx152_2
                                                         replace hx152_3 := (HB.out.cell (World.block_lt_of_cell? w _ hx152_3)).trans hx152_3
                                                         replace hx152_4 := (HB.out.cell (World.block_lt_of_cell? w _ hx152_4)).trans hx152_4
                                                         replace hx152_5 := (HB.out.cell (World.block_lt_of_cell? w _ hx152_5)).trans hx152_5
                                                         replace hx152_6 := (HB.out.cell (World.block_lt_of_cell? w _ hx152_6)).trans hx152_6
                                                         replace hx152_7 := (HB.out.cell (World.block_lt_of_cell? w _ hx152_7)).trans hx152_7
                                                         replace hx152_8 := (HB.out.cell (World.block_lt_of_cell? w _ hx152_8)).trans hx152_8
                                                         replace hx152_9 := (HB.out.cell (World.block_lt_of_cell? w _ hx152_9)).trans hx152_9
                                                         replace hx152_10 := (HB.out.cell (World.block_lt_of_cell? w _ hx152_10)).trans hx152_10
                                                         replace p152 := eq_true p152
                                                         replace q152 := eq_true q152
                                                         try go_wp2_with (first | ((with_reducible refine gate_dst (N := 6) rfl ?_); refine Go.Last.box_store_event ?hg (N := 6) ?hd (c0 := #[.int .i64 0, .int .i64 0, .int .i64 0, .int .i64 0, .string (⟨#[]⟩ : ByteArray), .string (⟨#[]⟩ : ByteArray), .string (⟨#[]⟩ : ByteArray), .string (⟨#[]⟩ : ByteArray), .string (⟨#[]⟩ : ByteArray), .string (⟨#[]⟩ : ByteArray), .string (⟨#[]⟩ : ByteArray)]) (cs := #[.int .i64 ((rd_T63 l0 x9_1).f0), .int .i64 ((rd_T63 l0 x9_1).f1), .int .i64 ((rd_T63 l0 x9_1).f2), .int .i64 ((rd_T63 l0 x9_1).f3), .string ((rd_T63 l0 x9_1).f4), .string ((rd_T63 l0 x9_1).f5), .string ((rd_T63 l0 x9_1).f6), .string ((rd_T63 l0 x9_1).f7), .string ((rd_T63 l0 x9_1).f8), .string ((rd_T63 l0 x9_1).f9), .string ((rd_T63 l0 x9_1).f10)]) (t := 63) (P := Tryd.prog) ?hr rfl rfl (by first | (go_simp; done) | (go_simp; rfl)) (by first | (go_simp; done) | (go_simp; rfl)) (by kernel_rfl) rfl (by first | rfl | (simp [Value.oneCell']; done)) ?_; (case hd => rfl); (case hg => rfl); (case hr => first | (go_simp; done) | (go_simp; rfl)); intro gb153 hg w58 hbox hb; have n0_ := Aside0.mk (below_step (by repeat (first | (with_reducible first | exact HB.out | apply below_alloc | apply pw_below_drewN | apply below_drew1) | exact HB.out)) hb); have n1_ := Aside0.mk (hbox); have n2_ := Aside0.mk ((by rw [hg]; exact (below_size (by repeat (first | (with_reducible first | exact HB.out | apply below_alloc | apply pw_below_drewN | apply below_drew1) | exact HB.out))) : w.heap.size ≤ gb153)); have n3_ := Aside0.mk ((by rw [hg]; exact (below_size (by repeat (first | (with_reducible first | exact HB.out | apply below_alloc | apply pw_below_drewN | apply below_drew1) | exact HB.out))) : w.heap.size ≤ gb153)); clear HB; have HB := n0_; have BK153 := n1_; have GW153 := n2_; have GE153 := n3_; clear n0_ n1_ n2_ n3_; clear hb hbox hg; have hcz59_0 : w58.cell? ⟨gb153, 0, none⟩ = some (.int .i64 ((rd_T63 l0 x9_1).f0)) := (blk_cell BK153.out 0).trans rfl; have hcz59_1 : w58.cell? ⟨gb153, 1, none⟩ = some (.int .i64 ((rd_T63 l0 x9_1).f1)) := (blk_cell BK153.out 1).trans rfl; have hcz59_2 : w58.cell? ⟨gb153, 2, none⟩ = some (.int .i64 ((rd_T63 l0 x9_1).f2)) := (blk_cell BK153.out 2).trans rfl; have hcz59_3 : w58.cell? ⟨gb153, 3, none⟩ = some (.int .i64 ((rd_T63 l0 x9_1).f3)) := (blk_cell BK153.out 3).trans rfl; have hcz59_4 : w58.cell? ⟨gb153, 4, none⟩ = some (.string ((rd_T63 l0 x9_1).f4)) := (blk_cell BK153.out 4).trans rfl; have hcz59_5 : w58.cell? ⟨gb153, 5, none⟩ = some (.string ((rd_T63 l0 x9_1).f5)) := (blk_cell BK153.out 5).trans rfl; have hcz59_6 : w58.cell? ⟨gb153, 6, none⟩ = some (.string ((rd_T63 l0 x9_1).f6)) := (blk_cell BK153.out 6).trans rfl; have hcz59_7 : w58.cell? ⟨gb153, 7, none⟩ = some (.string ((rd_T63 l0 x9_1).f7)) := (blk_cell BK153.out 7).trans rfl; have hcz59_8 : w58.cell? ⟨gb153, 8, none⟩ = some (.string ((rd_T63 l0 x9_1).f8)) := (blk_cell BK153.out 8).trans rfl; have hcz59_9 : w58.cell? ⟨gb153, 9, none⟩ = some (.string ((rd_T63 l0 x9_1).f9)) := (blk_cell BK153.out 9).trans rfl; have hcz59_10 : w58.cell? ⟨gb153, 10, none⟩ = some (.string ((rd_T63 l0 x9_1).f10)) := (blk_cell BK153.out 10).trans rfl; have hfz59_0 := blk_frozen BK153.out 0; have hfz59_1 := blk_frozen BK153.out 1; have hfz59_2 := blk_frozen BK153.out 2; have hfz59_3 := blk_frozen BK153.out 3; have hfz59_4 := blk_frozen BK153.out 4; have hfz59_5 := blk_frozen BK153.out 5; have hfz59_6 := blk_frozen BK153.out 6; have hfz59_7 := blk_frozen BK153.out 7; have hfz59_8 := blk_frozen BK153.out 8; have hfz59_9 := blk_frozen BK153.out 9; have hfz59_10 := blk_frozen BK153.out 10) | ((with_reducible refine gate_callee (f := 31) rfl ?_); refine goesL_ (some 14) rfl rfl Tryd.func31 (by kernel_rfl) rfl #[.agg #[.int .i64 ((rd_T63 l0 x9_1).f0), .int .i64 ((rd_T63 l0 x9_1).f1), .int .i64 ((rd_T63 l0 x9_1).f2), .int .i64 ((rd_T63 l0 x9_1).f3), .string ((rd_T63 l0 x9_1).f4), .string ((rd_T63 l0 x9_1).f5), .string ((rd_T63 l0 x9_1).f6), .string ((rd_T63 l0 x9_1).f7), .string ((rd_T63 l0 x9_1).f8), .string ((rd_T63 l0 x9_1).f9), .string ((rd_T63 l0 x9_1).f10)]] rfl (by (try simp only [List.map_toArray, List.map_cons, List.map_nil]); first | done | rfl | (simp only [List.length_drop, List.length_take]; rfl)) ?_; (with_reducible refine (spec_mountValid.calls k1 ((rd_T63 l0 x9_1).f0) ((rd_T63 l0 x9_1).f1) ((rd_T63 l0 x9_1).f2) ((rd_T63 l0 x9_1).f3) ((rd_T63 l0 x9_1).f4) ((rd_T63 l0 x9_1).f5) ((rd_T63 l0 x9_1).f6) ((rd_T63 l0 x9_1).f7) ((rd_T63 l0 x9_1).f8) ((rd_T63 l0 x9_1).f9) ((rd_T63 l0 x9_1).f10) true _ A5.out).mono ?_); rintro e w60 ⟨rfl, hb⟩; refine ⟨_, rfl, ?_⟩; have n0_ := Aside0.mk (blk_below (g := gb153) (o := .cells #[.int .i64 ((rd_T63 l0 x9_1).f0), .int .i64 ((rd_T63 l0 x9_1).f1), .int .i64 ((rd_T63 l0 x9_1).f2), .int .i64 ((rd_T63 l0 x9_1).f3), .string ((rd_T63 l0 x9_1).f4), .string ((rd_T63 l0 x9_1).f5), .string ((rd_T63 l0 x9_1).f6), .string ((rd_T63 l0 x9_1).f7), .string ((rd_T63 l0 x9_1).f8), .string ((rd_T63 l0 x9_1).f9), .string ((rd_T63 l0 x9_1).f10)] 63 (0, 0)) (by (with_reducible repeat (first | refine blk_drewN ?_ _ | refine blk_drew ?_ | refine blk_alloc ?_ _)); exact BK153.out) hb); have n1_ := Aside0.mk (below_step (by repeat (first | (with_reducible first | exact HB.out | apply below_alloc | apply pw_below_drewN | apply below_drew1 | refine below_set ?_ GE153.out) | exact HB.out)) hb); clear BK153; clear HB; have BK153 := n0_; have HB := n1_; clear n0_ n1_; (try clear hb); (try clear hb2); (try clear hk); (try clear hi)))
                                                         have n0_ := Aside0.mk (blk_drew BK153.out)
                                                         have n1_ := Aside0.mk (below_drew1 HB.out)
                                                         clear BK153
                                                         clear HB
                                                         have BK153 := n0_
                                                         have HB := n1_
                                                         clear n0_ n1_
                                                         refine start_ (n := 35) (S := fun w' => w'.cell? ⟨gb153, 0, none⟩ = some (.int .i64 ((rd_T63 l0 x9_1).f0)) ∧ w'.cell? ⟨gb153, 1, none⟩ = some (.int .i64 ((rd_T63 l0 x9_1).f1)) ∧ w'.cell? ⟨gb153, 2, none⟩ = some (.int .i64 ((rd_T63 l0 x9_1).f2)) ∧ w'.cell? ⟨gb153, 3, none⟩ = some (.int .i64 ((rd_T63 l0 x9_1).f3)) ∧ w'.cell? ⟨gb153, 4, none⟩ = some (.string ((rd_T63 l0 x9_1).f4)) ∧ w'.cell? ⟨gb153, 5, none⟩ = some (.string ((rd_T63 l0 x9_1).f5)) ∧ w'.cell? ⟨gb153, 6, none⟩ = some (.string ((rd_T63 l0 x9_1).f6)) ∧ w'.cell? ⟨gb153, 7, none⟩ = some (.string ((rd_T63 l0 x9_1).f7)) ∧ w'.cell? ⟨gb153, 8, none⟩ = some (.string ((rd_T63 l0 x9_1).f8)) ∧ w'.cell? ⟨gb153, 9, none⟩ = some (.string ((rd_T63 l0 x9_1).f9)) ∧ w'.cell? ⟨gb153, 10, none⟩ = some (.string ((rd_T63 l0 x9_1).f10))) (ds := []) #[false, false, false, false, false, false, false, false, false, false, false, false, false, false, false, false, false, false, false, false, false, false, false, false, false, false, false, false, false, false, false, false, false, false, false] (by kernel_rfl) rfl rfl ⟨(blk_cell BK153.out 0).trans rfl, (blk_cell BK153.out 1).trans rfl, (blk_cell BK153.out 2).trans rfl, (blk_cell BK153.out 3).trans rfl, (blk_cell BK153.out 4).trans rfl, (blk_cell BK153.out 5).trans rfl, (blk_cell BK153.out 6).trans rfl, (blk_cell BK153.out 7).trans rfl, (blk_cell BK153.out 8).trans rfl, (blk_cell BK153.out 9).trans rfl, (blk_cell BK153.out 10).trans rfl⟩ (fun hHeld => ?_); refine with_tabW spec_MountsPrint.tab7 spec_MountsPrint.bits7 (fun HT_ HW_ => ?_)
                                                         generalize w60.drew = w61 at BK153 HB hHeld ⊢
                                                         refine pure_ (i := 0) (N := some 16) (v := ?_) (a' := ?_) #[true, false, false, false, false, false, false, false, false, false, false, false, false, false, false, false, false, false, false, false, false, false, false, false, false, false, false, false, false, false, false, false, false, false, false] rfl rfl (any_of HT_.out (by kernel_rfl)) (fun _ _ _ h => h) (Or.inl ⟨by rfl, ?_⟩) ?_ ?_
                                                         rotate_left
                                                         · intro w'
                                                           go_simp
                                                           with_reducible rfl
                                                         rotate_left
                                                         · simp only [Act.put, List.setIfInBounds_toArray, List.set_cons_zero, List.set_cons_succ, i64_w, i32_w]
                                                           rfl
                                                         refine pure_ (i := 1) (N := some 17) (v := ?_) (a' := ?_) #[true, true, false, false, false, false, false, false, false, false, false, false, false, false, false, false, false, false, false, false, false, false, false, false, false, false, false, false, false, false, false, false, false, false, false] rfl rfl (any_of HT_.out (by kernel_rfl)) (fun _ _ _ h => h) (Or.inl ⟨by rfl, ?_⟩) ?_ ?_
                                                         rotate_left
                                                         · intro w'
                                                           go_simp
                                                           with_reducible rfl
                                                         rotate_left
                                                         · simp only [Act.put, List.setIfInBounds_toArray, List.set_cons_zero, List.set_cons_succ, i64_w, i32_w]
                                                           rfl
                                                         refine pure_ (i := 5) (N := some 21) (v := ?_) (a' := ?_) #[true, true, false, false, false, true, false, false, false, false, false, false, false, false, false, false, false, false, false, false, false, false, false, false, false, false, false, false, false, false, false, false, false, false, false] rfl rfl (any_of HT_.out (by kernel_rfl)) (fun _ _ _ h => h) (Or.inl ⟨by rfl, ?_⟩) ?_ ?_
                                                         rotate_left
                                                         · intro w'
                                                           go_simp
                                                           with_reducible rfl
                                                         rotate_left
                                                         · simp only [Act.put, List.setIfInBounds_toArray, List.set_cons_zero, List.set_cons_succ, i64_w, i32_w]
                                                           rfl
                                                         refine pure_ (i := 10) (N := some 26) (v := ?_) (a' := ?_) #[true, true, false, false, false, true, false, false, false, false, true, false, false, false, false, false, false, false, false, false, false, false, false, false, false, false, false, false, false, false, false, false, false, false, false] rfl rfl (any_of HT_.out (by kernel_rfl)) (fun _ _ _ h => h) (Or.inl ⟨by rfl, ?_⟩) ?_ ?_
                                                         rotate_left
                                                         · intro w'
                                                           go_simp
                                                           with_reducible rfl
                                                         rotate_left
                                                         · simp only [Act.put, List.setIfInBounds_toArray, List.set_cons_zero, List.set_cons_succ, i64_w, i32_w]
                                                           rfl
                                                         refine pure_ (i := 15) (N := some 31) (v := ?_) (a' := ?_) #[true, true, false, false, false, true, false, false, false, false, true, false, false, false, false, true, false, false, false, false, false, false, false, false, false, false, false, false, false, false, false, false, false, false, false] rfl rfl (any_of HT_.out (by kernel_rfl)) (fun _ _ _ h => h) (Or.inl ⟨by rfl, ?_⟩) ?_ ?_
                                                         rotate_left
                                                         · intro w'
                                                           go_simp
                                                           with_reducible rfl
                                                         rotate_left
                                                         · simp only [Act.put, List.setIfInBounds_toArray, List.set_cons_zero, List.set_cons_succ, i64_w, i32_w]
                                                           rfl
                                                         refine pure_ (i := 20) (N := some 36) (v := ?_) (a' := ?_) #[true, true, false, false, false, true, false, false, false, false, true, false, false, false, false, true, false, false, false, false, true, false, false, false, false, false, false, false, false, false, false, false, false, false, false] rfl rfl (any_of HT_.out (by kernel_rfl)) (fun _ _ _ h => h) (Or.inl ⟨by rfl, ?_⟩) ?_ ?_
                                                         rotate_left
                                                         · intro w'
                                                           go_simp
                                                           with_reducible rfl
                                                         rotate_left
                                                         · simp only [Act.put, List.setIfInBounds_toArray, List.set_cons_zero, List.set_cons_succ, i64_w, i32_w]
                                                           rfl
                                                         refine pure_ (i := 25) (N := some 41) (v := ?_) (a' := ?_) #[true, true, false, false, false, true, false, false, false, false, true, false, false, false, false, true, false, false, false, false, true, false, false, false, false, true, false, false, false, false, false, false, false, false, false] rfl rfl (any_of HT_.out (by kernel_rfl)) (fun _ _ _ h => h) (Or.inl ⟨by rfl, ?_⟩) ?_ ?_
                                                         rotate_left
                                                         · intro w'
                                                           go_simp
                                                           with_reducible rfl
                                                         rotate_left
                                                         · simp only [Act.put, List.setIfInBounds_toArray, List.set_cons_zero, List.set_cons_succ, i64_w, i32_w]
                                                           rfl
                                                         refine pure_ (i := 30) (N := some 46) (v := ?_) (a' := ?_) #[true, true, false, false, false, true, false, false, false, false, true, false, false, false, false, true, false, false, false, false, true, false, false, false, false, true, false, false, false, false, true, false, false, false, false] rfl rfl (any_of HT_.out (by kernel_rfl)) (fun _ _ _ h => h) (Or.inl ⟨by rfl, ?_⟩) ?_ ?_
                                                         rotate_left
                                                         · intro w'
                                                           go_simp
                                                           with_reducible rfl
                                                         rotate_left
                                                         · simp only [Act.put, List.setIfInBounds_toArray, List.set_cons_zero, List.set_cons_succ, i64_w, i32_w]
                                                           rfl
                                                         refine take_ (i := 2) (N := some 18) (v := ?_) (a' := ?_) #[true, true, true, false, false, true, false, false, false, false, true, false, false, false, false, true, false, false, false, false, true, false, false, false, false, true, false, false, false, false, true, false, false, false, false] rfl rfl (take_ofW HT_.out HW_.out (by kernel_rfl)) (fun _ _ _ h => h) (Or.inl ⟨by rfl, ?_⟩) hHeld ?_ ?_
                                                         rotate_left
                                                         · rintro w' ⟨s0, s1, s2, s3, s4, s5, s6, s7, s8, s9, s10⟩
                                                           go_simp
                                                           with_reducible rfl
                                                         rotate_left
                                                         · simp only [Act.put, List.setIfInBounds_toArray, List.set_cons_zero, List.set_cons_succ, i64_w, i32_w]
                                                           rfl
                                                         refine take_ (i := 6) (N := some 22) (v := ?_) (a' := ?_) #[true, true, true, false, false, true, true, false, false, false, true, false, false, false, false, true, false, false, false, false, true, false, false, false, false, true, false, false, false, false, true, false, false, false, false] rfl rfl (take_ofW HT_.out HW_.out (by kernel_rfl)) (fun _ _ _ h => h) (Or.inl ⟨by rfl, ?_⟩) hHeld ?_ ?_
                                                         rotate_left
                                                         · rintro w' ⟨s0, s1, s2, s3, s4, s5, s6, s7, s8, s9, s10⟩
                                                           go_simp
                                                           with_reducible rfl
                                                         rotate_left
                                                         · simp only [Act.put, List.setIfInBounds_toArray, List.set_cons_zero, List.set_cons_succ, i64_w, i32_w]
                                                           rfl
                                                         refine take_ (i := 11) (N := some 27) (v := ?_) (a' := ?_) #[true, true, true, false, false, true, true, false, false, false, true, true, false, false, false, true, false, false, false, false, true, false, false, false, false, true, false, false, false, false, true, false, false, false, false] rfl rfl (take_ofW HT_.out HW_.out (by kernel_rfl)) (fun _ _ _ h => h) (Or.inl ⟨by rfl, ?_⟩) hHeld ?_ ?_
                                                         rotate_left
                                                         · rintro w' ⟨s0, s1, s2, s3, s4, s5, s6, s7, s8, s9, s10⟩
                                                           go_simp
                                                           with_reducible rfl
                                                         rotate_left
                                                         · simp only [Act.put, List.setIfInBounds_toArray, List.set_cons_zero, List.set_cons_succ, i64_w, i32_w]
                                                           rfl
                                                         refine take_ (i := 16) (N := some 32) (v := ?_) (a' := ?_) #[true, true, true, false, false, true, true, false, false, false, true, true, false, false, false, true, true, false, false, false, true, false, false, false, false, true, false, false, false, false, true, false, false, false, false] rfl rfl (take_ofW HT_.out HW_.out (by kernel_rfl)) (fun _ _ _ h => h) (Or.inl ⟨by rfl, ?_⟩) hHeld ?_ ?_
                                                         rotate_left
                                                         · rintro w' ⟨s0, s1, s2, s3, s4, s5, s6, s7, s8, s9, s10⟩
                                                           go_simp
                                                           with_reducible rfl
                                                         rotate_left
                                                         · simp only [Act.put, List.setIfInBounds_toArray, List.set_cons_zero, List.set_cons_succ, i64_w, i32_w]
                                                           rfl
                                                         refine take_ (i := 21) (N := some 37) (v := ?_) (a' := ?_) #[true, true, true, false, false, true, true, false, false, false, true, true, false, false, false, true, true, false, false, false, true, true, false, false, false, true, false, false, false, false, true, false, false, false, false] rfl rfl (take_ofW HT_.out HW_.out (by kernel_rfl)) (fun _ _ _ h => h) (Or.inl ⟨by rfl, ?_⟩) hHeld ?_ ?_
                                                         rotate_left
                                                         · rintro w' ⟨s0, s1, s2, s3, s4, s5, s6, s7, s8, s9, s10⟩
                                                           go_simp
                                                           with_reducible rfl
                                                         rotate_left
                                                         · simp only [Act.put, List.setIfInBounds_toArray, List.set_cons_zero, List.set_cons_succ, i64_w, i32_w]
                                                           rfl
                                                         refine take_ (i := 26) (N := some 42) (v := ?_) (a' := ?_) #[true, true, true, false, false, true, true, false, false, false, true, true, false, false, false, true, true, false, false, false, true, true, false, false, false, true, true, false, false, false, true, false, false, false, false] rfl rfl (take_ofW HT_.out HW_.out (by kernel_rfl)) (fun _ _ _ h => h) (Or.inl ⟨by rfl, ?_⟩) hHeld ?_ ?_
                                                         rotate_left
                                                         · rintro w' ⟨s0, s1, s2, s3, s4, s5, s6, s7, s8, s9, s10⟩
                                                           go_simp
                                                           with_reducible rfl
                                                         rotate_left
                                                         · simp only [Act.put, List.setIfInBounds_toArray, List.set_cons_zero, List.set_cons_succ, i64_w, i32_w]
                                                           rfl
                                                         refine take_ (i := 31) (N := some 47) (v := ?_) (a' := ?_) #[true, true, true, false, false, true, true, false, false, false, true, true, false, false, false, true, true, false, false, false, true, true, false, false, false, true, true, false, false, false, true, true, false, false, false] rfl rfl (take_ofW HT_.out HW_.out (by kernel_rfl)) (fun _ _ _ h => h) (Or.inl ⟨by rfl, ?_⟩) hHeld ?_ ?_
                                                         rotate_left
                                                         · rintro w' ⟨s0, s1, s2, s3, s4, s5, s6, s7, s8, s9, s10⟩
                                                           go_simp
                                                           with_reducible rfl
                                                         rotate_left
                                                         · simp only [Act.put, List.setIfInBounds_toArray, List.set_cons_zero, List.set_cons_succ, i64_w, i32_w]
                                                           rfl
                                                         refine one_ (i := 3) (N := some 19) #[true, true, true, true, false, true, true, false, false, false, true, true, false, false, false, true, true, false, false, false, true, true, false, false, false, true, true, false, false, false, true, true, false, false, false] rfl rfl (one_of HT_.out (by kernel_rfl)) (by decide) (fun K hK => ?_)
                                                         refine goes_ Tryd.func32 (by kernel_rfl) rfl #[.int .i64 ((rd_T63 l0 x9_1).f0)] (by rfl) rfl rfl (by (try simp only [List.map_toArray, List.map_cons, List.map_nil]); first | done | rfl | (simp only [List.length_drop, List.length_take]; rfl)) ?_
                                                         with_reducible refine (spec_natural.calls k1 ((rd_T63 l0 x9_1).f0) t155 _ A7.out).mono ?_
                                                         rintro e w62 ⟨rfl, hb⟩
                                                         refine ⟨_, rfl, ?_⟩
                                                         have n0_ := Aside0.mk (blk_below (g := gb153) (o := .cells #[.int .i64 ((rd_T63 l0 x9_1).f0), .int .i64 ((rd_T63 l0 x9_1).f1), .int .i64 ((rd_T63 l0 x9_1).f2), .int .i64 ((rd_T63 l0 x9_1).f3), .string ((rd_T63 l0 x9_1).f4), .string ((rd_T63 l0 x9_1).f5), .string ((rd_T63 l0 x9_1).f6), .string ((rd_T63 l0 x9_1).f7), .string ((rd_T63 l0 x9_1).f8), .string ((rd_T63 l0 x9_1).f9), .string ((rd_T63 l0 x9_1).f10)] 63 (0, 0)) (by (with_reducible repeat (first | refine blk_drewN ?_ _ | refine blk_drew ?_ | refine blk_alloc ?_ _)); exact BK153.out) hb)
                                                         have n1_ := Aside0.mk (below_step (by repeat (first | (with_reducible first | exact HB.out | apply below_alloc | apply pw_below_drewN | apply below_drew1 | refine below_set ?_ GE153.out) | exact HB.out)) hb)
                                                         clear BK153
                                                         clear HB
                                                         have BK153 := n0_
                                                         have HB := n1_
                                                         clear n0_ n1_
                                                         (try clear hb)
                                                         (try clear hb2)
                                                         (try clear hk)
                                                         (try clear hi)
                                                         refine hK.out _ _ ⟨(blk_cell BK153.out 0).trans rfl, (blk_cell BK153.out 1).trans rfl, (blk_cell BK153.out 2).trans rfl, (blk_cell BK153.out 3).trans rfl, (blk_cell BK153.out 4).trans rfl, (blk_cell BK153.out 5).trans rfl, (blk_cell BK153.out 6).trans rfl, (blk_cell BK153.out 7).trans rfl, (blk_cell BK153.out 8).trans rfl, (blk_cell BK153.out 9).trans rfl, (blk_cell BK153.out 10).trans rfl⟩ (fun hHeld => ?_)
                                                         clear hK K
                                                         refine norm_ (a' := ?_) ?_ ?_
                                                         rotate_left
                                                         · show Act.put _ (some 19) _ = _
                                                           simp only [Act.put, List.setIfInBounds_toArray, List.set_cons_zero, List.set_cons_succ, i64_w, i32_w]
                                                           rfl
                                                         refine pure_ (i := 4) (N := some 20) (v := ?_) (a' := ?_) #[true, true, true, true, true, true, true, false, false, false, true, true, false, false, false, true, true, false, false, false, true, true, false, false, false, true, true, false, false, false, true, true, false, false, false] rfl rfl (any_of HT_.out (by kernel_rfl)) (fun _ _ _ h => h) (Or.inl ⟨by rfl, ?_⟩) ?_ ?_
                                                         rotate_left
                                                         · intro w'
                                                           go_simp
                                                           with_reducible rfl
                                                         rotate_left
                                                         · simp only [Act.put, List.setIfInBounds_toArray, List.set_cons_zero, List.set_cons_succ, i64_w, i32_w]
                                                           rfl
                                                         refine one_ (i := 7) (N := some 23) #[true, true, true, true, true, true, true, true, false, false, true, true, false, false, false, true, true, false, false, false, true, true, false, false, false, true, true, false, false, false, true, true, false, false, false] rfl rfl (one_of HT_.out (by kernel_rfl)) (by decide) (fun K hK => ?_)
                                                         refine goes_ Tryd.func32 (by kernel_rfl) rfl #[.int .i64 ((rd_T63 l0 x9_1).f1)] (by rfl) rfl rfl (by (try simp only [List.map_toArray, List.map_cons, List.map_nil]); first | done | rfl | (simp only [List.length_drop, List.length_take]; rfl)) ?_
                                                         with_reducible refine (spec_natural.calls k1 ((rd_T63 l0 x9_1).f1) t156 _ A9.out).mono ?_
                                                         rintro e w63 ⟨rfl, hb⟩
                                                         refine ⟨_, rfl, ?_⟩
                                                         have n0_ := Aside0.mk (blk_below (g := gb153) (o := .cells #[.int .i64 ((rd_T63 l0 x9_1).f0), .int .i64 ((rd_T63 l0 x9_1).f1), .int .i64 ((rd_T63 l0 x9_1).f2), .int .i64 ((rd_T63 l0 x9_1).f3), .string ((rd_T63 l0 x9_1).f4), .string ((rd_T63 l0 x9_1).f5), .string ((rd_T63 l0 x9_1).f6), .string ((rd_T63 l0 x9_1).f7), .string ((rd_T63 l0 x9_1).f8), .string ((rd_T63 l0 x9_1).f9), .string ((rd_T63 l0 x9_1).f10)] 63 (0, 0)) (by (with_reducible repeat (first | refine blk_drewN ?_ _ | refine blk_drew ?_ | refine blk_alloc ?_ _)); exact BK153.out) hb)
                                                         have n1_ := Aside0.mk (below_step (by repeat (first | (with_reducible first | exact HB.out | apply below_alloc | apply pw_below_drewN | apply below_drew1 | refine below_set ?_ GE153.out) | exact HB.out)) hb)
                                                         clear BK153
                                                         clear HB
                                                         have BK153 := n0_
                                                         have HB := n1_
                                                         clear n0_ n1_
                                                         (try clear hb)
                                                         (try clear hb2)
                                                         (try clear hk)
                                                         (try clear hi)
                                                         refine hK.out _ _ ⟨(blk_cell BK153.out 0).trans rfl, (blk_cell BK153.out 1).trans rfl, (blk_cell BK153.out 2).trans rfl, (blk_cell BK153.out 3).trans rfl, (blk_cell BK153.out 4).trans rfl, (blk_cell BK153.out 5).trans rfl, (blk_cell BK153.out 6).trans rfl, (blk_cell BK153.out 7).trans rfl, (blk_cell BK153.out 8).trans rfl, (blk_cell BK153.out 9).trans rfl, (blk_cell BK153.out 10).trans rfl⟩ (fun hHeld => ?_)
                                                         clear hK K
                                                         refine norm_ (a' := ?_) ?_ ?_
                                                         rotate_left
                                                         · show Act.put _ (some 23) _ = _
                                                           simp only [Act.put, List.setIfInBounds_toArray, List.set_cons_zero, List.set_cons_succ, i64_w, i32_w]
                                                           rfl
                                                         refine pure_ (i := 8) (N := some 24) (v := ?_) (a' := ?_) #[true, true, true, true, true, true, true, true, true, false, true, true, false, false, false, true, true, false, false, false, true, true, false, false, false, true, true, false, false, false, true, true, false, false, false] rfl rfl (any_of HT_.out (by kernel_rfl)) (fun _ _ _ h => h) (Or.inl ⟨by rfl, ?_⟩) ?_ ?_
                                                         rotate_left
                                                         · intro w'
                                                           go_simp
                                                           with_reducible rfl
                                                         rotate_left
                                                         · simp only [Act.put, List.setIfInBounds_toArray, List.set_cons_zero, List.set_cons_succ, i64_w, i32_w]
                                                           rfl
                                                         refine pure_ (i := 9) (N := some 25) (v := ?_) (a' := ?_) #[true, true, true, true, true, true, true, true, true, true, true, true, false, false, false, true, true, false, false, false, true, true, false, false, false, true, true, false, false, false, true, true, false, false, false] rfl rfl (any_of HT_.out (by kernel_rfl)) (fun _ _ _ h => h) (Or.inl ⟨by rfl, ?_⟩) ?_ ?_
                                                         rotate_left
                                                         · intro w'
                                                           go_simp
                                                           with_reducible rfl
                                                         rotate_left
                                                         · simp only [Act.put, List.setIfInBounds_toArray, List.set_cons_zero, List.set_cons_succ, i64_w, i32_w]
                                                           rfl
                                                         refine one_ (i := 12) (N := some 28) #[true, true, true, true, true, true, true, true, true, true, true, true, true, false, false, true, true, false, false, false, true, true, false, false, false, true, true, false, false, false, true, true, false, false, false] rfl rfl (one_of HT_.out (by kernel_rfl)) (by decide) (fun K hK => ?_)
                                                         refine goes_ Tryd.func32 (by kernel_rfl) rfl #[.int .i64 ((rd_T63 l0 x9_1).f2)] (by rfl) rfl rfl (by (try simp only [List.map_toArray, List.map_cons, List.map_nil]); first | done | rfl | (simp only [List.length_drop, List.length_take]; rfl)) ?_
                                                         with_reducible refine (spec_natural.calls k1 ((rd_T63 l0 x9_1).f2) t157 _ A12.out).mono ?_
                                                         rintro e w64 ⟨rfl, hb⟩
                                                         refine ⟨_, rfl, ?_⟩
                                                         have n0_ := Aside0.mk (blk_below (g := gb153) (o := .cells #[.int .i64 ((rd_T63 l0 x9_1).f0), .int .i64 ((rd_T63 l0 x9_1).f1), .int .i64 ((rd_T63 l0 x9_1).f2), .int .i64 ((rd_T63 l0 x9_1).f3), .string ((rd_T63 l0 x9_1).f4), .string ((rd_T63 l0 x9_1).f5), .string ((rd_T63 l0 x9_1).f6), .string ((rd_T63 l0 x9_1).f7), .string ((rd_T63 l0 x9_1).f8), .string ((rd_T63 l0 x9_1).f9), .string ((rd_T63 l0 x9_1).f10)] 63 (0, 0)) (by (with_reducible repeat (first | refine blk_drewN ?_ _ | refine blk_drew ?_ | refine blk_alloc ?_ _)); exact BK153.out) hb)
                                                         have n1_ := Aside0.mk (below_step (by repeat (first | (with_reducible first | exact HB.out | apply below_alloc | apply pw_below_drewN | apply below_drew1 | refine below_set ?_ GE153.out) | exact HB.out)) hb)
                                                         clear BK153
                                                         clear HB
                                                         have BK153 := n0_
                                                         have HB := n1_
                                                         clear n0_ n1_
                                                         (try clear hb)
                                                         (try clear hb2)
                                                         (try clear hk)
                                                         (try clear hi)
                                                         refine hK.out _ _ ⟨(blk_cell BK153.out 0).trans rfl, (blk_cell BK153.out 1).trans rfl, (blk_cell BK153.out 2).trans rfl, (blk_cell BK153.out 3).trans rfl, (blk_cell BK153.out 4).trans rfl, (blk_cell BK153.out 5).trans rfl, (blk_cell BK153.out 6).trans rfl, (blk_cell BK153.out 7).trans rfl, (blk_cell BK153.out 8).trans rfl, (blk_cell BK153.out 9).trans rfl, (blk_cell BK153.out 10).trans rfl⟩ (fun hHeld => ?_)
                                                         clear hK K
                                                         refine norm_ (a' := ?_) ?_ ?_
                                                         rotate_left
                                                         · show Act.put _ (some 28) _ = _
                                                           simp only [Act.put, List.setIfInBounds_toArray, List.set_cons_zero, List.set_cons_succ, i64_w, i32_w]
                                                           rfl
                                                         refine pure_ (i := 13) (N := some 29) (v := ?_) (a' := ?_) #[true, true, true, true, true, true, true, true, true, true, true, true, true, true, false, true, true, false, false, false, true, true, false, false, false, true, true, false, false, false, true, true, false, false, false] rfl rfl (any_of HT_.out (by kernel_rfl)) (fun _ _ _ h => h) (Or.inl ⟨by rfl, ?_⟩) ?_ ?_
                                                         rotate_left
                                                         · intro w'
                                                           go_simp
                                                           with_reducible rfl
                                                         rotate_left
                                                         · simp only [Act.put, List.setIfInBounds_toArray, List.set_cons_zero, List.set_cons_succ, i64_w, i32_w]
                                                           rfl
                                                         refine pure_ (i := 14) (N := some 30) (v := ?_) (a' := ?_) #[true, true, true, true, true, true, true, true, true, true, true, true, true, true, true, true, true, false, false, false, true, true, false, false, false, true, true, false, false, false, true, true, false, false, false] rfl rfl (any_of HT_.out (by kernel_rfl)) (fun _ _ _ h => h) (Or.inl ⟨by rfl, ?_⟩) ?_ ?_
                                                         rotate_left
                                                         · intro w'
                                                           go_simp
                                                           with_reducible rfl
                                                         rotate_left
                                                         · simp only [Act.put, List.setIfInBounds_toArray, List.set_cons_zero, List.set_cons_succ, i64_w, i32_w]
                                                           rfl
                                                         refine one_ (i := 17) (N := some 33) #[true, true, true, true, true, true, true, true, true, true, true, true, true, true, true, true, true, true, false, false, true, true, false, false, false, true, true, false, false, false, true, true, false, false, false] rfl rfl (one_of HT_.out (by kernel_rfl)) (by decide) (fun K hK => ?_)
                                                         refine goes_ Tryd.func32 (by kernel_rfl) rfl #[.int .i64 ((rd_T63 l0 x9_1).f3)] (by rfl) rfl rfl (by (try simp only [List.map_toArray, List.map_cons, List.map_nil]); first | done | rfl | (simp only [List.length_drop, List.length_take]; rfl)) ?_
                                                         with_reducible refine (spec_natural.calls k1 ((rd_T63 l0 x9_1).f3) t158 _ A15.out).mono ?_
                                                         rintro e w65 ⟨rfl, hb⟩
                                                         refine ⟨_, rfl, ?_⟩
                                                         have n0_ := Aside0.mk (blk_below (g := gb153) (o := .cells #[.int .i64 ((rd_T63 l0 x9_1).f0), .int .i64 ((rd_T63 l0 x9_1).f1), .int .i64 ((rd_T63 l0 x9_1).f2), .int .i64 ((rd_T63 l0 x9_1).f3), .string ((rd_T63 l0 x9_1).f4), .string ((rd_T63 l0 x9_1).f5), .string ((rd_T63 l0 x9_1).f6), .string ((rd_T63 l0 x9_1).f7), .string ((rd_T63 l0 x9_1).f8), .string ((rd_T63 l0 x9_1).f9), .string ((rd_T63 l0 x9_1).f10)] 63 (0, 0)) (by (with_reducible repeat (first | refine blk_drewN ?_ _ | refine blk_drew ?_ | refine blk_alloc ?_ _)); exact BK153.out) hb)
                                                         have n1_ := Aside0.mk (below_step (by repeat (first | (with_reducible first | exact HB.out | apply below_alloc | apply pw_below_drewN | apply below_drew1 | refine below_set ?_ GE153.out) | exact HB.out)) hb)
                                                         clear BK153
                                                         clear HB
                                                         have BK153 := n0_
                                                         have HB := n1_
                                                         clear n0_ n1_
                                                         (try clear hb)
                                                         (try clear hb2)
                                                         (try clear hk)
                                                         (try clear hi)
                                                         refine hK.out _ _ ⟨(blk_cell BK153.out 0).trans rfl, (blk_cell BK153.out 1).trans rfl, (blk_cell BK153.out 2).trans rfl, (blk_cell BK153.out 3).trans rfl, (blk_cell BK153.out 4).trans rfl, (blk_cell BK153.out 5).trans rfl, (blk_cell BK153.out 6).trans rfl, (blk_cell BK153.out 7).trans rfl, (blk_cell BK153.out 8).trans rfl, (blk_cell BK153.out 9).trans rfl, (blk_cell BK153.out 10).trans rfl⟩ (fun hHeld => ?_)
                                                         clear hK K
                                                         refine norm_ (a' := ?_) ?_ ?_
                                                         rotate_left
                                                         · show Act.put _ (some 33) _ = _
                                                           simp only [Act.put, List.setIfInBounds_toArray, List.set_cons_zero, List.set_cons_succ, i64_w, i32_w]
                                                           rfl
                                                         refine pure_ (i := 18) (N := some 34) (v := ?_) (a' := ?_) #[true, true, true, true, true, true, true, true, true, true, true, true, true, true, true, true, true, true, true, false, true, true, false, false, false, true, true, false, false, false, true, true, false, false, false] rfl rfl (any_of HT_.out (by kernel_rfl)) (fun _ _ _ h => h) (Or.inl ⟨by rfl, ?_⟩) ?_ ?_
                                                         rotate_left
                                                         · intro w'
                                                           go_simp
                                                           with_reducible rfl
                                                         rotate_left
                                                         · simp only [Act.put, List.setIfInBounds_toArray, List.set_cons_zero, List.set_cons_succ, i64_w, i32_w]
                                                           rfl
                                                         refine pure_ (i := 19) (N := some 35) (v := ?_) (a' := ?_) #[true, true, true, true, true, true, true, true, true, true, true, true, true, true, true, true, true, true, true, true, true, true, false, false, false, true, true, false, false, false, true, true, false, false, false] rfl rfl (any_of HT_.out (by kernel_rfl)) (fun _ _ _ h => h) (Or.inl ⟨by rfl, ?_⟩) ?_ ?_
                                                         rotate_left
                                                         · intro w'
                                                           go_simp
                                                           with_reducible rfl
                                                         rotate_left
                                                         · simp only [Act.put, List.setIfInBounds_toArray, List.set_cons_zero, List.set_cons_succ, i64_w, i32_w]
                                                           rfl
                                                         refine one_ (i := 22) (N := some 38) #[true, true, true, true, true, true, true, true, true, true, true, true, true, true, true, true, true, true, true, true, true, true, true, false, false, true, true, false, false, false, true, true, false, false, false] rfl rfl (one_of HT_.out (by kernel_rfl)) (by decide) (fun K hK => ?_)
                                                         refine goes_ Tryd.func33 (by kernel_rfl) rfl #[.string ((rd_T63 l0 x9_1).f4)] (by rfl) rfl rfl (by (try simp only [List.map_toArray, List.map_cons, List.map_nil]); first | done | rfl | (simp only [List.length_drop, List.length_take]; rfl)) ?_
                                                         with_reducible refine (spec_octal.calls k1 ((rd_T63 l0 x9_1).f4) t159 _ A18.out).mono ?_
                                                         rintro e w66 ⟨rfl, hb⟩
                                                         refine ⟨_, rfl, ?_⟩
                                                         have n0_ := Aside0.mk (blk_below (g := gb153) (o := .cells #[.int .i64 ((rd_T63 l0 x9_1).f0), .int .i64 ((rd_T63 l0 x9_1).f1), .int .i64 ((rd_T63 l0 x9_1).f2), .int .i64 ((rd_T63 l0 x9_1).f3), .string ((rd_T63 l0 x9_1).f4), .string ((rd_T63 l0 x9_1).f5), .string ((rd_T63 l0 x9_1).f6), .string ((rd_T63 l0 x9_1).f7), .string ((rd_T63 l0 x9_1).f8), .string ((rd_T63 l0 x9_1).f9), .string ((rd_T63 l0 x9_1).f10)] 63 (0, 0)) (by (with_reducible repeat (first | refine blk_drewN ?_ _ | refine blk_drew ?_ | refine blk_alloc ?_ _)); exact BK153.out) hb)
                                                         have n1_ := Aside0.mk (below_step (by repeat (first | (with_reducible first | exact HB.out | apply below_alloc | apply pw_below_drewN | apply below_drew1 | refine below_set ?_ GE153.out) | exact HB.out)) hb)
                                                         clear BK153
                                                         clear HB
                                                         have BK153 := n0_
                                                         have HB := n1_
                                                         clear n0_ n1_
                                                         (try clear hb)
                                                         (try clear hb2)
                                                         (try clear hk)
                                                         (try clear hi)
                                                         refine hK.out _ _ ⟨(blk_cell BK153.out 0).trans rfl, (blk_cell BK153.out 1).trans rfl, (blk_cell BK153.out 2).trans rfl, (blk_cell BK153.out 3).trans rfl, (blk_cell BK153.out 4).trans rfl, (blk_cell BK153.out 5).trans rfl, (blk_cell BK153.out 6).trans rfl, (blk_cell BK153.out 7).trans rfl, (blk_cell BK153.out 8).trans rfl, (blk_cell BK153.out 9).trans rfl, (blk_cell BK153.out 10).trans rfl⟩ (fun hHeld => ?_)
                                                         clear hK K
                                                         refine norm_ (a' := ?_) ?_ ?_
                                                         rotate_left
                                                         · show Act.put _ (some 38) _ = _
                                                           simp only [Act.put, List.setIfInBounds_toArray, List.set_cons_zero, List.set_cons_succ, i64_w, i32_w]
                                                           rfl
                                                         refine pure_ (i := 23) (N := some 39) (v := ?_) (a' := ?_) #[true, true, true, true, true, true, true, true, true, true, true, true, true, true, true, true, true, true, true, true, true, true, true, true, false, true, true, false, false, false, true, true, false, false, false] rfl rfl (any_of HT_.out (by kernel_rfl)) (fun _ _ _ h => h) (Or.inl ⟨by rfl, ?_⟩) ?_ ?_
                                                         rotate_left
                                                         · intro w'
                                                           go_simp
                                                           with_reducible rfl
                                                         rotate_left
                                                         · simp only [Act.put, List.setIfInBounds_toArray, List.set_cons_zero, List.set_cons_succ, i64_w, i32_w]
                                                           rfl
                                                         refine pure_ (i := 24) (N := some 40) (v := ?_) (a' := ?_) #[true, true, true, true, true, true, true, true, true, true, true, true, true, true, true, true, true, true, true, true, true, true, true, true, true, true, true, false, false, false, true, true, false, false, false] rfl rfl (any_of HT_.out (by kernel_rfl)) (fun _ _ _ h => h) (Or.inl ⟨by rfl, ?_⟩) ?_ ?_
                                                         rotate_left
                                                         · intro w'
                                                           go_simp
                                                           with_reducible rfl
                                                         rotate_left
                                                         · simp only [Act.put, List.setIfInBounds_toArray, List.set_cons_zero, List.set_cons_succ, i64_w, i32_w]
                                                           rfl
                                                         refine one_ (i := 27) (N := some 43) #[true, true, true, true, true, true, true, true, true, true, true, true, true, true, true, true, true, true, true, true, true, true, true, true, true, true, true, true, false, false, true, true, false, false, false] rfl rfl (one_of HT_.out (by kernel_rfl)) (by decide) (fun K hK => ?_)
                                                         refine goes_ Tryd.func33 (by kernel_rfl) rfl #[.string ((rd_T63 l0 x9_1).f5)] (by rfl) rfl rfl (by (try simp only [List.map_toArray, List.map_cons, List.map_nil]); first | done | rfl | (simp only [List.length_drop, List.length_take]; rfl)) ?_
                                                         with_reducible refine (spec_octal.calls k1 ((rd_T63 l0 x9_1).f5) t160 _ A21.out).mono ?_
                                                         rintro e w67 ⟨rfl, hb⟩
                                                         refine ⟨_, rfl, ?_⟩
                                                         have n0_ := Aside0.mk (blk_below (g := gb153) (o := .cells #[.int .i64 ((rd_T63 l0 x9_1).f0), .int .i64 ((rd_T63 l0 x9_1).f1), .int .i64 ((rd_T63 l0 x9_1).f2), .int .i64 ((rd_T63 l0 x9_1).f3), .string ((rd_T63 l0 x9_1).f4), .string ((rd_T63 l0 x9_1).f5), .string ((rd_T63 l0 x9_1).f6), .string ((rd_T63 l0 x9_1).f7), .string ((rd_T63 l0 x9_1).f8), .string ((rd_T63 l0 x9_1).f9), .string ((rd_T63 l0 x9_1).f10)] 63 (0, 0)) (by (with_reducible repeat (first | refine blk_drewN ?_ _ | refine blk_drew ?_ | refine blk_alloc ?_ _)); exact BK153.out) hb)
                                                         have n1_ := Aside0.mk (below_step (by repeat (first | (with_reducible first | exact HB.out | apply below_alloc | apply pw_below_drewN | apply below_drew1 | refine below_set ?_ GE153.out) | exact HB.out)) hb)
                                                         clear BK153
                                                         clear HB
                                                         have BK153 := n0_
                                                         have HB := n1_
                                                         clear n0_ n1_
                                                         (try clear hb)
                                                         (try clear hb2)
                                                         (try clear hk)
                                                         (try clear hi)
                                                         refine hK.out _ _ ⟨(blk_cell BK153.out 0).trans rfl, (blk_cell BK153.out 1).trans rfl, (blk_cell BK153.out 2).trans rfl, (blk_cell BK153.out 3).trans rfl, (blk_cell BK153.out 4).trans rfl, (blk_cell BK153.out 5).trans rfl, (blk_cell BK153.out 6).trans rfl, (blk_cell BK153.out 7).trans rfl, (blk_cell BK153.out 8).trans rfl, (blk_cell BK153.out 9).trans rfl, (blk_cell BK153.out 10).trans rfl⟩ (fun hHeld => ?_)
                                                         clear hK K
                                                         refine norm_ (a' := ?_) ?_ ?_
                                                         rotate_left
                                                         · show Act.put _ (some 43) _ = _
                                                           simp only [Act.put, List.setIfInBounds_toArray, List.set_cons_zero, List.set_cons_succ, i64_w, i32_w]
                                                           rfl
                                                         refine pure_ (i := 28) (N := some 44) (v := ?_) (a' := ?_) #[true, true, true, true, true, true, true, true, true, true, true, true, true, true, true, true, true, true, true, true, true, true, true, true, true, true, true, true, true, false, true, true, false, false, false] rfl rfl (any_of HT_.out (by kernel_rfl)) (fun _ _ _ h => h) (Or.inl ⟨by rfl, ?_⟩) ?_ ?_
                                                         rotate_left
                                                         · intro w'
                                                           go_simp
                                                           with_reducible rfl
                                                         rotate_left
                                                         · simp only [Act.put, List.setIfInBounds_toArray, List.set_cons_zero, List.set_cons_succ, i64_w, i32_w]
                                                           rfl
                                                         refine pure_ (i := 29) (N := some 45) (v := ?_) (a' := ?_) #[true, true, true, true, true, true, true, true, true, true, true, true, true, true, true, true, true, true, true, true, true, true, true, true, true, true, true, true, true, true, true, true, false, false, false] rfl rfl (any_of HT_.out (by kernel_rfl)) (fun _ _ _ h => h) (Or.inl ⟨by rfl, ?_⟩) ?_ ?_
                                                         rotate_left
                                                         · intro w'
                                                           go_simp
                                                           with_reducible rfl
                                                         rotate_left
                                                         · simp only [Act.put, List.setIfInBounds_toArray, List.set_cons_zero, List.set_cons_succ, i64_w, i32_w]
                                                           rfl
                                                         refine pure_ (i := 32) (N := some 48) (v := ?_) (a' := ?_) #[true, true, true, true, true, true, true, true, true, true, true, true, true, true, true, true, true, true, true, true, true, true, true, true, true, true, true, true, true, true, true, true, true, false, false] rfl rfl (any_of HT_.out (by kernel_rfl)) (fun _ _ _ h => h) (Or.inl ⟨by rfl, ?_⟩) ?_ ?_
                                                         rotate_left
                                                         · intro w'
                                                           go_simp
                                                           with_reducible rfl
                                                         rotate_left
                                                         · simp only [Act.put, List.setIfInBounds_toArray, List.set_cons_zero, List.set_cons_succ, i64_w, i32_w]
                                                           rfl
                                                         refine pure_ (i := 33) (N := some 49) (v := ?_) (a' := ?_) #[true, true, true, true, true, true, true, true, true, true, true, true, true, true, true, true, true, true, true, true, true, true, true, true, true, true, true, true, true, true, true, true, true, true, false] rfl rfl (any_of HT_.out (by kernel_rfl)) (fun _ _ _ h => h) (Or.inl ⟨by rfl, ?_⟩) ?_ ?_
                                                         rotate_left
                                                         · intro w'
                                                           go_simp
                                                           with_reducible rfl
                                                         rotate_left
                                                         · simp only [Act.put, List.setIfInBounds_toArray, List.set_cons_zero, List.set_cons_succ, i64_w, i32_w]
                                                           rfl
                                                         refine pure_ (i := 34) (N := some 4) (v := ?_) (a' := ?_) #[true, true, true, true, true, true, true, true, true, true, true, true, true, true, true, true, true, true, true, true, true, true, true, true, true, true, true, true, true, true, true, true, true, true, true] rfl rfl (any_of HT_.out (by kernel_rfl)) (fun _ _ _ h => h) (Or.inl ⟨by rfl, ?_⟩) ?_ ?_
                                                         rotate_left
                                                         · intro w'
                                                           go_simp
                                                           with_reducible rfl
                                                         rotate_left
                                                         · simp only [Act.put, List.setIfInBounds_toArray, List.set_cons_zero, List.set_cons_succ, i64_w, i32_w]
                                                           rfl
                                                         refine done_ (done_of HT_.out (by kernel_rfl)) ?_
                                                         have hcz68_0 : w67.cell? ⟨gb153, 0, none⟩ = some (.int .i64 ((rd_T63 l0 x9_1).f0)) := (blk_cell BK153.out 0).trans rfl
                                                         have hcz68_1 : w67.cell? ⟨gb153, 1, none⟩ = some (.int .i64 ((rd_T63 l0 x9_1).f1)) := (blk_cell BK153.out 1).trans rfl
                                                         have hcz68_2 : w67.cell? ⟨gb153, 2, none⟩ = some (.int .i64 ((rd_T63 l0 x9_1).f2)) := (blk_cell BK153.out 2).trans rfl
                                                         have hcz68_3 : w67.cell? ⟨gb153, 3, none⟩ = some (.int .i64 ((rd_T63 l0 x9_1).f3)) := (blk_cell BK153.out 3).trans rfl
                                                         have hcz68_4 : w67.cell? ⟨gb153, 4, none⟩ = some (.string ((rd_T63 l0 x9_1).f4)) := (blk_cell BK153.out 4).trans rfl
                                                         have hcz68_5 : w67.cell? ⟨gb153, 5, none⟩ = some (.string ((rd_T63 l0 x9_1).f5)) := (blk_cell BK153.out 5).trans rfl
                                                         have hcz68_6 : w67.cell? ⟨gb153, 6, none⟩ = some (.string ((rd_T63 l0 x9_1).f6)) := (blk_cell BK153.out 6).trans rfl
                                                         have hcz68_7 : w67.cell? ⟨gb153, 7, none⟩ = some (.string ((rd_T63 l0 x9_1).f7)) := (blk_cell BK153.out 7).trans rfl
                                                         have hcz68_8 : w67.cell? ⟨gb153, 8, none⟩ = some (.string ((rd_T63 l0 x9_1).f8)) := (blk_cell BK153.out 8).trans rfl
                                                         have hcz68_9 : w67.cell? ⟨gb153, 9, none⟩ = some (.string ((rd_T63 l0 x9_1).f9)) := (blk_cell BK153.out 9).trans rfl
                                                         have hcz68_10 : w67.cell? ⟨gb153, 10, none⟩ = some (.string ((rd_T63 l0 x9_1).f10)) := (blk_cell BK153.out 10).trans rfl
                                                         have hfz68_0 := blk_frozen BK153.out 0
                                                         have hfz68_1 := blk_frozen BK153.out 1
                                                         have hfz68_2 := blk_frozen BK153.out 2
                                                         have hfz68_3 := blk_frozen BK153.out 3
                                                         have hfz68_4 := blk_frozen BK153.out 4
                                                         have hfz68_5 := blk_frozen BK153.out 5
                                                         have hfz68_6 := blk_frozen BK153.out 6
                                                         have hfz68_7 := blk_frozen BK153.out 7
                                                         have hfz68_8 := blk_frozen BK153.out 8
                                                         have hfz68_9 := blk_frozen BK153.out 9
                                                         have hfz68_10 := blk_frozen BK153.out 10
                                                         try go_wp2
                                                         have n0_ := Aside0.mk (blk_drew BK153.out)
                                                         have n1_ := Aside0.mk (below_drew1 HB.out)
                                                         clear BK153
                                                         clear HB
                                                         have BK153 := n0_
                                                         have HB := n1_
                                                         clear n0_ n1_
                                                         refine start_ (n := 16) (S := fun w' => w'.cell? ⟨gb153, 0, none⟩ = some (.int .i64 ((rd_T63 l0 x9_1).f0)) ∧ w'.cell? ⟨gb153, 1, none⟩ = some (.int .i64 ((rd_T63 l0 x9_1).f1)) ∧ w'.cell? ⟨gb153, 2, none⟩ = some (.int .i64 ((rd_T63 l0 x9_1).f2)) ∧ w'.cell? ⟨gb153, 3, none⟩ = some (.int .i64 ((rd_T63 l0 x9_1).f3)) ∧ w'.cell? ⟨gb153, 4, none⟩ = some (.string ((rd_T63 l0 x9_1).f4)) ∧ w'.cell? ⟨gb153, 5, none⟩ = some (.string ((rd_T63 l0 x9_1).f5)) ∧ w'.cell? ⟨gb153, 6, none⟩ = some (.string ((rd_T63 l0 x9_1).f6)) ∧ w'.cell? ⟨gb153, 7, none⟩ = some (.string ((rd_T63 l0 x9_1).f7)) ∧ w'.cell? ⟨gb153, 8, none⟩ = some (.string ((rd_T63 l0 x9_1).f8)) ∧ w'.cell? ⟨gb153, 9, none⟩ = some (.string ((rd_T63 l0 x9_1).f9)) ∧ w'.cell? ⟨gb153, 10, none⟩ = some (.string ((rd_T63 l0 x9_1).f10))) (ds := []) #[false, false, false, false, false, false, false, false, false, false, false, false, false, false, false, false] (by kernel_rfl) rfl rfl ⟨(blk_cell BK153.out 0).trans rfl, (blk_cell BK153.out 1).trans rfl, (blk_cell BK153.out 2).trans rfl, (blk_cell BK153.out 3).trans rfl, (blk_cell BK153.out 4).trans rfl, (blk_cell BK153.out 5).trans rfl, (blk_cell BK153.out 6).trans rfl, (blk_cell BK153.out 7).trans rfl, (blk_cell BK153.out 8).trans rfl, (blk_cell BK153.out 9).trans rfl, (blk_cell BK153.out 10).trans rfl⟩ (fun hHeld => ?_); refine with_tabW spec_MountsPrint.tab10 spec_MountsPrint.bits10 (fun HT_ HW_ => ?_)
                                                         generalize w67.drew = w69 at BK153 HB hHeld ⊢
                                                         refine pure_ (i := 0) (N := some 58) (v := ?_) (a' := ?_) #[true, false, false, false, false, false, false, false, false, false, false, false, false, false, false, false] rfl rfl (any_of HT_.out (by kernel_rfl)) (fun _ _ _ h => h) (Or.inl ⟨by rfl, ?_⟩) ?_ ?_
                                                         rotate_left
                                                         · intro w'
                                                           go_simp
                                                           with_reducible rfl
                                                         rotate_left
                                                         · simp only [Act.put, List.setIfInBounds_toArray, List.set_cons_zero, List.set_cons_succ, i64_w, i32_w]
                                                           rfl
                                                         refine pure_ (i := 1) (N := some 59) (v := ?_) (a' := ?_) #[true, true, false, false, false, false, false, false, false, false, false, false, false, false, false, false] rfl rfl (any_of HT_.out (by kernel_rfl)) (fun _ _ _ h => h) (Or.inl ⟨by rfl, ?_⟩) ?_ ?_
                                                         rotate_left
                                                         · intro w'
                                                           go_simp
                                                           with_reducible rfl
                                                         rotate_left
                                                         · simp only [Act.put, List.setIfInBounds_toArray, List.set_cons_zero, List.set_cons_succ, i64_w, i32_w]
                                                           rfl
                                                         refine pure_ (i := 5) (N := some 63) (v := ?_) (a' := ?_) #[true, true, false, false, false, true, false, false, false, false, false, false, false, false, false, false] rfl rfl (any_of HT_.out (by kernel_rfl)) (fun _ _ _ h => h) (Or.inl ⟨by rfl, ?_⟩) ?_ ?_
                                                         rotate_left
                                                         · intro w'
                                                           go_simp
                                                           with_reducible rfl
                                                         rotate_left
                                                         · simp only [Act.put, List.setIfInBounds_toArray, List.set_cons_zero, List.set_cons_succ, i64_w, i32_w]
                                                           rfl
                                                         refine pure_ (i := 10) (N := some 68) (v := ?_) (a' := ?_) #[true, true, false, false, false, true, false, false, false, false, true, false, false, false, false, false] rfl rfl (any_of HT_.out (by kernel_rfl)) (fun _ _ _ h => h) (Or.inl ⟨by rfl, ?_⟩) ?_ ?_
                                                         rotate_left
                                                         · intro w'
                                                           go_simp
                                                           with_reducible rfl
                                                         rotate_left
                                                         · simp only [Act.put, List.setIfInBounds_toArray, List.set_cons_zero, List.set_cons_succ, i64_w, i32_w]
                                                           rfl
                                                         refine take_ (i := 2) (N := some 60) (v := ?_) (a' := ?_) #[true, true, true, false, false, true, false, false, false, false, true, false, false, false, false, false] rfl rfl (take_ofW HT_.out HW_.out (by kernel_rfl)) (fun _ _ _ h => h) (Or.inl ⟨by rfl, ?_⟩) hHeld ?_ ?_
                                                         rotate_left
                                                         · rintro w' ⟨s0, s1, s2, s3, s4, s5, s6, s7, s8, s9, s10⟩
                                                           go_simp
                                                           with_reducible rfl
                                                         rotate_left
                                                         · simp only [Act.put, List.setIfInBounds_toArray, List.set_cons_zero, List.set_cons_succ, i64_w, i32_w]
                                                           rfl
                                                         refine pure_ (i := 3) (N := some 61) (v := ?_) (a' := ?_) #[true, true, true, true, false, true, false, false, false, false, true, false, false, false, false, false] rfl rfl (any_of HT_.out (by kernel_rfl)) (fun _ _ _ h => h) (Or.inl ⟨by rfl, ?_⟩) ?_ ?_
                                                         rotate_left
                                                         · intro w'
                                                           go_simp
                                                           with_reducible rfl
                                                         rotate_left
                                                         · simp only [Act.put, List.setIfInBounds_toArray, List.set_cons_zero, List.set_cons_succ, i64_w, i32_w]
                                                           rfl
                                                         refine pure_ (i := 4) (N := some 62) (v := ?_) (a' := ?_) #[true, true, true, true, true, true, false, false, false, false, true, false, false, false, false, false] rfl rfl (any_of HT_.out (by kernel_rfl)) (fun _ _ _ h => h) (Or.inl ⟨by rfl, ?_⟩) ?_ ?_
                                                         rotate_left
                                                         · intro w'
                                                           go_simp
                                                           with_reducible rfl
                                                         rotate_left
                                                         · simp only [Act.put, List.setIfInBounds_toArray, List.set_cons_zero, List.set_cons_succ, i64_w, i32_w]
                                                           rfl
                                                         refine take_ (i := 6) (N := some 64) (v := ?_) (a' := ?_) #[true, true, true, true, true, true, true, false, false, false, true, false, false, false, false, false] rfl rfl (take_ofW HT_.out HW_.out (by kernel_rfl)) (fun _ _ _ h => h) (Or.inl ⟨by rfl, ?_⟩) hHeld ?_ ?_
                                                         rotate_left
                                                         · rintro w' ⟨s0, s1, s2, s3, s4, s5, s6, s7, s8, s9, s10⟩
                                                           go_simp
                                                           with_reducible rfl
                                                         rotate_left
                                                         · simp only [Act.put, List.setIfInBounds_toArray, List.set_cons_zero, List.set_cons_succ, i64_w, i32_w]
                                                           rfl
                                                         refine take_ (i := 11) (N := some 69) (v := ?_) (a' := ?_) #[true, true, true, true, true, true, true, false, false, false, true, true, false, false, false, false] rfl rfl (take_ofW HT_.out HW_.out (by kernel_rfl)) (fun _ _ _ h => h) (Or.inl ⟨by rfl, ?_⟩) hHeld ?_ ?_
                                                         rotate_left
                                                         · rintro w' ⟨s0, s1, s2, s3, s4, s5, s6, s7, s8, s9, s10⟩
                                                           go_simp
                                                           with_reducible rfl
                                                         rotate_left
                                                         · simp only [Act.put, List.setIfInBounds_toArray, List.set_cons_zero, List.set_cons_succ, i64_w, i32_w]
                                                           rfl
                                                         refine one_ (i := 7) (N := some 65) #[true, true, true, true, true, true, true, true, false, false, true, true, false, false, false, false] rfl rfl (one_of HT_.out (by kernel_rfl)) (by decide) (fun K hK => ?_)
                                                         refine goes_ Tryd.func33 (by kernel_rfl) rfl #[.string ((rd_T63 l0 x9_1).f9)] (by rfl) rfl rfl (by (try simp only [List.map_toArray, List.map_cons, List.map_nil]); first | done | rfl | (simp only [List.length_drop, List.length_take]; rfl)) ?_
                                                         with_reducible refine (spec_octal.calls k1 ((rd_T63 l0 x9_1).f9) t162 _ A52.out).mono ?_
                                                         rintro e w70 ⟨rfl, hb⟩
                                                         refine ⟨_, rfl, ?_⟩
                                                         have n0_ := Aside0.mk (blk_below (g := gb153) (o := .cells #[.int .i64 ((rd_T63 l0 x9_1).f0), .int .i64 ((rd_T63 l0 x9_1).f1), .int .i64 ((rd_T63 l0 x9_1).f2), .int .i64 ((rd_T63 l0 x9_1).f3), .string ((rd_T63 l0 x9_1).f4), .string ((rd_T63 l0 x9_1).f5), .string ((rd_T63 l0 x9_1).f6), .string ((rd_T63 l0 x9_1).f7), .string ((rd_T63 l0 x9_1).f8), .string ((rd_T63 l0 x9_1).f9), .string ((rd_T63 l0 x9_1).f10)] 63 (0, 0)) (by (with_reducible repeat (first | refine blk_drewN ?_ _ | refine blk_drew ?_ | refine blk_alloc ?_ _)); exact BK153.out) hb)
                                                         have n1_ := Aside0.mk (below_step (by repeat (first | (with_reducible first | exact HB.out | apply below_alloc | apply pw_below_drewN | apply below_drew1 | refine below_set ?_ GE153.out) | exact HB.out)) hb)
                                                         clear BK153
                                                         clear HB
                                                         have BK153 := n0_
                                                         have HB := n1_
                                                         clear n0_ n1_
                                                         (try clear hb)
                                                         (try clear hb2)
                                                         (try clear hk)
                                                         (try clear hi)
                                                         refine hK.out _ _ ⟨(blk_cell BK153.out 0).trans rfl, (blk_cell BK153.out 1).trans rfl, (blk_cell BK153.out 2).trans rfl, (blk_cell BK153.out 3).trans rfl, (blk_cell BK153.out 4).trans rfl, (blk_cell BK153.out 5).trans rfl, (blk_cell BK153.out 6).trans rfl, (blk_cell BK153.out 7).trans rfl, (blk_cell BK153.out 8).trans rfl, (blk_cell BK153.out 9).trans rfl, (blk_cell BK153.out 10).trans rfl⟩ (fun hHeld => ?_)
                                                         clear hK K
                                                         refine norm_ (a' := ?_) ?_ ?_
                                                         rotate_left
                                                         · show Act.put _ (some 65) _ = _
                                                           simp only [Act.put, List.setIfInBounds_toArray, List.set_cons_zero, List.set_cons_succ, i64_w, i32_w]
                                                           rfl
                                                         refine pure_ (i := 8) (N := some 66) (v := ?_) (a' := ?_) #[true, true, true, true, true, true, true, true, true, false, true, true, false, false, false, false] rfl rfl (any_of HT_.out (by kernel_rfl)) (fun _ _ _ h => h) (Or.inl ⟨by rfl, ?_⟩) ?_ ?_
                                                         rotate_left
                                                         · intro w'
                                                           go_simp
                                                           with_reducible rfl
                                                         rotate_left
                                                         · simp only [Act.put, List.setIfInBounds_toArray, List.set_cons_zero, List.set_cons_succ, i64_w, i32_w]
                                                           rfl
                                                         refine pure_ (i := 9) (N := some 67) (v := ?_) (a' := ?_) #[true, true, true, true, true, true, true, true, true, true, true, true, false, false, false, false] rfl rfl (any_of HT_.out (by kernel_rfl)) (fun _ _ _ h => h) (Or.inl ⟨by rfl, ?_⟩) ?_ ?_
                                                         rotate_left
                                                         · intro w'
                                                           go_simp
                                                           with_reducible rfl
                                                         rotate_left
                                                         · simp only [Act.put, List.setIfInBounds_toArray, List.set_cons_zero, List.set_cons_succ, i64_w, i32_w]
                                                           rfl
                                                         refine pure_ (i := 12) (N := some 70) (v := ?_) (a' := ?_) #[true, true, true, true, true, true, true, true, true, true, true, true, true, false, false, false] rfl rfl (any_of HT_.out (by kernel_rfl)) (fun _ _ _ h => h) (Or.inl ⟨by rfl, ?_⟩) ?_ ?_
                                                         rotate_left
                                                         · intro w'
                                                           go_simp
                                                           with_reducible rfl
                                                         rotate_left
                                                         · simp only [Act.put, List.setIfInBounds_toArray, List.set_cons_zero, List.set_cons_succ, i64_w, i32_w]
                                                           rfl
                                                         refine pure_ (i := 13) (N := some 71) (v := ?_) (a' := ?_) #[true, true, true, true, true, true, true, true, true, true, true, true, true, true, false, false] rfl rfl (any_of HT_.out (by kernel_rfl)) (fun _ _ _ h => h) (Or.inl ⟨by rfl, ?_⟩) ?_ ?_
                                                         rotate_left
                                                         · intro w'
                                                           go_simp
                                                           with_reducible rfl
                                                         rotate_left
                                                         · simp only [Act.put, List.setIfInBounds_toArray, List.set_cons_zero, List.set_cons_succ, i64_w, i32_w]
                                                           rfl
                                                         refine pure_ (i := 14) (N := some 72) (v := ?_) (a' := ?_) #[true, true, true, true, true, true, true, true, true, true, true, true, true, true, true, false] rfl rfl (any_of HT_.out (by kernel_rfl)) (fun _ _ _ h => h) (Or.inl ⟨by rfl, ?_⟩) ?_ ?_
                                                         rotate_left
                                                         · intro w'
                                                           go_simp
                                                           with_reducible rfl
                                                         rotate_left
                                                         · simp only [Act.put, List.setIfInBounds_toArray, List.set_cons_zero, List.set_cons_succ, i64_w, i32_w]
                                                           rfl
                                                         refine pure_ (i := 15) (N := some 4) (v := ?_) (a' := ?_) #[true, true, true, true, true, true, true, true, true, true, true, true, true, true, true, true] rfl rfl (any_of HT_.out (by kernel_rfl)) (fun _ _ _ h => h) (Or.inl ⟨by rfl, ?_⟩) ?_ ?_
                                                         rotate_left
                                                         · intro w'
                                                           go_simp
                                                           with_reducible rfl
                                                         rotate_left
                                                         · simp only [Act.put, List.setIfInBounds_toArray, List.set_cons_zero, List.set_cons_succ, i64_w, i32_w]
                                                           rfl
                                                         refine done_ (done_of HT_.out (by kernel_rfl)) ?_
                                                         try go_wp2
                                                         go_roundg k1
                                                         case measure => have := HK1.out; omega
                                                         case rel => exact ⟨(((x4_1 ++ ((((((((((((t155 ++ (⟨#[32]⟩ : ByteArray)) ++ t156) ++ (⟨#[32]⟩ : ByteArray)) ++ t157) ++ (⟨#[58]⟩ : ByteArray)) ++ t158) ++ (⟨#[32]⟩ : ByteArray)) ++ t159) ++ (⟨#[32]⟩ : ByteArray)) ++ t160) ++ (⟨#[32]⟩ : ByteArray)) ++ ((rd_T63 l0 x9_1).f6))) ++ ((⟨#[32]⟩ : ByteArray) ++ ((rd_T63 l0 x9_1).f7))) ++ (((((((⟨#[32, 45, 32]⟩ : ByteArray) ++ ((rd_T63 l0 x9_1).f8)) ++ (⟨#[32]⟩ : ByteArray)) ++ t162) ++ (⟨#[32]⟩ : ByteArray)) ++ ((rd_T63 l0 x9_1).f10)) ++ (⟨#[10]⟩ : ByteArray))), (wrap64 (x9_1 + 1)), (by first | rfl | (simp; done) | (simp [*]; done)), (by first | rfl | (simp; done) | (simp [*]; done)), H', ⟨by have := HK1.out; omega⟩, ⟨by repeat (first | (with_reducible first | exact HB.out | apply below_alloc | apply pw_below_drewN | apply below_drew1 | refine below_set ?_ GE153.out) | exact HB.out)⟩⟩
                                                       · rw [if_neg c57] at H
                                                         exact absurd H (by simp)
                                                     · rw [if_neg c56] at H
                                                       exact absurd H (by simp)
                                                   · rw [if_neg c55] at H
                                                     exact absurd H (by simp)
                                                 · rw [if_neg c54] at H
                                                   exact absurd H (by simp)
                                               · rw [if_neg c53] at H
                                                 exact absurd H (by simp)
                                             · rw [if_neg c51] at H
                                               exact absurd H (by simp)
                                           · rw [if_neg c50] at H
                                             exact absurd H (by simp)
                                         · rw [if_neg c49] at H
                                           exact absurd H (by simp)
                                       · rw [if_neg c48] at H
                                         exact absurd H (by simp)
                                   · rw [if_neg c25] at H
                                     exact absurd H (by simp)
                                 · rw [if_neg c24] at H
                                   exact absurd H (by simp)
                               · rw [if_neg c23] at H
                                 exact absurd H (by simp)
                             · rw [if_neg c22] at H
                               exact absurd H (by simp)
                           · rw [if_neg c20] at H
                             exact absurd H (by simp)
                         · rw [if_neg c19] at H
                           exact absurd H (by simp)
                       · rw [if_neg c17] at H
                         exact absurd H (by simp)
                     · rw [if_neg c16] at H
                       exact absurd H (by simp)
                   · rw [if_neg c14] at H
                     exact absurd H (by simp)
                 · rw [if_neg c13] at H
                   exact absurd H (by simp)
               · rw [if_neg c11] at H
                 exact absurd H (by simp)
             · rw [if_neg c10] at H
               exact absurd H (by simp)
           · rw [if_neg c8] at H
             exact absurd H (by simp)
         · replace c6 := Bool.eq_false_iff.mpr c6
           subst c6
           have H1 : (some ((⟨#[]⟩ : ByteArray), 2)) = some (r1, r2) := by rw [if_neg (show ¬ (false = true) by decide)] at H; exact H
           clear H
           have H := H1
           clear H1
           simp only [Option.some.injEq, Prod.mk.injEq] at H
           obtain ⟨rfl, rfl⟩ := H
           have p152 : 0 ≤ (x9_1 : Int) := of_decide_eq_true (by first | (with_reducible assumption) | assumption)
           have q152 : x9_1 < (l0.length : Int) := of_decide_eq_true (by first | (with_reducible assumption) | assumption)
           obtain ⟨ad152, e152, hx152_0, hx152_1, hx152_2, hx152_3, hx152_4, hx152_5, hx152_6, hx152_7, hx152_8, hx152_9, hx152_10⟩ := at_T63 HR0.out x9_1 p152 q152
           cases e152
           replace hx152_0 := (HB.out.cell (World.block_lt_of_cell? w _ hx152_0)).trans hx152_0
           replace hx152_1 := (HB.out.cell (World.block_lt_of_cell? w _ hx152_1)).trans hx152_1
           replace hx152_2 := (HB.out.cell (World.block_lt_of_cell? w _ hx152_2)).trans hx152_2
           replace hx152_3 := (HB.out.cell (World.block_lt_of_cell? w _ hx152_3)).trans hx152_3
           replace hx152_4 := (HB.out.cell (World.block_lt_of_cell? w _ hx152_4)).trans hx152_4
           replace hx152_5 := (HB.out.cell (World.block_lt_of_cell? w _ hx152_5)).trans hx152_5
           replace hx152_6 := (HB.out.cell (World.block_lt_of_cell? w _ hx152_6)).trans hx152_6
           replace hx152_7 := (HB.out.cell (World.block_lt_of_cell? w _ hx152_7)).trans hx152_7
           replace hx152_8 := (HB.out.cell (World.block_lt_of_cell? w _ hx152_8)).trans hx152_8
           replace hx152_9 := (HB.out.cell (World.block_lt_of_cell? w _ hx152_9)).trans hx152_9
           replace hx152_10 := (HB.out.cell (World.block_lt_of_cell? w _ hx152_10)).trans hx152_10
           replace p152 := eq_true p152
           replace q152 := eq_true q152
           go_wp2_with (first | ((with_reducible refine gate_dst (N := 6) rfl ?_); refine Go.Last.box_store_event ?hg (N := 6) ?hd (c0 := #[.int .i64 0, .int .i64 0, .int .i64 0, .int .i64 0, .string (⟨#[]⟩ : ByteArray), .string (⟨#[]⟩ : ByteArray), .string (⟨#[]⟩ : ByteArray), .string (⟨#[]⟩ : ByteArray), .string (⟨#[]⟩ : ByteArray), .string (⟨#[]⟩ : ByteArray), .string (⟨#[]⟩ : ByteArray)]) (cs := #[.int .i64 ((rd_T63 l0 x9_1).f0), .int .i64 ((rd_T63 l0 x9_1).f1), .int .i64 ((rd_T63 l0 x9_1).f2), .int .i64 ((rd_T63 l0 x9_1).f3), .string ((rd_T63 l0 x9_1).f4), .string ((rd_T63 l0 x9_1).f5), .string ((rd_T63 l0 x9_1).f6), .string ((rd_T63 l0 x9_1).f7), .string ((rd_T63 l0 x9_1).f8), .string ((rd_T63 l0 x9_1).f9), .string ((rd_T63 l0 x9_1).f10)]) (t := 63) (P := Tryd.prog) ?hr rfl rfl (by first | (go_simp; done) | (go_simp; rfl)) (by first | (go_simp; done) | (go_simp; rfl)) (by kernel_rfl) rfl (by first | rfl | (simp [Value.oneCell']; done)) ?_; (case hd => rfl); (case hg => rfl); (case hr => first | (go_simp; done) | (go_simp; rfl)); intro gb153 hg w71 hbox hb; have n0_ := Aside0.mk (below_step (by repeat (first | (with_reducible first | exact HB.out | apply below_alloc | apply pw_below_drewN | apply below_drew1) | exact HB.out)) hb); have n1_ := Aside0.mk (hbox); have n2_ := Aside0.mk ((by rw [hg]; exact (below_size (by repeat (first | (with_reducible first | exact HB.out | apply below_alloc | apply pw_below_drewN | apply below_drew1) | exact HB.out))) : w.heap.size ≤ gb153)); have n3_ := Aside0.mk ((by rw [hg]; exact (below_size (by repeat (first | (with_reducible first | exact HB.out | apply below_alloc | apply pw_below_drewN | apply below_drew1) | exact HB.out))) : w.heap.size ≤ gb153)); clear HB; have HB := n0_; have BK153 := n1_; have GW153 := n2_; have GE153 := n3_; clear n0_ n1_ n2_ n3_; clear hb hbox hg; have hcz72_0 : w71.cell? ⟨gb153, 0, none⟩ = some (.int .i64 ((rd_T63 l0 x9_1).f0)) := (blk_cell BK153.out 0).trans rfl; have hcz72_1 : w71.cell? ⟨gb153, 1, none⟩ = some (.int .i64 ((rd_T63 l0 x9_1).f1)) := (blk_cell BK153.out 1).trans rfl; have hcz72_2 : w71.cell? ⟨gb153, 2, none⟩ = some (.int .i64 ((rd_T63 l0 x9_1).f2)) := (blk_cell BK153.out 2).trans rfl; have hcz72_3 : w71.cell? ⟨gb153, 3, none⟩ = some (.int .i64 ((rd_T63 l0 x9_1).f3)) := (blk_cell BK153.out 3).trans rfl; have hcz72_4 : w71.cell? ⟨gb153, 4, none⟩ = some (.string ((rd_T63 l0 x9_1).f4)) := (blk_cell BK153.out 4).trans rfl; have hcz72_5 : w71.cell? ⟨gb153, 5, none⟩ = some (.string ((rd_T63 l0 x9_1).f5)) := (blk_cell BK153.out 5).trans rfl; have hcz72_6 : w71.cell? ⟨gb153, 6, none⟩ = some (.string ((rd_T63 l0 x9_1).f6)) := (blk_cell BK153.out 6).trans rfl; have hcz72_7 : w71.cell? ⟨gb153, 7, none⟩ = some (.string ((rd_T63 l0 x9_1).f7)) := (blk_cell BK153.out 7).trans rfl; have hcz72_8 : w71.cell? ⟨gb153, 8, none⟩ = some (.string ((rd_T63 l0 x9_1).f8)) := (blk_cell BK153.out 8).trans rfl; have hcz72_9 : w71.cell? ⟨gb153, 9, none⟩ = some (.string ((rd_T63 l0 x9_1).f9)) := (blk_cell BK153.out 9).trans rfl; have hcz72_10 : w71.cell? ⟨gb153, 10, none⟩ = some (.string ((rd_T63 l0 x9_1).f10)) := (blk_cell BK153.out 10).trans rfl; have hfz72_0 := blk_frozen BK153.out 0; have hfz72_1 := blk_frozen BK153.out 1; have hfz72_2 := blk_frozen BK153.out 2; have hfz72_3 := blk_frozen BK153.out 3; have hfz72_4 := blk_frozen BK153.out 4; have hfz72_5 := blk_frozen BK153.out 5; have hfz72_6 := blk_frozen BK153.out 6; have hfz72_7 := blk_frozen BK153.out 7; have hfz72_8 := blk_frozen BK153.out 8; have hfz72_9 := blk_frozen BK153.out 9; have hfz72_10 := blk_frozen BK153.out 10) | ((with_reducible refine gate_callee (f := 31) rfl ?_); refine goesL_ (some 14) rfl rfl Tryd.func31 (by kernel_rfl) rfl #[.agg #[.int .i64 ((rd_T63 l0 x9_1).f0), .int .i64 ((rd_T63 l0 x9_1).f1), .int .i64 ((rd_T63 l0 x9_1).f2), .int .i64 ((rd_T63 l0 x9_1).f3), .string ((rd_T63 l0 x9_1).f4), .string ((rd_T63 l0 x9_1).f5), .string ((rd_T63 l0 x9_1).f6), .string ((rd_T63 l0 x9_1).f7), .string ((rd_T63 l0 x9_1).f8), .string ((rd_T63 l0 x9_1).f9), .string ((rd_T63 l0 x9_1).f10)]] rfl (by (try simp only [List.map_toArray, List.map_cons, List.map_nil]); first | done | rfl | (simp only [List.length_drop, List.length_take]; rfl)) ?_; (with_reducible refine (spec_mountValid.calls k1 ((rd_T63 l0 x9_1).f0) ((rd_T63 l0 x9_1).f1) ((rd_T63 l0 x9_1).f2) ((rd_T63 l0 x9_1).f3) ((rd_T63 l0 x9_1).f4) ((rd_T63 l0 x9_1).f5) ((rd_T63 l0 x9_1).f6) ((rd_T63 l0 x9_1).f7) ((rd_T63 l0 x9_1).f8) ((rd_T63 l0 x9_1).f9) ((rd_T63 l0 x9_1).f10) false _ A5.out).mono ?_); rintro e w73 ⟨rfl, hb⟩; refine ⟨_, rfl, ?_⟩; have n0_ := Aside0.mk (blk_below (g := gb153) (o := .cells #[.int .i64 ((rd_T63 l0 x9_1).f0), .int .i64 ((rd_T63 l0 x9_1).f1), .int .i64 ((rd_T63 l0 x9_1).f2), .int .i64 ((rd_T63 l0 x9_1).f3), .string ((rd_T63 l0 x9_1).f4), .string ((rd_T63 l0 x9_1).f5), .string ((rd_T63 l0 x9_1).f6), .string ((rd_T63 l0 x9_1).f7), .string ((rd_T63 l0 x9_1).f8), .string ((rd_T63 l0 x9_1).f9), .string ((rd_T63 l0 x9_1).f10)] 63 (0, 0)) (by (with_reducible repeat (first | refine blk_drewN ?_ _ | refine blk_drew ?_ | refine blk_alloc ?_ _)); exact BK153.out) hb); have n1_ := Aside0.mk (below_step (by repeat (first | (with_reducible first | exact HB.out | apply below_alloc | apply pw_below_drewN | apply below_drew1 | refine below_set ?_ GE153.out) | exact HB.out)) hb); clear BK153; clear HB; have BK153 := n0_; have HB := n1_; clear n0_ n1_; (try clear hb); (try clear hb2); (try clear hk); (try clear hi)))
           go_ret2
           exact ⟨by first | rfl | (simp [errW_none, errW_some] <;> rfl) | (simp [*, errW_none, errW_some] <;> rfl), by repeat (first | (with_reducible first | exact HB.out | apply below_alloc | apply pw_below_drewN | apply below_drew1 | refine below_set ?_ GE153.out) | exact HB.out)⟩
       · rw [if_neg c4] at H
         exact absurd H (by simp)
     · rw [if_neg c3] at H
       exact absurd H (by simp)
   · rw [if_neg c2] at H
     have c2b0 : decide (x9_1 < (l0.length : Int)) = false := decide_eq_false c2
     clear c2
     simp only [Option.some.injEq, Prod.mk.injEq] at H
     obtain ⟨rfl, rfl⟩ := H
     go_wp2
     go_ret2
     exact ⟨by first | rfl | (simp [errW_none, errW_some] <;> rfl) | (simp [*, errW_none, errW_some] <;> rfl), by repeat (first | (with_reducible first | exact HB.out | apply below_alloc | apply pw_below_drewN | apply below_drew1) | exact HB.out)⟩
end Go.Proofs.YtcpldcndhijecaaDoor.QM0
