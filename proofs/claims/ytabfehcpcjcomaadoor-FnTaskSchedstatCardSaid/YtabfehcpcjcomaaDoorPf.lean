/- strconv.ParseFloat's exact path: texts of at most 19 digits and one dot, mantissa below 2^52, exponent -22 .. 0. Conditions: the tables as laid. -/
import Derived.Test.YtabfehcpcjcomaaDoorRf
import Derived.Laws.FloatArith
import Derived.Laws.Externs
namespace Go.Proofs.YtabfehcpcjcomaaDoor.R
open Go.RowKit Go.Proofs.YtabfehcpcjcomaaDoorW.PrintWords Go.Proofs.YtabfehcpcjcomaaDoorW.PrintLast Go.Proofs.YtabfehcpcjcomaaDoorW.PrintMore
set_option linter.unusedVariables false
set_option linter.unusedSimpArgs false
def pow10F : List Nat := [4607182418800017408, 4621819117588971520, 4636737291354636288, 4652007308841189376, 4666723172467343360, 4681608360884174848, 4696837146684686336, 4711630319722168320, 4726483295884279808, 4741671816366391296, 4756540486875873280, 4771362005757984768, 4786511204640096256, 4801453603149578240, 4816244402031689728, 4831355200913801216, 4846369599423283200, 4861130398305394688, 4876203697187506176, 4891288408196988160, 4906019910204099648, 4921056587992461136, 4936209963552724370]
/-- What ParseFloat says of m * 10 ^ e. -/
def fval (m : Nat) (e : Int) : Option Nat :=
  if m = 0 then some 0 else if e = 0 then some (floatOfInt .f64 m) else floatBits .quo .f64 (floatOfInt .f64 m) (pow10F.getD (-e).toNat 0)
/-- The package variables that ParseFloat reads. -/
structure FTabs (w : World) : Prop where
  opt : w.cell? ⟨8, 0, none⟩ = some (.bool true)
  info : w.cell? ⟨9, 0, none⟩ = some (.int .u64 52)
  pow : ∃ (A : Addr) (c : Nat), w.cell? ⟨12, 0, none⟩ = some (.slice (some A) 23 c) ∧ 23 ≤ c ∧ ∀ i, i < 23 → w.cell? (A.add i) = some (.float .f64 (pow10F.getD i 0))
set_option maxHeartbeats 4000000 in
set_option maxRecDepth 100000 in
theorem special_no (T : Bs) (w : World) (h : Num T) : Calls Tryd.prog 64 #[.string (B T)] w fun e w' => e = .returned (.tuple #[.float .f64 0, .int .i64 0, .bool false]) ∧ w' = w := by
  obtain ⟨S, hS⟩ : ∃ S, S = B T := ⟨_, rfl⟩
  rw [← hS]
  have hsz0 : S.size = T.length := by rw [hS]; exact B_size T
  have hl0 : 0 < T.length := by obtain ⟨c, hc, _⟩ := h.dig; exact List.length_pos_of_mem hc
  obtain ⟨c0, hc0⟩ : ∃ c, T[0]? = some c := ⟨_, List.getElem?_eq_getElem hl0⟩
  have hcm := h.ch c0 (List.mem_of_getElem? hc0)
  have hx0 := el_at T S hS 0 c0 hc0
  have z0 : (0 : Int) < (S.size : Int) := by omega
  have z0' : 0 < S.size := by omega
  have z0n : ¬ (S.size = 0) := by omega
  have z0q : ((S.size : Int) == 0) = false := beq_eq_false_iff_ne.2 (by omega)
  have key : ∀ k : Int, k = 43 ∨ k = 45 ∨ k = 105 ∨ k = 73 ∨ k = 110 ∨ k = 78 → ((c0.toNat : Int) == k) = false := by
    intro k hk
    refine beq_eq_false_iff_ne.2 ?_
    rcases hcm with rfl | hcm <;> rcases hk with rfl | rfl | rfl | rfl | rfl | rfl <;> first | decide | omega
  have q1 := key 43 (by omega)
  have q2 := key 45 (by omega)
  have q3 := key 105 (by omega)
  have q4 := key 73 (by omega)
  have q5 := key 110 (by omega)
  have q6 := key 78 (by omega)
  clear key hcm hS hsz0 h hc0
  go_enter Tryd.func64, Tryd.ntmps64
  go_wp2
  all_goals exact bodyPost_ret (results_tmp3 rfl _ _ _) rfl ⟨rfl, rfl⟩
set_option maxHeartbeats 4000000 in
set_option maxRecDepth 100000 in
theorem exact_ok (m : Nat) (hm : m < 4503599627370496) (hm0 : m ≠ 0) (e : Int) (he : -22 ≤ e ∧ e ≤ 0) (q : Nat) (hq : fval m e = some q) (w : World) (hT : FTabs w) :
    Calls Tryd.prog 75 #[.int .u64 m, .int .i64 e, .bool false] w fun r w' => r = .returned (.tuple #[.float .f64 q, .bool true]) ∧ w' = w := by
  have h9 := hT.info
  obtain ⟨A, c, h12, hc, hp⟩ := hT.pow
  have hdv : (m : Int) / 4503599627370496 = 0 := by omega
  have hdq : ((m : Int) / 4503599627370496 != 0) = false := by rw [hdv]; rfl
  by_cases h0 : e = 0
  · subst h0
    have hq' : floatOfInt .f64 m = q := by unfold fval at hq; rw [if_neg hm0, if_pos rfl] at hq; exact Option.some.inj hq
    clear hdv
    go_enter Tryd.func75, Tryd.ntmps75
    go_wp2
    all_goals exact bodyPost_ret (results_tmp2 rfl _ _ _) rfl ⟨rfl, rfl⟩
  · obtain ⟨k, hk⟩ : ∃ k : Nat, e = -(k : Int) := ⟨(-e).toNat, by omega⟩
    have hk1 : 1 ≤ k ∧ k ≤ 22 := by omega
    have hq' : floatBits .quo .f64 (floatOfInt .f64 m) (pow10F.getD k 0) = some q := by
      unfold fval at hq
      rw [if_neg hm0, if_neg h0, hk, Int.neg_neg] at hq
      exact hq
    have hquo : ∀ W, (binOp .quo 23 (.float .f64 (floatOfInt .f64 m)) (.float .f64 (pow10F.getD k 0))).run Tryd.prog W = .ok (.float .f64 q) W := fun W => run_float_arith W .quo 23 .f64 _ _ _ hq'
    have hcell := hp k (by omega)
    subst hk
    have n1 : wrap64 (-(-(k : Int))) = k := by rw [Int.neg_neg]; exact wr64 _ (by omega)
    have n2 : wrap64 ((k : Int)) = k := wr64 _ (by omega)
    have e0 : ((-(k : Int)) == 0) = false := beq_eq_false_iff_ne.2 (by omega)
    have e1 : decide (0 < (-(k : Int))) = false := decide_eq_false (by omega)
    have e2 : decide ((-(k : Int)) < 0) = true := decide_eq_true (by omega)
    have e3 : decide ((-22 : Int) ≤ (-(k : Int))) = true := decide_eq_true (by omega)
    have e4 : (k : Int) < 23 := by omega
    have e5 : (0 : Int) ≤ k := by omega
    have e6 : k < 23 := by omega
    generalize pow10F.getD k 0 = pv at hquo hcell
    clear hq hq' hdv hp
    go_enter Tryd.func75, Tryd.ntmps75
    go_wp2
    all_goals exact bodyPost_ret (results_tmp2 rfl _ _ _) rfl ⟨rfl, rfl⟩
set_option maxHeartbeats 4000000 in
set_option maxRecDepth 100000 in
theorem bool2_false (w : World) : Calls Tryd.prog 73 #[.bool false] w fun r w' => r = .returned (.int .u64 0) ∧ w' = w := by
  go_enter Tryd.func73, Tryd.ntmps73
  go_wp2
  go_ret
  exact ⟨rfl, rfl⟩
theorem from_bits (n : Int) (w : World) : (callFunc 74 #[.int .u64 n]).run Tryd.prog w = .ok (.value (.float .f64 n.toNat)) w := by
  rw [run_callFunc_extern (e := Extern.MathFloatBits.float64frombits) Tryd.func74 (by kernel_rfl) (by kernel_rfl) (by kernel_rfl) (by kernel_rfl)]
  rfl
set_option maxHeartbeats 4000000 in
set_option maxRecDepth 100000 in
theorem atof64_ok (T : Bs) (w : World) (h : Num T) (hm : (rf T).m < 4503599627370496) (he : -22 ≤ rfExp T ∧ rfExp T ≤ 0) (q : Nat) (hq : fval (rf T).m (rfExp T) = some q) (hT : FTabs w) :
    Calls Tryd.prog 62 #[.string (B T)] w fun r w' => r = .returned (.tuple #[.float .f64 q, .int .i64 T.length, .nilIface]) ∧ w' = w := by
  have h8 := hT.opt
  have H := Aside0.mk h
  have HT := Aside0.mk hT
  have HQ := Aside0.mk hq
  have HM := Aside0.mk hm
  have HE := Aside0.mk he
  have e1 : decide ((310 : Int) < rfExp T) = false := decide_eq_false (by omega)
  have e2 : decide (rfExp T < (-345 : Int)) = false := decide_eq_false (by omega)
  by_cases h0 : (rf T).m = 0
  · have q0 : (((rf T).m : Int) == 0) = true := by rw [h0]; rfl
    have hqz : q = 0 := by unfold fval at hq; rw [if_pos h0] at hq; exact (Option.some.inj hq).symm
    subst hqz
    clear hq hm he h hT h0
    have hfb := from_bits
    go_enter Tryd.func62, Tryd.ntmps62
    go_wp2_with (first
      | (go_at_call 64; refine (special_no T _ H.out).mono ?_; rintro e w1 ⟨rfl, rfl⟩)
      | (go_at_call 65; refine (read_float T _ H.out).mono ?_; rintro e w1 ⟨rfl, rfl⟩)
      | (go_at_call 73; refine (bool2_false _).mono ?_; rintro e w1 ⟨rfl, rfl⟩))
    all_goals exact bodyPost_ret (results_tmp3 rfl _ _ _) rfl ⟨rfl, rfl⟩
  · have q0 : (((rf T).m : Int) == 0) = false := beq_eq_false_iff_ne.2 (by omega)
    have H0 := Aside0.mk h0
    clear hq hm he h hT h0
    go_enter Tryd.func62, Tryd.ntmps62
    go_wp2_with (first
      | (go_at_call 64; refine (special_no T _ H.out).mono ?_; rintro e w1 ⟨rfl, rfl⟩)
      | (go_at_call 65; refine (read_float T _ H.out).mono ?_; rintro e w1 ⟨rfl, rfl⟩)
      | (go_at_call 73; refine (bool2_false _).mono ?_; rintro e w1 ⟨rfl, rfl⟩)
      | (go_at_call 75; refine (exact_ok _ HM.out H0.out _ HE.out _ HQ.out _ HT.out).mono ?_; rintro e w1 ⟨rfl, rfl⟩))
    all_goals exact bodyPost_ret (results_tmp3 rfl _ _ _) rfl ⟨rfl, rfl⟩
set_option maxHeartbeats 4000000 in
set_option maxRecDepth 100000 in
theorem float_prefix (T : Bs) (w : World) (h : Num T) (hm : (rf T).m < 4503599627370496) (he : -22 ≤ rfExp T ∧ rfExp T ≤ 0) (q : Nat) (hq : fval (rf T).m (rfExp T) = some q) (hT : FTabs w) :
    Calls Tryd.prog 57 #[.string (B T), .int .i64 64] w fun r w' => r = .returned (.tuple #[.float .f64 q, .int .i64 T.length, .nilIface]) ∧ w' = w := by
  go_enter Tryd.func57, Tryd.ntmps57
  go_wp2_with (first
    | (go_at_call 62; refine (atof64_ok T _ h hm he q hq hT).mono ?_; rintro e w1 ⟨rfl, rfl⟩))
  all_goals exact bodyPost_ret (results_tmp3 rfl _ _ _) rfl ⟨rfl, rfl⟩
set_option maxHeartbeats 4000000 in
set_option maxRecDepth 100000 in
theorem parse_float_in (T : Bs) (w : World) (h : Num T) (hm : (rf T).m < 4503599627370496) (he : -22 ≤ rfExp T ∧ rfExp T ≤ 0) (q : Nat) (hq : fval (rf T).m (rfExp T) = some q) (hT : FTabs w) :
    Calls Tryd.prog 53 #[.string (B T), .int .i64 64] w fun r w' => r = .returned (.tuple #[.float .f64 q, .nilIface]) ∧ w' = w := by
  have hsz := B_size T
  go_enter Tryd.func53, Tryd.ntmps53
  go_wp2_with (first
    | (go_at_call 57; refine (float_prefix T _ h hm he q hq hT).mono ?_; rintro e w1 ⟨rfl, rfl⟩))
  all_goals exact bodyPost_ret (results_tmp2 rfl _ _ _) rfl ⟨rfl, rfl⟩
set_option maxHeartbeats 4000000 in
set_option maxRecDepth 100000 in
/-- strconv.ParseFloat(s, 64). -/
theorem parse_float (T : Bs) (w : World) (h : Num T) (hm : (rf T).m < 4503599627370496) (he : -22 ≤ rfExp T ∧ rfExp T ≤ 0) (q : Nat) (hq : fval (rf T).m (rfExp T) = some q) (hT : FTabs w) :
    Calls Tryd.prog 42 #[.string (B T), .int .i64 64] w fun r w' => r = .returned (.tuple #[.float .f64 q, .nilIface]) ∧ w' = w := by
  go_enter Tryd.func42, Tryd.ntmps42
  go_wp2_with (first
    | (go_at_call 53; refine (parse_float_in T _ h hm he q hq hT).mono ?_; rintro e w1 ⟨rfl, rfl⟩))
  all_goals exact bodyPost_ret (results_tmp2 rfl _ _ _) rfl ⟨rfl, rfl⟩
end Go.Proofs.YtabfehcpcjcomaaDoor.R
