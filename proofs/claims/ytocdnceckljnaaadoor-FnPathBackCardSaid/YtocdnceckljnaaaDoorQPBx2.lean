-- Written by a program of this session (wip/tools/myprint.py), over the kit's print of the loaded functions. Not trusted: Lean checks it.
import Derived.Test.YtocdnceckljnaaaDoorQPBx0
namespace Go.Proofs.YtocdnceckljnaaaDoor.QPB
open Go.RowKit Go.Proofs.YtocdnceckljnaaaDoorW.PrintWords Go.Proofs.YtocdnceckljnaaaDoorW.PrintLast Go.Proofs.YtocdnceckljnaaaDoorW.PrintMore
attribute [local go_sem] max2_int min2_int max_two min_two max_three min_three max_four min_four   -- for this text's walks alone
set_option linter.unusedVariables false
set_option linter.unusedSimpArgs false

/-! ### strconv_ParseInt: function 58: by hand -/
/-- The value of a digit, 99 if it is none. -/
def dg (c : Int) : Int := if 48 ≤ c ∧ c ≤ 57 then c - 48 else if 97 ≤ c ∧ c ≤ 122 then c - 87 else if 65 ≤ c ∧ c ≤ 90 then c - 55 else 99
/-- The number that the first digits are. -/
def pv (b : Int) (s : ByteArray) : Nat → Int
  | 0 => 0
  | k + 1 => pv b s k * b + dg (bt s (k : Int))
theorem dg_nonneg (c : Int) : 0 ≤ dg c := by unfold dg; split <;> (try split) <;> (try split) <;> omega
theorem pv_nonneg (b : Int) (hb : 0 < b) (s : ByteArray) : ∀ k, 0 ≤ pv b s k
  | 0 => Int.le_refl _
  | k + 1 => by
    have h1 := pv_nonneg b hb s k
    have h2 := dg_nonneg (bt s (k : Int))
    have h3 : 0 ≤ pv b s k * b := Int.mul_nonneg h1 (by omega)
    show 0 ≤ pv b s k * b + dg (bt s (k : Int))
    omega
theorem pv_mono (b : Int) (hb : 1 ≤ b) (s : ByteArray) (k : Nat) : pv b s k ≤ pv b s (k + 1) := by
  have h1 := pv_nonneg b (by omega) s k
  have h2 := dg_nonneg (bt s (k : Int))
  have h3 : pv b s k * 1 ≤ pv b s k * b := Int.mul_le_mul_of_nonneg_left hb h1
  show pv b s k ≤ pv b s k * b + dg (bt s (k : Int))
  omega
theorem pv_le (b : Int) (hb : 1 ≤ b) (s : ByteArray) {k n : Nat} (h : k ≤ n) : pv b s k ≤ pv b s n := by
  induction n with
  | zero => obtain rfl : k = 0 := by omega
            exact Int.le_refl _
  | succ n ih =>
    by_cases e : k = n + 1
    · rw [e]; exact Int.le_refl _
    · exact Int.le_trans (ih (by omega)) (pv_mono b hb s n)
theorem pv_step (b : Int) (hb : decide (1 ≤ b) = true) (s : ByteArray) (_ : ∀ i : Nat, i < s.size → dg (bt s (i : Int)) < b) {k : Nat} (h : k < s.size) {M : Int} (hM : pv b s s.size < M) : 0 ≤ pv b s k ∧ pv b s k < M ∧ pv b s (k + 1) < M := by
  have hb' := of_decide_eq_true hb
  have h1 := pv_le b hb' s (k := k + 1) (n := s.size) (by omega)
  have h2 := pv_mono b hb' s k
  exact ⟨pv_nonneg b (by omega) s k, by omega, by omega⟩
theorem bytes_cell (w : World) (s : ByteArray) (k : Nat) (h : k < s.size) : (Lib.bytesWorld w 5 s).cell? ⟨w.heap.size, k, none⟩ = some (.int .u8 (bt s (k : Int))) := by
  rw [Lib.bytesWorld_cell w 5 s k h]
  unfold bt
  rw [dif_pos (by simpa using h)]
  have hl : k < s.data.toList.length := by simpa using h
  rw [List.getD_eq_getElem?_getD, List.getElem?_eq_getElem hl]
  simp only [Int.toNat_natCast, Array.getElem_toList]
  rfl
def lowOk (c : Int) : Bool := (decide (97 ≤ c ∧ c ≤ 122) → Go.bits .or .u8 c 32 = c) && (decide (65 ≤ c ∧ c ≤ 90) → Go.bits .or .u8 c 32 = c + 32)
theorem lowOk_all : ∀ n : Fin 256, lowOk ((n.val : Nat) : Int) = true := by decide +kernel
theorem low_small (c : Int) (h0 : 97 ≤ c) (h1 : c ≤ 122) : Go.bits .or .u8 c 32 = c := by
  have h := lowOk_all ⟨c.toNat, by omega⟩
  have e : ((c.toNat : Nat) : Int) = c := by omega
  simp only [e] at h
  unfold lowOk at h
  simp only [Bool.and_eq_true, decide_eq_true_eq] at h
  exact h.1 ⟨h0, h1⟩
theorem low_great (c : Int) (h0 : 65 ≤ c) (h1 : c ≤ 90) : Go.bits .or .u8 c 32 = c + 32 := by
  have h := lowOk_all ⟨c.toNat, by omega⟩
  have e : ((c.toNat : Nat) : Int) = c := by omega
  simp only [e] at h
  unfold lowOk at h
  simp only [Bool.and_eq_true, decide_eq_true_eq] at h
  exact h.2 ⟨h0, h1⟩
set_option maxHeartbeats 400000 in
theorem lower_any (c : Int) (w : World) : Calls Tryd.prog 86 #[.int .u8 c] w fun e w' => e = .returned (.int .u8 (Go.bits .or .u8 c 32)) ∧ w = w' := by
  go_enter Tryd.func86, Tryd.ntmps86
  go_wp2
  go_ret
  exact ⟨rfl, rfl⟩
/-! #### internal/strconv.ParseUint at base 16 and 8 bits, digits alone -/
set_option maxHeartbeats 8000000 in
set_option maxRecDepth 100000 in
theorem parseUint_16_8 (s : ByteArray) (w : World) (h0 : 0 < s.size) (hs : s.size ≤ 140737488351232)
    (hd : ∀ i : Nat, i < s.size → dg (bt s (i : Int)) < 16) (hv : pv 16 s s.size < 256) :
    Calls Tryd.prog 74 #[.string s, .int .i64 16, .int .i64 8] w fun e w' => e = .returned (.tuple #[.int .u64 (pv 16 s s.size), .nilIface]) ∧ Below w.heap.size w w' := by
  have HD := Aside0.mk hd
  have HV := Aside0.mk hv
  have hbel : Below w.heap.size w (Lib.bytesWorld w 5 s) := bytes_below (Below.refl _ _) (Nat.le_refl _) 5 s
  have HB := Aside0.mk hbel
  clear hbel
  have kb := fun W => print_bytes (P := Tryd.prog) 9 33 5 Tryd.underlying9 Tryd.underlying33 Tryd.underlying5 s W
  have he : s.toList.isEmpty = false := by
    rw [Lib.toList_data]
    rw [Lib.size_eq] at h0
    cases h : s.data.toList with
    | nil => rw [h] at h0; simp at h0
    | cons a l => rfl
  clear hd hv
  go_enter Tryd.func74, Tryd.ntmps74
  go_wp2_with fail
  clear kb
  go_loop [12, 13, 101] (fun u n i => ∃ k : Nat, k ≤ s.size ∧ u = .bool false ∧ n = .int .u64 (pv 16 s k) ∧ i = .int .i64 k) (fun _ _ i => s.size - (intOf i).toNat)
  case atStart => exact ⟨0, Nat.zero_le _, rfl, rfl, rfl⟩
  case round =>
    obtain ⟨k, hk, rfl, rfl, rfl⟩ := hrel
    by_cases hlt : k < s.size
    · have hx0 := bytes_cell w s k hlt
      have hdk := HD.out k hlt
      obtain ⟨hb0, hb1⟩ := bt_range s (k : Int)
      have hpv := pv_step 16 (by decide) s HD.out hlt HV.out
      obtain ⟨hp0, hp1, hp2⟩ := hpv
      have hnum : pv 16 s (k + 1) = pv 16 s k * 16 + dg (bt s (k : Int)) := rfl
      have HN := Aside0.mk hnum
      rw [hnum] at hp2
      clear hnum
      generalize hc : bt s (k : Int) = c at *
      generalize hn : pv 16 s k = n at *
      have HCc := Aside0.mk hc
      have HNn := Aside0.mk hn
      clear hc hn
      by_cases c1 : 48 ≤ c ∧ c ≤ 57
      · have e : dg c = c - 48 := by unfold dg; rw [if_pos c1]
        rw [e] at hdk hp2
        have HE := Aside0.mk e
        clear e
        obtain ⟨c1a, c1b⟩ := c1
        have t1 : (c == 95) = false := by rw [beq_eq_false_iff_ne]; omega
        have t2 : decide (48 ≤ c) = true := by simp; omega
        have t3 : decide (c ≤ 57) = true := by simp; omega
        go_wp2_with (go_at_call 86; refine (lower_any _ _).mono ?_; rintro e w' ⟨rfl, rfl⟩)
        go_round
        case rel => exact ⟨k + 1, by omega, rfl, by rw [HN.out, HE.out], by go_num⟩
        case measure => simp [intOf]; omega
      · have t1' : (c == 95) = false := by
          rw [beq_eq_false_iff_ne]
          rintro rfl
          revert hdk
          decide
        by_cases c2 : 97 ≤ c ∧ c ≤ 122
        · have e : dg c = c - 87 := by unfold dg; rw [if_neg c1, if_pos c2]
          rw [e] at hdk hp2
          have HE := Aside0.mk e
          clear e
          obtain ⟨c2a, c2b⟩ := c2
          have t2 : decide (48 ≤ c) = true := by simp; omega
          have t3 : decide (c ≤ 57) = false := by simp; omega
          have hlow : Go.bits .or .u8 c 32 = c := low_small c c2a c2b
          have HL := Aside0.mk hlow
          clear hlow
          go_wp2_with (go_at_call 86; refine (lower_any _ _).mono ?_; rw [HL.out]; rintro e w' ⟨rfl, rfl⟩)
          go_round
          case rel => exact ⟨k + 1, by omega, rfl, by rw [HN.out, HE.out]; congr 1; omega, by go_num⟩
          case measure => simp [intOf]; omega
        · by_cases c3 : 65 ≤ c ∧ c ≤ 90
          · have e : dg c = c - 55 := by unfold dg; rw [if_neg c1, if_neg c2, if_pos c3]
            rw [e] at hdk hp2
            have HE := Aside0.mk e
            clear e
            obtain ⟨c3a, c3b⟩ := c3
            have t2 : decide (48 ≤ c) = true := by simp; omega
            have t3 : decide (c ≤ 57) = false := by simp; omega
            have hlow : Go.bits .or .u8 c 32 = c + 32 := low_great c c3a c3b
            have HL := Aside0.mk hlow
            clear hlow
            go_wp2_with (go_at_call 86; refine (lower_any _ _).mono ?_; rw [HL.out]; rintro e w' ⟨rfl, rfl⟩)
            go_round
            case rel => exact ⟨k + 1, by omega, rfl, by rw [HN.out, HE.out]; congr 1; omega, by go_num⟩
            case measure => simp [intOf]; omega
          · have e : dg c = 99 := by unfold dg; rw [if_neg c1, if_neg c2, if_neg c3]
            rw [e] at hdk
            exact absurd hdk (by decide)
    · obtain rfl : k = s.size := by omega
      go_wp2
      go_ret2
      exact ⟨rfl, HB.out⟩
/-! #### ParseInt at base 16 and 8 bits, digits alone, below 128 -/
set_option maxHeartbeats 8000000 in
set_option maxRecDepth 100000 in
theorem parseIntI_16_8 (s : ByteArray) (w : World) (h0 : 0 < s.size) (hs : s.size ≤ 140737488351232)
    (hd : ∀ i : Nat, i < s.size → dg (bt s (i : Int)) < 16) (hv : pv 16 s s.size < 128) :
    Calls Tryd.prog 65 #[.string s, .int .i64 16, .int .i64 8] w fun e w' => e = .returned (.tuple #[.int .i64 (pv 16 s s.size), .nilIface]) ∧ Below w.heap.size w w' := by
  have HC := fun W => parseUint_16_8 s W h0 hs hd (by omega)
  have he : s.toList.isEmpty = false := by
    rw [Lib.toList_data]
    rw [Lib.size_eq] at h0
    cases h : s.data.toList with
    | nil => rw [h] at h0; simp at h0
    | cons a l => rfl
  have hx := bt_at s 0
  have hp : (0 : Nat) < s.size := h0
  have hdk := hd 0 h0
  have hn0 := pv_nonneg 16 (by decide) s s.size
  simp only [Int.toNat_zero] at hx
  generalize hc : bt s 0 = c at *
  have hdk' : dg c < 16 := hdk
  have t1 : (c == 43) = false := by
    rw [beq_eq_false_iff_ne]
    rintro rfl
    revert hdk'
    decide
  have t2 : (c == 45) = false := by
    rw [beq_eq_false_iff_ne]
    rintro rfl
    revert hdk'
    decide
  have HCA := Aside0.mk HC
  generalize pv 16 s s.size = n at *
  clear HC hd hdk hdk' hc
  go_enter Tryd.func65, Tryd.ntmps65
  go_wp2_with (go_at_call 74; refine (HCA.out _).mono ?_; rintro e w' ⟨rfl, hb⟩)
  go_ret2
  exact ⟨rfl, by assumption⟩
set_option maxHeartbeats 8000000 in
set_option maxRecDepth 100000 in
theorem parseInt_16_8 (s : ByteArray) (w : World) (h0 : 0 < s.size) (hs : s.size ≤ 140737488351232)
    (hd : ∀ i : Nat, i < s.size → dg (bt s (i : Int)) < 16) (hv : pv 16 s s.size < 128) :
    Calls Tryd.prog 58 #[.string s, .int .i64 16, .int .i64 8] w fun e w' => e = .returned (.tuple #[.int .i64 (pv 16 s s.size), .nilIface]) ∧ Below w.heap.size w w' := by
  have HCA := Aside0.mk (fun W => parseIntI_16_8 s W h0 hs hd hv)
  generalize pv 16 s s.size = n at *
  clear hd hv
  go_enter Tryd.func58, Tryd.ntmps58
  go_wp2_with (go_at_call 65; refine (HCA.out _).mono ?_; rintro e w' ⟨rfl, hb⟩)
  go_ret2
  exact ⟨rfl, by assumption⟩

/-- The value of a small hexadecimal digit, -1 if it is none. -/
def hexv (c : Int) : Int := if 48 ≤ c ∧ c ≤ 57 then c - 48 else if 97 ≤ c ∧ c ≤ 102 then c - 87 else -1
/-- Told of two small hexadecimal digits below 128 alone. -/
def strconv_ParseInt.f (a0 : ByteArray) (a1 a2 : Int) : Option (Int × Option Int) :=
  if a1 = 16 ∧ a2 = 8 ∧ a0.size = 2 ∧ 0 ≤ hexv (bt a0 0) ∧ 0 ≤ hexv (bt a0 1) ∧ hexv (bt a0 0) * 16 + hexv (bt a0 1) < 128 then some (hexv (bt a0 0) * 16 + hexv (bt a0 1), none) else none
theorem hexv_dg (c : Int) (h : 0 ≤ hexv c) : dg c = hexv c ∧ dg c < 16 := by
  unfold hexv at h ⊢
  unfold dg
  split at h
  · rename_i h1; rw [if_pos h1, if_pos h1]; omega
  · rename_i h1
    split at h
    · rename_i h2; rw [if_neg h1, if_neg h1, if_pos (by omega), if_pos h2]; omega
    · omega
theorem strconv_ParseInt.calls (a0 : ByteArray) (a1 a2 : Int) (r1 : Int) (r2 : Option Int) (w : World) (h : strconv_ParseInt.f a0 a1 a2 = some (r1, r2)) :
    Calls Tryd.prog 58 #[.string a0, .int .i64 a1, .int .i64 a2] w fun e w' => e = .returned (.tuple #[.int .i64 r1, errW r2]) ∧ Below w.heap.size w w' := by
  unfold strconv_ParseInt.f at h
  split at h
  · rename_i hc
    obtain ⟨rfl, rfl, hsz, h0, h1, hv⟩ := hc
    simp only [Option.some.injEq, Prod.mk.injEq] at h
    obtain ⟨rfl, rfl⟩ := h
    have e0 := hexv_dg _ h0
    have e1 := hexv_dg _ h1
    have ep : pv 16 a0 a0.size = hexv (bt a0 0) * 16 + hexv (bt a0 1) := by
      rw [hsz]
      show (0 * 16 + dg (bt a0 ((0 : Nat) : Int))) * 16 + dg (bt a0 ((1 : Nat) : Int)) = _
      have q0 : dg (bt a0 ((0 : Nat) : Int)) = hexv (bt a0 0) := e0.1
      have q1 : dg (bt a0 ((1 : Nat) : Int)) = hexv (bt a0 1) := e1.1
      rw [q0, q1]; omega
    have hp := parseInt_16_8 a0 w (by omega) (by omega) (fun i hi => by
      have : i = 0 ∨ i = 1 := by omega
      rcases this with rfl | rfl
      · exact e0.2
      · exact e1.2) (by rw [ep]; exact hv)
    rw [ep] at hp
    exact hp
  · cases h

/-! ### unit_unescape: function 46: by hand -/
theorem row_cells {w : World} {ad : Addr} {n : Nat} {xs : List Int} (h : Kd.C (Kd.int .u8) w (some ad) n xs) : ∀ j u, (nums .u8 xs)[j]? = some u → w.cell? (ad.add j) = some u := by
  intro j u hj
  have hl := (List.getElem?_eq_some_iff.1 hj).1
  rw [nums_length] at hl
  have hn : xs.length = n := h.1
  obtain ⟨ad', e, hx⟩ := Kd.at_int h (j : Int) (by omega) (by omega)
  cases e
  have e2 : u = .int .u8 (rd xs (j : Int)) := by
    rw [nums, List.getElem?_map, List.getElem?_eq_getElem hl] at hj
    simp only [Option.map_some, Option.some.injEq] at hj
    rw [← hj]
    simp [rd, List.getD_eq_getElem?_getD, List.getElem?_eq_getElem hl]
  rw [e2]
  exact hx

mutual
def unit_unescape.l0 : Nat → ByteArray → Bool → List Int → Int → Option (ByteArray)
  | 0, _, _, _, _ => none
  | k + 1, x0, x1, x5, x6 => if x6 < (x0.size : Int) then (if 0 ≤ x6 then (if (bt x0 x6) = 45 then (if x5.length < 140737488355328 then (unit_unescape.l0 k x0 x1 (x5 ++ [47]) (wrap64 (x6 + 1))) else (none)) else (if (bt x0 x6) = 92 then (if (wrap64 ((x0.size : Int) - x6)) ≥ 4 then (if 0 ≤ (wrap64 (x6 + 1)) then (if (wrap64 (x6 + 1)) < (x0.size : Int) then (unit_unescape.j1 k x0 x1 x5 x6 (bt x0 x6) ((bt x0 (wrap64 (x6 + 1))) == 120)) else (none)) else (none)) else (unit_unescape.j1 k x0 x1 x5 x6 (bt x0 x6) false)) else (unit_unescape.j1 k x0 x1 x5 x6 (bt x0 x6) false))) else (none)) else (if x1 = true then (if (x5.length : Int) = 0 then none else (if 0 < (x5.length : Int) then (if (rd x5 0) = 47 then (some (strOfNums x5)) else ((some (([47] : List Int) : List Int)).bind fun y114 => (if y114.length + x5.length < 140737488355328 then (some (strOfNums (y114 ++ x5))) else (none)))) else (none))) else (some (strOfNums x5)))
def unit_unescape.j1 : Nat → ByteArray → Bool → List Int → Int → Int → Bool → Option (ByteArray)
  | 0, _, _, _, _, _, _ => none
  | k + 1, x0, x1, x5, x6, x7, x37 => if x37 = true then (if 0 ≤ (wrap64 (x6 + 2)) then (if (wrap64 (x6 + 2)) ≤ (wrap64 (x6 + 4)) then (if (wrap64 (x6 + 4)) ≤ (x0.size : Int) then ((strconv_ParseInt.f (x0.extract ((wrap64 (x6 + 2)) : Int).toNat ((wrap64 (x6 + 4)) : Int).toNat) 16 8).bind fun bt123 => (if bt123.2.isNone = true then (if x5.length < 140737488355328 then (unit_unescape.l0 k x0 x1 (x5 ++ [(bt123.1) % 256]) (wrap64 ((wrap64 (x6 + 3)) + 1))) else (none)) else (if x5.length < 140737488355328 then (unit_unescape.l0 k x0 x1 (x5 ++ [x7]) (wrap64 (x6 + 1))) else (none)))) else (none)) else (none)) else (none)) else (if x5.length < 140737488355328 then (unit_unescape.l0 k x0 x1 (x5 ++ [x7]) (wrap64 (x6 + 1))) else (none))
end
def unit_unescape.f (k : Nat) (a0 : ByteArray) (a1 : Bool) : Option (ByteArray) := unit_unescape.l0 k a0 a1 (([] : List Int)) 0
theorem unit_unescape.mono_l : ∀ k, (∀ y0 y1 y2 y3, LeO (unit_unescape.l0 k y0 y1 y2 y3) (unit_unescape.l0 (k + 1) y0 y1 y2 y3)) ∧ (∀ y0 y1 y2 y3 y4 y5, LeO (unit_unescape.j1 k y0 y1 y2 y3 y4 y5) (unit_unescape.j1 (k + 1) y0 y1 y2 y3 y4 y5))
  | 0 => ⟨fun _ _ _ _ r h => by simp [unit_unescape.l0] at h, fun _ _ _ _ _ _ r h => by simp [unit_unescape.j1] at h⟩
  | k + 1 => by
    obtain ⟨ih0, ih1⟩ := unit_unescape.mono_l k
    refine ⟨?_, ?_⟩
    · intro y0 y1 y2 y3
      unfold unit_unescape.l0
      repeat' first
      | (with_reducible exact ih0 _ _ _ _)
      | (with_reducible exact ih1 _ _ _ _ _ _)
      | (with_reducible exact LeO.refl _)
      | (with_reducible exact LeO.none _)
      | (with_reducible refine LeO.ite ?_ ?_)
      | (with_reducible refine LeO.bind ?_ (fun _ => ?_))
      | exact ih0 _ _ _ _
      | exact ih1 _ _ _ _ _ _
      | exact LeO.none _
      | refine LeO.ite ?_ ?_
      | refine LeO.bind ?_ (fun _ => ?_)
    · intro y0 y1 y2 y3 y4 y5
      unfold unit_unescape.j1
      repeat' first
      | (with_reducible exact ih0 _ _ _ _)
      | (with_reducible exact ih1 _ _ _ _ _ _)
      | (with_reducible exact LeO.refl _)
      | (with_reducible exact LeO.none _)
      | (with_reducible refine LeO.ite ?_ ?_)
      | (with_reducible refine LeO.bind ?_ (fun _ => ?_))
      | exact ih0 _ _ _ _
      | exact ih1 _ _ _ _ _ _
      | exact LeO.none _
      | refine LeO.ite ?_ ?_
      | refine LeO.bind ?_ (fun _ => ?_)
theorem unit_unescape.mono : ∀ a0 a1 k, LeO (unit_unescape.f k a0 a1) (unit_unescape.f (k + 1) a0 a1) := by
  intro a0 a1 k
  obtain ⟨ih0, ih1⟩ := unit_unescape.mono_l k
  unfold unit_unescape.f
  repeat' first
      | (with_reducible exact ih0 _ _ _ _)
      | (with_reducible exact ih1 _ _ _ _ _ _)
      | (with_reducible exact LeO.refl _)
      | (with_reducible exact LeO.none _)
      | (with_reducible refine LeO.ite ?_ ?_)
      | (with_reducible refine LeO.bind ?_ (fun _ => ?_))
      | exact ih0 _ _ _ _
      | exact ih1 _ _ _ _ _ _
      | exact LeO.none _
      | refine LeO.ite ?_ ?_
      | refine LeO.bind ?_ (fun _ => ?_)
set_option maxHeartbeats 8000000 in
set_option maxRecDepth 100000 in
theorem unit_unescape.calls (k : Nat) (a0 : ByteArray) (a1 : Bool) (r : ByteArray) (w : World) (h : unit_unescape.f k a0 a1 = some r) :
    Calls Tryd.prog 46 #[.string a0, .bool a1] w fun e w' => e = .returned (.string r) ∧ Below w.heap.size w w' := by
  have hu61 := Tryd.underlying61
  have HB := Aside0.mk (Below.refl w.heap.size w)
  have H : (unit_unescape.l0 k a0 a1 (([] : List Int)) 0) = some r := h
  clear h
  obtain ⟨y104, hy104⟩ : ∃ y_ : List Int, y_ = (([] : List Int)) := ⟨_, rfl⟩
  replace H : (unit_unescape.l0 k a0 a1 y104 0) = some r := by first | (rw [hy104]; with_reducible exact H) | (have H2_ := (Option.bind_some _ _).symm.trans H; rw [hy104]; with_reducible exact H2_) | (have H2_ := (Option.bind_some _ _).symm.trans H; with_reducible exact H2_) | with_reducible exact H | (rw [hy104]; exact H) | exact H
  have Ny104 := Aside0.mk hy104
  clear hy104
  have H' := Aside0.mk H
  clear H
  go_enter Tryd.func46, Tryd.ntmps46
  go_wp2_with (first | ((with_reducible refine gate_dst (N := 10) rfl ?_); (try (refine gate_guard (by rfl) ?_; dsimp only)); refine Kd.R_lit (Kd.int .u8) _ 5 ?hg (N := 10) ?hd (xs := ([] : List Int)) (inner := []) (ok := fun _ => True) (okp := fun _ => True) ?hr ?hp (fun _ hk => hk) trivial (Below.refl _ _) (Nat.le_refl _) (by simp) ?_; (case hd => rfl); (case hg => rfl); (case hr => first | (go_simp; done) | (go_simp; rfl)); (case hp => exact (Reps.none _ _)); intro v105 w3 ho4 hb hg_ hnew_; clear hg_ hnew_; (first | rw [← Ny104.out] at ho4 | (simp only [Int.reduceToNat] at ho4; rw [← Ny104.out] at ho4)); have n0_ := Aside0.mk (Kd.R_lower ho4 (below_size (by repeat (first | (with_reducible first | exact HB.out | apply below_alloc | apply pw_below_drewN | apply below_drew1) | exact HB.out)))); have n1_ := Aside0.mk (below_step (by repeat (first | (with_reducible first | exact HB.out | apply below_alloc | apply pw_below_drewN | apply below_drew1) | exact HB.out)) hb); clear HB; have HO106 := n0_; have HB := n1_; clear n0_ n1_; clear hb ho4))
  go_loopg [5, 6] k (fun kq v5 v6 w' => ∃ (x5_1 : List Int) (x6_1 : Int), v6 = .int .i64 x6_1 ∧ Aside0 (unit_unescape.l0 kq a0 a1 x5_1 x6_1 = some r) ∧ Aside0 (kq ≤ k) ∧ Aside0 (Kd.R (Kd.int .u8) 5 w' w.heap.size (fun _ => True) v5 x5_1) ∧ Aside0 (Below w.heap.size w w'))
  case atStart => exact ⟨(y104), (0), (by first | rfl | (simp; done) | (simp [*]; done)), H', ⟨Nat.le_refl _⟩, ⟨by (with_reducible repeat (first | apply Kd.R_alloc | apply Kd.R_drewN | apply Kd.R_drew)); exact HO106.out⟩, ⟨by repeat (first | (with_reducible first | exact HB.out | apply below_alloc | apply pw_below_drewN | apply below_drew1) | exact HB.out)⟩⟩
  case round =>
    clear H'
    try clear p2
    try clear c4
    obtain ⟨x5_1, x6_1, rfl, HA, HK1, HO_5, HB⟩ := hrel
    cases gk with
    | zero => exact absurd HA.out (by simp [unit_unescape.l0])
    | succ k1 =>
      have H := HA.out
      clear HA
      simp only [unit_unescape.l0] at H
      by_cases c5 : x6_1 < (a0.size : Int)
      · rw [if_pos c5] at H
        have c5b0 : decide (x6_1 < (a0.size : Int)) = true := decide_eq_true c5
        clear c5
        by_cases c6 : 0 ≤ x6_1
        · rw [if_pos c6] at H
          have c6b0 : decide (0 ≤ x6_1) = true := decide_eq_true c6
          clear c6
          by_cases c8 : (bt a0 x6_1) = 45
          · rw [if_pos c8] at H
            have c8b0 : ((bt a0 x6_1) == 45) = true := beq_iff_eq.mpr c8
            have c8b1 : ((bt a0 x6_1) != 45) = false := bne_eq_false_iff_eq.mpr c8
            clear c8
            by_cases c9 : x5_1.length < 140737488355328
            · rw [if_pos c9] at H
              have LMc9 := Aside0.mk c9
              clear c9
              obtain ⟨y120, hy120⟩ : ∃ y_ : List Int, y_ = (x5_1 ++ [47]) := ⟨_, rfl⟩
              replace H : (unit_unescape.l0 k1 a0 a1 y120 (wrap64 (x6_1 + 1))) = some r := by first | (rw [hy120]; with_reducible exact H) | (have H2_ := (Option.bind_some _ _).symm.trans H; rw [hy120]; with_reducible exact H2_) | (have H2_ := (Option.bind_some _ _).symm.trans H; with_reducible exact H2_) | with_reducible exact H | (rw [hy120]; exact H) | exact H
              have Ny120 := Aside0.mk hy120
              clear hy120
              have H' := Aside0.mk H
              clear H
              have p7 : 0 ≤ (x6_1 : Int) := of_decide_eq_true (by first | (with_reducible assumption) | assumption)
              have q7 : x6_1 < (a0.size : Int) := of_decide_eq_true (by first | (with_reducible assumption) | assumption)
              have hx7 := bt_at a0 x6_1
              replace p7 := eq_true p7
              replace q7 := eq_true q7
              go_wp2_with (first | ((with_reducible refine gate_builtin (b := .append) (xs := #[.tmp 54, .tmp 56]) rfl ?_); (try (refine gate_guard (by rfl) ?_; dsimp only)); at_builtin; refine Kd.R_append (Kd.int .u8) (w0 := w) w.heap.size rfl (.tmp 54) (.tmp 56) 33 5 (.int .u8 0) 1 rfl Tryd.underlying33 info5 rfl (by decide) (by omega) u5 x5_1 47 [.int .u8 47] (fun _ => True) (fun _ => False) rfl rfl ?aP (fun _ hk => hk.elim) ?aF ?aO ?aB ?aS ?aL ?_; (case aP => exact rfl); (case aB => exact (by repeat (first | (with_reducible first | exact HB.out | apply below_alloc | apply pw_below_drewN | apply below_drew1) | exact HB.out))); (case aF => exact (fun _ _ => trivial)); (case aO => exact (by (with_reducible repeat (first | apply Kd.R_alloc | apply Kd.R_drewN | apply Kd.R_drew)); exact HO_5.out)); (case aS => exact (below_size (by repeat (first | (with_reducible first | exact HB.out | apply below_alloc | apply pw_below_drewN | apply below_drew1) | exact HB.out)))); (case aL => have := LMc9.out; omega); intro v121 w10 ho hb hg hat; rw [← Ny120.out] at ho; have n0_ := Aside0.mk (hb); have n1_ := Aside0.mk (ho); clear HB; clear HO_5; have HB := n0_; have HO122 := n1_; clear n0_ n1_; clear ho hb hg hat))
              go_roundg k1
              case measure => have := HK1.out; omega
              case rel => exact ⟨(y120), (wrap64 (x6_1 + 1)), (by first | rfl | (simp; done) | (simp [*]; done)), H', ⟨by have := HK1.out; omega⟩, ⟨by (with_reducible repeat (first | apply Kd.R_alloc | apply Kd.R_drewN | apply Kd.R_drew)); exact HO122.out⟩, ⟨by repeat (first | (with_reducible first | exact HB.out | apply below_alloc | apply pw_below_drewN | apply below_drew1) | exact HB.out)⟩⟩
            · rw [if_neg c9] at H
              exact absurd H (by simp)
          · rw [if_neg c8] at H
            have c8b0 : ((bt a0 x6_1) == 45) = false := beq_eq_false_iff_ne.mpr c8
            have c8b1 : ((bt a0 x6_1) != 45) = true := bne_iff_ne.mpr c8
            have HC11 := Aside0.mk H
            clear H
            have p7 : 0 ≤ (x6_1 : Int) := of_decide_eq_true (by first | (with_reducible assumption) | assumption)
            have q7 : x6_1 < (a0.size : Int) := of_decide_eq_true (by first | (with_reducible assumption) | assumption)
            have hx7 := bt_at a0 x6_1
            replace p7 := eq_true p7
            replace q7 := eq_true q7
            go_upto_region 8 with (fail)
            go_cut [37] (fun v37 wc => ∃ (kq : Nat) (x37_10 : Bool), v37 = .bool x37_10 ∧ Aside0 (unit_unescape.j1 kq a0 a1 x5_1 x6_1 (bt a0 x6_1) x37_10 = some r) ∧ Aside0 (kq ≤ k1) ∧ Aside0 (Kd.R (Kd.int .u8) 5 wc w.heap.size (fun _ => True) u5 x5_1) ∧ Aside0 (Below w.heap.size w wc))
            case first =>
              have H := HC11.out
              clear HC11
              by_cases c12 : (bt a0 x6_1) = 92
              · rw [if_pos c12] at H
                have c12b0 : ((bt a0 x6_1) == 92) = true := beq_iff_eq.mpr c12
                have c12b1 : ((bt a0 x6_1) != 92) = false := bne_eq_false_iff_eq.mpr c12
                clear c12
                (first | rw [c12b0] | (simp only [i64_w, i32_w]; rw [c12b0]) | skip)
                by_cases c13 : (wrap64 ((a0.size : Int) - x6_1)) ≥ 4
                · rw [if_pos c13] at H
                  have c13b0 : decide (4 ≤ (wrap64 ((a0.size : Int) - x6_1))) = true := decide_eq_true c13
                  clear c13
                  obtain ⟨ji14, hji14⟩ : ∃ j_ : Int, (wrap64 (x6_1 + 1)) = j_ := ⟨_, rfl⟩
                  replace H : (if 0 ≤ (ji14) then (if (ji14) < (a0.size : Int) then (unit_unescape.j1 k1 a0 a1 x5_1 x6_1 (bt a0 x6_1) ((bt a0 (ji14)) == 120)) else (none)) else (none)) = some r := by first | (rw [hji14] at H; exact H) | (simp only [hji14] at H ⊢; exact H)
                  have hji14w : (IntKind.i64.wrap (x6_1 + 1)) = ji14 := (i64_w _).trans hji14
                  by_cases c15 : 0 ≤ (ji14)
                  · rw [if_pos c15] at H
                    have c15b0 : decide (0 ≤ (ji14)) = true := decide_eq_true c15
                    clear c15
                    by_cases c16 : (ji14) < (a0.size : Int)
                    · rw [if_pos c16] at H
                      have c16b0 : decide ((ji14) < (a0.size : Int)) = true := decide_eq_true c16
                      clear c16
                      have H' := Aside0.mk H
                      clear H
                      have p17 : 0 ≤ ((ji14) : Int) := of_decide_eq_true (by first | (with_reducible assumption) | assumption)
                      have q17 : (ji14) < (a0.size : Int) := of_decide_eq_true (by first | (with_reducible assumption) | assumption)
                      have hx17 := bt_at a0 (ji14)
                      replace p17 := eq_true p17
                      replace q17 := eq_true q17
                      go_wp2
                      go_meet
                      case rel => exact ⟨_, (((bt a0 (ji14)) == 120)), (by first | rfl | (simp; done) | (simp only [← hji14] <;> (first | rfl | simp)) | (simp [*]; done)), H', ⟨by have := HK1.out; first | omega | exact Nat.le_refl _⟩, ⟨by (with_reducible repeat (first | apply Kd.R_alloc | apply Kd.R_drewN | apply Kd.R_drew)); exact HO_5.out⟩, ⟨by repeat (first | (with_reducible first | exact HB.out | apply below_alloc | apply pw_below_drewN | apply below_drew1) | exact HB.out)⟩⟩
                    · rw [if_neg c16] at H
                      exact absurd H (by simp)
                  · rw [if_neg c15] at H
                    exact absurd H (by simp)
                · rw [if_neg c13] at H
                  have c13b0 : decide (4 ≤ (wrap64 ((a0.size : Int) - x6_1))) = false := decide_eq_false c13
                  clear c13
                  have H' := Aside0.mk H
                  clear H
                  go_wp2
                  go_meet
                  case rel => exact ⟨_, (false), (by first | rfl | (simp; done) | (simp [*]; done)), H', ⟨by have := HK1.out; first | omega | exact Nat.le_refl _⟩, ⟨by (with_reducible repeat (first | apply Kd.R_alloc | apply Kd.R_drewN | apply Kd.R_drew)); exact HO_5.out⟩, ⟨by repeat (first | (with_reducible first | exact HB.out | apply below_alloc | apply pw_below_drewN | apply below_drew1) | exact HB.out)⟩⟩
              · rw [if_neg c12] at H
                have c12b0 : ((bt a0 x6_1) == 92) = false := beq_eq_false_iff_ne.mpr c12
                have c12b1 : ((bt a0 x6_1) != 92) = true := bne_iff_ne.mpr c12
                (first | rw [c12b0] | (simp only [i64_w, i32_w]; rw [c12b0]) | skip)
                have H' := Aside0.mk H
                clear H
                go_wp2
                go_meet
                case rel => exact ⟨_, (false), (by first | rfl | (simp; done) | (simp [*]; done)), H', ⟨by have := HK1.out; first | omega | exact Nat.le_refl _⟩, ⟨by (with_reducible repeat (first | apply Kd.R_alloc | apply Kd.R_drewN | apply Kd.R_drew)); exact HO_5.out⟩, ⟨by repeat (first | (with_reducible first | exact HB.out | apply below_alloc | apply pw_below_drewN | apply below_drew1) | exact HB.out)⟩⟩
            case rest =>
              clear HC11
              try clear c1
              try clear p1
              try clear q1
              try clear hx1
              try clear p2
              try clear c4
              try clear c5
              try clear c5b0
              try clear c6
              try clear c6b0
              try clear p6
              try clear p7
              try clear q7
              try clear hx7
              try clear c8
              try clear c8b0
              try clear c8b1
              try clear c9
              try clear c12
              try clear c12b0
              try clear c12b1
              try clear c13
              try clear c13b0
              try clear c15
              try clear c15b0
              try clear c16
              try clear c16b0
              try clear p17
              try clear q17
              try clear hx17
              try clear p17
              try clear p2
              try clear p7
              try clear q17
              try clear q7
              obtain ⟨kq, x37_10, rfl, HA, HJ10, HO_5, HB⟩ := hcut
              cases kq with
              | zero => exact absurd HA.out (by simp [unit_unescape.j1])
              | succ kj10 =>
                have H := HA.out
                clear HA
                simp only [unit_unescape.j1] at H
                by_cases c18 : x37_10 = true
                · subst c18
                  have H1 : (if 0 ≤ (wrap64 (x6_1 + 2)) then (if (wrap64 (x6_1 + 2)) ≤ (wrap64 (x6_1 + 4)) then (if (wrap64 (x6_1 + 4)) ≤ (a0.size : Int) then ((strconv_ParseInt.f (a0.extract ((wrap64 (x6_1 + 2)) : Int).toNat ((wrap64 (x6_1 + 4)) : Int).toNat) 16 8).bind fun bt123 => (if bt123.2.isNone = true then (if x5_1.length < 140737488355328 then (unit_unescape.l0 kj10 a0 a1 (x5_1 ++ [(bt123.1) % 256]) (wrap64 ((wrap64 (x6_1 + 3)) + 1))) else (none)) else (if x5_1.length < 140737488355328 then (unit_unescape.l0 kj10 a0 a1 (x5_1 ++ [(bt a0 x6_1)]) (wrap64 (x6_1 + 1))) else (none)))) else (none)) else (none)) else (none)) = some r := by rw [if_pos rfl] at H; exact H
                  clear H
                  have H := H1
                  clear H1
                  obtain ⟨ji19, hji19⟩ : ∃ j_ : Int, (wrap64 (x6_1 + 2)) = j_ := ⟨_, rfl⟩
                  replace H : (if 0 ≤ (ji19) then (if (ji19) ≤ (wrap64 (x6_1 + 4)) then (if (wrap64 (x6_1 + 4)) ≤ (a0.size : Int) then ((strconv_ParseInt.f (a0.extract ((ji19) : Int).toNat ((wrap64 (x6_1 + 4)) : Int).toNat) 16 8).bind fun bt123 => (if bt123.2.isNone = true then (if x5_1.length < 140737488355328 then (unit_unescape.l0 kj10 a0 a1 (x5_1 ++ [(bt123.1) % 256]) (wrap64 ((wrap64 (x6_1 + 3)) + 1))) else (none)) else (if x5_1.length < 140737488355328 then (unit_unescape.l0 kj10 a0 a1 (x5_1 ++ [(bt a0 x6_1)]) (wrap64 (x6_1 + 1))) else (none)))) else (none)) else (none)) else (none)) = some r := by first | (rw [hji19] at H; exact H) | (simp only [hji19] at H ⊢; exact H)
                  have hji19w : (IntKind.i64.wrap (x6_1 + 2)) = ji19 := (i64_w _).trans hji19
                  by_cases c20 : 0 ≤ (ji19)
                  · rw [if_pos c20] at H
                    have c20b0 := eq_true c20
                    have c20b1 : decide (0 ≤ (ji19)) = true := decide_eq_true c20
                    clear c20
                    by_cases c21 : (ji19) ≤ (wrap64 (x6_1 + 4))
                    · rw [if_pos c21] at H
                      have c21b0 := eq_true c21
                      have c21b1 : decide ((ji19) ≤ (wrap64 (x6_1 + 4))) = true := decide_eq_true c21
                      by_cases c22 : (wrap64 (x6_1 + 4)) ≤ (a0.size : Int)
                      · rw [if_pos c22] at H
                        have c22b0 := eq_true c22
                        have c22b1 : decide ((wrap64 (x6_1 + 4)) ≤ (a0.size : Int)) = true := decide_eq_true c22
                        replace H := Option.bind_eq_some_iff.mp H
                        obtain ⟨⟨t123, t124⟩, A230, H⟩ := H
                        replace H : (if t124.isNone = true then (if x5_1.length < 140737488355328 then (unit_unescape.l0 kj10 a0 a1 (x5_1 ++ [(t123) % 256]) (wrap64 ((wrap64 (x6_1 + 3)) + 1))) else (none)) else (if x5_1.length < 140737488355328 then (unit_unescape.l0 kj10 a0 a1 (x5_1 ++ [(bt a0 x6_1)]) (wrap64 (x6_1 + 1))) else (none))) = some r := H
                        have A23 := Aside0.mk A230
                        clear A230
                        rcases t124 with _ | q125
                        · have H1 : (if x5_1.length < 140737488355328 then (unit_unescape.l0 kj10 a0 a1 (x5_1 ++ [(t123) % 256]) (wrap64 ((wrap64 (x6_1 + 3)) + 1))) else (none)) = some r := by rw [if_pos (show (none : Option Int).isNone = true by rfl)] at H; exact H
                          clear H
                          have H := H1
                          clear H1
                          try simp only [errW_none, errW_some]
                          by_cases c24 : x5_1.length < 140737488355328
                          · rw [if_pos c24] at H
                            have LMc24 := Aside0.mk c24
                            clear c24
                            obtain ⟨y126, hy126⟩ : ∃ y_ : List Int, y_ = (x5_1 ++ [(t123) % 256]) := ⟨_, rfl⟩
                            replace H : (unit_unescape.l0 kj10 a0 a1 y126 (wrap64 ((wrap64 (x6_1 + 3)) + 1))) = some r := by first | (rw [hy126]; with_reducible exact H) | (have H2_ := (Option.bind_some _ _).symm.trans H; rw [hy126]; with_reducible exact H2_) | (have H2_ := (Option.bind_some _ _).symm.trans H; with_reducible exact H2_) | with_reducible exact H | (rw [hy126]; exact H) | exact H
                            have Ny126 := Aside0.mk hy126
                            clear hy126
                            have H' := Aside0.mk H
                            clear H
                            go_wp2_with (first | ((with_reducible refine gate_callee (f := 58) rfl ?_); refine goesL_ (some 45) rfl rfl Tryd.func58 (by kernel_rfl) rfl #[.string (a0.extract ((ji19) : Int).toNat ((wrap64 (x6_1 + 4)) : Int).toNat), .int .i64 16, .int .i64 8] rfl (by (try simp only [List.map_toArray, List.map_cons, List.map_nil]); first | done | (simp only [hji19]; rfl) | rfl | (simp only [List.length_drop, List.length_take]; rfl)) ?_; (with_reducible refine (strconv_ParseInt.calls (a0.extract ((ji19) : Int).toNat ((wrap64 (x6_1 + 4)) : Int).toNat) 16 8 t123 none _ A23.out).mono ?_); rintro e w25 ⟨rfl, hb⟩; refine ⟨_, rfl, ?_⟩; have n0_ := Aside0.mk (Kd.R_below (by (with_reducible repeat (first | apply Kd.R_alloc | apply Kd.R_drewN | apply Kd.R_drew)); exact HO_5.out) hb); have n1_ := Aside0.mk (below_step (by repeat (first | (with_reducible first | exact HB.out | apply below_alloc | apply pw_below_drewN | apply below_drew1) | exact HB.out)) hb); clear HO_5; clear HB; have HO_5 := n0_; have HB := n1_; clear n0_ n1_; (try clear hb); (try clear hb2); (try clear hk); (try clear hi); (try simp only [errW_none, errW_some])) | ((with_reducible refine gate_builtin (b := .append) (xs := #[.tmp 54, .tmp 56]) rfl ?_); (try (refine gate_guard (by rfl) ?_; dsimp only)); at_builtin; refine Kd.R_append (Kd.int .u8) (w0 := w) w.heap.size rfl (.tmp 54) (.tmp 56) 33 5 (.int .u8 0) 1 rfl Tryd.underlying33 info5 rfl (by decide) (by omega) u5 x5_1 ((t123) % 256) [.int .u8 ((t123) % 256)] (fun _ => True) (fun _ => False) rfl rfl ?aP (fun _ hk => hk.elim) ?aF ?aO ?aB ?aS ?aL ?_; (case aP => exact rfl); (case aB => exact (by repeat (first | (with_reducible first | exact HB.out | apply below_alloc | apply pw_below_drewN | apply below_drew1) | exact HB.out))); (case aF => exact (fun _ _ => trivial)); (case aO => exact (by (with_reducible repeat (first | apply Kd.R_alloc | apply Kd.R_drewN | apply Kd.R_drew)); exact HO_5.out)); (case aS => exact (below_size (by repeat (first | (with_reducible first | exact HB.out | apply below_alloc | apply pw_below_drewN | apply below_drew1) | exact HB.out)))); (case aL => have := LMc24.out; omega); intro v127 w26 ho hb hg hat; rw [← Ny126.out] at ho; have n0_ := Aside0.mk (hb); have n1_ := Aside0.mk (ho); clear HB; clear HO_5; have HB := n0_; have HO128 := n1_; clear n0_ n1_; clear ho hb hg hat))
                            go_roundg kj10
                            case measure => have := HK1.out; have := HJ10.out; omega
                            case rel => exact ⟨(y126), (wrap64 ((wrap64 (x6_1 + 3)) + 1)), (by first | rfl | (simp; done) | (simp [*]; done)), H', ⟨by have := HK1.out; have := HJ10.out; omega⟩, ⟨by (with_reducible repeat (first | apply Kd.R_alloc | apply Kd.R_drewN | apply Kd.R_drew)); exact HO128.out⟩, ⟨by repeat (first | (with_reducible first | exact HB.out | apply below_alloc | apply pw_below_drewN | apply below_drew1) | exact HB.out)⟩⟩
                          · rw [if_neg c24] at H
                            exact absurd H (by simp)
                        · have H1 : (if x5_1.length < 140737488355328 then (unit_unescape.l0 kj10 a0 a1 (x5_1 ++ [(bt a0 x6_1)]) (wrap64 (x6_1 + 1))) else (none)) = some r := by rw [if_neg (show ¬ (some q125).isNone = true by simp)] at H; exact H
                          clear H
                          have H := H1
                          clear H1
                          try simp only [errW_none, errW_some]
                          by_cases c27 : x5_1.length < 140737488355328
                          · rw [if_pos c27] at H
                            have LMc27 := Aside0.mk c27
                            clear c27
                            obtain ⟨y129, hy129⟩ : ∃ y_ : List Int, y_ = (x5_1 ++ [(bt a0 x6_1)]) := ⟨_, rfl⟩
                            replace H : (unit_unescape.l0 kj10 a0 a1 y129 (wrap64 (x6_1 + 1))) = some r := by first | (rw [hy129]; with_reducible exact H) | (have H2_ := (Option.bind_some _ _).symm.trans H; rw [hy129]; with_reducible exact H2_) | (have H2_ := (Option.bind_some _ _).symm.trans H; with_reducible exact H2_) | with_reducible exact H | (rw [hy129]; exact H) | exact H
                            have Ny129 := Aside0.mk hy129
                            clear hy129
                            have H' := Aside0.mk H
                            clear H
                            go_wp2_with (first | ((with_reducible refine gate_callee (f := 58) rfl ?_); refine goesL_ (some 45) rfl rfl Tryd.func58 (by kernel_rfl) rfl #[.string (a0.extract ((ji19) : Int).toNat ((wrap64 (x6_1 + 4)) : Int).toNat), .int .i64 16, .int .i64 8] rfl (by (try simp only [List.map_toArray, List.map_cons, List.map_nil]); first | done | (simp only [hji19]; rfl) | rfl | (simp only [List.length_drop, List.length_take]; rfl)) ?_; (with_reducible refine (strconv_ParseInt.calls (a0.extract ((ji19) : Int).toNat ((wrap64 (x6_1 + 4)) : Int).toNat) 16 8 t123 (some q125) _ A23.out).mono ?_); rintro e w28 ⟨rfl, hb⟩; refine ⟨_, rfl, ?_⟩; have n0_ := Aside0.mk (Kd.R_below (by (with_reducible repeat (first | apply Kd.R_alloc | apply Kd.R_drewN | apply Kd.R_drew)); exact HO_5.out) hb); have n1_ := Aside0.mk (below_step (by repeat (first | (with_reducible first | exact HB.out | apply below_alloc | apply pw_below_drewN | apply below_drew1) | exact HB.out)) hb); clear HO_5; clear HB; have HO_5 := n0_; have HB := n1_; clear n0_ n1_; (try clear hb); (try clear hb2); (try clear hk); (try clear hi); (try simp only [errW_none, errW_some])) | ((with_reducible refine gate_builtin (b := .append) (xs := #[.tmp 54, .tmp 56]) rfl ?_); (try (refine gate_guard (by rfl) ?_; dsimp only)); at_builtin; refine Kd.R_append (Kd.int .u8) (w0 := w) w.heap.size rfl (.tmp 54) (.tmp 56) 33 5 (.int .u8 0) 1 rfl Tryd.underlying33 info5 rfl (by decide) (by omega) u5 x5_1 (bt a0 x6_1) [.int .u8 (bt a0 x6_1)] (fun _ => True) (fun _ => False) rfl rfl ?aP (fun _ hk => hk.elim) ?aF ?aO ?aB ?aS ?aL ?_; (case aP => exact rfl); (case aB => exact (by repeat (first | (with_reducible first | exact HB.out | apply below_alloc | apply pw_below_drewN | apply below_drew1) | exact HB.out))); (case aF => exact (fun _ _ => trivial)); (case aO => exact (by (with_reducible repeat (first | apply Kd.R_alloc | apply Kd.R_drewN | apply Kd.R_drew)); exact HO_5.out)); (case aS => exact (below_size (by repeat (first | (with_reducible first | exact HB.out | apply below_alloc | apply pw_below_drewN | apply below_drew1) | exact HB.out)))); (case aL => have := LMc27.out; omega); intro v130 w29 ho hb hg hat; rw [← Ny129.out] at ho; have n0_ := Aside0.mk (hb); have n1_ := Aside0.mk (ho); clear HB; clear HO_5; have HB := n0_; have HO131 := n1_; clear n0_ n1_; clear ho hb hg hat))
                            go_roundg kj10
                            case measure => have := HK1.out; have := HJ10.out; omega
                            case rel => exact ⟨(y129), (wrap64 (x6_1 + 1)), (by first | rfl | (simp; done) | (simp [*]; done)), H', ⟨by have := HK1.out; have := HJ10.out; omega⟩, ⟨by (with_reducible repeat (first | apply Kd.R_alloc | apply Kd.R_drewN | apply Kd.R_drew)); exact HO131.out⟩, ⟨by repeat (first | (with_reducible first | exact HB.out | apply below_alloc | apply pw_below_drewN | apply below_drew1) | exact HB.out)⟩⟩
                          · rw [if_neg c27] at H
                            exact absurd H (by simp)
                      · rw [if_neg c22] at H
                        exact absurd H (by simp)
                    · rw [if_neg c21] at H
                      exact absurd H (by simp)
                  · rw [if_neg c20] at H
                    exact absurd H (by simp)
                · replace c18 := Bool.eq_false_iff.mpr c18
                  subst c18
                  have H1 : (if x5_1.length < 140737488355328 then (unit_unescape.l0 kj10 a0 a1 (x5_1 ++ [(bt a0 x6_1)]) (wrap64 (x6_1 + 1))) else (none)) = some r := by rw [if_neg (show ¬ (false = true) by decide)] at H; exact H
                  clear H
                  have H := H1
                  clear H1
                  by_cases c30 : x5_1.length < 140737488355328
                  · rw [if_pos c30] at H
                    have LMc30 := Aside0.mk c30
                    clear c30
                    obtain ⟨y132, hy132⟩ : ∃ y_ : List Int, y_ = (x5_1 ++ [(bt a0 x6_1)]) := ⟨_, rfl⟩
                    replace H : (unit_unescape.l0 kj10 a0 a1 y132 (wrap64 (x6_1 + 1))) = some r := by first | (rw [hy132]; with_reducible exact H) | (have H2_ := (Option.bind_some _ _).symm.trans H; rw [hy132]; with_reducible exact H2_) | (have H2_ := (Option.bind_some _ _).symm.trans H; with_reducible exact H2_) | with_reducible exact H | (rw [hy132]; exact H) | exact H
                    have Ny132 := Aside0.mk hy132
                    clear hy132
                    have H' := Aside0.mk H
                    clear H
                    go_wp2_with (first | ((with_reducible refine gate_builtin (b := .append) (xs := #[.tmp 54, .tmp 56]) rfl ?_); (try (refine gate_guard (by rfl) ?_; dsimp only)); at_builtin; refine Kd.R_append (Kd.int .u8) (w0 := w) w.heap.size rfl (.tmp 54) (.tmp 56) 33 5 (.int .u8 0) 1 rfl Tryd.underlying33 info5 rfl (by decide) (by omega) u5 x5_1 (bt a0 x6_1) [.int .u8 (bt a0 x6_1)] (fun _ => True) (fun _ => False) rfl rfl ?aP (fun _ hk => hk.elim) ?aF ?aO ?aB ?aS ?aL ?_; (case aP => exact rfl); (case aB => exact (by repeat (first | (with_reducible first | exact HB.out | apply below_alloc | apply pw_below_drewN | apply below_drew1) | exact HB.out))); (case aF => exact (fun _ _ => trivial)); (case aO => exact (by (with_reducible repeat (first | apply Kd.R_alloc | apply Kd.R_drewN | apply Kd.R_drew)); exact HO_5.out)); (case aS => exact (below_size (by repeat (first | (with_reducible first | exact HB.out | apply below_alloc | apply pw_below_drewN | apply below_drew1) | exact HB.out)))); (case aL => have := LMc30.out; omega); intro v133 w31 ho hb hg hat; rw [← Ny132.out] at ho; have n0_ := Aside0.mk (hb); have n1_ := Aside0.mk (ho); clear HB; clear HO_5; have HB := n0_; have HO134 := n1_; clear n0_ n1_; clear ho hb hg hat))
                    go_roundg kj10
                    case measure => have := HK1.out; have := HJ10.out; omega
                    case rel => exact ⟨(y132), (wrap64 (x6_1 + 1)), (by first | rfl | (simp; done) | (simp [*]; done)), H', ⟨by have := HK1.out; have := HJ10.out; omega⟩, ⟨by (with_reducible repeat (first | apply Kd.R_alloc | apply Kd.R_drewN | apply Kd.R_drew)); exact HO134.out⟩, ⟨by repeat (first | (with_reducible first | exact HB.out | apply below_alloc | apply pw_below_drewN | apply below_drew1) | exact HB.out)⟩⟩
                  · rw [if_neg c30] at H
                    exact absurd H (by simp)
        · rw [if_neg c6] at H
          exact absurd H (by simp)
      · rw [if_neg c5] at H
        have c5b0 : decide (x6_1 < (a0.size : Int)) = false := decide_eq_false c5
        clear c5
        by_cases c32 : a1 = true
        · subst c32
          have H1 : (if (x5_1.length : Int) = 0 then none else (if 0 < (x5_1.length : Int) then (if (rd x5_1 0) = 47 then (some (strOfNums x5_1)) else ((some (([47] : List Int) : List Int)).bind fun y114 => (if y114.length + x5_1.length < 140737488355328 then (some (strOfNums (y114 ++ x5_1))) else (none)))) else (none))) = some r := by rw [if_pos rfl] at H; exact H
          clear H
          have H := H1
          clear H1
          by_cases c33 : (x5_1.length : Int) = 0
          · rw [if_pos c33] at H
            exact absurd H (by simp)
          · rw [if_neg c33] at H
            have c33b0 : ((x5_1.length : Int) == 0) = false := beq_eq_false_iff_ne.mpr c33
            have c33b1 : ((x5_1.length : Int) != 0) = true := bne_iff_ne.mpr c33
            have c33b2 : ¬ (x5_1 = []) := fun h_ => c33 (by rw [h_]; rfl)
            by_cases c40 : 0 < (x5_1.length : Int)
            · rw [if_pos c40] at H
              have c40b0 : decide (0 < (x5_1.length : Int)) = true := decide_eq_true c40
              have c40b1 : decide (0 < x5_1.length) = true := decide_eq_true (by omega)
              clear c40
              by_cases c41 : (rd x5_1 0) = 47
              · rw [if_pos c41] at H
                have c41b0 : ((rd x5_1 0) == 47) = true := beq_iff_eq.mpr c41
                have c41b1 : ((rd x5_1 0) != 47) = false := bne_eq_false_iff_eq.mpr c41
                clear c41
                obtain rfl := Option.some.inj H
                obtain ⟨Ao42, co42, eo42⟩ := Kd.R_slice HO_5.out
                subst eo42
                have p113 : 0 ≤ (0 : Int) := (by omega)
                have q113 : 0 < (x5_1.length : Int) := of_decide_eq_true (by first | (with_reducible assumption) | assumption)
                obtain ⟨ad113, e113, hx113_0⟩ := Kd.at_int (Kd.R_reads' HO_5.out).2.2 0 p113 q113
                cases e113
                have qi113 : (0 < x5_1.length) = True := eq_true (by omega)
                (try rw [show ((0 : Int)).toNat = 0 from rfl] at hx113_0)
                (try rw [Addr.add_zero'] at hx113_0)
                replace p113 := eq_true p113
                replace q113 := eq_true q113
                have hcv43 := own_string (P := Tryd.prog) Tryd.underlying33 Tryd.underlying5 Tryd.underlying9 (Kd.own_of_R HO_5.out)
                go_wp2
                go_ret
                exact ⟨by first | rfl | (simp [errW_none, errW_some] <;> rfl) | (simp [*, errW_none, errW_some] <;> rfl), by repeat (first | (with_reducible first | exact HB.out | apply below_alloc | apply pw_below_drewN | apply below_drew1) | exact HB.out)⟩
              · rw [if_neg c41] at H
                have c41b0 : ((rd x5_1 0) == 47) = false := beq_eq_false_iff_ne.mpr c41
                have c41b1 : ((rd x5_1 0) != 47) = true := bne_iff_ne.mpr c41
                simp only [Option.bind_some] at H
                by_cases c44 : ([47] : List Int).length + x5_1.length < 140737488355328
                · rw [if_pos c44] at H
                  have LMc44 := Aside0.mk c44
                  clear c44
                  obtain rfl := Option.some.inj H
                  have kc := fun (w : World) (C : Array Value) (n c : Nat) => Lib.run_convert_bytes_const (P := Tryd.prog) w 33 5 C n c Tryd.underlying33 Tryd.underlying5
                  have q113 : 0 < (x5_1.length : Int) := of_decide_eq_true (by first | (with_reducible assumption) | assumption)
                  obtain ⟨Ao45, co45, eo45, hlc, hC45⟩ := Kd.R_reads HO_5.out
                  subst eo45
                  obtain ⟨ad113, e113, hx113_0⟩ := Kd.at_int hC45 0 (by omega) q113
                  cases e113
                  have hcs := row_cells hC45
                  have HCS := Aside0.mk hcs
                  clear hcs hC45
                  have qi113 : (0 < x5_1.length) = True := eq_true (by omega)
                  (try rw [show ((0 : Int)).toNat = 0 from rfl] at hx113_0)
                  (try rw [Addr.add_zero'] at hx113_0)
                  obtain ⟨i0, hi, hz0, hz1, hz2⟩ := info_parts info5
                  go_wp2_with (at_builtin; refine wpList_append_grows _ rfl (.tmp 71) (.tmp 72) 33 rfl 5 i0 (.int .u8 0) 1 1 Tryd.underlying33 hi hz0 hz1 hz2 rfl (by decide) _ 1 1 [.int .u8 47] rfl (fun h => by cases h) rfl ?c1 ad113 x5_1.length co45 (nums .u8 x5_1) rfl (by rw [nums_length, Nat.mul_one]) ?c2 ?c3 (by omega) ?c4 ?c5 ?_)
                  case c1 =>
                    intro j u hj
                    match j, hj with
                    | 0, hj => simp at hj; subst hj; exact World.cell?_alloc_mark _ _ _ _ 0
                  case c2 =>
                    intro j u hj
                    have h1 := HCS.out j u hj
                    exact pw_cell_below (by repeat (first | exact Below.refl _ _ | apply below_alloc | apply pw_below_drewN | apply below_drew1)) h1
                  case c3 => intro u hu; rw [nums, List.mem_map] at hu; obtain ⟨x, _, rfl⟩ := hu; rfl
                  case c4 => have := LMc44.out; unfold maxLen; simp at this; omega
                  case c5 => have := LMc44.out; simp at this; omega
                  · intro v9 w9 hown9 hgr9
                    obtain ⟨bq, ho9⟩ : ∃ b, w9.ownsRow b 5 1 v9 (([47] : List Int) ++ x5_1).length (nums .u8 ([47] ++ x5_1)) := by
                      rw [nums_append, List.length_append]; exact ⟨_, hown9⟩
                    have hcv9 := own_string (P := Tryd.prog) Tryd.underlying33 Tryd.underlying5 Tryd.underlying9 ho9
                    go_wp2
                    go_ret
                    refine ⟨rfl, ?_⟩
                    exact pw_below_grown (below_alloc HB.out _) none (below_size (below_alloc HB.out _)) hgr9 (fun k hk => by cases hk)
                · rw [if_neg c44] at H
                  exact absurd H (by simp)
            · rw [if_neg c40] at H
              exact absurd H (by simp)
        · replace c32 := Bool.eq_false_iff.mpr c32
          subst c32
          have H1 : (some (strOfNums x5_1)) = some r := by rw [if_neg (show ¬ (false = true) by decide)] at H; exact H
          clear H
          have H := H1
          clear H1
          obtain rfl := Option.some.inj H
          have hcv50 := own_string (P := Tryd.prog) Tryd.underlying33 Tryd.underlying5 Tryd.underlying9 (Kd.own_of_R HO_5.out)
          go_wp2
          go_ret
          exact ⟨by first | rfl | (simp [errW_none, errW_some] <;> rfl) | (simp [*, errW_none, errW_some] <;> rfl), by repeat (first | (with_reducible first | exact HB.out | apply below_alloc | apply pw_below_drewN | apply below_drew1) | exact HB.out)⟩


/-! ### unit_UnitNamePathUnescape: function 32 -/
def unit_UnitNamePathUnescape.f (k : Nat) (a0 : ByteArray) : Option (ByteArray) := (unit_unescape.f k a0 true).bind fun t104 => (some t104)
theorem unit_UnitNamePathUnescape.mono : ∀ a0 k, LeO (unit_UnitNamePathUnescape.f k a0) (unit_UnitNamePathUnescape.f (k + 1) a0) := by
  intro a0 k
  unfold unit_UnitNamePathUnescape.f
  repeat' first
      | (with_reducible exact unit_unescape.mono _ _ _)
      | (with_reducible exact LeO.refl _)
      | (with_reducible exact LeO.none _)
      | (with_reducible refine LeO.ite ?_ ?_)
      | (with_reducible refine LeO.bind ?_ (fun _ => ?_))
      | exact unit_unescape.mono _ _ _
      | exact LeO.none _
      | refine LeO.ite ?_ ?_
      | refine LeO.bind ?_ (fun _ => ?_)
set_option maxHeartbeats 8000000 in
set_option maxRecDepth 100000 in
theorem unit_UnitNamePathUnescape.calls (k : Nat) (a0 : ByteArray) (r : ByteArray) (w : World) (h : unit_UnitNamePathUnescape.f k a0 = some r) :
    Calls Tryd.prog 32 #[.string a0] w fun e w' => e = .returned (.string r) ∧ Below w.heap.size w w' := by
  have HB := Aside0.mk (Below.refl w.heap.size w)
  have H : ((unit_unescape.f k a0 true).bind fun t104 => (some t104)) = some r := h
  clear h
  replace H := Option.bind_eq_some_iff.mp H
  obtain ⟨t104, A20, H⟩ := H
  replace H : (some t104) = some r := H
  have A2 := Aside0.mk A20
  clear A20
  obtain rfl := Option.some.inj H
  go_enter Tryd.func32, Tryd.ntmps32
  go_wp2_with (first | ((with_reducible refine gate_callee (f := 46) rfl ?_); refine goesL_ (some 4) rfl rfl Tryd.func46 (by kernel_rfl) rfl #[.string a0, .bool true] rfl (by (try simp only [List.map_toArray, List.map_cons, List.map_nil]); first | done | rfl | (simp only [List.length_drop, List.length_take]; rfl)) ?_; (with_reducible refine (unit_unescape.calls k a0 true t104 _ A2.out).mono ?_); rintro e w3 ⟨rfl, hb⟩; refine ⟨_, rfl, ?_⟩; have n0_ := Aside0.mk (below_step (by repeat (first | (with_reducible first | exact HB.out | apply below_alloc | apply pw_below_drewN | apply below_drew1) | exact HB.out)) hb); clear HB; have HB := n0_; clear n0_; (try clear hb); (try clear hb2); (try clear hk); (try clear hi)))
  go_ret
  exact ⟨by first | rfl | (simp [errW_none, errW_some] <;> rfl) | (simp [*, errW_none, errW_some] <;> rfl), by repeat (first | (with_reducible first | exact HB.out | apply below_alloc | apply pw_below_drewN | apply below_drew1) | exact HB.out)⟩

/-! ### impl_PathUnescape: function 11 -/
def impl_PathUnescape.f (k : Nat) (a0 : ByteArray) : Option (ByteArray) := (unit_UnitNamePathUnescape.f k a0).bind fun t105 => (some t105)
theorem impl_PathUnescape.mono : ∀ a0 k, LeO (impl_PathUnescape.f k a0) (impl_PathUnescape.f (k + 1) a0) := by
  intro a0 k
  unfold impl_PathUnescape.f
  repeat' first
      | (with_reducible exact unit_UnitNamePathUnescape.mono _ _)
      | (with_reducible exact LeO.refl _)
      | (with_reducible exact LeO.none _)
      | (with_reducible refine LeO.ite ?_ ?_)
      | (with_reducible refine LeO.bind ?_ (fun _ => ?_))
      | exact unit_UnitNamePathUnescape.mono _ _
      | exact LeO.none _
      | refine LeO.ite ?_ ?_
      | refine LeO.bind ?_ (fun _ => ?_)
set_option maxHeartbeats 8000000 in
set_option maxRecDepth 100000 in
theorem impl_PathUnescape.calls (k : Nat) (a0 : ByteArray) (r : ByteArray) (w : World) (h : impl_PathUnescape.f k a0 = some r) :
    Calls Tryd.prog 11 #[.string a0] w fun e w' => e = .returned (.string r) ∧ Below w.heap.size w w' := by
  have HB := Aside0.mk (Below.refl w.heap.size w)
  have H : ((unit_UnitNamePathUnescape.f k a0).bind fun t105 => (some t105)) = some r := h
  clear h
  replace H := Option.bind_eq_some_iff.mp H
  obtain ⟨t105, A20, H⟩ := H
  replace H : (some t105) = some r := H
  have A2 := Aside0.mk A20
  clear A20
  obtain rfl := Option.some.inj H
  go_enter Tryd.func11, Tryd.ntmps11
  go_wp2_with (first | ((with_reducible refine gate_callee (f := 32) rfl ?_); refine goesL_ (some 4) rfl rfl Tryd.func32 (by kernel_rfl) rfl #[.string a0] rfl (by (try simp only [List.map_toArray, List.map_cons, List.map_nil]); first | done | rfl | (simp only [List.length_drop, List.length_take]; rfl)) ?_; (with_reducible refine (unit_UnitNamePathUnescape.calls k a0 t105 _ A2.out).mono ?_); rintro e w3 ⟨rfl, hb⟩; refine ⟨_, rfl, ?_⟩; have n0_ := Aside0.mk (below_step (by repeat (first | (with_reducible first | exact HB.out | apply below_alloc | apply pw_below_drewN | apply below_drew1) | exact HB.out)) hb); clear HB; have HB := n0_; clear n0_; (try clear hb); (try clear hb2); (try clear hk); (try clear hi)))
  go_ret
  exact ⟨by first | rfl | (simp [errW_none, errW_some] <;> rfl) | (simp [*, errW_none, errW_some] <;> rfl), by repeat (first | (with_reducible first | exact HB.out | apply below_alloc | apply pw_below_drewN | apply below_drew1) | exact HB.out)⟩

/-! ### strings_IndexByte: function 59: by hand -/
def strings_IndexByte.f (a0 : ByteArray) (a1 : Int) : Option (Int) := some (Lib.indexByte a0.data.toList a1.toNat.toUInt8)
theorem strings_IndexByte.calls (a0 : ByteArray) (a1 : Int) (r : Int) (w : World) (h : strings_IndexByte.f a0 a1 = some r) :
    Calls Tryd.prog 59 #[.string a0, .int .u8 a1] w fun e w' => e = .returned (.int .i64 r) ∧ Drawn0 w w' := by
  obtain rfl := Option.some.inj h
  exact (Tryd.strings_IndexByte a0 a1 w).mono fun e w' ⟨he, hw⟩ => ⟨he, hw ▸ Drawn0.refl w⟩

/-! ### unit_zzHex: function 60 -/
def unit_zzHex.f (a0 : Int) : Option (ByteArray) := if a0 ≥ 16 then (if 0 ≤ (a0 / 16) then (if (a0 / 16) ≤ (((a0 / 16) + 1) % 256) then (if (((a0 / 16) + 1) % 256) ≤ 16 then (if 2 + ((⟨#[48, 49, 50, 51, 52, 53, 54, 55, 56, 57, 97, 98, 99, 100, 101, 102]⟩ : ByteArray).extract ((a0 / 16) : Int).toNat ((((a0 / 16) + 1) % 256) : Int).toNat).size ≤ 9223372036854775807 then (if 0 ≤ (Go.bits .and .u8 a0 15) then (if (Go.bits .and .u8 a0 15) ≤ (((Go.bits .and .u8 a0 15) + 1) % 256) then (if (((Go.bits .and .u8 a0 15) + 1) % 256) ≤ 16 then (if ((⟨#[92, 120]⟩ : ByteArray) ++ ((⟨#[48, 49, 50, 51, 52, 53, 54, 55, 56, 57, 97, 98, 99, 100, 101, 102]⟩ : ByteArray).extract ((a0 / 16) : Int).toNat ((((a0 / 16) + 1) % 256) : Int).toNat)).size + ((⟨#[48, 49, 50, 51, 52, 53, 54, 55, 56, 57, 97, 98, 99, 100, 101, 102]⟩ : ByteArray).extract ((Go.bits .and .u8 a0 15) : Int).toNat ((((Go.bits .and .u8 a0 15) + 1) % 256) : Int).toNat).size ≤ 9223372036854775807 then (some (((⟨#[92, 120]⟩ : ByteArray) ++ ((⟨#[48, 49, 50, 51, 52, 53, 54, 55, 56, 57, 97, 98, 99, 100, 101, 102]⟩ : ByteArray).extract ((a0 / 16) : Int).toNat ((((a0 / 16) + 1) % 256) : Int).toNat)) ++ ((⟨#[48, 49, 50, 51, 52, 53, 54, 55, 56, 57, 97, 98, 99, 100, 101, 102]⟩ : ByteArray).extract ((Go.bits .and .u8 a0 15) : Int).toNat ((((Go.bits .and .u8 a0 15) + 1) % 256) : Int).toNat))) else (none)) else (none)) else (none)) else (none)) else (none)) else (none)) else (none)) else (none)) else (if 0 ≤ (Go.bits .and .u8 a0 15) then (if (Go.bits .and .u8 a0 15) ≤ (((Go.bits .and .u8 a0 15) + 1) % 256) then (if (((Go.bits .and .u8 a0 15) + 1) % 256) ≤ 16 then (if 2 + ((⟨#[48, 49, 50, 51, 52, 53, 54, 55, 56, 57, 97, 98, 99, 100, 101, 102]⟩ : ByteArray).extract ((Go.bits .and .u8 a0 15) : Int).toNat ((((Go.bits .and .u8 a0 15) + 1) % 256) : Int).toNat).size ≤ 9223372036854775807 then (some ((⟨#[92, 120]⟩ : ByteArray) ++ ((⟨#[48, 49, 50, 51, 52, 53, 54, 55, 56, 57, 97, 98, 99, 100, 101, 102]⟩ : ByteArray).extract ((Go.bits .and .u8 a0 15) : Int).toNat ((((Go.bits .and .u8 a0 15) + 1) % 256) : Int).toNat))) else (none)) else (none)) else (none)) else (none))
set_option maxHeartbeats 8000000 in
set_option maxRecDepth 100000 in
theorem unit_zzHex.calls (a0 : Int) (r : ByteArray) (w : World) (h : unit_zzHex.f a0 = some r) :
    Calls Tryd.prog 60 #[.int .u8 a0] w fun e w' => e = .returned (.string r) ∧ Drawn0 w w' := by
  have H : (if a0 ≥ 16 then (if 0 ≤ (a0 / 16) then (if (a0 / 16) ≤ (((a0 / 16) + 1) % 256) then (if (((a0 / 16) + 1) % 256) ≤ 16 then (if 2 + ((⟨#[48, 49, 50, 51, 52, 53, 54, 55, 56, 57, 97, 98, 99, 100, 101, 102]⟩ : ByteArray).extract ((a0 / 16) : Int).toNat ((((a0 / 16) + 1) % 256) : Int).toNat).size ≤ 9223372036854775807 then (if 0 ≤ (Go.bits .and .u8 a0 15) then (if (Go.bits .and .u8 a0 15) ≤ (((Go.bits .and .u8 a0 15) + 1) % 256) then (if (((Go.bits .and .u8 a0 15) + 1) % 256) ≤ 16 then (if ((⟨#[92, 120]⟩ : ByteArray) ++ ((⟨#[48, 49, 50, 51, 52, 53, 54, 55, 56, 57, 97, 98, 99, 100, 101, 102]⟩ : ByteArray).extract ((a0 / 16) : Int).toNat ((((a0 / 16) + 1) % 256) : Int).toNat)).size + ((⟨#[48, 49, 50, 51, 52, 53, 54, 55, 56, 57, 97, 98, 99, 100, 101, 102]⟩ : ByteArray).extract ((Go.bits .and .u8 a0 15) : Int).toNat ((((Go.bits .and .u8 a0 15) + 1) % 256) : Int).toNat).size ≤ 9223372036854775807 then (some (((⟨#[92, 120]⟩ : ByteArray) ++ ((⟨#[48, 49, 50, 51, 52, 53, 54, 55, 56, 57, 97, 98, 99, 100, 101, 102]⟩ : ByteArray).extract ((a0 / 16) : Int).toNat ((((a0 / 16) + 1) % 256) : Int).toNat)) ++ ((⟨#[48, 49, 50, 51, 52, 53, 54, 55, 56, 57, 97, 98, 99, 100, 101, 102]⟩ : ByteArray).extract ((Go.bits .and .u8 a0 15) : Int).toNat ((((Go.bits .and .u8 a0 15) + 1) % 256) : Int).toNat))) else (none)) else (none)) else (none)) else (none)) else (none)) else (none)) else (none)) else (none)) else (if 0 ≤ (Go.bits .and .u8 a0 15) then (if (Go.bits .and .u8 a0 15) ≤ (((Go.bits .and .u8 a0 15) + 1) % 256) then (if (((Go.bits .and .u8 a0 15) + 1) % 256) ≤ 16 then (if 2 + ((⟨#[48, 49, 50, 51, 52, 53, 54, 55, 56, 57, 97, 98, 99, 100, 101, 102]⟩ : ByteArray).extract ((Go.bits .and .u8 a0 15) : Int).toNat ((((Go.bits .and .u8 a0 15) + 1) % 256) : Int).toNat).size ≤ 9223372036854775807 then (some ((⟨#[92, 120]⟩ : ByteArray) ++ ((⟨#[48, 49, 50, 51, 52, 53, 54, 55, 56, 57, 97, 98, 99, 100, 101, 102]⟩ : ByteArray).extract ((Go.bits .and .u8 a0 15) : Int).toNat ((((Go.bits .and .u8 a0 15) + 1) % 256) : Int).toNat))) else (none)) else (none)) else (none)) else (none))) = some r := h
  clear h
  by_cases c2 : a0 ≥ 16
  · rw [if_pos c2] at H
    have c2b0 : decide (16 ≤ a0) = true := decide_eq_true c2
    clear c2
    obtain ⟨ji3, hji3⟩ : ∃ j_ : Int, (a0 / 16) = j_ := ⟨_, rfl⟩
    replace H : (if 0 ≤ (ji3) then (if (ji3) ≤ (((ji3) + 1) % 256) then (if (((ji3) + 1) % 256) ≤ 16 then (if 2 + ((⟨#[48, 49, 50, 51, 52, 53, 54, 55, 56, 57, 97, 98, 99, 100, 101, 102]⟩ : ByteArray).extract ((ji3) : Int).toNat ((((ji3) + 1) % 256) : Int).toNat).size ≤ 9223372036854775807 then (if 0 ≤ (Go.bits .and .u8 a0 15) then (if (Go.bits .and .u8 a0 15) ≤ (((Go.bits .and .u8 a0 15) + 1) % 256) then (if (((Go.bits .and .u8 a0 15) + 1) % 256) ≤ 16 then (if ((⟨#[92, 120]⟩ : ByteArray) ++ ((⟨#[48, 49, 50, 51, 52, 53, 54, 55, 56, 57, 97, 98, 99, 100, 101, 102]⟩ : ByteArray).extract ((ji3) : Int).toNat ((((ji3) + 1) % 256) : Int).toNat)).size + ((⟨#[48, 49, 50, 51, 52, 53, 54, 55, 56, 57, 97, 98, 99, 100, 101, 102]⟩ : ByteArray).extract ((Go.bits .and .u8 a0 15) : Int).toNat ((((Go.bits .and .u8 a0 15) + 1) % 256) : Int).toNat).size ≤ 9223372036854775807 then (some (((⟨#[92, 120]⟩ : ByteArray) ++ ((⟨#[48, 49, 50, 51, 52, 53, 54, 55, 56, 57, 97, 98, 99, 100, 101, 102]⟩ : ByteArray).extract ((ji3) : Int).toNat ((((ji3) + 1) % 256) : Int).toNat)) ++ ((⟨#[48, 49, 50, 51, 52, 53, 54, 55, 56, 57, 97, 98, 99, 100, 101, 102]⟩ : ByteArray).extract ((Go.bits .and .u8 a0 15) : Int).toNat ((((Go.bits .and .u8 a0 15) + 1) % 256) : Int).toNat))) else (none)) else (none)) else (none)) else (none)) else (none)) else (none)) else (none)) else (none)) = some r := by first | (rw [hji3] at H; exact H) | (simp only [hji3] at H ⊢; exact H)
    by_cases c4 : 0 ≤ (ji3)
    · rw [if_pos c4] at H
      have c4b0 := eq_true c4
      have c4b1 : decide (0 ≤ (ji3)) = true := decide_eq_true c4
      clear c4
      by_cases c5 : (ji3) ≤ (((ji3) + 1) % 256)
      · rw [if_pos c5] at H
        have c5b0 := eq_true c5
        have c5b1 : decide ((ji3) ≤ (((ji3) + 1) % 256)) = true := decide_eq_true c5
        by_cases c6 : (((ji3) + 1) % 256) ≤ 16
        · rw [if_pos c6] at H
          have c6b0 := eq_true c6
          have c6b1 : decide ((((ji3) + 1) % 256) ≤ 16) = true := decide_eq_true c6
          by_cases c7 : 2 + ((⟨#[48, 49, 50, 51, 52, 53, 54, 55, 56, 57, 97, 98, 99, 100, 101, 102]⟩ : ByteArray).extract ((ji3) : Int).toNat ((((ji3) + 1) % 256) : Int).toNat).size ≤ 9223372036854775807
          · rw [if_pos c7] at H
            have c7b0 := eq_true c7
            have c7b1 : decide (2 + ((⟨#[48, 49, 50, 51, 52, 53, 54, 55, 56, 57, 97, 98, 99, 100, 101, 102]⟩ : ByteArray).extract ((ji3) : Int).toNat ((((ji3) + 1) % 256) : Int).toNat).size ≤ 9223372036854775807) = true := decide_eq_true c7
            try have c7b2 : (9223372036854775807 < 2 + ((⟨#[48, 49, 50, 51, 52, 53, 54, 55, 56, 57, 97, 98, 99, 100, 101, 102]⟩ : ByteArray).extract ((ji3) : Int).toNat ((((ji3) + 1) % 256) : Int).toNat).size) = False := eq_false (Nat.not_lt.2 c7)
            by_cases c8 : 0 ≤ (Go.bits .and .u8 a0 15)
            · rw [if_pos c8] at H
              have c8b0 := eq_true c8
              have c8b1 : decide (0 ≤ (Go.bits .and .u8 a0 15)) = true := decide_eq_true c8
              clear c8
              by_cases c9 : (Go.bits .and .u8 a0 15) ≤ (((Go.bits .and .u8 a0 15) + 1) % 256)
              · rw [if_pos c9] at H
                have c9b0 := eq_true c9
                have c9b1 : decide ((Go.bits .and .u8 a0 15) ≤ (((Go.bits .and .u8 a0 15) + 1) % 256)) = true := decide_eq_true c9
                by_cases c10 : (((Go.bits .and .u8 a0 15) + 1) % 256) ≤ 16
                · rw [if_pos c10] at H
                  have c10b0 := eq_true c10
                  have c10b1 : decide ((((Go.bits .and .u8 a0 15) + 1) % 256) ≤ 16) = true := decide_eq_true c10
                  by_cases c11 : ((⟨#[92, 120]⟩ : ByteArray) ++ ((⟨#[48, 49, 50, 51, 52, 53, 54, 55, 56, 57, 97, 98, 99, 100, 101, 102]⟩ : ByteArray).extract ((ji3) : Int).toNat ((((ji3) + 1) % 256) : Int).toNat)).size + ((⟨#[48, 49, 50, 51, 52, 53, 54, 55, 56, 57, 97, 98, 99, 100, 101, 102]⟩ : ByteArray).extract ((Go.bits .and .u8 a0 15) : Int).toNat ((((Go.bits .and .u8 a0 15) + 1) % 256) : Int).toNat).size ≤ 9223372036854775807
                  · rw [if_pos c11] at H
                    have c11b0 := eq_true c11
                    have c11b1 : decide (((⟨#[92, 120]⟩ : ByteArray) ++ ((⟨#[48, 49, 50, 51, 52, 53, 54, 55, 56, 57, 97, 98, 99, 100, 101, 102]⟩ : ByteArray).extract ((ji3) : Int).toNat ((((ji3) + 1) % 256) : Int).toNat)).size + ((⟨#[48, 49, 50, 51, 52, 53, 54, 55, 56, 57, 97, 98, 99, 100, 101, 102]⟩ : ByteArray).extract ((Go.bits .and .u8 a0 15) : Int).toNat ((((Go.bits .and .u8 a0 15) + 1) % 256) : Int).toNat).size ≤ 9223372036854775807) = true := decide_eq_true c11
                    try have c11b2 : (9223372036854775807 < ((⟨#[92, 120]⟩ : ByteArray) ++ ((⟨#[48, 49, 50, 51, 52, 53, 54, 55, 56, 57, 97, 98, 99, 100, 101, 102]⟩ : ByteArray).extract ((ji3) : Int).toNat ((((ji3) + 1) % 256) : Int).toNat)).size + ((⟨#[48, 49, 50, 51, 52, 53, 54, 55, 56, 57, 97, 98, 99, 100, 101, 102]⟩ : ByteArray).extract ((Go.bits .and .u8 a0 15) : Int).toNat ((((Go.bits .and .u8 a0 15) + 1) % 256) : Int).toNat).size) = False := eq_false (Nat.not_lt.2 c11)
                    obtain rfl := Option.some.inj H
                    go_enter Tryd.func60, Tryd.ntmps60
                    go_wp2
                    go_ret
                    exact ⟨by first | rfl | (simp; done) | (simp only [← hji3] <;> (first | rfl | simp)) | (simp [*]; done), by repeat (first | exact Drawn0.refl _ | apply Drawn0.step)⟩
                  · rw [if_neg c11] at H
                    exact absurd H (by simp)
                · rw [if_neg c10] at H
                  exact absurd H (by simp)
              · rw [if_neg c9] at H
                exact absurd H (by simp)
            · rw [if_neg c8] at H
              exact absurd H (by simp)
          · rw [if_neg c7] at H
            exact absurd H (by simp)
        · rw [if_neg c6] at H
          exact absurd H (by simp)
      · rw [if_neg c5] at H
        exact absurd H (by simp)
    · rw [if_neg c4] at H
      exact absurd H (by simp)
  · rw [if_neg c2] at H
    have c2b0 : decide (16 ≤ a0) = false := decide_eq_false c2
    clear c2
    by_cases c12 : 0 ≤ (Go.bits .and .u8 a0 15)
    · rw [if_pos c12] at H
      have c12b0 := eq_true c12
      have c12b1 : decide (0 ≤ (Go.bits .and .u8 a0 15)) = true := decide_eq_true c12
      clear c12
      by_cases c13 : (Go.bits .and .u8 a0 15) ≤ (((Go.bits .and .u8 a0 15) + 1) % 256)
      · rw [if_pos c13] at H
        have c13b0 := eq_true c13
        have c13b1 : decide ((Go.bits .and .u8 a0 15) ≤ (((Go.bits .and .u8 a0 15) + 1) % 256)) = true := decide_eq_true c13
        by_cases c14 : (((Go.bits .and .u8 a0 15) + 1) % 256) ≤ 16
        · rw [if_pos c14] at H
          have c14b0 := eq_true c14
          have c14b1 : decide ((((Go.bits .and .u8 a0 15) + 1) % 256) ≤ 16) = true := decide_eq_true c14
          by_cases c15 : 2 + ((⟨#[48, 49, 50, 51, 52, 53, 54, 55, 56, 57, 97, 98, 99, 100, 101, 102]⟩ : ByteArray).extract ((Go.bits .and .u8 a0 15) : Int).toNat ((((Go.bits .and .u8 a0 15) + 1) % 256) : Int).toNat).size ≤ 9223372036854775807
          · rw [if_pos c15] at H
            have c15b0 := eq_true c15
            have c15b1 : decide (2 + ((⟨#[48, 49, 50, 51, 52, 53, 54, 55, 56, 57, 97, 98, 99, 100, 101, 102]⟩ : ByteArray).extract ((Go.bits .and .u8 a0 15) : Int).toNat ((((Go.bits .and .u8 a0 15) + 1) % 256) : Int).toNat).size ≤ 9223372036854775807) = true := decide_eq_true c15
            try have c15b2 : (9223372036854775807 < 2 + ((⟨#[48, 49, 50, 51, 52, 53, 54, 55, 56, 57, 97, 98, 99, 100, 101, 102]⟩ : ByteArray).extract ((Go.bits .and .u8 a0 15) : Int).toNat ((((Go.bits .and .u8 a0 15) + 1) % 256) : Int).toNat).size) = False := eq_false (Nat.not_lt.2 c15)
            obtain rfl := Option.some.inj H
            go_enter Tryd.func60, Tryd.ntmps60
            go_wp2
            go_ret
            exact ⟨by first | rfl | (simp; done) | (simp [*]; done), by repeat (first | exact Drawn0.refl _ | apply Drawn0.step)⟩
          · rw [if_neg c15] at H
            exact absurd H (by simp)
        · rw [if_neg c14] at H
          exact absurd H (by simp)
      · rw [if_neg c13] at H
        exact absurd H (by simp)
    · rw [if_neg c12] at H
      exact absurd H (by simp)

end Go.Proofs.YtocdnceckljnaaaDoor.QPB
