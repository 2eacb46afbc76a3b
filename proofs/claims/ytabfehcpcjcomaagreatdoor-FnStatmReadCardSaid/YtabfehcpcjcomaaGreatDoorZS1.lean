/- The texts Pa, Pb, Pc, QA0x17, QA0x18, Pd, CardFnStatmRead, without what the claims do not use, laid together by a program of this session (wip/tools/bundle.py). Conditions: those of each theorem. -/
import Derived.Test.YtabfehcpcjcomaaGreatDoorZc4
import Derived.Test.YtabfehcpcjcomaaGreatDoorZc5
import Derived.Test.YtabfehcpcjcomaaGreatDoorZc6
import Derived.Test.YtabfehcpcjcomaaGreatDoorZc7
import Derived.Lib.ItoaLen
import Derived.ShutString
import Derived.ChangeOld
namespace Go.Proofs.YtabfehcpcjcomaaGreatDoor.R
open Go.RowKit Go.Proofs.YtabfehcpcjcomaaGreatDoor.QA0 Go.Proofs.YtabfehcpcjcomaaGreatDoorW.PrintWords Go.Proofs.YtabfehcpcjcomaaGreatDoorW.PrintLast Go.Proofs.YtabfehcpcjcomaaGreatDoorW.PrintMore
set_option linter.unusedVariables false
set_option linter.unusedSimpArgs false
def Ends {α : Type} (g : Nat → Option α) (P : α → Prop) : Prop := ∃ r, Ev g r ∧ P r
section
variable {α β : Type} {g f : Nat → Option α} {P : α → Prop}
theorem Ends.step (h : ∀ k, g (k + 1) = f k) (k : Ends f P) : Ends g P := by
  obtain ⟨r, k, hp⟩ := k
  exact ⟨r, Ev.step h k, hp⟩
theorem Ends.now {r : α} (h : P r) : Ends (fun _ => some r) P := ⟨r, Ev.now r, h⟩
theorem Ends.bind {Q : β → Prop} {h : Nat → α → Option β} (a : Ends g P) (k : ∀ x, P x → Ends (fun n => h n x) Q) : Ends (fun n => (g n).bind (h n)) Q := by
  obtain ⟨r, e, hp⟩ := a
  obtain ⟨q, e', hq⟩ := k r hp
  exact ⟨q, Ev.bind e e', hq⟩
theorem Ends.mono {Q : α → Prop} (a : Ends g P) (h : ∀ x, P x → Q x) : Ends g Q := by
  obtain ⟨r, e, hp⟩ := a
  exact ⟨r, e, h r hp⟩
theorem Ends.ev {r : α} (h : Ev g r) : Ends g (fun x => x = r) := ⟨r, h, rfl⟩
end
theorem ext_size (T : ByteArray) (i j : Nat) : (T.extract i j).size ≤ T.size := by
  rw [ByteArray.size_extract]; omega
def Small (T : ByteArray) (r : List ByteArray) : Prop := r.length ≤ T.size + 1 ∧ ∀ x ∈ r, x.size ≤ T.size
theorem lines_go (T : ByteArray) (hs : T.size ≤ 40000) : ∀ (n : Nat) (x3 : List ByteArray) (x4 x8 : Int), 0 ≤ x4 → x4 ≤ x8 → x8 ≤ (T.size : Int) → n = ((T.size : Int) - x8).toNat → (x3.length : Int) ≤ x8 → (∀ x ∈ x3, x.size ≤ T.size) → Ends (fun k => spec_Lines.l0 k T x3 x4 (T.size : Int) x8) (Small T)
  | 0, x3, x4, x8, h0, h1, h2, hn, hl, hx => by
    refine Ends.step (fun k => by rw [spec_Lines.l0]) ?_
    have c : ¬ (x8 < (T.size : Int)) := by omega
    simp only [if_neg c]
    by_cases d : x4 < (T.size : Int)
    · simp only [if_pos d, if_pos h0, if_pos (show x4 ≤ (T.size : Int) by omega), if_pos (show x3.length < 8796093022208 by omega)]
      refine Ends.now ⟨by simp; omega, ?_⟩
      intro x hm
      rcases List.mem_append.1 hm with hm | hm
      · exact hx x hm
      · rw [List.mem_singleton.1 hm]; exact ext_size _ _ _
    · simp only [if_neg d]
      exact Ends.now ⟨by omega, hx⟩
  | n + 1, x3, x4, x8, h0, h1, h2, hn, hl, hx => by
    refine Ends.step (fun k => by rw [spec_Lines.l0]) ?_
    have c : x8 < (T.size : Int) := by omega
    have w : wrap64 (x8 + 1) = x8 + 1 := wr64 _ (by omega)
    simp only [if_pos c, if_pos (show 0 ≤ x8 by omega), w]
    by_cases d : bt T x8 = 10
    · simp only [if_pos d, if_pos h0, if_pos h1, if_pos (show x8 ≤ (T.size : Int) by omega), if_pos (show x3.length < 8796093022208 by omega)]
      refine lines_go T hs n _ _ _ (by omega) (by omega) (by omega) (by omega) (by simp; omega) ?_
      intro x hm
      rcases List.mem_append.1 hm with hm | hm
      · exact hx x hm
      · rw [List.mem_singleton.1 hm]; exact ext_size _ _ _
    · simp only [if_neg d]
      exact lines_go T hs n _ _ _ h0 (by omega) (by omega) (by omega) (by omega) hx
theorem lines_ends (T : ByteArray) (hs : T.size ≤ 40000) : Ends (fun k => spec_Lines.f k T) (Small T) := by
  unfold spec_Lines.f
  exact lines_go T hs _ [] 0 0 (by omega) (by omega) (by omega) rfl (by simp) (by simp)
theorem single_ends (T : ByteArray) (hs : T.size ≤ 40000) : Ends (fun k => spec_single.f k T) (fun r => r.size ≤ T.size) := by
  unfold spec_single.f
  refine Ends.bind (lines_ends T hs) fun r hr => ?_
  by_cases c : (r.length : Int) = 1
  · simp only [if_pos c, if_pos (show (0 : Int) < (r.length : Int) by omega)]
    refine Ends.now ?_
    match r, c with
    | [a], _ => exact hr.2 a (by simp)
  · simp only [if_neg c]
    exact Ends.now (Nat.zero_le _)
theorem fields_go (T : ByteArray) (hs : T.size ≤ 40000) : ∀ (n : Nat) (x3 : List ByteArray) (x4 x9 : Int), -1 ≤ x4 → x4 ≤ x9 → 0 ≤ x9 → x9 ≤ (T.size : Int) → n = ((T.size : Int) - x9).toNat → (x3.length : Int) ≤ x9 → (∀ x ∈ x3, x.size ≤ T.size) → Ends (fun k => spec_Fields.l0 k T x3 x4 (T.size : Int) x9) (Small T)
  | 0, x3, x4, x8, h0, h1, h00, h2, hn, hl, hx => by
    refine Ends.step (fun k => by rw [spec_Fields.l0]) ?_
    have c : ¬ (x8 < (T.size : Int)) := by omega
    simp only [if_neg c]
    by_cases d : x4 ≥ 0
    · simp only [if_pos d, if_pos (show 0 ≤ x4 from d), if_pos (show x4 ≤ (T.size : Int) by omega), if_pos (show x3.length < 8796093022208 by omega)]
      refine Ends.now ⟨by simp; omega, ?_⟩
      intro x hm
      rcases List.mem_append.1 hm with hm | hm
      · exact hx x hm
      · rw [List.mem_singleton.1 hm]; exact ext_size _ _ _
    · simp only [if_neg d]
      exact Ends.now ⟨by omega, hx⟩
  | n + 1, x3, x4, x8, h0, h1, h00, h2, hn, hl, hx => by
    refine Ends.step (fun k => by rw [spec_Fields.l0]) ?_
    have c : x8 < (T.size : Int) := by omega
    have w : wrap64 (x8 + 1) = x8 + 1 := wr64 _ (by omega)
    simp only [if_pos c, if_pos (show 0 ≤ x8 by omega)]
    have key : ∀ b : Bool, Ends (fun k => spec_Fields.j1 k T x3 x4 x8 b (T.size : Int) x8) (Small T) := by
      intro b
      refine Ends.step (fun k => by rw [spec_Fields.j1]) ?_
      cases b with
      | true =>
        simp only [if_true]
        refine Ends.step (fun k => by rw [spec_Fields.j2]) ?_
        by_cases d : x4 ≥ 0
        · simp only [decide_eq_true d, if_true, if_pos (show 0 ≤ x4 from d), if_pos h1, if_pos (show x8 ≤ (T.size : Int) by omega), if_pos (show x3.length < 8796093022208 by omega), w]
          refine fields_go T hs n _ _ _ (by omega) (by omega) (by omega) (by omega) (by omega) (by simp; omega) ?_
          intro x hm
          rcases List.mem_append.1 hm with hm | hm
          · exact hx x hm
          · rw [List.mem_singleton.1 hm]; exact ext_size _ _ _
        · simp only [decide_eq_false d, Bool.false_eq_true, if_false, if_true, w]
          exact fields_go T hs n _ _ _ h0 (by omega) (by omega) (by omega) (by omega) (by omega) hx
      | false =>
        simp only [Bool.false_eq_true, if_false]
        refine Ends.step (fun k => by rw [spec_Fields.j2]) ?_
        simp only [Bool.false_eq_true, if_false, w]
        by_cases d : x4 < 0
        · simp only [if_pos d]
          exact fields_go T hs n _ _ _ (by omega) (by omega) (by omega) (by omega) (by omega) (by omega) hx
        · simp only [if_neg d]
          exact fields_go T hs n _ _ _ (by omega) (by omega) (by omega) (by omega) (by omega) (by omega) hx
    by_cases d : bt T x8 = 32
    · simp only [if_pos d]
      exact key true
    · simp only [if_neg d]
      exact key _
theorem fields_ends (T : ByteArray) (hs : T.size ≤ 40000) : Ends (fun k => spec_Fields.f k T) (Small T) := by
  unfold spec_Fields.f
  exact fields_go T hs _ [] (-1) 0 (by omega) (by omega) (by omega) (by omega) rfl (by simp) (by simp)
def U64 (n : Int) : Prop := 0 ≤ n ∧ n < 18446744073709551616
theorem wU (z : Int) : U64 (IntKind.u64.wrap z) := by
  unfold U64
  simp [IntKind.wrap, IntKind.bits, IntKind.signed]
  omega
theorem digit_ends (c : Int) : Ends (fun k => spec_digit.f k c) (fun _ => True) := by
  have key : ∀ b : Bool, Ends (fun k => spec_digit.j1 k c b) (fun _ => True) := by
    intro b
    refine Ends.step (fun k => by rw [spec_digit.j1]) ?_
    cases b with
    | true => simp only [if_true]; exact Ends.now trivial
    | false =>
      simp only [Bool.false_eq_true, if_false]
      by_cases d : c ≥ 65
      · simp only [if_pos d]
        by_cases e : c ≤ 70
        · simp only [if_pos e]; exact Ends.now trivial
        · simp only [if_neg e]; exact Ends.now trivial
      · simp only [if_neg d]; exact Ends.now trivial
  have key0 : ∀ b : Bool, Ends (fun k => spec_digit.j0 k c b) (fun _ => True) := by
    intro b
    refine Ends.step (fun k => by rw [spec_digit.j0]) ?_
    cases b with
    | true => simp only [if_true]; exact Ends.now trivial
    | false =>
      simp only [Bool.false_eq_true, if_false]
      by_cases d : c ≥ 97
      · simp only [if_pos d]; exact key _
      · simp only [if_neg d]; exact key _
  unfold spec_digit.f
  by_cases d : c ≥ 48
  · simp only [if_pos d]; exact key0 _
  · simp only [if_neg d]; exact key0 _
theorem number_go (T : ByteArray) (x1 : Int) (h10 : 0 < x1) (hs : T.size ≤ 40000) : ∀ (n : Nat) (x6 x11 : Int), U64 x6 → 0 ≤ x11 → x11 ≤ (T.size : Int) → n = ((T.size : Int) - x11).toNat → Ends (fun k => spec_Number.l0 k T x1 x6 (T.size : Int) x11) (fun r => U64 r.1)
  | 0, x6, x11, hu, h0, h1, hn => by
    refine Ends.step (fun k => by rw [spec_Number.l0]) ?_
    simp only [if_neg (show ¬ (x11 < (T.size : Int)) by omega)]
    exact Ends.now hu
  | n + 1, x6, x11, hu, h0, h1, hn => by
    refine Ends.step (fun k => by rw [spec_Number.l0]) ?_
    have w : wrap64 (x11 + 1) = x11 + 1 := wr64 _ (by omega)
    simp only [if_pos (show x11 < (T.size : Int) by omega), if_pos h0, w]
    refine Ends.bind (digit_ends _) fun d _ => ?_
    by_cases c : d ≥ x1
    · simp only [if_pos c]; exact Ends.now (by unfold U64; omega)
    · simp only [if_neg c, if_neg (show ¬ (x1 = 0) by omega)]
      by_cases e : x6 > (IntKind.u64.wrap (Int.tdiv (IntKind.u64.wrap (18446744073709551615 - d)) x1))
      · simp only [if_pos e]; exact Ends.now (by unfold U64; omega)
      · simp only [if_neg e]
        exact number_go T x1 h10 hs n _ _ (wU _) (by omega) (by omega) (by omega)
theorem dec_ends (T : ByteArray) (hs : T.size ≤ 40000) : Ends (fun k => spec_Dec.f k T) (fun r => U64 r.1) := by
  unfold spec_Dec.f spec_Number.f
  refine Ends.bind (number_go T 10 (by omega) hs _ 0 0 (by unfold U64; omega) (by omega) (by omega) rfl) fun r hr => ?_
  exact Ends.now hr
def decB (n : Nat) : ByteArray := ⟨(Lib.decDigits n).toArray⟩
theorem decB_size (n : Nat) (h : n < 18446744073709551616) : (decB n).size ≤ 20 := by
  have h1 : (decB n).size = Lib.nDigits n := by rw [← Lib.decDigits_length]; simp [decB, ByteArray.size]
  rw [h1]
  exact Lib.nDigits_le20 n h
theorem pum_app (M : Nat) (r : List UInt8) : ∀ (l : List UInt8) (acc u : Nat), Lib.parseUintM M acc l = .ok u → Lib.parseUintM M acc (l ++ r) = Lib.parseUintM M u r
  | [], acc, u, h => by simp only [Lib.parseUintM] at h; cases h; rfl
  | c :: l, acc, u, h => by
    simp only [Lib.parseUintM, List.cons_append] at h ⊢
    split at h
    · rename_i h1
      rw [if_pos h1]
      split at h
      · cases h
      · rename_i h2
        rw [if_neg h2]
        split at h
        · cases h
        · rename_i h3
          rw [if_neg h3]
          exact pum_app M r l _ u h
    · cases h
theorem dg_nat (d : Nat) (h : d < 10) : (UInt8.ofNat (48 + d)).toNat = 48 + d := by
  rw [UInt8.toNat_ofNat']; omega
theorem pum_one (acc d : Nat) (hd : d < 10) (h : acc * 10 + d < 18446744073709551616) : Lib.parseUintM 18446744073709551615 acc [UInt8.ofNat (48 + d)] = .ok (acc * 10 + d) := by
  simp only [Lib.parseUintM, dg_nat d hd]
  rw [if_pos (by omega), if_neg (by omega), if_neg (by omega)]
  congr 1
  omega
theorem pum_dec (n : Nat) (hn : n < 18446744073709551616) : Lib.parseUintM 18446744073709551615 0 (Lib.decDigits n) = .ok n := by
  induction n using Nat.strongRecOn with
  | _ n ih =>
    rw [Lib.decDigits]
    by_cases h : n < 10
    · rw [dif_pos h, pum_one 0 n h (by omega)]
      congr 1; omega
    · rw [dif_neg h, pum_app _ _ _ _ _ (ih (n / 10) (by omega) (by omega)), pum_one _ _ (by omega) (by omega)]
      congr 1; omega
theorem dec_ne (n : Nat) : Lib.decDigits n ≠ [] := by
  rw [Lib.decDigits]
  split <;> simp
theorem dec_dig (n : Nat) : ∀ c ∈ Lib.decDigits n, 48 ≤ c.toNat ∧ c.toNat ≤ 57 := by
  induction n using Nat.strongRecOn with
  | _ n ih =>
    rw [Lib.decDigits]
    by_cases h : n < 10
    · rw [dif_pos h]
      intro c hc
      rw [List.mem_singleton.1 hc, dg_nat n h]
      omega
    · rw [dif_neg h]
      intro c hc
      rcases List.mem_append.1 hc with hc | hc
      · exact ih (n / 10) (by omega) c hc
      · rw [List.mem_singleton.1 hc, dg_nat _ (by omega)]
        omega
theorem pub_dec (n : Nat) (hn : n < 18446744073709551616) : Lib.parseUintB 64 (decB n).data.toList = .ok n := by
  show Lib.parseUintB 64 (Lib.decDigits n) = .ok n
  unfold Lib.parseUintB
  rw [if_neg (dec_ne n)]
  exact pum_dec n hn
theorem B_app (a b : Bs) : B a ++ B b = B (a ++ b) := by
  unfold B
  apply ByteArray.ext
  simp
theorem dig_str (d : Nat) (h : d < 10) : strOfNums [bt (⟨#[48, 49, 50, 51, 52, 53, 54, 55, 56, 57, 97, 98, 99, 100, 101, 102]⟩ : ByteArray) (d : Int)] = B [UInt8.ofNat (48 + d)] := by
  match d, h with
  | 0, _ => rfl
  | 1, _ => rfl
  | 2, _ => rfl
  | 3, _ => rfl
  | 4, _ => rfl
  | 5, _ => rfl
  | 6, _ => rfl
  | 7, _ => rfl
  | 8, _ => rfl
  | 9, _ => rfl
theorem digits_ev (n : Nat) (hn : n < 18446744073709551616) : Ev (fun k => spec_Digits.f k (n : Int) 10) (decB n) := by
  induction n using Nat.strongRecOn with
  | _ n ih =>
    refine Ev.step (fun k => by rw [spec_Digits.f]) ?_
    have m : Int.tmod (n : Int) 10 = ((n % 10 : Nat) : Int) := by rw [Int.tmod_eq_emod_of_nonneg (by omega)]; omega
    have q : Int.tdiv (n : Int) 10 = ((n / 10 : Nat) : Int) := by rw [Int.tdiv_eq_ediv_of_nonneg (by omega)]; omega
    simp only [m, q]
    simp only [if_neg (show ¬ ((10 : Int) = 0) by omega), if_pos (show (0 : Int) ≤ ((n % 10 : Nat) : Int) by omega), if_pos (show ((n % 10 : Nat) : Int) < 16 by omega), dig_str (n % 10) (by omega)]
    by_cases c : n < 10
    · simp only [if_pos (show (n : Int) < 10 by omega)]
      have : decB n = B [UInt8.ofNat (48 + n % 10)] := by unfold decB B; rw [Lib.decDigits, dif_pos c, Nat.mod_eq_of_lt c]
      rw [this]
      exact Ev.now _
    · simp only [if_neg (show ¬ ((n : Int) < 10) by omega), u64w ((n / 10 : Nat) : Int) (by omega)]
      refine Ev.bind (ih (n / 10) (by omega) (by omega)) ?_
      simp only [Option.bind_some, dig_str (n % 10) (by omega)]
      have hz := decB_size (n / 10) (by omega)
      have hz1 : (B [UInt8.ofNat (48 + n % 10)]).size = 1 := rfl
      simp only [if_pos (show (decB (n / 10)).size + (B [UInt8.ofNat (48 + n % 10)]).size ≤ 9223372036854775807 by omega)]
      have : decB n = decB (n / 10) ++ B [UInt8.ofNat (48 + n % 10)] := by
        rw [show decB (n / 10) = B (Lib.decDigits (n / 10)) from rfl, B_app]
        unfold decB B; rw [Lib.decDigits, dif_neg c]
      rw [this]
      exact Ev.now _
theorem text_ev (n : Int) (hn : U64 n) : Ev (fun k => spec_Text.f k n) (decB n.toNat) := by
  unfold spec_Text.f U64 at *
  have e : n = (n.toNat : Int) := by omega
  have := digits_ev n.toNat (by omega)
  rw [← e] at this
  exact Ev.bind this (Ev.now _)
theorem decimals_go (x9 : List ByteArray) (T : ByteArray) (hT : T.size ≤ 40000) (hx9 : Small T x9) : ∀ (n : Nat) (x4 : List Int) (x11 : Int), 0 ≤ x11 → x11 ≤ (x9.length : Int) → n = ((x9.length : Int) - x11).toNat → (x4.length : Int) ≤ x11 → (∀ x ∈ x4, U64 x) → Ends (fun k => spec_decimals.l0 k x4 x9 (x9.length : Int) x11) (fun r => r.1.length ≤ 40001 ∧ ∀ x ∈ r.1, U64 x)
  | 0, x4, x11, h0, h1, hn, hl, hu => by
    refine Ends.step (fun k => by rw [spec_decimals.l0]) ?_
    simp only [if_neg (show ¬ (x11 < (x9.length : Int)) by omega)]
    exact Ends.now ⟨by have := hx9.1; show x4.length ≤ 40001; omega, hu⟩
  | n + 1, x4, x11, h0, h1, hn, hl, hu => by
    have h9 := hx9.1
    refine Ends.step (fun k => by rw [spec_decimals.l0]) ?_
    have w : wrap64 (x11 + 1) = x11 + 1 := wr64 _ (by omega)
    have hsz : (rdOf ByteArray.empty x9 x11).size ≤ 40000 := by
      have e : rdOf ByteArray.empty x9 x11 = x9[x11.toNat]'(by omega) := by
        unfold rdOf
        rw [List.getD_eq_getElem?_getD, List.getElem?_eq_getElem (by omega)]; rfl
      rw [e]
      exact Nat.le_trans (hx9.2 _ (List.getElem_mem _)) hT
    simp only [if_pos (show x11 < (x9.length : Int) by omega), if_pos h0, w]
    refine Ends.bind (dec_ends _ hsz) fun r hr => ?_
    by_cases c : r.2 = true
    · simp only [if_pos c]
      refine Ends.bind (Ends.ev (text_ev r.1 hr)) fun t _ => ?_
      by_cases d : t.toList = (rdOf ByteArray.empty x9 x11).toList
      · simp only [if_pos d, if_pos (show x4.length < 17592186044416 by omega)]
        refine decimals_go x9 T hT hx9 n _ _ (by omega) (by omega) (by omega) (by simp; omega) ?_
        intro x hm
        rcases List.mem_append.1 hm with hm | hm
        · exact hu x hm
        · rw [List.mem_singleton.1 hm]; exact hr
      · simp only [if_neg d]
        exact Ends.now ⟨by simp, by simp⟩
    · simp only [if_neg c]
      exact Ends.now ⟨by simp, by simp⟩
theorem decimals_ends (x9 : List ByteArray) (T : ByteArray) (hT : T.size ≤ 40000) (hx9 : Small T x9) : Ends (fun k => spec_decimals.f k x9) (fun r => r.1.length ≤ 40001 ∧ ∀ x ∈ r.1, U64 x) := by
  unfold spec_decimals.f
  exact decimals_go x9 T hT hx9 _ [] 0 (by omega) (by omega) rfl (by simp) (by simp)
theorem plain_go (T : ByteArray) (hs : T.size ≤ 40000) : ∀ (n : Nat) (x7 : Int), 0 ≤ x7 → x7 ≤ (T.size : Int) → n = ((T.size : Int) - x7).toNat → Ends (fun k => spec_Plain.l0 k T (T.size : Int) x7) (fun _ => True)
  | 0, x7, h0, h1, hn => by
    refine Ends.step (fun k => by rw [spec_Plain.l0]) ?_
    simp only [if_neg (show ¬ (x7 < (T.size : Int)) by omega)]
    exact Ends.now trivial
  | n + 1, x7, h0, h1, hn => by
    refine Ends.step (fun k => by rw [spec_Plain.l0]) ?_
    have w : wrap64 (x7 + 1) = x7 + 1 := wr64 _ (by omega)
    have ih := plain_go T hs n (x7 + 1) (by omega) (by omega) (by omega)
    simp only [if_pos (show x7 < (T.size : Int) by omega), if_pos h0, w]
    by_cases c : bt T x7 > 126
    · simp only [if_pos c]; exact Ends.now trivial
    · simp only [if_neg c]
      by_cases d : bt T x7 < 32
      · simp only [if_pos d]
        by_cases e : bt T x7 = 10
        · simp only [if_pos e]; exact ih
        · simp only [if_neg e]
          by_cases e : bt T x7 = 9
          · simp only [if_pos e]; exact ih
          · simp only [if_neg e]; exact Ends.now trivial
      · simp only [if_neg d]; exact ih
theorem plain_ends (T : ByteArray) (hs : T.size ≤ 40000) : Ends (fun k => spec_Plain.f k T) (fun _ => True) := by
  unfold spec_Plain.f
  exact plain_go T hs _ 0 (by omega) (by omega) rfl
def jl (sep : ByteArray) : ByteArray → Nat → List ByteArray → ByteArray
  | acc, _, [] => acc
  | acc, 0, b :: l => jl sep (acc ++ b) 1 l
  | acc, i + 1, b :: l => jl sep ((acc ++ sep) ++ b) (i + 2) l
theorem rd_mid (A : List ByteArray) (b : ByteArray) (l : List ByteArray) : rdOf ByteArray.empty (A ++ b :: l) (A.length : Int) = b := by
  unfold rdOf
  simp
theorem join_go (sep : ByteArray) (hsep : sep.size ≤ 20) : ∀ (l A : List ByteArray) (acc : ByteArray), (A ++ l).length ≤ 1000 → (∀ x ∈ l, x.size ≤ 1000) → acc.size ≤ 2000 * A.length → Ev (fun k => spec_Join.l0 k sep acc (A ++ l) ((A ++ l).length : Int) (A.length : Int)) (jl sep acc A.length l)
  | [], A, acc, hl, hx, ha => by
    refine Ev.step (fun k => by rw [spec_Join.l0]) ?_
    simp only [if_neg (show ¬ ((A.length : Int) < ((A ++ ([] : List ByteArray)).length : Int)) by simp), jl]
    exact Ev.now _
  | b :: l, A, acc, hl, hx, ha => by
    have hb := hx b (by simp)
    have hll : A.length + (l.length + 1) ≤ 1000 := by simpa using hl
    refine Ev.step (fun k => by rw [spec_Join.l0]) ?_
    have w : wrap64 ((A.length : Int) + 1) = ((A ++ [b]).length : Int) := by rw [wr64 _ (by omega)]; simp
    have e : A ++ b :: l = (A ++ [b]) ++ l := by simp
    have cl : (A.length : Int) < ((A ++ b :: l).length : Int) := by simp; omega
    simp only [if_pos cl, if_pos (show (0 : Int) ≤ (A.length : Int) by omega), rd_mid, w]
    by_cases c : (A.length : Int) > 0
    · simp only [if_pos c, if_pos (show acc.size + sep.size ≤ 9223372036854775807 by omega)]
      have hz : (acc ++ sep).size = acc.size + sep.size := by simp
      simp only [if_pos (show (acc ++ sep).size + b.size ≤ 9223372036854775807 by omega)]
      rw [e]
      have := join_go sep hsep l (A ++ [b]) ((acc ++ sep) ++ b) (by rw [← e]; exact hl) (fun x hm => hx x (by simp [hm])) (by simp; omega)
      have j : jl sep acc A.length (b :: l) = jl sep ((acc ++ sep) ++ b) (A ++ [b]).length l := by
        obtain ⟨i, hi⟩ : ∃ i, A.length = i + 1 := ⟨A.length - 1, by omega⟩
        rw [hi, show (A ++ [b]).length = i + 2 by rw [List.length_append, hi]; rfl]; rfl
      rw [j]
      exact this
    · have h0 : A.length = 0 := by omega
      have ha0 : acc.size ≤ 0 := by rw [h0] at ha; exact ha
      simp only [if_neg c, if_pos (show acc.size + b.size ≤ 9223372036854775807 by omega)]
      rw [e]
      have := join_go sep hsep l (A ++ [b]) (acc ++ b) (by rw [← e]; exact hl) (fun x hm => hx x (by simp [hm])) (by simp; omega)
      have j : jl sep acc A.length (b :: l) = jl sep (acc ++ b) (A ++ [b]).length l := by
        have hi : A.length = 0 := by omega
        rw [hi, show (A ++ [b]).length = 1 by rw [List.length_append, hi]; rfl]; rfl
      rw [j]
      exact this
theorem join_ev (sep : ByteArray) (hsep : sep.size ≤ 20) (l : List ByteArray) (hl : l.length ≤ 1000) (hx : ∀ x ∈ l, x.size ≤ 1000) : Ev (fun k => spec_Join.f k l sep) (jl sep ⟨#[]⟩ 0 l) := by
  unfold spec_Join.f
  exact join_go sep hsep l [] ⟨#[]⟩ (by simpa using hl) hx (by simp [ByteArray.size])
def decT (n : Int) : ByteArray := decB n.toNat
theorem decT_size (n : Int) (h : U64 n) : (decT n).size ≤ 20 := decB_size _ (by unfold U64 at h; omega)
theorem numbers_go (sep : ByteArray) (hsep : sep.size ≤ 20) : ∀ (l A : List Int), (A ++ l).length ≤ 1000 → (∀ x ∈ A ++ l, U64 x) → Ev (fun k => spec_numbers.l0 k sep (A.map decT) (A ++ l) ((A ++ l).length : Int) (A.length : Int)) (jl sep ⟨#[]⟩ 0 ((A ++ l).map decT))
  | [], A, hl, hx => by
    refine Ev.step (fun k => by rw [spec_numbers.l0]) ?_
    simp only [if_neg (show ¬ ((A.length : Int) < ((A ++ ([] : List Int)).length : Int)) by simp)]
    simp only [List.append_nil] at hx hl ⊢
    refine Ev.bind (join_ev sep hsep (A.map decT) (by simpa using hl) ?_) (Ev.now _)
    intro x hm
    obtain ⟨y, hy, rfl⟩ := List.mem_map.1 hm
    exact Nat.le_trans (decT_size y (hx y hy)) (by omega)
  | b :: l, A, hl, hx => by
    have hll : A.length + (l.length + 1) ≤ 1000 := by simpa using hl
    refine Ev.step (fun k => by rw [spec_numbers.l0]) ?_
    have w : wrap64 ((A.length : Int) + 1) = ((A ++ [b]).length : Int) := by rw [wr64 _ (by omega)]; simp
    have e : A ++ b :: l = (A ++ [b]) ++ l := by simp
    have r : rd (A ++ b :: l) (A.length : Int) = b := by unfold rd; simp
    have cl : (A.length : Int) < ((A ++ b :: l).length : Int) := by simp; omega
    simp only [if_pos cl, if_pos (show (0 : Int) ≤ (A.length : Int) by omega), r, w]
    refine Ev.bind (text_ev b (hx b (by simp))) ?_
    simp only [if_pos (show (A.map decT).length < 8796093022208 by simp; omega)]
    have := numbers_go sep hsep l (A ++ [b]) (by rw [← e]; exact hl) (by rw [← e]; exact hx)
    rw [e]
    rw [List.map_append] at this
    exact this
theorem numbers_ev (sep : ByteArray) (hsep : sep.size ≤ 20) (l : List Int) (hl : l.length ≤ 1000) (hx : ∀ x ∈ l, U64 x) : Ev (fun k => spec_numbers.f k l sep) (jl sep ⟨#[]⟩ 0 (l.map decT)) := by
  unfold spec_numbers.f
  exact numbers_go sep hsep l [] hl hx
def lineB : List Int → Bs
  | [] => [10]
  | [n] => Lib.decDigits n.toNat ++ [10]
  | n :: m :: l => Lib.decDigits n.toNat ++ 32 :: lineB (m :: l)
theorem len_seven {l : List Int} (h : l.length = 7) : ∃ a b c d e f g, l = [a, b, c, d, e, f, g] := by
  match l, h with
  | [a, b, c, d, e, f, g], _ => exact ⟨a, b, c, d, e, f, g, rfl⟩
theorem seven_text (a b c d e f g : Int) : jl ⟨#[32]⟩ ⟨#[]⟩ 0 ([a, b, c, d, e, f, g].map decT) ++ ⟨#[10]⟩ = B (lineB [a, b, c, d, e, f, g]) := by
  have e0 : (⟨#[]⟩ : ByteArray) = B [] := rfl
  have e1 : (⟨#[32]⟩ : ByteArray) = B [32] := rfl
  have e2 : (⟨#[10]⟩ : ByteArray) = B [10] := rfl
  have ed : ∀ n, decT n = B (Lib.decDigits n.toNat) := fun _ => rfl
  simp only [List.map_cons, List.map_nil, jl, e0, e1, e2, ed, B_app, lineB]
  congr 1
  simp
theorem print_ends (N : List Int) (hu : ∀ x ∈ N, U64 x) : Ends (fun k => spec_StatmPrint.f k [⟨⟨#[]⟩, N, []⟩]) (fun r => (N.length = 7 → r.2 = 1) ∧ (r.2 = 1 → N.length = 7 ∧ r.1 = B (lineB N))) := by
  unfold spec_StatmPrint.f
  have e1 : (([⟨⟨#[]⟩, N, []⟩] : List S48).length : Int) = 1 := rfl
  have e2 : (rd_T48 [⟨⟨#[]⟩, N, []⟩] 0) = ⟨⟨#[]⟩, N, []⟩ := rfl
  have e3 : (⟨#[]⟩ : ByteArray).toList = [] := by rw [ByteArray.toList_eq]
  simp only [if_pos e1, e2, if_pos e3, if_pos (show (0 : Int) < (([⟨⟨#[]⟩, N, []⟩] : List S48).length : Int) by rw [e1]; omega)]
  by_cases c : (N.length : Int) = 7
  · have s : spec_sized.f ⟨#[]⟩ N [] 7 0 = some true := by unfold spec_sized.f; rw [if_pos c]; rfl
    simp only [s, Option.bind_some, if_true]
    refine Ends.bind (Ends.ev (numbers_ev ⟨#[32]⟩ (by decide) N (by omega) hu)) fun t ht => ?_
    obtain ⟨a, b, c', d, e, f, g, rfl⟩ := len_seven (l := N) (by omega)
    have hz : t.size + 1 ≤ 9223372036854775807 := by
      have q := seven_text a b c' d e f g
      rw [← ht] at q
      have q2 : (t ++ ⟨#[10]⟩).size = t.size + 1 := by rw [ByteArray.size_append]; rfl
      rw [q, B_size] at q2
      have l0 := decT_size a (hu a (by simp))
      have l1 := decT_size b (hu b (by simp))
      have l2 := decT_size c' (hu c' (by simp))
      have l3 := decT_size d (hu d (by simp))
      have l4 := decT_size e (hu e (by simp))
      have l5 := decT_size f (hu f (by simp))
      have l6 := decT_size g (hu g (by simp))
      simp only [show ∀ n, (decT n).size = (Lib.decDigits n.toNat).length from fun n => B_size _] at l0 l1 l2 l3 l4 l5 l6
      simp only [lineB, List.length_append, List.length_cons, List.length_nil] at q2
      omega
    simp only [if_pos hz]
    refine Ends.now ⟨fun _ => rfl, fun _ => ⟨rfl, ?_⟩⟩
    rw [ht]
    exact seven_text a b c' d e f g
  · have s : spec_sized.f ⟨#[]⟩ N [] 7 0 = some false := by unfold spec_sized.f; rw [if_neg c]
    simp only [s, Option.bind_some, Bool.false_eq_true, if_false]
    exact Ends.now ⟨fun h => absurd h (by omega), by simp⟩
end Go.Proofs.YtabfehcpcjcomaaGreatDoor.R
namespace Go.Proofs.YtabfehcpcjcomaaGreatDoor.R
open Go.RowKit Go.Proofs.YtabfehcpcjcomaaGreatDoor.QA0 Go.Proofs.YtabfehcpcjcomaaGreatDoorW.PrintWords Go.Proofs.YtabfehcpcjcomaaGreatDoorW.PrintLast Go.Proofs.YtabfehcpcjcomaaGreatDoorW.PrintMore
set_option linter.unusedVariables false
set_option linter.unusedSimpArgs false
theorem toList_inj {a b : ByteArray} (h : a.toList = b.toList) : a = b := by
  rw [ByteArray.toList_eq, ByteArray.toList_eq] at h
  exact ByteArray.ext (Array.toList_inj.1 h)
def Cast (x : S34) (y : S38) : Prop := Ev (fun k => laws_toNode.f k x.f0 x.f1 x.f2 x.f3 x.f4 x.f5 x.f6 x.f7) (y.f0, y.f1, y.f2, y.f3, y.f4, y.f5, y.f6, y.f7)
inductive Casts : List S34 → List S38 → Prop
  | nil : Casts [] []
  | cons {x y l l'} : Cast x y → Casts l l' → Casts (x :: l) (y :: l')
theorem toNode_go (n : ByteArray) (kd : Int) (b : Bool) (i u : Int) (f : Nat) (s : ByteArray) : ∀ (l : List S34) (l' : List S38) (A : List S34) (acc : List S38), (A ++ l).length ≤ 100000 → acc.length ≤ A.length → Casts l l' →
    Ev (fun k => laws_toNode.l0 k (A ++ l) ((A ++ l).length : Int) (A.length : Int) n kd b i u f s acc) (n, kd, b, i, u, f, s, acc ++ l')
  | [], [], A, acc, hl, ha, _ => by
    refine Ev.step (fun k => by rw [laws_toNode.l0]) ?_
    simp only [List.append_nil, if_neg (show ¬ ((A.length : Int) < (A.length : Int)) by omega)]
    exact Ev.now _
  | [], _ :: _, _, _, _, _, h => nomatch h
  | _ :: _, [], _, _, _, _, h => nomatch h
  | x :: l, y :: l', A, acc, hl, ha, h => by
    obtain ⟨h, hs⟩ : Cast x y ∧ Casts l l' := by cases h with | cons h hs => exact ⟨h, hs⟩
    have hll : A.length + (l.length + 1) ≤ 100000 := by simpa using hl
    refine Ev.step (fun k => by rw [laws_toNode.l0]) ?_
    have w : wrap64 ((A.length : Int) + 1) = ((A ++ [x]).length : Int) := by rw [wr64 _ (by omega)]; simp
    have e : A ++ x :: l = (A ++ [x]) ++ l := by simp
    have r : rd_T34 (A ++ x :: l) (A.length : Int) = x := by unfold rd_T34; simp
    have cl : (A.length : Int) < ((A ++ x :: l).length : Int) := by simp; omega
    simp only [if_pos cl, if_pos (show (0 : Int) ≤ (A.length : Int) by omega), r, w]
    refine Ev.bind h ?_
    simp only [if_pos (show acc.length < 1466015503701 by omega)]
    have := toNode_go n kd b i u f s l l' (A ++ [x]) (acc ++ [y]) (by rw [← e]; exact hl) (by simp; omega) hs
    rw [e]
    rw [List.append_assoc acc, List.singleton_append] at this
    have hy : (⟨y.f0, y.f1, y.f2, y.f3, y.f4, y.f5, y.f6, y.f7⟩ : S38) = y := by cases y; rfl
    simp only [hy]
    exact this
theorem cast_node {n : ByteArray} {kd : Int} {b : Bool} {i u : Int} {f : Nat} {s : ByteArray} {l : List S34} {l' : List S38} (hl : l.length ≤ 100000) (h : Casts l l') : Cast ⟨n, kd, b, i, u, f, s, l⟩ ⟨n, kd, b, i, u, f, s, l'⟩ := by
  unfold Cast
  refine Ev.step (fun k => by rw [laws_toNode.f]) ?_
  exact toNode_go n kd b i u f s l l' [] [] (by simpa using hl) (by simp) h
theorem cast_leaf {n : ByteArray} {kd : Int} {b : Bool} {i u : Int} {f : Nat} {s : ByteArray} : Cast ⟨n, kd, b, i, u, f, s, []⟩ ⟨n, kd, b, i, u, f, s, []⟩ := cast_node (by simp) .nil
def Same (y : S38) : Prop := Ev (fun k => spec_SameNode.f k y.f0 y.f1 y.f2 y.f3 y.f4 y.f5 y.f6 y.f7 y.f0 y.f1 y.f2 y.f3 y.f4 y.f5 y.f6 y.f7) true
theorem same_go (n n' : ByteArray) (kd kd' : Int) (b b' : Bool) (i u i' u' : Int) (f f' : Nat) (s s' : ByteArray) : ∀ (l A : List S38), (A ++ l).length ≤ 100000 → (∀ x ∈ l, Same x) →
    Ev (fun k => spec_SameNode.l0 k ((A ++ l).length : Int) (A.length : Int) n kd b i u f s (A ++ l) n' kd' b' i' u' f' s' (A ++ l)) true
  | [], A, hl, h => by
    refine Ev.step (fun k => by rw [spec_SameNode.l0]) ?_
    simp only [List.append_nil, if_neg (show ¬ ((A.length : Int) < (A.length : Int)) by omega)]
    exact Ev.now _
  | x :: l, A, hl, h => by
    have hll : A.length + (l.length + 1) ≤ 100000 := by simpa using hl
    refine Ev.step (fun k => by rw [spec_SameNode.l0]) ?_
    have w : wrap64 ((A.length : Int) + 1) = ((A ++ [x]).length : Int) := by rw [wr64 _ (by omega)]; simp
    have e : A ++ x :: l = (A ++ [x]) ++ l := by simp
    have r : rd_T38 (A ++ x :: l) (A.length : Int) = x := by unfold rd_T38; simp
    have cl : (A.length : Int) < ((A ++ x :: l).length : Int) := by simp; omega
    simp only [if_pos cl, if_pos (show (0 : Int) ≤ (A.length : Int) by omega), r, w]
    refine Ev.bind (h x (by simp)) ?_
    simp only [if_true]
    have := same_go n n' kd kd' b b' i u i' u' f f' s s' l (A ++ [x]) (by rw [← e]; exact hl) (fun z hz => h z (by simp [hz]))
    rw [e]
    exact this
theorem same_node {n : ByteArray} {kd : Int} {b : Bool} {i u : Int} {f : Nat} {s : ByteArray} {l : List S38} (hl : l.length ≤ 100000) (h : ∀ x ∈ l, Same x) : Same ⟨n, kd, b, i, u, f, s, l⟩ := by
  unfold Same
  refine Ev.step (fun k => by rw [spec_SameNode.f]) ?_
  have hb : ¬ ((b != b) = true) := by simp
  simp only [if_true, if_neg hb]
  exact same_go n n kd kd b b i u i u f f s s l [] (by simpa using hl) h
theorem same_leaf {n : ByteArray} {kd : Int} {b : Bool} {i u : Int} {f : Nat} {s : ByteArray} : Same ⟨n, kd, b, i, u, f, s, []⟩ := same_node (by simp) (by simp)
end Go.Proofs.YtabfehcpcjcomaaGreatDoor.R
namespace Go.Proofs.YtabfehcpcjcomaaGreatDoor.R
open Go.RowKit Go.Proofs.YtabfehcpcjcomaaGreatDoor.QA0 Go.Proofs.YtabfehcpcjcomaaGreatDoorW.PrintWords Go.Proofs.YtabfehcpcjcomaaGreatDoorW.PrintLast Go.Proofs.YtabfehcpcjcomaaGreatDoorW.PrintMore
set_option linter.unusedVariables false
set_option linter.unusedSimpArgs false
def rowsOf (N : List Int) : List S48 := [⟨⟨#[]⟩, N, []⟩]
theorem meant_ends (T : ByteArray) (hs : T.size ≤ 40000) (N : List Int) (hu : ∀ x ∈ N, U64 x) (a2 : Bool) :
    Ends (fun k => spec_meant_58.f k T (rowsOf N) a2 () false) (fun r => r.2.2 = 1 → N.length = 7 ∧ T = B (lineB N) ∧ r.1 = rowsOf N ∧ r.2.1 = true) := by
  have key : ∀ b : Bool, Ends (fun k => spec_meant_58.j0 k T (rowsOf N) false b) (fun r => r.2.2 = 1 → N.length = 7 ∧ T = B (lineB N) ∧ r.1 = rowsOf N ∧ r.2.1 = true) := by
    intro b
    refine Ends.step (fun k => by rw [spec_meant_58.j0]) ?_
    cases b with
    | true => simp only [if_true]; exact Ends.now (by simp)
    | false =>
      simp only [Bool.false_eq_true, if_false]
      refine Ends.bind (print_ends N hu) fun r hr => ?_
      by_cases c : r.2 = 1
      · obtain ⟨h7, ht⟩ := hr.2 c
        simp only [if_pos c]
        by_cases d : r.1.toList = T.toList
        · simp only [if_pos d]
          exact Ends.now fun _ => ⟨h7, by rw [← ht]; exact (toList_inj d).symm, rfl, rfl⟩
        · simp only [if_neg d]
          exact Ends.now (by simp)
      · simp only [if_neg c]
        exact Ends.now (by simp)
  unfold spec_meant_58.f
  cases a2 with
  | true =>
    simp only [if_true]
    exact Ends.bind (plain_ends T hs) fun p _ => key _
  | false =>
    simp only [Bool.false_eq_true, if_false]
    exact key _
theorem read_ends (T : ByteArray) (hs : T.size ≤ 40000) :
    Ends (fun k => spec_StatmRead.f k T) (fun r => r.2.2 = 1 → ∃ N : List Int, N.length = 7 ∧ (∀ x ∈ N, U64 x) ∧ T = B (lineB N) ∧ r.1 = rowsOf N ∧ r.2.1 = true) := by
  unfold spec_StatmRead.f
  refine Ends.bind (single_ends T hs) fun t ht => ?_
  refine Ends.bind (fields_ends t (by omega)) fun l hl => ?_
  refine Ends.bind (decimals_ends l t (by omega) hl) fun n hn => ?_
  refine Ends.bind (meant_ends T hs n.1 hn.2 n.2) fun r hr => ?_
  refine Ends.now fun h1 => ?_
  obtain ⟨a, b, c, d⟩ := hr h1
  exact ⟨n.1, a, hn.2, b, c, d⟩
def lf (n : ByteArray) (v : Int) : S38 := ⟨n, 3, false, 0, v, 0, ⟨#[]⟩, []⟩
def statKids : List Int → List S38
  | [a, b, c, d, e, f, g] => [⟨⟨#[80, 73, 68]⟩, 2, false, 0, 0, 0, ⟨#[]⟩, []⟩, lf ⟨#[83, 105, 122, 101]⟩ a, lf ⟨#[82, 101, 115, 105, 100, 101, 110, 116]⟩ b, lf ⟨#[83, 104, 97, 114, 101, 100]⟩ c, lf ⟨#[84, 101, 120, 116]⟩ d, lf ⟨#[76, 105, 98]⟩ e, lf ⟨#[68, 97, 116, 97]⟩ f, lf ⟨#[68, 116]⟩ g]
  | _ => []
theorem tree_go (a b c d e f g : Int) (names : List ByteArray) (hn : names.length = 7) (x6 : List S38) (hx : x6.length ≤ 20) :
    Ev (fun k => spec_StatmTree.l0 k (rowsOf [a, b, c, d, e, f, g]) x6 names (names.length : Int) 0)
      ((⟨#[]⟩ : ByteArray), 8, false, 0, 0, 0, (⟨#[]⟩ : ByteArray), x6 ++ [lf (rdOf ByteArray.empty names 0) a, lf (rdOf ByteArray.empty names 1) b, lf (rdOf ByteArray.empty names 2) c, lf (rdOf ByteArray.empty names 3) d, lf (rdOf ByteArray.empty names 4) e, lf (rdOf ByteArray.empty names 5) f, lf (rdOf ByteArray.empty names 6) g], 1) := by
  have st : ∀ (i : Int) (y : List S38), 0 ≤ i → i < 7 → y.length ≤ 40 → ∀ k, spec_StatmTree.l0 (k + 1) (rowsOf [a, b, c, d, e, f, g]) y names (names.length : Int) i = spec_StatmTree.l0 k (rowsOf [a, b, c, d, e, f, g]) (y ++ [lf (rdOf ByteArray.empty names i) (rd [a, b, c, d, e, f, g] i)]) names (names.length : Int) (i + 1) := by
    intro i y h0 h1 hy k
    have w : wrap64 (i + 1) = i + 1 := wr64 _ (by omega)
    have e1 : (0 : Int) < ((rowsOf [a, b, c, d, e, f, g]).length : Int) := by simp [rowsOf]
    have e2 : i < (((rd_T48 (rowsOf [a, b, c, d, e, f, g]) 0).f1).length : Int) := h1
    rw [spec_StatmTree.l0]
    rw [if_pos (show i < (names.length : Int) by omega), if_pos h0, if_pos (show i < (names.length : Int) by omega), if_pos e1, if_pos e2]
    simp only [spec_uintNode.f, Option.bind_some, if_pos (show y.length < 1466015503701 by omega), w]
    rfl
  refine Ev.step (st 0 _ (by omega) (by omega) (by omega)) ?_
  refine Ev.step (st _ _ (by omega) (by omega) (by simp; omega)) ?_
  refine Ev.step (st _ _ (by omega) (by omega) (by simp; omega)) ?_
  refine Ev.step (st _ _ (by omega) (by omega) (by simp; omega)) ?_
  refine Ev.step (st _ _ (by omega) (by omega) (by simp; omega)) ?_
  refine Ev.step (st _ _ (by omega) (by omega) (by simp; omega)) ?_
  refine Ev.step (st _ _ (by omega) (by omega) (by simp; omega)) ?_
  refine Ev.step (fun k => by rw [spec_StatmTree.l0]) ?_
  simp only [if_neg (show ¬ ((0 : Int) + 1 + 1 + 1 + 1 + 1 + 1 + 1 < (names.length : Int)) by omega), spec_recordNode.f, Option.bind_some, List.append_assoc, List.cons_append, List.nil_append]
  exact Ev.now _
theorem statm_tree (N : List Int) (h7 : N.length = 7) (hu : ∀ x ∈ N, U64 x) :
    Ev (fun k => spec_StatmTree.f k (rowsOf N)) ((⟨#[]⟩ : ByteArray), 8, false, 0, 0, 0, (⟨#[]⟩ : ByteArray), statKids N, 1) := by
  obtain ⟨r, hr, hp⟩ := print_ends N hu
  have h1 := hp.1 h7
  obtain ⟨a, b, c, d, e, f, g, rfl⟩ := len_seven h7
  unfold spec_StatmTree.f
  refine Ev.bind hr ?_
  simp only [if_pos h1, spec_intNode.f, Option.bind_some]
  exact tree_go a b c d e f g _ rfl _ (by simp)
theorem bytes_back (T : ByteArray) : strOfNums (bytesOf T) = T := by
  apply ByteArray.ext
  unfold strOfNums bytesOf
  apply Array.toList_inj.1
  have e : ((fun n : Int => UInt8.ofNat n.toNat) ∘ fun b : UInt8 => (b.toNat : Int)) = id := by funext b; simp
  simp only [List.map_map, e, List.map_id]
theorem line_fields {L : List (List UInt8)} (rest : Bs) (hr : Lib.fieldsGo [] rest = L) (n : Int) (z : UInt8) (hz : Lib.isSp z = true) : Lib.fieldsGo [] (Lib.decDigits n.toNat ++ z :: rest) = Lib.decDigits n.toNat :: L := by
  have hd : ∀ (l cur : List UInt8), (∀ c ∈ l, 48 ≤ c.toNat ∧ c.toNat ≤ 57) → cur ++ l ≠ [] → Lib.fieldsGo cur (l ++ z :: rest) = (cur ++ l) :: L := by
    intro l
    induction l with
    | nil =>
      intro cur _ hne
      rw [List.append_nil] at hne
      rw [List.nil_append, List.append_nil, Lib.fieldsGo_end _ _ _ hz hne, hr]
    | cons c l ih =>
      intro cur hc _
      have hsp : Lib.isSp c = false := by
        have h := hc c (by simp)
        have key : ∀ m : UInt8, m.toNat < 48 → ¬ (c = m) := by intro m hm he; rw [he] at h; omega
        unfold Lib.isSp
        simp [key 9 (by decide), key 10 (by decide), key 11 (by decide), key 12 (by decide), key 13 (by decide), key 32 (by decide)]
      rw [List.cons_append, Lib.fieldsGo_more _ _ _ hsp, ih (cur ++ [c]) (fun x hx => hc x (by simp [hx])) (by simp)]
      simp
  have := hd (Lib.decDigits n.toNat) [] (dec_dig n.toNat) (by simpa using dec_ne n.toNat)
  simpa using this
theorem uint_dec (n : Int) (h : U64 n) : uintF (decT n) 10 64 = some (n, none) := by
  have hz := decT_size n h
  unfold uintF
  rw [if_pos ⟨rfl, rfl, by omega⟩]
  have hp : Lib.parseUintB 64 (decT n).data.toList = .ok n.toNat := pub_dec n.toNat (by unfold U64 at h; omega)
  rw [hp]
  have e : ((n.toNat : Nat) : Int) = n := by unfold U64 at h; omega
  simp only [e]
theorem parse_go (l : List Int) : ∀ (A : List Int), (A ++ l).length ≤ 1000 → (∀ x ∈ A ++ l, U64 x) →
    Ev (fun k => procfs_parseStatm.l0 k A ((A ++ l).map decT) (((A ++ l).map decT).length : Int) (A.length : Int)) (A ++ l, none) := by
  induction l with
  | nil =>
    intro A hl hu
    refine Ev.step (fun k => by rw [procfs_parseStatm.l0]) ?_
    simp only [List.append_nil, List.length_map, if_neg (show ¬ ((A.length : Int) < (A.length : Int)) by omega)]
    exact Ev.now _
  | cons x l ih =>
    intro A hl hu
    have hll : A.length + (l.length + 1) ≤ 1000 := by simpa using hl
    refine Ev.step (fun k => by rw [procfs_parseStatm.l0]) ?_
    have w : wrap64 ((A.length : Int) + 1) = ((A ++ [x]).length : Int) := by rw [wr64 _ (by omega)]; simp
    have e : A ++ x :: l = (A ++ [x]) ++ l := by simp
    have r : rdOf ByteArray.empty ((A ++ x :: l).map decT) (A.length : Int) = decT x := by
      have := rd_mid (A.map decT) (decT x) (l.map decT)
      rw [List.length_map] at this
      rw [List.map_append]
      exact this
    have cl : (A.length : Int) < (((A ++ x :: l).map decT).length : Int) := by simp; omega
    have hx : strconv_ParseUint.f (decT x) 10 64 = some (x, none) := uint_dec x (hu x (by simp))
    simp only [if_pos cl, if_pos (show (0 : Int) ≤ (A.length : Int) by omega), r, w, hx, Option.bind_some, Option.isNone_none, if_true, if_pos (show A.length < 17592186044416 by omega)]
    have := ih (A ++ [x]) (by rw [← e]; exact hl) (by rw [← e]; exact hu)
    rw [e]
    exact this
theorem parse_ev (T : ByteArray) (N : List Int) (hN : N.length ≤ 1000) (hu : ∀ x ∈ N, U64 x) (hf : fieldsF T = some (N.map decT)) : Ev (fun k => procfs_parseStatm.f k (bytesOf T)) (N, none) := by
  unfold procfs_parseStatm.f strings_Fields.f
  rw [bytes_back, hf]
  simp only [Option.bind_some]
  exact parse_go N [] hN hu
theorem asc_dec (n : Int) : (Lib.decDigits n.toNat).all (fun c => decide (c.toNat < 128)) = true := by
  rw [List.all_eq_true]
  intro c hc
  have := dec_dig n.toNat c hc
  simp only [decide_eq_true_eq]
  omega
theorem fields_line (N : List Int) (h7 : N.length = 7) (hu : ∀ x ∈ N, U64 x) : fieldsF (B (lineB N)) = some (N.map decT) := by
  obtain ⟨a, b, c, d, e, f, g, rfl⟩ := len_seven h7
  have l0 := decT_size a (hu a (by simp))
  have l1 := decT_size b (hu b (by simp))
  have l2 := decT_size c (hu c (by simp))
  have l3 := decT_size d (hu d (by simp))
  have l4 := decT_size e (hu e (by simp))
  have l5 := decT_size f (hu f (by simp))
  have l6 := decT_size g (hu g (by simp))
  simp only [show ∀ n, (decT n).size = (Lib.decDigits n.toNat).length from fun n => B_size _] at l0 l1 l2 l3 l4 l5 l6
  have hasc : Asc (B (lineB [a, b, c, d, e, f, g])) = true := by
    unfold Asc
    rw [B_data]
    simp only [lineB, List.all_append, List.all_cons, List.all_nil, asc_dec]
    rfl
  have hsz : (B (lineB [a, b, c, d, e, f, g])).size ≤ 1048576 := by
    rw [B_size]
    simp only [lineB, List.length_append, List.length_cons, List.length_nil]
    omega
  unfold fieldsF
  rw [if_pos ⟨hsz, hasc⟩, B_data]
  unfold Lib.fields
  have e10 : Lib.fieldsGo [] ([] : List UInt8) = [] := rfl
  have k6 := line_fields [] e10 g 10 (by decide)
  have k5 := line_fields _ k6 f 32 (by decide)
  have k4 := line_fields _ k5 e 32 (by decide)
  have k3 := line_fields _ k4 d 32 (by decide)
  have k2 := line_fields _ k3 c 32 (by decide)
  have k1 := line_fields _ k2 b 32 (by decide)
  have k0 := line_fields _ k1 a 32 (by decide)
  rw [show lineB [a, b, c, d, e, f, g] = Lib.decDigits a.toNat ++ 32 :: (Lib.decDigits b.toNat ++ 32 :: (Lib.decDigits c.toNat ++ 32 :: (Lib.decDigits d.toNat ++ 32 :: (Lib.decDigits e.toNat ++ 32 :: (Lib.decDigits f.toNat ++ 32 :: (Lib.decDigits g.toNat ++ [10])))))) from rfl, k0]
  rfl
def lf4 (n : ByteArray) (v : Int) : S34 := ⟨n, 3, false, 0, v, 0, ⟨#[]⟩, []⟩
def statKids4 : List Int → List S34
  | [a, b, c, d, e, f, g] => [⟨⟨#[80, 73, 68]⟩, 2, false, 0, 0, 0, ⟨#[]⟩, []⟩, lf4 ⟨#[83, 105, 122, 101]⟩ a, lf4 ⟨#[82, 101, 115, 105, 100, 101, 110, 116]⟩ b, lf4 ⟨#[83, 104, 97, 114, 101, 100]⟩ c, lf4 ⟨#[84, 101, 120, 116]⟩ d, lf4 ⟨#[76, 105, 98]⟩ e, lf4 ⟨#[68, 97, 116, 97]⟩ f, lf4 ⟨#[68, 116]⟩ g]
  | _ => []
theorem impl_ev (T : ByteArray) (N : List Int) (h7 : N.length = 7) (hu : ∀ x ∈ N, U64 x) (hT : T = B (lineB N)) (hs : T.size ≤ 40000) :
    Ev (fun k => impl_Statm.f k T) ((⟨#[]⟩ : ByteArray), 8, false, 0, 0, 0, (⟨#[]⟩ : ByteArray), statKids4 N, 0) := by
  unfold impl_Statm.f
  simp only [if_pos (show T.size ≤ 1048576 by omega)]
  refine Ev.bind (parse_ev T N (by omega) hu (by rw [hT]; exact fields_line N h7 hu)) ?_
  obtain ⟨a, b, c, d, e, f, g, rfl⟩ := len_seven h7
  have : statmOf ([a, b, c, d, e, f, g], none) = some ((⟨#[]⟩ : ByteArray), 8, false, 0, 0, 0, (⟨#[]⟩ : ByteArray), statKids4 [a, b, c, d, e, f, g], 0) := by
    unfold statmOf impl_Statm_1.f impl_procfsProcStatm.f
    rfl
  simp only [this]
  exact Ev.now _
theorem kids_cast (N : List Int) (h7 : N.length = 7) : Casts (statKids4 N) (statKids N) := by
  obtain ⟨a, b, c, d, e, f, g, rfl⟩ := len_seven h7
  exact .cons cast_leaf (.cons cast_leaf (.cons cast_leaf (.cons cast_leaf (.cons cast_leaf (.cons cast_leaf (.cons cast_leaf (.cons cast_leaf .nil)))))))
theorem kids_same (N : List Int) (h7 : N.length = 7) : ∀ x ∈ statKids N, Same x := by
  obtain ⟨a, b, c, d, e, f, g, rfl⟩ := len_seven h7
  intro x hx
  simp only [statKids, lf, List.mem_cons, List.not_mem_nil, or_false] at hx
  rcases hx with rfl | rfl | rfl | rfl | rfl | rfl | rfl | rfl <;> exact same_leaf
end Go.Proofs.YtabfehcpcjcomaaGreatDoor.R
namespace Go.Proofs.YtabfehcpcjcomaaGreatDoor.QA0
open Go.RowKit Go.Proofs.YtabfehcpcjcomaaGreatDoorW.PrintWords Go.Proofs.YtabfehcpcjcomaaGreatDoorW.PrintLast Go.Proofs.YtabfehcpcjcomaaGreatDoorW.PrintMore
attribute [local go_sem] max2_int min2_int max_two min_two max_three min_three max_four min_four
set_option linter.unusedVariables false
set_option linter.unusedSimpArgs false
def laws_read_16_17_18.f (k : Nat) (a0 : ByteArray) (a1 : Unit) (a2 : Unit) (a3 : Unit) : Option (Bool) := if (a0.size : Int) > 40000 then (some true) else ((spec_StatmRead.f k a0).bind fun bt710 => (if bt710.2.2 = 1 then ((impl_Statm.f k a0).bind fun bt716 => (if bt710.2.1 = true then ((spec_StatmTree.f k bt710.1).bind fun bt729 => (if bt729.2.2.2.2.2.2.2.2 = 1 then (if bt716.2.2.2.2.2.2.2.2 = 0 then ((laws_toNode.f k bt716.1 bt716.2.1 bt716.2.2.1 bt716.2.2.2.1 bt716.2.2.2.2.1 bt716.2.2.2.2.2.1 bt716.2.2.2.2.2.2.1 bt716.2.2.2.2.2.2.2.1).bind fun bt741 => ((spec_SameNode.f k bt741.1 bt741.2.1 bt741.2.2.1 bt741.2.2.2.1 bt741.2.2.2.2.1 bt741.2.2.2.2.2.1 bt741.2.2.2.2.2.2.1 bt741.2.2.2.2.2.2.2 bt729.1 bt729.2.1 bt729.2.2.1 bt729.2.2.2.1 bt729.2.2.2.2.1 bt729.2.2.2.2.2.1 bt729.2.2.2.2.2.2.1 bt729.2.2.2.2.2.2.2.1).bind fun t751 => (if t751 = true then ((laws_lives.f).bind fun t752 => (some t752)) else (some false)))) else (some false)) else ((laws_lives.f).bind fun t753 => (some t753)))) else (if bt716.2.2.2.2.2.2.2.2 = 1 then ((laws_lives.f).bind fun t728 => (some t728)) else (some false)))) else ((laws_lives.f).bind fun t715 => (some t715))))
def laws_read_16_17_18.T10 : Bool × List (List Nat × List Nat) := (true, [([], []), ([0], [0]), ([1], [1]), ([2], [2]), ([3, 2], [2, 3]), ([4, 2, 2], [2, 4]), ([5], [5]), ([6, 5, 5], [5, 6]), ([5], [5]), ([7, 8, 7, 5], [5, 7, 8]), ([5, 9, 2], [2, 5, 9]), ([2, 10], [2, 10]), ([11, 9], [11]), ([12, 12], [12]), ([12, 13], [12, 13]), ([14, 13, 0, 1, 2, 3, 4, 5, 6, 7, 8, 9, 10, 11, 12, 13, 14], [14])])
def laws_read_16_17_18.B10 : List Nat := [0, 1, 3, 7, 15, 31, 63, 127, 63, 511, 1023, 2047, 4095, 8191, 16383, 32767]
theorem laws_read_16_17_18.tab10 : rtab .any (opsOf Tryz.f9 10) = laws_read_16_17_18.T10 := by kernel_rfl
theorem laws_read_16_17_18.bits10 : waitsOk laws_read_16_17_18.T10.2 laws_read_16_17_18.B10 = true := by kernel_rfl
set_option maxHeartbeats 8000000 in
set_option maxRecDepth 100000 in
theorem laws_read_16_17_18.calls (k : Nat) (a0 : ByteArray) (a1 : Unit) (a2 : Unit) (a3 : Unit) (r : Bool) (w : World) (h : laws_read_16_17_18.f k a0 a1 a2 a3 = some r) (hTabs : R.LTabs w := by first | assumption | exact Aside0.out ‹Aside0 (R.LTabs _)› | exact R.LTabs.below (Aside0.out ‹Aside0 (R.LTabs _)›) (by repeat (first | (with_reducible first | exact Aside0.out ‹Aside0 (Below _ _ _)› | exact Below.refl _ _ | apply below_alloc | apply pw_below_drewN | apply below_drew1)))) :
 Calls Tryz.prog 9 #[.string a0, .func (.func 16) #[] #[], .func (.func 17) #[] #[], .func (.func 18) #[] #[]] w fun e w' => e = .returned (.bool r) ∧ Below w.heap.size w w' := by
 have HTabs := Aside0.mk hTabs
 clear hTabs
 have hu34 := Tryz.underlying34
 have hu38 := Tryz.underlying38
 have HB := Aside0.mk (Below.refl w.heap.size w)
 have H : (if (a0.size : Int) > 40000 then (some true) else ((spec_StatmRead.f k a0).bind fun bt710 => (if bt710.2.2 = 1 then ((impl_Statm.f k a0).bind fun bt716 => (if bt710.2.1 = true then ((spec_StatmTree.f k bt710.1).bind fun bt729 => (if bt729.2.2.2.2.2.2.2.2 = 1 then (if bt716.2.2.2.2.2.2.2.2 = 0 then ((laws_toNode.f k bt716.1 bt716.2.1 bt716.2.2.1 bt716.2.2.2.1 bt716.2.2.2.2.1 bt716.2.2.2.2.2.1 bt716.2.2.2.2.2.2.1 bt716.2.2.2.2.2.2.2.1).bind fun bt741 => ((spec_SameNode.f k bt741.1 bt741.2.1 bt741.2.2.1 bt741.2.2.2.1 bt741.2.2.2.2.1 bt741.2.2.2.2.2.1 bt741.2.2.2.2.2.2.1 bt741.2.2.2.2.2.2.2 bt729.1 bt729.2.1 bt729.2.2.1 bt729.2.2.2.1 bt729.2.2.2.2.1 bt729.2.2.2.2.2.1 bt729.2.2.2.2.2.2.1 bt729.2.2.2.2.2.2.2.1).bind fun t751 => (if t751 = true then ((laws_lives.f).bind fun t752 => (some t752)) else (some false)))) else (some false)) else ((laws_lives.f).bind fun t753 => (some t753)))) else (if bt716.2.2.2.2.2.2.2.2 = 1 then ((laws_lives.f).bind fun t728 => (some t728)) else (some false)))) else ((laws_lives.f).bind fun t715 => (some t715))))) = some r := h
 clear h
 by_cases c5 : (a0.size : Int) > 40000
 · rw [if_pos c5] at H
   have c5b0 : decide (40000 < (a0.size : Int)) = true := decide_eq_true c5
   have c5b1 : decide (40000 < a0.size) = true := decide_eq_true (by omega)
   clear c5
   obtain rfl := Option.some.inj H
   go_enter Tryz.func9, Tryz.ntmps9
   go_wp2
   go_ret
   exact ⟨by first | rfl | (simp [errW_none, errW_some] <;> rfl) | (simp [*, errW_none, errW_some] <;> rfl), by repeat (first | (with_reducible first | exact HB.out | apply below_alloc | apply pw_below_drewN | apply below_drew1) | exact HB.out)⟩
 · rw [if_neg c5] at H
   have c5b0 : decide (40000 < (a0.size : Int)) = false := decide_eq_false c5
   have c5b1 : decide (40000 < a0.size) = false := decide_eq_false (by omega)
   clear c5
   replace H := Option.bind_eq_some_iff.mp H
   obtain ⟨⟨t710, t713, t714⟩, A60, H⟩ := H
   replace H : (if t714 = 1 then ((impl_Statm.f k a0).bind fun bt716 => (if t713 = true then ((spec_StatmTree.f k t710).bind fun bt729 => (if bt729.2.2.2.2.2.2.2.2 = 1 then (if bt716.2.2.2.2.2.2.2.2 = 0 then ((laws_toNode.f k bt716.1 bt716.2.1 bt716.2.2.1 bt716.2.2.2.1 bt716.2.2.2.2.1 bt716.2.2.2.2.2.1 bt716.2.2.2.2.2.2.1 bt716.2.2.2.2.2.2.2.1).bind fun bt741 => ((spec_SameNode.f k bt741.1 bt741.2.1 bt741.2.2.1 bt741.2.2.2.1 bt741.2.2.2.2.1 bt741.2.2.2.2.2.1 bt741.2.2.2.2.2.2.1 bt741.2.2.2.2.2.2.2 bt729.1 bt729.2.1 bt729.2.2.1 bt729.2.2.2.1 bt729.2.2.2.2.1 bt729.2.2.2.2.2.1 bt729.2.2.2.2.2.2.1 bt729.2.2.2.2.2.2.2.1).bind fun t751 => (if t751 = true then ((laws_lives.f).bind fun t752 => (some t752)) else (some false)))) else (some false)) else ((laws_lives.f).bind fun t753 => (some t753)))) else (if bt716.2.2.2.2.2.2.2.2 = 1 then ((laws_lives.f).bind fun t728 => (some t728)) else (some false)))) else ((laws_lives.f).bind fun t715 => (some t715))) = some r := H
   have A6 := Aside0.mk A60
   clear A60
   by_cases c7 : t714 = 1
   · rw [if_pos c7] at H
     have c7b0 : (t714 == 1) = true := beq_iff_eq.mpr c7
     have c7b1 : (t714 != 1) = false := bne_eq_false_iff_eq.mpr c7
     clear c7
     replace H := Option.bind_eq_some_iff.mp H
     obtain ⟨⟨t716, t717, t718, t719, t720, t721, t722, t723, t726⟩, A80, H⟩ := H
     replace H : (if t713 = true then ((spec_StatmTree.f k t710).bind fun bt729 => (if bt729.2.2.2.2.2.2.2.2 = 1 then (if t726 = 0 then ((laws_toNode.f k t716 t717 t718 t719 t720 t721 t722 t723).bind fun bt741 => ((spec_SameNode.f k bt741.1 bt741.2.1 bt741.2.2.1 bt741.2.2.2.1 bt741.2.2.2.2.1 bt741.2.2.2.2.2.1 bt741.2.2.2.2.2.2.1 bt741.2.2.2.2.2.2.2 bt729.1 bt729.2.1 bt729.2.2.1 bt729.2.2.2.1 bt729.2.2.2.2.1 bt729.2.2.2.2.2.1 bt729.2.2.2.2.2.2.1 bt729.2.2.2.2.2.2.2.1).bind fun t751 => (if t751 = true then ((laws_lives.f).bind fun t752 => (some t752)) else (some false)))) else (some false)) else ((laws_lives.f).bind fun t753 => (some t753)))) else (if t726 = 1 then ((laws_lives.f).bind fun t728 => (some t728)) else (some false))) = some r := H
     have A8 := Aside0.mk A80
     clear A80
     by_cases c9 : t713 = true
     · subst c9
       rw [if_pos rfl] at H
       have H1 := H
       clear H
       have H := H1
       clear H1
       replace H := Option.bind_eq_some_iff.mp H
       obtain ⟨⟨t729, t730, t731, t732, t733, t734, t735, t736, t739⟩, A100, H⟩ := H
       replace H : (if t739 = 1 then (if t726 = 0 then ((laws_toNode.f k t716 t717 t718 t719 t720 t721 t722 t723).bind fun bt741 => ((spec_SameNode.f k bt741.1 bt741.2.1 bt741.2.2.1 bt741.2.2.2.1 bt741.2.2.2.2.1 bt741.2.2.2.2.2.1 bt741.2.2.2.2.2.2.1 bt741.2.2.2.2.2.2.2 t729 t730 t731 t732 t733 t734 t735 t736).bind fun t751 => (if t751 = true then ((laws_lives.f).bind fun t752 => (some t752)) else (some false)))) else (some false)) else ((laws_lives.f).bind fun t753 => (some t753))) = some r := H
       have A10 := Aside0.mk A100
       clear A100
       by_cases c11 : t739 = 1
       · rw [if_pos c11] at H
         have c11b0 : (t739 == 1) = true := beq_iff_eq.mpr c11
         have c11b1 : (t739 != 1) = false := bne_eq_false_iff_eq.mpr c11
         clear c11
         by_cases c12 : t726 = 0
         · rw [if_pos c12] at H
           have c12b0 : (t726 == 0) = true := beq_iff_eq.mpr c12
           have c12b1 : (t726 != 0) = false := bne_eq_false_iff_eq.mpr c12
           clear c12
           replace H := Option.bind_eq_some_iff.mp H
           obtain ⟨⟨t741, t742, t743, t744, t745, t746, t747, t748⟩, A130, H⟩ := H
           replace H : ((spec_SameNode.f k t741 t742 t743 t744 t745 t746 t747 t748 t729 t730 t731 t732 t733 t734 t735 t736).bind fun t751 => (if t751 = true then ((laws_lives.f).bind fun t752 => (some t752)) else (some false))) = some r := H
           have A13 := Aside0.mk A130
           clear A130
           replace H := Option.bind_eq_some_iff.mp H
           obtain ⟨t751, A140, H⟩ := H
           replace H : (if t751 = true then ((laws_lives.f).bind fun t752 => (some t752)) else (some false)) = some r := H
           have A14 := Aside0.mk A140
           clear A140
           by_cases c15 : t751 = true
           · subst c15
             have H1 : ((laws_lives.f).bind fun t752 => (some t752)) = some r := by rw [if_pos rfl] at H; exact H
             clear H
             have H := H1
             clear H1
             replace H := Option.bind_eq_some_iff.mp H
             obtain ⟨t752, A160, H⟩ := H
             replace H : (some t752) = some r := H
             have A16 := Aside0.mk A160
             clear A160
             obtain rfl := Option.some.inj H
             go_enter Tryz.func9, Tryz.ntmps9
             try go_wp2_with (first | (go_at_call 16; (with_reducible refine (spec_StatmRead.calls k a0 t710 true t714 _ A6.out).mono ?_); rintro e w17 ⟨v711, rfl, ho0, hb⟩; have n0_ := Aside0.mk (Kd.V_lower (Kd.V_mono (ok' := fun k_ => True) ho0 (fun k_ hk_ => trivial)) (below_size (by repeat (first | (with_reducible first | exact HB.out | apply below_alloc | apply pw_below_drewN | apply below_drew1) | exact HB.out)))); have n1_ := Aside0.mk (below_step (by repeat (first | (with_reducible first | exact HB.out | apply below_alloc | apply pw_below_drewN | apply below_drew1) | exact HB.out)) hb); clear HB; have HO712 := n0_; have HB := n1_; clear n0_ n1_; (try clear hb); (try clear hb2); (try clear hk); (try clear hi); (try clear ho0)) | (go_at_call 18; (with_reducible refine (impl_Statm.calls k a0 t716 t717 t718 t719 t720 t721 t722 t723 t726 _ A8.out).mono ?_); rintro e w18 ⟨v724, rfl, ho0, hb⟩; have n0_ := Aside0.mk (Kd.V_elder' (by (with_reducible repeat (first | apply Kd.V_alloc | apply Kd.V_drewN | apply Kd.V_drew)); exact HO712.out) (Kd.R_base ho0) hb); have n1_ := Aside0.mk (Kd.R_lower ho0 (below_size (by repeat (first | (with_reducible first | exact HB.out | apply below_alloc | apply pw_below_drewN | apply below_drew1) | exact HB.out)))); have n2_ := Aside0.mk (below_step (by repeat (first | (with_reducible first | exact HB.out | apply below_alloc | apply pw_below_drewN | apply below_drew1) | exact HB.out)) hb); clear HO712; clear HB; have HO712 := n0_; have HO725 := n1_; have HB := n2_; clear n0_ n1_ n2_; (try clear hb); (try clear hb2); (try clear hk); (try clear hi); (try clear ho0)) | ((with_reducible refine gate_dst (N := 12) rfl ?_); refine box_event ?hg (N := 12) ?hd (cs := #[.string (⟨#[]⟩ : ByteArray), .int .i64 0, .bool false, .int .i64 0, .int .u64 0, .float .f64 0, .string (⟨#[]⟩ : ByteArray), .slice none 0 0]) (t := 34) ?hr ?_; (case hd => rfl); (case hg => rfl); (case hr => first | (go_simp; done) | (go_simp; rfl)); intro gb727 hg w19 hbox hb; have n0_ := Aside0.mk (Kd.V_below (Kd.V_elderB (by (with_reducible repeat (first | apply Kd.V_alloc | apply Kd.V_drewN | apply Kd.V_drew)); exact HO712.out) gb727 (Nat.le_of_eq hg.symm)) hb); have n1_ := Aside0.mk (Kd.R_below (Kd.R_elderB (by (with_reducible repeat (first | apply Kd.R_alloc | apply Kd.R_drewN | apply Kd.R_drew)); exact HO725.out) gb727 (Nat.le_of_eq hg.symm)) hb); have n2_ := Aside0.mk (below_step (by repeat (first | (with_reducible first | exact HB.out | apply below_alloc | apply pw_below_drewN | apply below_drew1) | exact HB.out)) hb); have n3_ := Aside0.mk (hbox); have n4_ := Aside0.mk ((by rw [hg]; exact (below_size (by repeat (first | (with_reducible first | exact HB.out | apply below_alloc | apply pw_below_drewN | apply below_drew1) | exact HB.out))) : w.heap.size ≤ gb727)); have n5_ := Aside0.mk ((by rw [hg]; exact (below_size (by repeat (first | (with_reducible first | exact HB.out | apply below_alloc | apply pw_below_drewN | apply below_drew1) | exact HB.out))) : w.heap.size ≤ gb727)); clear HO712; clear HO725; clear HB; have HO712 := n0_; have HO725 := n1_; have HB := n2_; have BK727 := n3_; have GW727 := n4_; have GE727 := n5_; clear n0_ n1_ n2_ n3_ n4_ n5_; clear hb hbox hg; have hcz20_0 : w19.cell? ⟨gb727, 0, none⟩ = some (.string (⟨#[]⟩ : ByteArray)) := (blk_cell BK727.out 0).trans rfl; have hcz20_1 : w19.cell? ⟨gb727, 1, none⟩ = some (.int .i64 0) := (blk_cell BK727.out 1).trans rfl; have hcz20_2 : w19.cell? ⟨gb727, 2, none⟩ = some (.bool false) := (blk_cell BK727.out 2).trans rfl; have hcz20_3 : w19.cell? ⟨gb727, 3, none⟩ = some (.int .i64 0) := (blk_cell BK727.out 3).trans rfl; have hcz20_4 : w19.cell? ⟨gb727, 4, none⟩ = some (.int .u64 0) := (blk_cell BK727.out 4).trans rfl; have hcz20_5 : w19.cell? ⟨gb727, 5, none⟩ = some (.float .f64 0) := (blk_cell BK727.out 5).trans rfl; have hcz20_6 : w19.cell? ⟨gb727, 6, none⟩ = some (.string (⟨#[]⟩ : ByteArray)) := (blk_cell BK727.out 6).trans rfl; have hcz20_7 : w19.cell? ⟨gb727, 7, none⟩ = some (.slice none 0 0) := (blk_cell BK727.out 7).trans rfl; have hfz20_0 := blk_frozen BK727.out 0; have hfz20_1 := blk_frozen BK727.out 1; have hfz20_2 := blk_frozen BK727.out 2; have hfz20_3 := blk_frozen BK727.out 3; have hfz20_4 := blk_frozen BK727.out 4; have hfz20_5 := blk_frozen BK727.out 5; have hfz20_6 := blk_frozen BK727.out 6; have hfz20_7 := blk_frozen BK727.out 7; obtain ⟨Ao21, co21, eo21⟩ := Kd.R_slice HO725.out; subst eo21; obtain ⟨Ao22, co22, eo22⟩ := Kd.V_slice HO712.out; subst eo22) | (go_at_call 17; (with_reducible refine (spec_StatmTree.calls k _ _ t710 t729 t730 t731 t732 t733 t734 t735 t736 t739 _ ?side1 ?side2 A10.out).mono ?_); (case side1 => refine (Kd.V_reads' (e := 48) (base := w.heap.size) (ok := fun k_ => ((True ∧ some k_ ≠ (.slice Ao21 t723.length co21 : Value).ownBlock) ∧ k_ ≠ gb727)) (n := t710.length) (c := co22) ?_).2.2; exact (by (with_reducible repeat (first | apply Kd.V_alloc | apply Kd.V_drewN | apply Kd.V_drew)); exact (Kd.V_mono (Kd.V_far (p := ⟨gb727, 7, none⟩) (Kd.V_far (p := ⟨gb727, 6, none⟩) (Kd.V_far (p := ⟨gb727, 5, none⟩) (Kd.V_far (p := ⟨gb727, 4, none⟩) (Kd.V_far (p := ⟨gb727, 3, none⟩) (Kd.V_far (p := ⟨gb727, 2, none⟩) (Kd.V_far (p := ⟨gb727, 1, none⟩) (Kd.V_far (p := ⟨gb727, 0, none⟩) (Kd.V_mono HO712.out (fun k_ hk => (⟨hk, hk.2⟩ : _ ∧ k_ ≠ gb727))) (fun _ hk => hk.2) (.string t716)) (fun _ hk => hk.2) (.int .i64 t717)) (fun _ hk => hk.2) (.bool t718)) (fun _ hk => hk.2) (.int .i64 t719)) (fun _ hk => hk.2) (.int .u64 t720)) (fun _ hk => hk.2) (.float .f64 t721)) (fun _ hk => hk.2) (.string t722)) (fun _ hk => hk.2) (.slice Ao21 t723.length co21)) (fun _ h_ => h_.1)))); (case side2 => exact (Kd.V_reads' HO712.out).2.1); rintro e w23 ⟨v737, rfl, ho0, hb⟩; have n0_ := Aside0.mk (Kd.V_below (by (with_reducible repeat (first | apply Kd.V_alloc | apply Kd.V_drewN | apply Kd.V_drew)); exact (Kd.V_mono (Kd.V_far (p := ⟨gb727, 7, none⟩) (Kd.V_far (p := ⟨gb727, 6, none⟩) (Kd.V_far (p := ⟨gb727, 5, none⟩) (Kd.V_far (p := ⟨gb727, 4, none⟩) (Kd.V_far (p := ⟨gb727, 3, none⟩) (Kd.V_far (p := ⟨gb727, 2, none⟩) (Kd.V_far (p := ⟨gb727, 1, none⟩) (Kd.V_far (p := ⟨gb727, 0, none⟩) (Kd.V_mono HO712.out (fun k_ hk => (⟨hk, hk.2⟩ : _ ∧ k_ ≠ gb727))) (fun _ hk => hk.2) (.string t716)) (fun _ hk => hk.2) (.int .i64 t717)) (fun _ hk => hk.2) (.bool t718)) (fun _ hk => hk.2) (.int .i64 t719)) (fun _ hk => hk.2) (.int .u64 t720)) (fun _ hk => hk.2) (.float .f64 t721)) (fun _ hk => hk.2) (.string t722)) (fun _ hk => hk.2) (.slice Ao21 t723.length co21)) (fun _ h_ => h_.1))) hb); have n1_ := Aside0.mk (Kd.R_below (by (with_reducible repeat (first | apply Kd.R_alloc | apply Kd.R_drewN | apply Kd.R_drew)); exact (Kd.R_mono (Kd.R_far (p := ⟨gb727, 7, none⟩) (Kd.R_far (p := ⟨gb727, 6, none⟩) (Kd.R_far (p := ⟨gb727, 5, none⟩) (Kd.R_far (p := ⟨gb727, 4, none⟩) (Kd.R_far (p := ⟨gb727, 3, none⟩) (Kd.R_far (p := ⟨gb727, 2, none⟩) (Kd.R_far (p := ⟨gb727, 1, none⟩) (Kd.R_far (p := ⟨gb727, 0, none⟩) (Kd.R_mono HO725.out (fun k_ hk => (⟨hk, hk.2⟩ : _ ∧ k_ ≠ gb727))) (fun _ hk => hk.2) (.string t716)) (fun _ hk => hk.2) (.int .i64 t717)) (fun _ hk => hk.2) (.bool t718)) (fun _ hk => hk.2) (.int .i64 t719)) (fun _ hk => hk.2) (.int .u64 t720)) (fun _ hk => hk.2) (.float .f64 t721)) (fun _ hk => hk.2) (.string t722)) (fun _ hk => hk.2) (.slice Ao21 t723.length co21)) (fun _ h_ => h_.1))) hb); have n2_ := Aside0.mk (Kd.V_lower (Kd.V_mono (ok' := fun k_ => some k_ ≠ (.slice Ao21 t723.length co21 : Value).ownBlock ∧ k_ ≠ gb727) ho0 (fun k_ hk_ => ⟨(Kd.fresh' (Kd.R_lt (by (with_reducible repeat (first | apply Kd.R_alloc | apply Kd.R_drewN | apply Kd.R_drew)); exact (Kd.R_mono (Kd.R_far (p := ⟨gb727, 7, none⟩) (Kd.R_far (p := ⟨gb727, 6, none⟩) (Kd.R_far (p := ⟨gb727, 5, none⟩) (Kd.R_far (p := ⟨gb727, 4, none⟩) (Kd.R_far (p := ⟨gb727, 3, none⟩) (Kd.R_far (p := ⟨gb727, 2, none⟩) (Kd.R_far (p := ⟨gb727, 1, none⟩) (Kd.R_far (p := ⟨gb727, 0, none⟩) (Kd.R_mono HO725.out (fun k_ hk => (⟨hk, hk.2⟩ : _ ∧ k_ ≠ gb727))) (fun _ hk => hk.2) (.string t716)) (fun _ hk => hk.2) (.int .i64 t717)) (fun _ hk => hk.2) (.bool t718)) (fun _ hk => hk.2) (.int .i64 t719)) (fun _ hk => hk.2) (.int .u64 t720)) (fun _ hk => hk.2) (.float .f64 t721)) (fun _ hk => hk.2) (.string t722)) (fun _ hk => hk.2) (.slice Ao21 t723.length co21)) (fun _ h_ => h_.1)))) k_ hk_), (Kd.freshB (g := gb727) (o := .cells #[.string t716, .int .i64 t717, .bool t718, .int .i64 t719, .int .u64 t720, .float .f64 t721, .string t722, .slice Ao21 t723.length co21] 34 (0, 0)) (by (with_reducible repeat (first | refine blk_drewN ?_ _ | refine blk_drew ?_ | refine blk_alloc ?_ _)); refine blk_put (cs := #[.string t716, .int .i64 t717, .bool t718, .int .i64 t719, .int .u64 t720, .float .f64 t721, .string t722, .slice none 0 0]) ?_ 7 _ rfl; (with_reducible repeat (first | refine blk_drewN ?_ _ | refine blk_drew ?_ | refine blk_alloc ?_ _)); refine blk_put (cs := #[.string t716, .int .i64 t717, .bool t718, .int .i64 t719, .int .u64 t720, .float .f64 t721, .string (⟨#[]⟩ : ByteArray), .slice none 0 0]) ?_ 6 _ rfl; (with_reducible repeat (first | refine blk_drewN ?_ _ | refine blk_drew ?_ | refine blk_alloc ?_ _)); refine blk_put (cs := #[.string t716, .int .i64 t717, .bool t718, .int .i64 t719, .int .u64 t720, .float .f64 0, .string (⟨#[]⟩ : ByteArray), .slice none 0 0]) ?_ 5 _ rfl; (with_reducible repeat (first | refine blk_drewN ?_ _ | refine blk_drew ?_ | refine blk_alloc ?_ _)); refine blk_put (cs := #[.string t716, .int .i64 t717, .bool t718, .int .i64 t719, .int .u64 0, .float .f64 0, .string (⟨#[]⟩ : ByteArray), .slice none 0 0]) ?_ 4 _ rfl; (with_reducible repeat (first | refine blk_drewN ?_ _ | refine blk_drew ?_ | refine blk_alloc ?_ _)); refine blk_put (cs := #[.string t716, .int .i64 t717, .bool t718, .int .i64 0, .int .u64 0, .float .f64 0, .string (⟨#[]⟩ : ByteArray), .slice none 0 0]) ?_ 3 _ rfl; (with_reducible repeat (first | refine blk_drewN ?_ _ | refine blk_drew ?_ | refine blk_alloc ?_ _)); refine blk_put (cs := #[.string t716, .int .i64 t717, .bool false, .int .i64 0, .int .u64 0, .float .f64 0, .string (⟨#[]⟩ : ByteArray), .slice none 0 0]) ?_ 2 _ rfl; (with_reducible repeat (first | refine blk_drewN ?_ _ | refine blk_drew ?_ | refine blk_alloc ?_ _)); refine blk_put (cs := #[.string t716, .int .i64 0, .bool false, .int .i64 0, .int .u64 0, .float .f64 0, .string (⟨#[]⟩ : ByteArray), .slice none 0 0]) ?_ 1 _ rfl; (with_reducible repeat (first | refine blk_drewN ?_ _ | refine blk_drew ?_ | refine blk_alloc ?_ _)); refine blk_put (cs := #[.string (⟨#[]⟩ : ByteArray), .int .i64 0, .bool false, .int .i64 0, .int .u64 0, .float .f64 0, .string (⟨#[]⟩ : ByteArray), .slice none 0 0]) ?_ 0 _ rfl; (with_reducible repeat (first | refine blk_drewN ?_ _ | refine blk_drew ?_ | refine blk_alloc ?_ _)); exact BK727.out) k_ hk_)⟩)) (below_size (by repeat (first | (with_reducible first | exact HB.out | apply below_alloc | apply pw_below_drewN | apply below_drew1 | refine below_set ?_ GE727.out) | exact HB.out)))); have n3_ := Aside0.mk (blk_below (g := gb727) (o := .cells #[.string t716, .int .i64 t717, .bool t718, .int .i64 t719, .int .u64 t720, .float .f64 t721, .string t722, .slice Ao21 t723.length co21] 34 (0, 0)) (by (with_reducible repeat (first | refine blk_drewN ?_ _ | refine blk_drew ?_ | refine blk_alloc ?_ _)); refine blk_put (cs := #[.string t716, .int .i64 t717, .bool t718, .int .i64 t719, .int .u64 t720, .float .f64 t721, .string t722, .slice none 0 0]) ?_ 7 _ rfl; (with_reducible repeat (first | refine blk_drewN ?_ _ | refine blk_drew ?_ | refine blk_alloc ?_ _)); refine blk_put (cs := #[.string t716, .int .i64 t717, .bool t718, .int .i64 t719, .int .u64 t720, .float .f64 t721, .string (⟨#[]⟩ : ByteArray), .slice none 0 0]) ?_ 6 _ rfl; (with_reducible repeat (first | refine blk_drewN ?_ _ | refine blk_drew ?_ | refine blk_alloc ?_ _)); refine blk_put (cs := #[.string t716, .int .i64 t717, .bool t718, .int .i64 t719, .int .u64 t720, .float .f64 0, .string (⟨#[]⟩ : ByteArray), .slice none 0 0]) ?_ 5 _ rfl; (with_reducible repeat (first | refine blk_drewN ?_ _ | refine blk_drew ?_ | refine blk_alloc ?_ _)); refine blk_put (cs := #[.string t716, .int .i64 t717, .bool t718, .int .i64 t719, .int .u64 0, .float .f64 0, .string (⟨#[]⟩ : ByteArray), .slice none 0 0]) ?_ 4 _ rfl; (with_reducible repeat (first | refine blk_drewN ?_ _ | refine blk_drew ?_ | refine blk_alloc ?_ _)); refine blk_put (cs := #[.string t716, .int .i64 t717, .bool t718, .int .i64 0, .int .u64 0, .float .f64 0, .string (⟨#[]⟩ : ByteArray), .slice none 0 0]) ?_ 3 _ rfl; (with_reducible repeat (first | refine blk_drewN ?_ _ | refine blk_drew ?_ | refine blk_alloc ?_ _)); refine blk_put (cs := #[.string t716, .int .i64 t717, .bool false, .int .i64 0, .int .u64 0, .float .f64 0, .string (⟨#[]⟩ : ByteArray), .slice none 0 0]) ?_ 2 _ rfl; (with_reducible repeat (first | refine blk_drewN ?_ _ | refine blk_drew ?_ | refine blk_alloc ?_ _)); refine blk_put (cs := #[.string t716, .int .i64 0, .bool false, .int .i64 0, .int .u64 0, .float .f64 0, .string (⟨#[]⟩ : ByteArray), .slice none 0 0]) ?_ 1 _ rfl; (with_reducible repeat (first | refine blk_drewN ?_ _ | refine blk_drew ?_ | refine blk_alloc ?_ _)); refine blk_put (cs := #[.string (⟨#[]⟩ : ByteArray), .int .i64 0, .bool false, .int .i64 0, .int .u64 0, .float .f64 0, .string (⟨#[]⟩ : ByteArray), .slice none 0 0]) ?_ 0 _ rfl; (with_reducible repeat (first | refine blk_drewN ?_ _ | refine blk_drew ?_ | refine blk_alloc ?_ _)); exact BK727.out) hb); have n4_ := Aside0.mk (below_step (by repeat (first | (with_reducible first | exact HB.out | apply below_alloc | apply pw_below_drewN | apply below_drew1 | refine below_set ?_ GE727.out) | exact HB.out)) hb); clear HO712; clear HO725; clear BK727; clear HB; have HO712 := n0_; have HO725 := n1_; have HO738 := n2_; have BK727 := n3_; have HB := n4_; clear n0_ n1_ n2_ n3_ n4_; (try clear hb); (try clear hb2); (try clear hk); (try clear hi); (try clear ho0)) | ((with_reducible refine gate_dst (N := 14) rfl ?_); refine box_event ?hg (N := 14) ?hd (cs := #[.string (⟨#[]⟩ : ByteArray), .int .i64 0, .bool false, .int .i64 0, .int .u64 0, .float .f64 0, .string (⟨#[]⟩ : ByteArray), .slice none 0 0]) (t := 38) ?hr ?_; (case hd => rfl); (case hg => rfl); (case hr => first | (go_simp; done) | (go_simp; rfl)); intro gb740 hg w24 hbox hb; have n0_ := Aside0.mk (Kd.V_below (Kd.V_elderB (by (with_reducible repeat (first | apply Kd.V_alloc | apply Kd.V_drewN | apply Kd.V_drew)); exact HO712.out) gb740 (Nat.le_of_eq hg.symm)) hb); have n1_ := Aside0.mk (Kd.R_below (by (with_reducible repeat (first | apply Kd.R_alloc | apply Kd.R_drewN | apply Kd.R_drew)); exact HO725.out) hb); have n2_ := Aside0.mk (Kd.V_below (Kd.V_elderB (by (with_reducible repeat (first | apply Kd.V_alloc | apply Kd.V_drewN | apply Kd.V_drew)); exact HO738.out) gb740 (Nat.le_of_eq hg.symm)) hb); have n3_ := Aside0.mk (blk_below (g := gb727) (o := .cells #[.string t716, .int .i64 t717, .bool t718, .int .i64 t719, .int .u64 t720, .float .f64 t721, .string t722, .slice Ao21 t723.length co21] 34 (0, 0)) (by (with_reducible repeat (first | refine blk_drewN ?_ _ | refine blk_drew ?_ | refine blk_alloc ?_ _)); exact BK727.out) hb); have n4_ := Aside0.mk (below_step (by repeat (first | (with_reducible first | exact HB.out | apply below_alloc | apply pw_below_drewN | apply below_drew1 | refine below_set ?_ GE727.out) | exact HB.out)) hb); have n5_ := Aside0.mk (hbox); have n6_ := Aside0.mk ((by rw [hg]; exact (below_size (by repeat (first | (with_reducible first | exact HB.out | apply below_alloc | apply pw_below_drewN | apply below_drew1 | refine below_set ?_ GE727.out) | exact HB.out))) : w.heap.size ≤ gb740)); have n7_ := Aside0.mk ((by rw [hg]; exact (below_size (by repeat (first | (with_reducible first | exact HB.out | apply below_alloc | apply pw_below_drewN | apply below_drew1 | refine below_set ?_ GE727.out) | exact HB.out))) : w.heap.size ≤ gb740)); have n8_ := Aside0.mk ((by rw [hg]; exact Nat.ne_of_lt (blk_lt (g := gb727) (o := .cells #[.string t716, .int .i64 t717, .bool t718, .int .i64 t719, .int .u64 t720, .float .f64 t721, .string t722, .slice Ao21 t723.length co21] 34 (0, 0)) (by (with_reducible repeat (first | refine blk_drewN ?_ _ | refine blk_drew ?_ | refine blk_alloc ?_ _)); exact BK727.out)) : gb727 ≠ gb740)); have n9_ := Aside0.mk ((by rw [hg]; exact Nat.ne_of_gt (blk_lt (g := gb727) (o := .cells #[.string t716, .int .i64 t717, .bool t718, .int .i64 t719, .int .u64 t720, .float .f64 t721, .string t722, .slice Ao21 t723.length co21] 34 (0, 0)) (by (with_reducible repeat (first | refine blk_drewN ?_ _ | refine blk_drew ?_ | refine blk_alloc ?_ _)); exact BK727.out)) : gb740 ≠ gb727)); clear HO712; clear HO725; clear HO738; clear BK727; clear HB; have HO712 := n0_; have HO725 := n1_; have HO738 := n2_; have BK727 := n3_; have HB := n4_; have BK740 := n5_; have GW740 := n6_; have GE740 := n7_; have NB727_740 := n8_; have NB740_727 := n9_; clear n0_ n1_ n2_ n3_ n4_ n5_ n6_ n7_ n8_ n9_; clear hb hbox hg; have hnb25 := NB740_727.out; have hnc25 := NB727_740.out; have hcz26_0 : w24.cell? ⟨gb740, 0, none⟩ = some (.string (⟨#[]⟩ : ByteArray)) := (blk_cell BK740.out 0).trans rfl; have hcz26_1 : w24.cell? ⟨gb740, 1, none⟩ = some (.int .i64 0) := (blk_cell BK740.out 1).trans rfl; have hcz26_2 : w24.cell? ⟨gb740, 2, none⟩ = some (.bool false) := (blk_cell BK740.out 2).trans rfl; have hcz26_3 : w24.cell? ⟨gb740, 3, none⟩ = some (.int .i64 0) := (blk_cell BK740.out 3).trans rfl; have hcz26_4 : w24.cell? ⟨gb740, 4, none⟩ = some (.int .u64 0) := (blk_cell BK740.out 4).trans rfl; have hcz26_5 : w24.cell? ⟨gb740, 5, none⟩ = some (.float .f64 0) := (blk_cell BK740.out 5).trans rfl; have hcz26_6 : w24.cell? ⟨gb740, 6, none⟩ = some (.string (⟨#[]⟩ : ByteArray)) := (blk_cell BK740.out 6).trans rfl; have hcz26_7 : w24.cell? ⟨gb740, 7, none⟩ = some (.slice none 0 0) := (blk_cell BK740.out 7).trans rfl; have hfz26_0 := blk_frozen BK740.out 0; have hfz26_1 := blk_frozen BK740.out 1; have hfz26_2 := blk_frozen BK740.out 2; have hfz26_3 := blk_frozen BK740.out 3; have hfz26_4 := blk_frozen BK740.out 4; have hfz26_5 := blk_frozen BK740.out 5; have hfz26_6 := blk_frozen BK740.out 6; have hfz26_7 := blk_frozen BK740.out 7; obtain ⟨Ao27, co27, eo27⟩ := Kd.V_slice HO738.out; subst eo27))
             have n0_ : Aside0 (Kd.V k48 48 ((((((((w24.setCell ⟨gb740, 0, none⟩ (.string t729)).setCell ⟨gb740, 1, none⟩ (.int .i64 t730)).setCell ⟨gb740, 2, none⟩ (.bool t731)).setCell ⟨gb740, 3, none⟩ (.int .i64 t732)).setCell ⟨gb740, 4, none⟩ (.int .u64 t733)).setCell ⟨gb740, 5, none⟩ (.float .f64 t734)).setCell ⟨gb740, 6, none⟩ (.string t735)).setCell ⟨gb740, 7, none⟩ (.slice Ao27 t736.length co27)) w.heap.size (fun k_ => some k_ ≠ (.slice Ao21 t723.length co21 : Value).ownBlock ∧ k_ ≠ gb727 ∧ k_ ≠ gb740) (.slice Ao22 t710.length co22) t710) := ⟨by (with_reducible repeat (first | apply Kd.V_alloc | apply Kd.V_drewN | apply Kd.V_drew)); exact Kd.V_mono (Kd.V_far (p := ⟨gb740, 7, none⟩) (Kd.V_far (p := ⟨gb740, 6, none⟩) (Kd.V_far (p := ⟨gb740, 5, none⟩) (Kd.V_far (p := ⟨gb740, 4, none⟩) (Kd.V_far (p := ⟨gb740, 3, none⟩) (Kd.V_far (p := ⟨gb740, 2, none⟩) (Kd.V_far (p := ⟨gb740, 1, none⟩) (Kd.V_far (p := ⟨gb740, 0, none⟩) (Kd.V_mono HO712.out (fun k_ hk => (⟨hk, hk.2⟩ : _ ∧ k_ ≠ gb740))) (fun _ hk => hk.2) (.string t729)) (fun _ hk => hk.2) (.int .i64 t730)) (fun _ hk => hk.2) (.bool t731)) (fun _ hk => hk.2) (.int .i64 t732)) (fun _ hk => hk.2) (.int .u64 t733)) (fun _ hk => hk.2) (.float .f64 t734)) (fun _ hk => hk.2) (.string t735)) (fun _ hk => hk.2) (.slice Ao27 t736.length co27)) (fun _ hk => ⟨hk.1.1.1.2, ⟨hk.1.1.2, hk.1.2⟩⟩)⟩
             have n1_ : Aside0 (Kd.R k34 34 ((((((((w24.setCell ⟨gb740, 0, none⟩ (.string t729)).setCell ⟨gb740, 1, none⟩ (.int .i64 t730)).setCell ⟨gb740, 2, none⟩ (.bool t731)).setCell ⟨gb740, 3, none⟩ (.int .i64 t732)).setCell ⟨gb740, 4, none⟩ (.int .u64 t733)).setCell ⟨gb740, 5, none⟩ (.float .f64 t734)).setCell ⟨gb740, 6, none⟩ (.string t735)).setCell ⟨gb740, 7, none⟩ (.slice Ao27 t736.length co27)) w.heap.size (fun k_ => k_ ≠ gb727) (.slice Ao21 t723.length co21) t723) := ⟨by (with_reducible repeat (first | apply Kd.R_alloc | apply Kd.R_drewN | apply Kd.R_drew)); exact Kd.R_mono (Kd.R_far (p := ⟨gb740, 7, none⟩) (Kd.R_far (p := ⟨gb740, 6, none⟩) (Kd.R_far (p := ⟨gb740, 5, none⟩) (Kd.R_far (p := ⟨gb740, 4, none⟩) (Kd.R_far (p := ⟨gb740, 3, none⟩) (Kd.R_far (p := ⟨gb740, 2, none⟩) (Kd.R_far (p := ⟨gb740, 1, none⟩) (Kd.R_far (p := ⟨gb740, 0, none⟩) (Kd.R_types HO725.out BK740.out (by decide)) (fun _ hk => hk.2) (.string t729)) (fun _ hk => hk.2) (.int .i64 t730)) (fun _ hk => hk.2) (.bool t731)) (fun _ hk => hk.2) (.int .i64 t732)) (fun _ hk => hk.2) (.int .u64 t733)) (fun _ hk => hk.2) (.float .f64 t734)) (fun _ hk => hk.2) (.string t735)) (fun _ hk => hk.2) (.slice Ao27 t736.length co27)) (fun _ hk => hk.1.2)⟩
             have n2_ : Aside0 (Kd.V k38 38 ((((((((w24.setCell ⟨gb740, 0, none⟩ (.string t729)).setCell ⟨gb740, 1, none⟩ (.int .i64 t730)).setCell ⟨gb740, 2, none⟩ (.bool t731)).setCell ⟨gb740, 3, none⟩ (.int .i64 t732)).setCell ⟨gb740, 4, none⟩ (.int .u64 t733)).setCell ⟨gb740, 5, none⟩ (.float .f64 t734)).setCell ⟨gb740, 6, none⟩ (.string t735)).setCell ⟨gb740, 7, none⟩ (.slice Ao27 t736.length co27)) w.heap.size (fun k_ => some k_ ≠ (.slice Ao21 t723.length co21 : Value).ownBlock ∧ k_ ≠ gb727 ∧ k_ ≠ gb740) (.slice Ao27 t736.length co27) t736) := ⟨by (with_reducible repeat (first | apply Kd.V_alloc | apply Kd.V_drewN | apply Kd.V_drew)); exact Kd.V_mono (Kd.V_far (p := ⟨gb740, 7, none⟩) (Kd.V_far (p := ⟨gb740, 6, none⟩) (Kd.V_far (p := ⟨gb740, 5, none⟩) (Kd.V_far (p := ⟨gb740, 4, none⟩) (Kd.V_far (p := ⟨gb740, 3, none⟩) (Kd.V_far (p := ⟨gb740, 2, none⟩) (Kd.V_far (p := ⟨gb740, 1, none⟩) (Kd.V_far (p := ⟨gb740, 0, none⟩) (Kd.V_mono HO738.out (fun k_ hk => (⟨hk, hk.2⟩ : _ ∧ k_ ≠ gb740))) (fun _ hk => hk.2) (.string t729)) (fun _ hk => hk.2) (.int .i64 t730)) (fun _ hk => hk.2) (.bool t731)) (fun _ hk => hk.2) (.int .i64 t732)) (fun _ hk => hk.2) (.int .u64 t733)) (fun _ hk => hk.2) (.float .f64 t734)) (fun _ hk => hk.2) (.string t735)) (fun _ hk => hk.2) (.slice Ao27 t736.length co27)) (fun _ hk => ⟨hk.1.1.1, ⟨hk.1.1.2, hk.1.2⟩⟩)⟩
             have n3_ : Aside0 (((((((((w24.setCell ⟨gb740, 0, none⟩ (.string t729)).setCell ⟨gb740, 1, none⟩ (.int .i64 t730)).setCell ⟨gb740, 2, none⟩ (.bool t731)).setCell ⟨gb740, 3, none⟩ (.int .i64 t732)).setCell ⟨gb740, 4, none⟩ (.int .u64 t733)).setCell ⟨gb740, 5, none⟩ (.float .f64 t734)).setCell ⟨gb740, 6, none⟩ (.string t735)).setCell ⟨gb740, 7, none⟩ (.slice Ao27 t736.length co27)).heap[gb727]? = some (.cells #[.string t716, .int .i64 t717, .bool t718, .int .i64 t719, .int .u64 t720, .float .f64 t721, .string t722, .slice Ao21 t723.length co21] 34 (0, 0))) := ⟨by (with_reducible repeat (first | refine blk_drewN ?_ _ | refine blk_drew ?_ | refine blk_alloc ?_ _)); refine blk_far ?_ NB727_740.out _; (with_reducible repeat (first | refine blk_drewN ?_ _ | refine blk_drew ?_ | refine blk_alloc ?_ _)); refine blk_far ?_ NB727_740.out _; (with_reducible repeat (first | refine blk_drewN ?_ _ | refine blk_drew ?_ | refine blk_alloc ?_ _)); refine blk_far ?_ NB727_740.out _; (with_reducible repeat (first | refine blk_drewN ?_ _ | refine blk_drew ?_ | refine blk_alloc ?_ _)); refine blk_far ?_ NB727_740.out _; (with_reducible repeat (first | refine blk_drewN ?_ _ | refine blk_drew ?_ | refine blk_alloc ?_ _)); refine blk_far ?_ NB727_740.out _; (with_reducible repeat (first | refine blk_drewN ?_ _ | refine blk_drew ?_ | refine blk_alloc ?_ _)); refine blk_far ?_ NB727_740.out _; (with_reducible repeat (first | refine blk_drewN ?_ _ | refine blk_drew ?_ | refine blk_alloc ?_ _)); refine blk_far ?_ NB727_740.out _; (with_reducible repeat (first | refine blk_drewN ?_ _ | refine blk_drew ?_ | refine blk_alloc ?_ _)); refine blk_far ?_ NB727_740.out _; (with_reducible repeat (first | refine blk_drewN ?_ _ | refine blk_drew ?_ | refine blk_alloc ?_ _)); exact BK727.out⟩
             have n4_ : Aside0 (((((((((w24.setCell ⟨gb740, 0, none⟩ (.string t729)).setCell ⟨gb740, 1, none⟩ (.int .i64 t730)).setCell ⟨gb740, 2, none⟩ (.bool t731)).setCell ⟨gb740, 3, none⟩ (.int .i64 t732)).setCell ⟨gb740, 4, none⟩ (.int .u64 t733)).setCell ⟨gb740, 5, none⟩ (.float .f64 t734)).setCell ⟨gb740, 6, none⟩ (.string t735)).setCell ⟨gb740, 7, none⟩ (.slice Ao27 t736.length co27)).heap[gb740]? = some (.cells #[.string t729, .int .i64 t730, .bool t731, .int .i64 t732, .int .u64 t733, .float .f64 t734, .string t735, .slice Ao27 t736.length co27] 38 (0, 0))) := ⟨by (with_reducible repeat (first | refine blk_drewN ?_ _ | refine blk_drew ?_ | refine blk_alloc ?_ _)); refine blk_put (cs := #[.string t729, .int .i64 t730, .bool t731, .int .i64 t732, .int .u64 t733, .float .f64 t734, .string t735, .slice none 0 0]) ?_ 7 _ rfl; (with_reducible repeat (first | refine blk_drewN ?_ _ | refine blk_drew ?_ | refine blk_alloc ?_ _)); refine blk_put (cs := #[.string t729, .int .i64 t730, .bool t731, .int .i64 t732, .int .u64 t733, .float .f64 t734, .string (⟨#[]⟩ : ByteArray), .slice none 0 0]) ?_ 6 _ rfl; (with_reducible repeat (first | refine blk_drewN ?_ _ | refine blk_drew ?_ | refine blk_alloc ?_ _)); refine blk_put (cs := #[.string t729, .int .i64 t730, .bool t731, .int .i64 t732, .int .u64 t733, .float .f64 0, .string (⟨#[]⟩ : ByteArray), .slice none 0 0]) ?_ 5 _ rfl; (with_reducible repeat (first | refine blk_drewN ?_ _ | refine blk_drew ?_ | refine blk_alloc ?_ _)); refine blk_put (cs := #[.string t729, .int .i64 t730, .bool t731, .int .i64 t732, .int .u64 0, .float .f64 0, .string (⟨#[]⟩ : ByteArray), .slice none 0 0]) ?_ 4 _ rfl; (with_reducible repeat (first | refine blk_drewN ?_ _ | refine blk_drew ?_ | refine blk_alloc ?_ _)); refine blk_put (cs := #[.string t729, .int .i64 t730, .bool t731, .int .i64 0, .int .u64 0, .float .f64 0, .string (⟨#[]⟩ : ByteArray), .slice none 0 0]) ?_ 3 _ rfl; (with_reducible repeat (first | refine blk_drewN ?_ _ | refine blk_drew ?_ | refine blk_alloc ?_ _)); refine blk_put (cs := #[.string t729, .int .i64 t730, .bool false, .int .i64 0, .int .u64 0, .float .f64 0, .string (⟨#[]⟩ : ByteArray), .slice none 0 0]) ?_ 2 _ rfl; (with_reducible repeat (first | refine blk_drewN ?_ _ | refine blk_drew ?_ | refine blk_alloc ?_ _)); refine blk_put (cs := #[.string t729, .int .i64 0, .bool false, .int .i64 0, .int .u64 0, .float .f64 0, .string (⟨#[]⟩ : ByteArray), .slice none 0 0]) ?_ 1 _ rfl; (with_reducible repeat (first | refine blk_drewN ?_ _ | refine blk_drew ?_ | refine blk_alloc ?_ _)); refine blk_put (cs := #[.string (⟨#[]⟩ : ByteArray), .int .i64 0, .bool false, .int .i64 0, .int .u64 0, .float .f64 0, .string (⟨#[]⟩ : ByteArray), .slice none 0 0]) ?_ 0 _ rfl; (with_reducible repeat (first | refine blk_drewN ?_ _ | refine blk_drew ?_ | refine blk_alloc ?_ _)); exact BK740.out⟩
             have n5_ : Aside0 (Below w.heap.size w ((((((((w24.setCell ⟨gb740, 0, none⟩ (.string t729)).setCell ⟨gb740, 1, none⟩ (.int .i64 t730)).setCell ⟨gb740, 2, none⟩ (.bool t731)).setCell ⟨gb740, 3, none⟩ (.int .i64 t732)).setCell ⟨gb740, 4, none⟩ (.int .u64 t733)).setCell ⟨gb740, 5, none⟩ (.float .f64 t734)).setCell ⟨gb740, 6, none⟩ (.string t735)).setCell ⟨gb740, 7, none⟩ (.slice Ao27 t736.length co27))) := ⟨by repeat (first | (with_reducible first | exact HB.out | apply below_alloc | apply pw_below_drewN | apply below_drew1 | refine below_set ?_ GE727.out | refine below_set ?_ GE740.out) | exact HB.out)⟩
             (try clear HO712)
             (try clear HO725)
             (try clear HO738)
             (try clear BK727)
             (try clear BK740)
             (try clear HB)
             generalize ((((((((w24.setCell ⟨gb740, 0, none⟩ (.string t729)).setCell ⟨gb740, 1, none⟩ (.int .i64 t730)).setCell ⟨gb740, 2, none⟩ (.bool t731)).setCell ⟨gb740, 3, none⟩ (.int .i64 t732)).setCell ⟨gb740, 4, none⟩ (.int .u64 t733)).setCell ⟨gb740, 5, none⟩ (.float .f64 t734)).setCell ⟨gb740, 6, none⟩ (.string t735)).setCell ⟨gb740, 7, none⟩ (.slice Ao27 t736.length co27)) = w28 at n0_ n1_ n2_ n3_ n4_ n5_ ⊢
             have HO712 := n0_
             have HO725 := n1_
             have HO738 := n2_
             have BK727 := n3_
             have BK740 := n4_
             have HB := n5_
             clear n0_ n1_ n2_ n3_ n4_ n5_
             have n0_ := Aside0.mk (Kd.V_drew HO712.out)
             have n1_ := Aside0.mk (Kd.R_drew HO725.out)
             have n2_ := Aside0.mk (Kd.V_drew HO738.out)
             have n3_ := Aside0.mk (blk_drew BK727.out)
             have n4_ := Aside0.mk (blk_drew BK740.out)
             have n5_ := Aside0.mk (below_drew1 HB.out)
             clear HO712
             clear HO725
             clear HO738
             clear BK727
             clear BK740
             clear HB
             have HO712 := n0_
             have HO725 := n1_
             have HO738 := n2_
             have BK727 := n3_
             have BK740 := n4_
             have HB := n5_
             clear n0_ n1_ n2_ n3_ n4_ n5_
             refine start_ (n := 16) (S := fun w' => w'.cell? ⟨gb727, 0, none⟩ = some (.string t716) ∧ w'.cell? ⟨gb727, 1, none⟩ = some (.int .i64 t717) ∧ w'.cell? ⟨gb727, 2, none⟩ = some (.bool t718) ∧ w'.cell? ⟨gb727, 3, none⟩ = some (.int .i64 t719) ∧ w'.cell? ⟨gb727, 4, none⟩ = some (.int .u64 t720) ∧ w'.cell? ⟨gb727, 5, none⟩ = some (.float .f64 t721) ∧ w'.cell? ⟨gb727, 6, none⟩ = some (.string t722) ∧ w'.cell? ⟨gb727, 7, none⟩ = some (.slice Ao21 t723.length co21) ∧ w'.cell? ⟨gb740, 0, none⟩ = some (.string t729) ∧ w'.cell? ⟨gb740, 1, none⟩ = some (.int .i64 t730) ∧ w'.cell? ⟨gb740, 2, none⟩ = some (.bool t731) ∧ w'.cell? ⟨gb740, 3, none⟩ = some (.int .i64 t732) ∧ w'.cell? ⟨gb740, 4, none⟩ = some (.int .u64 t733) ∧ w'.cell? ⟨gb740, 5, none⟩ = some (.float .f64 t734) ∧ w'.cell? ⟨gb740, 6, none⟩ = some (.string t735) ∧ w'.cell? ⟨gb740, 7, none⟩ = some (.slice Ao27 t736.length co27)) (ds := []) #[false, false, false, false, false, false, false, false, false, false, false, false, false, false, false, false] (by kernel_rfl) rfl rfl ⟨(blk_cell BK727.out 0).trans rfl, (blk_cell BK727.out 1).trans rfl, (blk_cell BK727.out 2).trans rfl, (blk_cell BK727.out 3).trans rfl, (blk_cell BK727.out 4).trans rfl, (blk_cell BK727.out 5).trans rfl, (blk_cell BK727.out 6).trans rfl, (blk_cell BK727.out 7).trans rfl, (blk_cell BK740.out 0).trans rfl, (blk_cell BK740.out 1).trans rfl, (blk_cell BK740.out 2).trans rfl, (blk_cell BK740.out 3).trans rfl, (blk_cell BK740.out 4).trans rfl, (blk_cell BK740.out 5).trans rfl, (blk_cell BK740.out 6).trans rfl, (blk_cell BK740.out 7).trans rfl⟩ (fun hHeld => ?_); refine with_tabW laws_read_16_17_18.tab10 laws_read_16_17_18.bits10 (fun HT_ HW_ => ?_)
             generalize w28.drew = w29 at HO712 HO725 HO738 BK727 BK740 HB hHeld ⊢
             refine pure_ (i := 0) (N := some 47) (v := ?_) (a' := ?_) #[true, false, false, false, false, false, false, false, false, false, false, false, false, false, false, false] rfl rfl (any_of HT_.out (by kernel_rfl)) (fun _ _ _ h => h) (Or.inl ⟨by rfl, ?_⟩) ?_ ?_
             rotate_left
             · intro w'
               go_simp
               with_reducible rfl
             rotate_left
             · simp only [Act.put, List.setIfInBounds_toArray, List.set_cons_zero, List.set_cons_succ, i64_w, i32_w]
               rfl
             refine pure_ (i := 1) (N := some 48) (v := ?_) (a' := ?_) #[true, true, false, false, false, false, false, false, false, false, false, false, false, false, false, false] rfl rfl (any_of HT_.out (by kernel_rfl)) (fun _ _ _ h => h) (Or.inl ⟨by rfl, ?_⟩) ?_ ?_
             rotate_left
             · intro w'
               go_simp
               with_reducible rfl
             rotate_left
             · simp only [Act.put, List.setIfInBounds_toArray, List.set_cons_zero, List.set_cons_succ, i64_w, i32_w]
               rfl
             refine pure_ (i := 2) (N := some 49) (v := ?_) (a' := ?_) #[true, true, true, false, false, false, false, false, false, false, false, false, false, false, false, false] rfl rfl (any_of HT_.out (by kernel_rfl)) (fun _ _ _ h => h) (Or.inl ⟨by rfl, ?_⟩) ?_ ?_
             rotate_left
             · intro w'
               go_simp
               with_reducible rfl
             rotate_left
             · simp only [Act.put, List.setIfInBounds_toArray, List.set_cons_zero, List.set_cons_succ, i64_w, i32_w]
               rfl
             refine pure_ (i := 3) (N := some 50) (v := ?_) (a' := ?_) #[true, true, true, true, false, false, false, false, false, false, false, false, false, false, false, false] rfl rfl (any_of HT_.out (by kernel_rfl)) (fun _ _ _ h => h) (Or.inl ⟨by rfl, ?_⟩) ?_ ?_
             rotate_left
             · intro w'
               go_simp
               with_reducible rfl
             rotate_left
             · simp only [Act.put, List.setIfInBounds_toArray, List.set_cons_zero, List.set_cons_succ, i64_w, i32_w]
               rfl
             refine pure_ (i := 4) (N := some 51) (v := ?_) (a' := ?_) #[true, true, true, true, true, false, false, false, false, false, false, false, false, false, false, false] rfl rfl (any_of HT_.out (by kernel_rfl)) (fun _ _ _ h => h) (Or.inl ⟨by rfl, ?_⟩) ?_ ?_
             rotate_left
             · intro w'
               go_simp
               with_reducible rfl
             rotate_left
             · simp only [Act.put, List.setIfInBounds_toArray, List.set_cons_zero, List.set_cons_succ, i64_w, i32_w]
               rfl
             refine pure_ (i := 5) (N := some 52) (v := ?_) (a' := ?_) #[true, true, true, true, true, true, false, false, false, false, false, false, false, false, false, false] rfl rfl (any_of HT_.out (by kernel_rfl)) (fun _ _ _ h => h) (Or.inl ⟨by rfl, ?_⟩) ?_ ?_
             rotate_left
             · intro w'
               go_simp
               with_reducible rfl
             rotate_left
             · simp only [Act.put, List.setIfInBounds_toArray, List.set_cons_zero, List.set_cons_succ, i64_w, i32_w]
               rfl
             refine take_ (i := 6) (N := some 53) (v := ?_) (a' := ?_) #[true, true, true, true, true, true, true, false, false, false, false, false, false, false, false, false] rfl rfl (take_ofW HT_.out HW_.out (by kernel_rfl)) (fun _ _ _ h => h) (Or.inl ⟨by rfl, ?_⟩) hHeld ?_ ?_
             rotate_left
             · rintro w' ⟨s0, s1, s2, s3, s4, s5, s6, s7, s8, s9, s10, s11, s12, s13, s14, s15⟩
               go_simp
               with_reducible rfl
             rotate_left
             · simp only [Act.put, List.setIfInBounds_toArray, List.set_cons_zero, List.set_cons_succ, i64_w, i32_w]
               rfl
             refine take_ (i := 8) (N := some 55) (v := ?_) (a' := ?_) #[true, true, true, true, true, true, true, false, true, false, false, false, false, false, false, false] rfl rfl (take_ofW HT_.out HW_.out (by kernel_rfl)) (fun _ _ _ h => h) (Or.inl ⟨by rfl, ?_⟩) hHeld ?_ ?_
             rotate_left
             · rintro w' ⟨s0, s1, s2, s3, s4, s5, s6, s7, s8, s9, s10, s11, s12, s13, s14, s15⟩
               go_simp
               with_reducible rfl
             rotate_left
             · simp only [Act.put, List.setIfInBounds_toArray, List.set_cons_zero, List.set_cons_succ, i64_w, i32_w]
               rfl
             refine one_ (i := 7) (N := some 54) #[true, true, true, true, true, true, true, true, true, false, false, false, false, false, false, false] rfl rfl (one_of HT_.out (by kernel_rfl)) (by decide) (fun K hK => ?_)
             refine goes_ Tryz.func30 (by kernel_rfl) rfl #[.agg #[.string t716, .int .i64 t717, .bool t718, .int .i64 t719, .int .u64 t720, .float .f64 t721, .string t722, .slice Ao21 t723.length co21]] (by rfl) rfl rfl (by (try simp only [List.map_toArray, List.map_cons, List.map_nil]); first | done | rfl | (simp only [List.length_drop, List.length_take]; rfl)) ?_
             with_reducible refine (laws_toNode.calls k t716 t717 t718 t719 t720 t721 t722 _ _ t723 t741 t742 t743 t744 t745 t746 t747 t748 _ ?side1 ?side2 A13.out).mono ?_
             (case side1 => repeat (first | exact (Kd.R_reads' HO725.out).2.2 | (with_reducible refine Kd.C_alloc ?_ _) | (with_reducible refine Kd.C_drewN ?_ _) | (with_reducible refine Kd.C_drew ?_)))
             (case side2 => exact (Kd.R_reads' HO725.out).2.1)
             rintro e w30 ⟨v749, rfl, ho0, hb⟩
             refine ⟨_, rfl, ?_⟩
             have n0_ := Aside0.mk (Kd.V_elder' (by (with_reducible repeat (first | apply Kd.V_alloc | apply Kd.V_drewN | apply Kd.V_drew)); exact HO712.out) (Kd.R_base ho0) hb)
             have n1_ := Aside0.mk (Kd.R_below (by (with_reducible repeat (first | apply Kd.R_alloc | apply Kd.R_drewN | apply Kd.R_drew)); exact HO725.out) hb)
             have n2_ := Aside0.mk (Kd.V_elder' (by (with_reducible repeat (first | apply Kd.V_alloc | apply Kd.V_drewN | apply Kd.V_drew)); exact HO738.out) (Kd.R_base ho0) hb)
             have n3_ := Aside0.mk (Kd.R_lower (Kd.R_newB ho0 (g := gb740) (o := .cells #[.string t729, .int .i64 t730, .bool t731, .int .i64 t732, .int .u64 t733, .float .f64 t734, .string t735, .slice Ao27 t736.length co27] 38 (0, 0)) (by (with_reducible repeat (first | refine blk_drewN ?_ _ | refine blk_drew ?_ | refine blk_alloc ?_ _)); exact BK740.out)) (below_size (by repeat (first | (with_reducible first | exact HB.out | apply below_alloc | apply pw_below_drewN | apply below_drew1 | refine below_set ?_ GE727.out | refine below_set ?_ GE740.out) | exact HB.out))))
             have n4_ := Aside0.mk (blk_below (g := gb727) (o := .cells #[.string t716, .int .i64 t717, .bool t718, .int .i64 t719, .int .u64 t720, .float .f64 t721, .string t722, .slice Ao21 t723.length co21] 34 (0, 0)) (by (with_reducible repeat (first | refine blk_drewN ?_ _ | refine blk_drew ?_ | refine blk_alloc ?_ _)); exact BK727.out) hb)
             have n5_ := Aside0.mk (blk_below (g := gb740) (o := .cells #[.string t729, .int .i64 t730, .bool t731, .int .i64 t732, .int .u64 t733, .float .f64 t734, .string t735, .slice Ao27 t736.length co27] 38 (0, 0)) (by (with_reducible repeat (first | refine blk_drewN ?_ _ | refine blk_drew ?_ | refine blk_alloc ?_ _)); exact BK740.out) hb)
             have n6_ := Aside0.mk (below_step (by repeat (first | (with_reducible first | exact HB.out | apply below_alloc | apply pw_below_drewN | apply below_drew1 | refine below_set ?_ GE727.out | refine below_set ?_ GE740.out) | exact HB.out)) hb)
             clear HO712
             clear HO725
             clear HO738
             clear BK727
             clear BK740
             clear HB
             have HO712 := n0_
             have HO725 := n1_
             have HO738 := n2_
             have HO750 := n3_
             have BK727 := n4_
             have BK740 := n5_
             have HB := n6_
             clear n0_ n1_ n2_ n3_ n4_ n5_ n6_
             (try clear hb)
             (try clear hb2)
             (try clear hk)
             (try clear hi)
             (try clear ho0)
             obtain ⟨Ao31, co31, eo31⟩ := Kd.R_slice HO750.out
             (first | subst eo31 | (injection eo31 with f1_ f2_ f3_; have f4_ := f1_.symm; have f5_ := f3_.symm; clear f1_ f2_ f3_; subst f4_; subst f5_))
             refine hK.out _ _ ⟨(blk_cell BK727.out 0).trans rfl, (blk_cell BK727.out 1).trans rfl, (blk_cell BK727.out 2).trans rfl, (blk_cell BK727.out 3).trans rfl, (blk_cell BK727.out 4).trans rfl, (blk_cell BK727.out 5).trans rfl, (blk_cell BK727.out 6).trans rfl, (blk_cell BK727.out 7).trans rfl, (blk_cell BK740.out 0).trans rfl, (blk_cell BK740.out 1).trans rfl, (blk_cell BK740.out 2).trans rfl, (blk_cell BK740.out 3).trans rfl, (blk_cell BK740.out 4).trans rfl, (blk_cell BK740.out 5).trans rfl, (blk_cell BK740.out 6).trans rfl, (blk_cell BK740.out 7).trans rfl⟩ (fun hHeld => ?_)
             clear hK K
             refine norm_ (a' := ?_) ?_ ?_
             rotate_left
             · show Act.put _ (some 54) _ = _
               simp only [Act.put, List.setIfInBounds_toArray, List.set_cons_zero, List.set_cons_succ, i64_w, i32_w]
               rfl
             refine one_ (i := 9) (N := some 56) #[true, true, true, true, true, true, true, true, true, true, false, false, false, false, false, false] rfl rfl (one_of HT_.out (by kernel_rfl)) (by decide) (fun K hK => ?_)
             refine goes_ Tryz.func29 (by kernel_rfl) rfl #[.agg #[.string t741, .int .i64 t742, .bool t743, .int .i64 t744, .int .u64 t745, .float .f64 t746, .string t747, .slice Ao31 t748.length co31], .agg #[.string t729, .int .i64 t730, .bool t731, .int .i64 t732, .int .u64 t733, .float .f64 t734, .string t735, .slice Ao27 t736.length co27]] (by rfl) rfl rfl (by (try simp only [List.map_toArray, List.map_cons, List.map_nil]); first | done | rfl | (simp only [List.length_drop, List.length_take]; rfl)) ?_
             with_reducible refine (spec_SameNode.calls k t741 t742 t743 t744 t745 t746 t747 _ _ t748 t729 t730 t731 t732 t733 t734 t735 _ _ t736 true _ ?side1 ?side2 ?side3 ?side4 A14.out).mono ?_
             (case side1 => repeat (first | exact (Kd.R_reads' HO750.out).2.2 | (with_reducible refine Kd.C_alloc ?_ _) | (with_reducible refine Kd.C_drewN ?_ _) | (with_reducible refine Kd.C_drew ?_)))
             (case side2 => exact (Kd.R_reads' HO750.out).2.1)
             (case side3 => repeat (first | exact (Kd.V_reads' HO738.out).2.2 | (with_reducible refine Kd.C_alloc ?_ _) | (with_reducible refine Kd.C_drewN ?_ _) | (with_reducible refine Kd.C_drew ?_)))
             (case side4 => exact (Kd.V_reads' HO738.out).2.1)
             rintro e w32 ⟨rfl, hb⟩
             refine ⟨_, rfl, ?_⟩
             have n0_ := Aside0.mk (Kd.V_below (by (with_reducible repeat (first | apply Kd.V_alloc | apply Kd.V_drewN | apply Kd.V_drew)); exact HO712.out) hb)
             have n1_ := Aside0.mk (Kd.R_below (by (with_reducible repeat (first | apply Kd.R_alloc | apply Kd.R_drewN | apply Kd.R_drew)); exact HO725.out) hb)
             have n2_ := Aside0.mk (Kd.V_below (by (with_reducible repeat (first | apply Kd.V_alloc | apply Kd.V_drewN | apply Kd.V_drew)); exact HO738.out) hb)
             have n3_ := Aside0.mk (Kd.R_below (by (with_reducible repeat (first | apply Kd.R_alloc | apply Kd.R_drewN | apply Kd.R_drew)); exact HO750.out) hb)
             have n4_ := Aside0.mk (blk_below (g := gb727) (o := .cells #[.string t716, .int .i64 t717, .bool t718, .int .i64 t719, .int .u64 t720, .float .f64 t721, .string t722, .slice Ao21 t723.length co21] 34 (0, 0)) (by (with_reducible repeat (first | refine blk_drewN ?_ _ | refine blk_drew ?_ | refine blk_alloc ?_ _)); exact BK727.out) hb)
             have n5_ := Aside0.mk (blk_below (g := gb740) (o := .cells #[.string t729, .int .i64 t730, .bool t731, .int .i64 t732, .int .u64 t733, .float .f64 t734, .string t735, .slice Ao27 t736.length co27] 38 (0, 0)) (by (with_reducible repeat (first | refine blk_drewN ?_ _ | refine blk_drew ?_ | refine blk_alloc ?_ _)); exact BK740.out) hb)
             have n6_ := Aside0.mk (below_step (by repeat (first | (with_reducible first | exact HB.out | apply below_alloc | apply pw_below_drewN | apply below_drew1 | refine below_set ?_ GE727.out | refine below_set ?_ GE740.out) | exact HB.out)) hb)
             clear HO712
             clear HO725
             clear HO738
             clear HO750
             clear BK727
             clear BK740
             clear HB
             have HO712 := n0_
             have HO725 := n1_
             have HO738 := n2_
             have HO750 := n3_
             have BK727 := n4_
             have BK740 := n5_
             have HB := n6_
             clear n0_ n1_ n2_ n3_ n4_ n5_ n6_
             (try clear hb)
             (try clear hb2)
             (try clear hk)
             (try clear hi)
             refine hK.out _ _ ⟨(blk_cell BK727.out 0).trans rfl, (blk_cell BK727.out 1).trans rfl, (blk_cell BK727.out 2).trans rfl, (blk_cell BK727.out 3).trans rfl, (blk_cell BK727.out 4).trans rfl, (blk_cell BK727.out 5).trans rfl, (blk_cell BK727.out 6).trans rfl, (blk_cell BK727.out 7).trans rfl, (blk_cell BK740.out 0).trans rfl, (blk_cell BK740.out 1).trans rfl, (blk_cell BK740.out 2).trans rfl, (blk_cell BK740.out 3).trans rfl, (blk_cell BK740.out 4).trans rfl, (blk_cell BK740.out 5).trans rfl, (blk_cell BK740.out 6).trans rfl, (blk_cell BK740.out 7).trans rfl⟩ (fun hHeld => ?_)
             clear hK K
             refine norm_ (a' := ?_) ?_ ?_
             rotate_left
             · show Act.put _ (some 56) _ = _
               simp only [Act.put, List.setIfInBounds_toArray, List.set_cons_zero, List.set_cons_succ, i64_w, i32_w]
               rfl
             refine pure_ (i := 10) (N := some 57) (v := ?_) (a' := ?_) #[true, true, true, true, true, true, true, true, true, true, true, false, false, false, false, false] rfl rfl (any_of HT_.out (by kernel_rfl)) (fun _ _ _ h => h) (Or.inl ⟨by rfl, ?_⟩) ?_ ?_
             rotate_left
             · intro w'
               go_simp
               with_reducible rfl
             rotate_left
             · simp only [Act.put, List.setIfInBounds_toArray, List.set_cons_zero, List.set_cons_succ, i64_w, i32_w]
               rfl
             refine pure_ (i := 11) (N := some 58) (v := ?_) (a' := ?_) #[true, true, true, true, true, true, true, true, true, true, true, true, false, false, false, false] rfl rfl (any_of HT_.out (by kernel_rfl)) (fun _ _ _ h => h) (Or.inl ⟨by rfl, ?_⟩) ?_ ?_
             rotate_left
             · intro w'
               go_simp
               with_reducible rfl
             rotate_left
             · simp only [Act.put, List.setIfInBounds_toArray, List.set_cons_zero, List.set_cons_succ, i64_w, i32_w]
               rfl
             refine pure_ (i := 12) (N := some 59) (v := ?_) (a' := ?_) #[true, true, true, true, true, true, true, true, true, true, true, true, true, false, false, false] rfl rfl (any_of HT_.out (by kernel_rfl)) (fun _ _ _ h => h) (Or.inl ⟨by rfl, ?_⟩) ?_ ?_
             rotate_left
             · intro w'
               go_simp
               with_reducible rfl
             rotate_left
             · simp only [Act.put, List.setIfInBounds_toArray, List.set_cons_zero, List.set_cons_succ, i64_w, i32_w]
               rfl
             refine one_ (i := 13) (N := some 60) #[true, true, true, true, true, true, true, true, true, true, true, true, true, true, false, false] rfl rfl (one_of HT_.out (by kernel_rfl)) (by decide) (fun K hK => ?_)
             refine goes_ Tryz.func28 (by kernel_rfl) rfl #[] (by rfl) rfl rfl (by (try simp only [List.map_toArray, List.map_cons, List.map_nil]); first | done | rfl | (simp only [List.length_drop, List.length_take]; rfl)) ?_
             with_reducible refine (laws_lives.calls  t752 _ A16.out).mono ?_
             rintro e w33 ⟨rfl, hb⟩
             refine ⟨_, rfl, ?_⟩
             have n0_ := Aside0.mk (Kd.V_below (by (with_reducible repeat (first | apply Kd.V_alloc | apply Kd.V_drewN | apply Kd.V_drew)); exact HO712.out) hb)
             have n1_ := Aside0.mk (Kd.R_below (by (with_reducible repeat (first | apply Kd.R_alloc | apply Kd.R_drewN | apply Kd.R_drew)); exact HO725.out) hb)
             have n2_ := Aside0.mk (Kd.V_below (by (with_reducible repeat (first | apply Kd.V_alloc | apply Kd.V_drewN | apply Kd.V_drew)); exact HO738.out) hb)
             have n3_ := Aside0.mk (Kd.R_below (by (with_reducible repeat (first | apply Kd.R_alloc | apply Kd.R_drewN | apply Kd.R_drew)); exact HO750.out) hb)
             have n4_ := Aside0.mk (blk_below (g := gb727) (o := .cells #[.string t716, .int .i64 t717, .bool t718, .int .i64 t719, .int .u64 t720, .float .f64 t721, .string t722, .slice Ao21 t723.length co21] 34 (0, 0)) (by (with_reducible repeat (first | refine blk_drewN ?_ _ | refine blk_drew ?_ | refine blk_alloc ?_ _)); exact BK727.out) hb)
             have n5_ := Aside0.mk (blk_below (g := gb740) (o := .cells #[.string t729, .int .i64 t730, .bool t731, .int .i64 t732, .int .u64 t733, .float .f64 t734, .string t735, .slice Ao27 t736.length co27] 38 (0, 0)) (by (with_reducible repeat (first | refine blk_drewN ?_ _ | refine blk_drew ?_ | refine blk_alloc ?_ _)); exact BK740.out) hb)
             have n6_ := Aside0.mk (below_step (by repeat (first | (with_reducible first | exact HB.out | apply below_alloc | apply pw_below_drewN | apply below_drew1 | refine below_set ?_ GE727.out | refine below_set ?_ GE740.out) | exact HB.out)) hb)
             clear HO712
             clear HO725
             clear HO738
             clear HO750
             clear BK727
             clear BK740
             clear HB
             have HO712 := n0_
             have HO725 := n1_
             have HO738 := n2_
             have HO750 := n3_
             have BK727 := n4_
             have BK740 := n5_
             have HB := n6_
             clear n0_ n1_ n2_ n3_ n4_ n5_ n6_
             (try clear hb)
             (try clear hb2)
             (try clear hk)
             (try clear hi)
             refine hK.out _ _ ⟨(blk_cell BK727.out 0).trans rfl, (blk_cell BK727.out 1).trans rfl, (blk_cell BK727.out 2).trans rfl, (blk_cell BK727.out 3).trans rfl, (blk_cell BK727.out 4).trans rfl, (blk_cell BK727.out 5).trans rfl, (blk_cell BK727.out 6).trans rfl, (blk_cell BK727.out 7).trans rfl, (blk_cell BK740.out 0).trans rfl, (blk_cell BK740.out 1).trans rfl, (blk_cell BK740.out 2).trans rfl, (blk_cell BK740.out 3).trans rfl, (blk_cell BK740.out 4).trans rfl, (blk_cell BK740.out 5).trans rfl, (blk_cell BK740.out 6).trans rfl, (blk_cell BK740.out 7).trans rfl⟩ (fun hHeld => ?_)
             clear hK K
             refine norm_ (a' := ?_) ?_ ?_
             rotate_left
             · show Act.put _ (some 60) _ = _
               simp only [Act.put, List.setIfInBounds_toArray, List.set_cons_zero, List.set_cons_succ, i64_w, i32_w]
               rfl
             refine pure_ (i := 14) (N := some 61) (v := ?_) (a' := ?_) #[true, true, true, true, true, true, true, true, true, true, true, true, true, true, true, false] rfl rfl (any_of HT_.out (by kernel_rfl)) (fun _ _ _ h => h) (Or.inl ⟨by rfl, ?_⟩) ?_ ?_
             rotate_left
             · intro w'
               go_simp
               with_reducible rfl
             rotate_left
             · simp only [Act.put, List.setIfInBounds_toArray, List.set_cons_zero, List.set_cons_succ, i64_w, i32_w]
               rfl
             refine pure_ (i := 15) (N := some 8) (v := ?_) (a' := ?_) #[true, true, true, true, true, true, true, true, true, true, true, true, true, true, true, true] rfl rfl (any_of HT_.out (by kernel_rfl)) (fun _ _ _ h => h) (Or.inl ⟨by rfl, ?_⟩) ?_ ?_
             rotate_left
             · intro w'
               go_simp
               with_reducible rfl
             rotate_left
             · simp only [Act.put, List.setIfInBounds_toArray, List.set_cons_zero, List.set_cons_succ, i64_w, i32_w]
               rfl
             refine done_ (done_of HT_.out (by kernel_rfl)) ?_
             try go_wp2
             go_ret
             exact ⟨by first | rfl | (simp [errW_none, errW_some] <;> rfl) | (simp [*, errW_none, errW_some] <;> rfl), by repeat (first | (with_reducible first | exact HB.out | apply below_alloc | apply pw_below_drewN | apply below_drew1 | refine below_set ?_ GE727.out | refine below_set ?_ GE740.out) | exact HB.out)⟩
           · replace c15 := Bool.eq_false_iff.mpr c15
             subst c15
             have H1 : (some false) = some r := by rw [if_neg (show ¬ (false = true) by decide)] at H; exact H
             clear H
             have H := H1
             clear H1
             obtain rfl := Option.some.inj H
             go_enter Tryz.func9, Tryz.ntmps9
             try go_wp2_with (first | (go_at_call 16; (with_reducible refine (spec_StatmRead.calls k a0 t710 true t714 _ A6.out).mono ?_); rintro e w34 ⟨v711, rfl, ho0, hb⟩; have n0_ := Aside0.mk (Kd.V_lower (Kd.V_mono (ok' := fun k_ => True) ho0 (fun k_ hk_ => trivial)) (below_size (by repeat (first | (with_reducible first | exact HB.out | apply below_alloc | apply pw_below_drewN | apply below_drew1) | exact HB.out)))); have n1_ := Aside0.mk (below_step (by repeat (first | (with_reducible first | exact HB.out | apply below_alloc | apply pw_below_drewN | apply below_drew1) | exact HB.out)) hb); clear HB; have HO712 := n0_; have HB := n1_; clear n0_ n1_; (try clear hb); (try clear hb2); (try clear hk); (try clear hi); (try clear ho0)) | (go_at_call 18; (with_reducible refine (impl_Statm.calls k a0 t716 t717 t718 t719 t720 t721 t722 t723 t726 _ A8.out).mono ?_); rintro e w35 ⟨v724, rfl, ho0, hb⟩; have n0_ := Aside0.mk (Kd.V_elder' (by (with_reducible repeat (first | apply Kd.V_alloc | apply Kd.V_drewN | apply Kd.V_drew)); exact HO712.out) (Kd.R_base ho0) hb); have n1_ := Aside0.mk (Kd.R_lower ho0 (below_size (by repeat (first | (with_reducible first | exact HB.out | apply below_alloc | apply pw_below_drewN | apply below_drew1) | exact HB.out)))); have n2_ := Aside0.mk (below_step (by repeat (first | (with_reducible first | exact HB.out | apply below_alloc | apply pw_below_drewN | apply below_drew1) | exact HB.out)) hb); clear HO712; clear HB; have HO712 := n0_; have HO725 := n1_; have HB := n2_; clear n0_ n1_ n2_; (try clear hb); (try clear hb2); (try clear hk); (try clear hi); (try clear ho0)) | ((with_reducible refine gate_dst (N := 12) rfl ?_); refine box_event ?hg (N := 12) ?hd (cs := #[.string (⟨#[]⟩ : ByteArray), .int .i64 0, .bool false, .int .i64 0, .int .u64 0, .float .f64 0, .string (⟨#[]⟩ : ByteArray), .slice none 0 0]) (t := 34) ?hr ?_; (case hd => rfl); (case hg => rfl); (case hr => first | (go_simp; done) | (go_simp; rfl)); intro gb727 hg w36 hbox hb; have n0_ := Aside0.mk (Kd.V_below (Kd.V_elderB (by (with_reducible repeat (first | apply Kd.V_alloc | apply Kd.V_drewN | apply Kd.V_drew)); exact HO712.out) gb727 (Nat.le_of_eq hg.symm)) hb); have n1_ := Aside0.mk (Kd.R_below (Kd.R_elderB (by (with_reducible repeat (first | apply Kd.R_alloc | apply Kd.R_drewN | apply Kd.R_drew)); exact HO725.out) gb727 (Nat.le_of_eq hg.symm)) hb); have n2_ := Aside0.mk (below_step (by repeat (first | (with_reducible first | exact HB.out | apply below_alloc | apply pw_below_drewN | apply below_drew1) | exact HB.out)) hb); have n3_ := Aside0.mk (hbox); have n4_ := Aside0.mk ((by rw [hg]; exact (below_size (by repeat (first | (with_reducible first | exact HB.out | apply below_alloc | apply pw_below_drewN | apply below_drew1) | exact HB.out))) : w.heap.size ≤ gb727)); have n5_ := Aside0.mk ((by rw [hg]; exact (below_size (by repeat (first | (with_reducible first | exact HB.out | apply below_alloc | apply pw_below_drewN | apply below_drew1) | exact HB.out))) : w.heap.size ≤ gb727)); clear HO712; clear HO725; clear HB; have HO712 := n0_; have HO725 := n1_; have HB := n2_; have BK727 := n3_; have GW727 := n4_; have GE727 := n5_; clear n0_ n1_ n2_ n3_ n4_ n5_; clear hb hbox hg; have hcz37_0 : w36.cell? ⟨gb727, 0, none⟩ = some (.string (⟨#[]⟩ : ByteArray)) := (blk_cell BK727.out 0).trans rfl; have hcz37_1 : w36.cell? ⟨gb727, 1, none⟩ = some (.int .i64 0) := (blk_cell BK727.out 1).trans rfl; have hcz37_2 : w36.cell? ⟨gb727, 2, none⟩ = some (.bool false) := (blk_cell BK727.out 2).trans rfl; have hcz37_3 : w36.cell? ⟨gb727, 3, none⟩ = some (.int .i64 0) := (blk_cell BK727.out 3).trans rfl; have hcz37_4 : w36.cell? ⟨gb727, 4, none⟩ = some (.int .u64 0) := (blk_cell BK727.out 4).trans rfl; have hcz37_5 : w36.cell? ⟨gb727, 5, none⟩ = some (.float .f64 0) := (blk_cell BK727.out 5).trans rfl; have hcz37_6 : w36.cell? ⟨gb727, 6, none⟩ = some (.string (⟨#[]⟩ : ByteArray)) := (blk_cell BK727.out 6).trans rfl; have hcz37_7 : w36.cell? ⟨gb727, 7, none⟩ = some (.slice none 0 0) := (blk_cell BK727.out 7).trans rfl; have hfz37_0 := blk_frozen BK727.out 0; have hfz37_1 := blk_frozen BK727.out 1; have hfz37_2 := blk_frozen BK727.out 2; have hfz37_3 := blk_frozen BK727.out 3; have hfz37_4 := blk_frozen BK727.out 4; have hfz37_5 := blk_frozen BK727.out 5; have hfz37_6 := blk_frozen BK727.out 6; have hfz37_7 := blk_frozen BK727.out 7; obtain ⟨Ao38, co38, eo38⟩ := Kd.R_slice HO725.out; subst eo38; obtain ⟨Ao39, co39, eo39⟩ := Kd.V_slice HO712.out; subst eo39) | (go_at_call 17; (with_reducible refine (spec_StatmTree.calls k _ _ t710 t729 t730 t731 t732 t733 t734 t735 t736 t739 _ ?side1 ?side2 A10.out).mono ?_); (case side1 => refine (Kd.V_reads' (e := 48) (base := w.heap.size) (ok := fun k_ => ((True ∧ some k_ ≠ (.slice Ao38 t723.length co38 : Value).ownBlock) ∧ k_ ≠ gb727)) (n := t710.length) (c := co39) ?_).2.2; exact (by (with_reducible repeat (first | apply Kd.V_alloc | apply Kd.V_drewN | apply Kd.V_drew)); exact (Kd.V_mono (Kd.V_far (p := ⟨gb727, 7, none⟩) (Kd.V_far (p := ⟨gb727, 6, none⟩) (Kd.V_far (p := ⟨gb727, 5, none⟩) (Kd.V_far (p := ⟨gb727, 4, none⟩) (Kd.V_far (p := ⟨gb727, 3, none⟩) (Kd.V_far (p := ⟨gb727, 2, none⟩) (Kd.V_far (p := ⟨gb727, 1, none⟩) (Kd.V_far (p := ⟨gb727, 0, none⟩) (Kd.V_mono HO712.out (fun k_ hk => (⟨hk, hk.2⟩ : _ ∧ k_ ≠ gb727))) (fun _ hk => hk.2) (.string t716)) (fun _ hk => hk.2) (.int .i64 t717)) (fun _ hk => hk.2) (.bool t718)) (fun _ hk => hk.2) (.int .i64 t719)) (fun _ hk => hk.2) (.int .u64 t720)) (fun _ hk => hk.2) (.float .f64 t721)) (fun _ hk => hk.2) (.string t722)) (fun _ hk => hk.2) (.slice Ao38 t723.length co38)) (fun _ h_ => h_.1)))); (case side2 => exact (Kd.V_reads' HO712.out).2.1); rintro e w40 ⟨v737, rfl, ho0, hb⟩; have n0_ := Aside0.mk (Kd.V_below (by (with_reducible repeat (first | apply Kd.V_alloc | apply Kd.V_drewN | apply Kd.V_drew)); exact (Kd.V_mono (Kd.V_far (p := ⟨gb727, 7, none⟩) (Kd.V_far (p := ⟨gb727, 6, none⟩) (Kd.V_far (p := ⟨gb727, 5, none⟩) (Kd.V_far (p := ⟨gb727, 4, none⟩) (Kd.V_far (p := ⟨gb727, 3, none⟩) (Kd.V_far (p := ⟨gb727, 2, none⟩) (Kd.V_far (p := ⟨gb727, 1, none⟩) (Kd.V_far (p := ⟨gb727, 0, none⟩) (Kd.V_mono HO712.out (fun k_ hk => (⟨hk, hk.2⟩ : _ ∧ k_ ≠ gb727))) (fun _ hk => hk.2) (.string t716)) (fun _ hk => hk.2) (.int .i64 t717)) (fun _ hk => hk.2) (.bool t718)) (fun _ hk => hk.2) (.int .i64 t719)) (fun _ hk => hk.2) (.int .u64 t720)) (fun _ hk => hk.2) (.float .f64 t721)) (fun _ hk => hk.2) (.string t722)) (fun _ hk => hk.2) (.slice Ao38 t723.length co38)) (fun _ h_ => h_.1))) hb); have n1_ := Aside0.mk (Kd.R_below (by (with_reducible repeat (first | apply Kd.R_alloc | apply Kd.R_drewN | apply Kd.R_drew)); exact (Kd.R_mono (Kd.R_far (p := ⟨gb727, 7, none⟩) (Kd.R_far (p := ⟨gb727, 6, none⟩) (Kd.R_far (p := ⟨gb727, 5, none⟩) (Kd.R_far (p := ⟨gb727, 4, none⟩) (Kd.R_far (p := ⟨gb727, 3, none⟩) (Kd.R_far (p := ⟨gb727, 2, none⟩) (Kd.R_far (p := ⟨gb727, 1, none⟩) (Kd.R_far (p := ⟨gb727, 0, none⟩) (Kd.R_mono HO725.out (fun k_ hk => (⟨hk, hk.2⟩ : _ ∧ k_ ≠ gb727))) (fun _ hk => hk.2) (.string t716)) (fun _ hk => hk.2) (.int .i64 t717)) (fun _ hk => hk.2) (.bool t718)) (fun _ hk => hk.2) (.int .i64 t719)) (fun _ hk => hk.2) (.int .u64 t720)) (fun _ hk => hk.2) (.float .f64 t721)) (fun _ hk => hk.2) (.string t722)) (fun _ hk => hk.2) (.slice Ao38 t723.length co38)) (fun _ h_ => h_.1))) hb); have n2_ := Aside0.mk (Kd.V_lower (Kd.V_mono (ok' := fun k_ => some k_ ≠ (.slice Ao38 t723.length co38 : Value).ownBlock ∧ k_ ≠ gb727) ho0 (fun k_ hk_ => ⟨(Kd.fresh' (Kd.R_lt (by (with_reducible repeat (first | apply Kd.R_alloc | apply Kd.R_drewN | apply Kd.R_drew)); exact (Kd.R_mono (Kd.R_far (p := ⟨gb727, 7, none⟩) (Kd.R_far (p := ⟨gb727, 6, none⟩) (Kd.R_far (p := ⟨gb727, 5, none⟩) (Kd.R_far (p := ⟨gb727, 4, none⟩) (Kd.R_far (p := ⟨gb727, 3, none⟩) (Kd.R_far (p := ⟨gb727, 2, none⟩) (Kd.R_far (p := ⟨gb727, 1, none⟩) (Kd.R_far (p := ⟨gb727, 0, none⟩) (Kd.R_mono HO725.out (fun k_ hk => (⟨hk, hk.2⟩ : _ ∧ k_ ≠ gb727))) (fun _ hk => hk.2) (.string t716)) (fun _ hk => hk.2) (.int .i64 t717)) (fun _ hk => hk.2) (.bool t718)) (fun _ hk => hk.2) (.int .i64 t719)) (fun _ hk => hk.2) (.int .u64 t720)) (fun _ hk => hk.2) (.float .f64 t721)) (fun _ hk => hk.2) (.string t722)) (fun _ hk => hk.2) (.slice Ao38 t723.length co38)) (fun _ h_ => h_.1)))) k_ hk_), (Kd.freshB (g := gb727) (o := .cells #[.string t716, .int .i64 t717, .bool t718, .int .i64 t719, .int .u64 t720, .float .f64 t721, .string t722, .slice Ao38 t723.length co38] 34 (0, 0)) (by (with_reducible repeat (first | refine blk_drewN ?_ _ | refine blk_drew ?_ | refine blk_alloc ?_ _)); refine blk_put (cs := #[.string t716, .int .i64 t717, .bool t718, .int .i64 t719, .int .u64 t720, .float .f64 t721, .string t722, .slice none 0 0]) ?_ 7 _ rfl; (with_reducible repeat (first | refine blk_drewN ?_ _ | refine blk_drew ?_ | refine blk_alloc ?_ _)); refine blk_put (cs := #[.string t716, .int .i64 t717, .bool t718, .int .i64 t719, .int .u64 t720, .float .f64 t721, .string (⟨#[]⟩ : ByteArray), .slice none 0 0]) ?_ 6 _ rfl; (with_reducible repeat (first | refine blk_drewN ?_ _ | refine blk_drew ?_ | refine blk_alloc ?_ _)); refine blk_put (cs := #[.string t716, .int .i64 t717, .bool t718, .int .i64 t719, .int .u64 t720, .float .f64 0, .string (⟨#[]⟩ : ByteArray), .slice none 0 0]) ?_ 5 _ rfl; (with_reducible repeat (first | refine blk_drewN ?_ _ | refine blk_drew ?_ | refine blk_alloc ?_ _)); refine blk_put (cs := #[.string t716, .int .i64 t717, .bool t718, .int .i64 t719, .int .u64 0, .float .f64 0, .string (⟨#[]⟩ : ByteArray), .slice none 0 0]) ?_ 4 _ rfl; (with_reducible repeat (first | refine blk_drewN ?_ _ | refine blk_drew ?_ | refine blk_alloc ?_ _)); refine blk_put (cs := #[.string t716, .int .i64 t717, .bool t718, .int .i64 0, .int .u64 0, .float .f64 0, .string (⟨#[]⟩ : ByteArray), .slice none 0 0]) ?_ 3 _ rfl; (with_reducible repeat (first | refine blk_drewN ?_ _ | refine blk_drew ?_ | refine blk_alloc ?_ _)); refine blk_put (cs := #[.string t716, .int .i64 t717, .bool false, .int .i64 0, .int .u64 0, .float .f64 0, .string (⟨#[]⟩ : ByteArray), .slice none 0 0]) ?_ 2 _ rfl; (with_reducible repeat (first | refine blk_drewN ?_ _ | refine blk_drew ?_ | refine blk_alloc ?_ _)); refine blk_put (cs := #[.string t716, .int .i64 0, .bool false, .int .i64 0, .int .u64 0, .float .f64 0, .string (⟨#[]⟩ : ByteArray), .slice none 0 0]) ?_ 1 _ rfl; (with_reducible repeat (first | refine blk_drewN ?_ _ | refine blk_drew ?_ | refine blk_alloc ?_ _)); refine blk_put (cs := #[.string (⟨#[]⟩ : ByteArray), .int .i64 0, .bool false, .int .i64 0, .int .u64 0, .float .f64 0, .string (⟨#[]⟩ : ByteArray), .slice none 0 0]) ?_ 0 _ rfl; (with_reducible repeat (first | refine blk_drewN ?_ _ | refine blk_drew ?_ | refine blk_alloc ?_ _)); exact BK727.out) k_ hk_)⟩)) (below_size (by repeat (first | (with_reducible first | exact HB.out | apply below_alloc | apply pw_below_drewN | apply below_drew1 | refine below_set ?_ GE727.out) | exact HB.out)))); have n3_ := Aside0.mk (blk_below (g := gb727) (o := .cells #[.string t716, .int .i64 t717, .bool t718, .int .i64 t719, .int .u64 t720, .float .f64 t721, .string t722, .slice Ao38 t723.length co38] 34 (0, 0)) (by (with_reducible repeat (first | refine blk_drewN ?_ _ | refine blk_drew ?_ | refine blk_alloc ?_ _)); refine blk_put (cs := #[.string t716, .int .i64 t717, .bool t718, .int .i64 t719, .int .u64 t720, .float .f64 t721, .string t722, .slice none 0 0]) ?_ 7 _ rfl; (with_reducible repeat (first | refine blk_drewN ?_ _ | refine blk_drew ?_ | refine blk_alloc ?_ _)); refine blk_put (cs := #[.string t716, .int .i64 t717, .bool t718, .int .i64 t719, .int .u64 t720, .float .f64 t721, .string (⟨#[]⟩ : ByteArray), .slice none 0 0]) ?_ 6 _ rfl; (with_reducible repeat (first | refine blk_drewN ?_ _ | refine blk_drew ?_ | refine blk_alloc ?_ _)); refine blk_put (cs := #[.string t716, .int .i64 t717, .bool t718, .int .i64 t719, .int .u64 t720, .float .f64 0, .string (⟨#[]⟩ : ByteArray), .slice none 0 0]) ?_ 5 _ rfl; (with_reducible repeat (first | refine blk_drewN ?_ _ | refine blk_drew ?_ | refine blk_alloc ?_ _)); refine blk_put (cs := #[.string t716, .int .i64 t717, .bool t718, .int .i64 t719, .int .u64 0, .float .f64 0, .string (⟨#[]⟩ : ByteArray), .slice none 0 0]) ?_ 4 _ rfl; (with_reducible repeat (first | refine blk_drewN ?_ _ | refine blk_drew ?_ | refine blk_alloc ?_ _)); refine blk_put (cs := #[.string t716, .int .i64 t717, .bool t718, .int .i64 0, .int .u64 0, .float .f64 0, .string (⟨#[]⟩ : ByteArray), .slice none 0 0]) ?_ 3 _ rfl; (with_reducible repeat (first | refine blk_drewN ?_ _ | refine blk_drew ?_ | refine blk_alloc ?_ _)); refine blk_put (cs := #[.string t716, .int .i64 t717, .bool false, .int .i64 0, .int .u64 0, .float .f64 0, .string (⟨#[]⟩ : ByteArray), .slice none 0 0]) ?_ 2 _ rfl; (with_reducible repeat (first | refine blk_drewN ?_ _ | refine blk_drew ?_ | refine blk_alloc ?_ _)); refine blk_put (cs := #[.string t716, .int .i64 0, .bool false, .int .i64 0, .int .u64 0, .float .f64 0, .string (⟨#[]⟩ : ByteArray), .slice none 0 0]) ?_ 1 _ rfl; (with_reducible repeat (first | refine blk_drewN ?_ _ | refine blk_drew ?_ | refine blk_alloc ?_ _)); refine blk_put (cs := #[.string (⟨#[]⟩ : ByteArray), .int .i64 0, .bool false, .int .i64 0, .int .u64 0, .float .f64 0, .string (⟨#[]⟩ : ByteArray), .slice none 0 0]) ?_ 0 _ rfl; (with_reducible repeat (first | refine blk_drewN ?_ _ | refine blk_drew ?_ | refine blk_alloc ?_ _)); exact BK727.out) hb); have n4_ := Aside0.mk (below_step (by repeat (first | (with_reducible first | exact HB.out | apply below_alloc | apply pw_below_drewN | apply below_drew1 | refine below_set ?_ GE727.out) | exact HB.out)) hb); clear HO712; clear HO725; clear BK727; clear HB; have HO712 := n0_; have HO725 := n1_; have HO738 := n2_; have BK727 := n3_; have HB := n4_; clear n0_ n1_ n2_ n3_ n4_; (try clear hb); (try clear hb2); (try clear hk); (try clear hi); (try clear ho0)) | ((with_reducible refine gate_dst (N := 14) rfl ?_); refine box_event ?hg (N := 14) ?hd (cs := #[.string (⟨#[]⟩ : ByteArray), .int .i64 0, .bool false, .int .i64 0, .int .u64 0, .float .f64 0, .string (⟨#[]⟩ : ByteArray), .slice none 0 0]) (t := 38) ?hr ?_; (case hd => rfl); (case hg => rfl); (case hr => first | (go_simp; done) | (go_simp; rfl)); intro gb740 hg w41 hbox hb; have n0_ := Aside0.mk (Kd.V_below (Kd.V_elderB (by (with_reducible repeat (first | apply Kd.V_alloc | apply Kd.V_drewN | apply Kd.V_drew)); exact HO712.out) gb740 (Nat.le_of_eq hg.symm)) hb); have n1_ := Aside0.mk (Kd.R_below (by (with_reducible repeat (first | apply Kd.R_alloc | apply Kd.R_drewN | apply Kd.R_drew)); exact HO725.out) hb); have n2_ := Aside0.mk (Kd.V_below (Kd.V_elderB (by (with_reducible repeat (first | apply Kd.V_alloc | apply Kd.V_drewN | apply Kd.V_drew)); exact HO738.out) gb740 (Nat.le_of_eq hg.symm)) hb); have n3_ := Aside0.mk (blk_below (g := gb727) (o := .cells #[.string t716, .int .i64 t717, .bool t718, .int .i64 t719, .int .u64 t720, .float .f64 t721, .string t722, .slice Ao38 t723.length co38] 34 (0, 0)) (by (with_reducible repeat (first | refine blk_drewN ?_ _ | refine blk_drew ?_ | refine blk_alloc ?_ _)); exact BK727.out) hb); have n4_ := Aside0.mk (below_step (by repeat (first | (with_reducible first | exact HB.out | apply below_alloc | apply pw_below_drewN | apply below_drew1 | refine below_set ?_ GE727.out) | exact HB.out)) hb); have n5_ := Aside0.mk (hbox); have n6_ := Aside0.mk ((by rw [hg]; exact (below_size (by repeat (first | (with_reducible first | exact HB.out | apply below_alloc | apply pw_below_drewN | apply below_drew1 | refine below_set ?_ GE727.out) | exact HB.out))) : w.heap.size ≤ gb740)); have n7_ := Aside0.mk ((by rw [hg]; exact (below_size (by repeat (first | (with_reducible first | exact HB.out | apply below_alloc | apply pw_below_drewN | apply below_drew1 | refine below_set ?_ GE727.out) | exact HB.out))) : w.heap.size ≤ gb740)); have n8_ := Aside0.mk ((by rw [hg]; exact Nat.ne_of_lt (blk_lt (g := gb727) (o := .cells #[.string t716, .int .i64 t717, .bool t718, .int .i64 t719, .int .u64 t720, .float .f64 t721, .string t722, .slice Ao38 t723.length co38] 34 (0, 0)) (by (with_reducible repeat (first | refine blk_drewN ?_ _ | refine blk_drew ?_ | refine blk_alloc ?_ _)); exact BK727.out)) : gb727 ≠ gb740)); have n9_ := Aside0.mk ((by rw [hg]; exact Nat.ne_of_gt (blk_lt (g := gb727) (o := .cells #[.string t716, .int .i64 t717, .bool t718, .int .i64 t719, .int .u64 t720, .float .f64 t721, .string t722, .slice Ao38 t723.length co38] 34 (0, 0)) (by (with_reducible repeat (first | refine blk_drewN ?_ _ | refine blk_drew ?_ | refine blk_alloc ?_ _)); exact BK727.out)) : gb740 ≠ gb727)); clear HO712; clear HO725; clear HO738; clear BK727; clear HB; have HO712 := n0_; have HO725 := n1_; have HO738 := n2_; have BK727 := n3_; have HB := n4_; have BK740 := n5_; have GW740 := n6_; have GE740 := n7_; have NB727_740 := n8_; have NB740_727 := n9_; clear n0_ n1_ n2_ n3_ n4_ n5_ n6_ n7_ n8_ n9_; clear hb hbox hg; have hnb42 := NB740_727.out; have hnc42 := NB727_740.out; have hcz43_0 : w41.cell? ⟨gb740, 0, none⟩ = some (.string (⟨#[]⟩ : ByteArray)) := (blk_cell BK740.out 0).trans rfl; have hcz43_1 : w41.cell? ⟨gb740, 1, none⟩ = some (.int .i64 0) := (blk_cell BK740.out 1).trans rfl; have hcz43_2 : w41.cell? ⟨gb740, 2, none⟩ = some (.bool false) := (blk_cell BK740.out 2).trans rfl; have hcz43_3 : w41.cell? ⟨gb740, 3, none⟩ = some (.int .i64 0) := (blk_cell BK740.out 3).trans rfl; have hcz43_4 : w41.cell? ⟨gb740, 4, none⟩ = some (.int .u64 0) := (blk_cell BK740.out 4).trans rfl; have hcz43_5 : w41.cell? ⟨gb740, 5, none⟩ = some (.float .f64 0) := (blk_cell BK740.out 5).trans rfl; have hcz43_6 : w41.cell? ⟨gb740, 6, none⟩ = some (.string (⟨#[]⟩ : ByteArray)) := (blk_cell BK740.out 6).trans rfl; have hcz43_7 : w41.cell? ⟨gb740, 7, none⟩ = some (.slice none 0 0) := (blk_cell BK740.out 7).trans rfl; have hfz43_0 := blk_frozen BK740.out 0; have hfz43_1 := blk_frozen BK740.out 1; have hfz43_2 := blk_frozen BK740.out 2; have hfz43_3 := blk_frozen BK740.out 3; have hfz43_4 := blk_frozen BK740.out 4; have hfz43_5 := blk_frozen BK740.out 5; have hfz43_6 := blk_frozen BK740.out 6; have hfz43_7 := blk_frozen BK740.out 7; obtain ⟨Ao44, co44, eo44⟩ := Kd.V_slice HO738.out; subst eo44))
             have n0_ : Aside0 (Kd.V k48 48 ((((((((w41.setCell ⟨gb740, 0, none⟩ (.string t729)).setCell ⟨gb740, 1, none⟩ (.int .i64 t730)).setCell ⟨gb740, 2, none⟩ (.bool t731)).setCell ⟨gb740, 3, none⟩ (.int .i64 t732)).setCell ⟨gb740, 4, none⟩ (.int .u64 t733)).setCell ⟨gb740, 5, none⟩ (.float .f64 t734)).setCell ⟨gb740, 6, none⟩ (.string t735)).setCell ⟨gb740, 7, none⟩ (.slice Ao44 t736.length co44)) w.heap.size (fun k_ => some k_ ≠ (.slice Ao38 t723.length co38 : Value).ownBlock ∧ k_ ≠ gb727 ∧ k_ ≠ gb740) (.slice Ao39 t710.length co39) t710) := ⟨by (with_reducible repeat (first | apply Kd.V_alloc | apply Kd.V_drewN | apply Kd.V_drew)); exact Kd.V_mono (Kd.V_far (p := ⟨gb740, 7, none⟩) (Kd.V_far (p := ⟨gb740, 6, none⟩) (Kd.V_far (p := ⟨gb740, 5, none⟩) (Kd.V_far (p := ⟨gb740, 4, none⟩) (Kd.V_far (p := ⟨gb740, 3, none⟩) (Kd.V_far (p := ⟨gb740, 2, none⟩) (Kd.V_far (p := ⟨gb740, 1, none⟩) (Kd.V_far (p := ⟨gb740, 0, none⟩) (Kd.V_mono HO712.out (fun k_ hk => (⟨hk, hk.2⟩ : _ ∧ k_ ≠ gb740))) (fun _ hk => hk.2) (.string t729)) (fun _ hk => hk.2) (.int .i64 t730)) (fun _ hk => hk.2) (.bool t731)) (fun _ hk => hk.2) (.int .i64 t732)) (fun _ hk => hk.2) (.int .u64 t733)) (fun _ hk => hk.2) (.float .f64 t734)) (fun _ hk => hk.2) (.string t735)) (fun _ hk => hk.2) (.slice Ao44 t736.length co44)) (fun _ hk => ⟨hk.1.1.1.2, ⟨hk.1.1.2, hk.1.2⟩⟩)⟩
             have n1_ : Aside0 (Kd.R k34 34 ((((((((w41.setCell ⟨gb740, 0, none⟩ (.string t729)).setCell ⟨gb740, 1, none⟩ (.int .i64 t730)).setCell ⟨gb740, 2, none⟩ (.bool t731)).setCell ⟨gb740, 3, none⟩ (.int .i64 t732)).setCell ⟨gb740, 4, none⟩ (.int .u64 t733)).setCell ⟨gb740, 5, none⟩ (.float .f64 t734)).setCell ⟨gb740, 6, none⟩ (.string t735)).setCell ⟨gb740, 7, none⟩ (.slice Ao44 t736.length co44)) w.heap.size (fun k_ => k_ ≠ gb727) (.slice Ao38 t723.length co38) t723) := ⟨by (with_reducible repeat (first | apply Kd.R_alloc | apply Kd.R_drewN | apply Kd.R_drew)); exact Kd.R_mono (Kd.R_far (p := ⟨gb740, 7, none⟩) (Kd.R_far (p := ⟨gb740, 6, none⟩) (Kd.R_far (p := ⟨gb740, 5, none⟩) (Kd.R_far (p := ⟨gb740, 4, none⟩) (Kd.R_far (p := ⟨gb740, 3, none⟩) (Kd.R_far (p := ⟨gb740, 2, none⟩) (Kd.R_far (p := ⟨gb740, 1, none⟩) (Kd.R_far (p := ⟨gb740, 0, none⟩) (Kd.R_types HO725.out BK740.out (by decide)) (fun _ hk => hk.2) (.string t729)) (fun _ hk => hk.2) (.int .i64 t730)) (fun _ hk => hk.2) (.bool t731)) (fun _ hk => hk.2) (.int .i64 t732)) (fun _ hk => hk.2) (.int .u64 t733)) (fun _ hk => hk.2) (.float .f64 t734)) (fun _ hk => hk.2) (.string t735)) (fun _ hk => hk.2) (.slice Ao44 t736.length co44)) (fun _ hk => hk.1.2)⟩
             have n2_ : Aside0 (Kd.V k38 38 ((((((((w41.setCell ⟨gb740, 0, none⟩ (.string t729)).setCell ⟨gb740, 1, none⟩ (.int .i64 t730)).setCell ⟨gb740, 2, none⟩ (.bool t731)).setCell ⟨gb740, 3, none⟩ (.int .i64 t732)).setCell ⟨gb740, 4, none⟩ (.int .u64 t733)).setCell ⟨gb740, 5, none⟩ (.float .f64 t734)).setCell ⟨gb740, 6, none⟩ (.string t735)).setCell ⟨gb740, 7, none⟩ (.slice Ao44 t736.length co44)) w.heap.size (fun k_ => some k_ ≠ (.slice Ao38 t723.length co38 : Value).ownBlock ∧ k_ ≠ gb727 ∧ k_ ≠ gb740) (.slice Ao44 t736.length co44) t736) := ⟨by (with_reducible repeat (first | apply Kd.V_alloc | apply Kd.V_drewN | apply Kd.V_drew)); exact Kd.V_mono (Kd.V_far (p := ⟨gb740, 7, none⟩) (Kd.V_far (p := ⟨gb740, 6, none⟩) (Kd.V_far (p := ⟨gb740, 5, none⟩) (Kd.V_far (p := ⟨gb740, 4, none⟩) (Kd.V_far (p := ⟨gb740, 3, none⟩) (Kd.V_far (p := ⟨gb740, 2, none⟩) (Kd.V_far (p := ⟨gb740, 1, none⟩) (Kd.V_far (p := ⟨gb740, 0, none⟩) (Kd.V_mono HO738.out (fun k_ hk => (⟨hk, hk.2⟩ : _ ∧ k_ ≠ gb740))) (fun _ hk => hk.2) (.string t729)) (fun _ hk => hk.2) (.int .i64 t730)) (fun _ hk => hk.2) (.bool t731)) (fun _ hk => hk.2) (.int .i64 t732)) (fun _ hk => hk.2) (.int .u64 t733)) (fun _ hk => hk.2) (.float .f64 t734)) (fun _ hk => hk.2) (.string t735)) (fun _ hk => hk.2) (.slice Ao44 t736.length co44)) (fun _ hk => ⟨hk.1.1.1, ⟨hk.1.1.2, hk.1.2⟩⟩)⟩
             have n3_ : Aside0 (((((((((w41.setCell ⟨gb740, 0, none⟩ (.string t729)).setCell ⟨gb740, 1, none⟩ (.int .i64 t730)).setCell ⟨gb740, 2, none⟩ (.bool t731)).setCell ⟨gb740, 3, none⟩ (.int .i64 t732)).setCell ⟨gb740, 4, none⟩ (.int .u64 t733)).setCell ⟨gb740, 5, none⟩ (.float .f64 t734)).setCell ⟨gb740, 6, none⟩ (.string t735)).setCell ⟨gb740, 7, none⟩ (.slice Ao44 t736.length co44)).heap[gb727]? = some (.cells #[.string t716, .int .i64 t717, .bool t718, .int .i64 t719, .int .u64 t720, .float .f64 t721, .string t722, .slice Ao38 t723.length co38] 34 (0, 0))) := ⟨by (with_reducible repeat (first | refine blk_drewN ?_ _ | refine blk_drew ?_ | refine blk_alloc ?_ _)); refine blk_far ?_ NB727_740.out _; (with_reducible repeat (first | refine blk_drewN ?_ _ | refine blk_drew ?_ | refine blk_alloc ?_ _)); refine blk_far ?_ NB727_740.out _; (with_reducible repeat (first | refine blk_drewN ?_ _ | refine blk_drew ?_ | refine blk_alloc ?_ _)); refine blk_far ?_ NB727_740.out _; (with_reducible repeat (first | refine blk_drewN ?_ _ | refine blk_drew ?_ | refine blk_alloc ?_ _)); refine blk_far ?_ NB727_740.out _; (with_reducible repeat (first | refine blk_drewN ?_ _ | refine blk_drew ?_ | refine blk_alloc ?_ _)); refine blk_far ?_ NB727_740.out _; (with_reducible repeat (first | refine blk_drewN ?_ _ | refine blk_drew ?_ | refine blk_alloc ?_ _)); refine blk_far ?_ NB727_740.out _; (with_reducible repeat (first | refine blk_drewN ?_ _ | refine blk_drew ?_ | refine blk_alloc ?_ _)); refine blk_far ?_ NB727_740.out _; (with_reducible repeat (first | refine blk_drewN ?_ _ | refine blk_drew ?_ | refine blk_alloc ?_ _)); refine blk_far ?_ NB727_740.out _; (with_reducible repeat (first | refine blk_drewN ?_ _ | refine blk_drew ?_ | refine blk_alloc ?_ _)); exact BK727.out⟩
             have n4_ : Aside0 (((((((((w41.setCell ⟨gb740, 0, none⟩ (.string t729)).setCell ⟨gb740, 1, none⟩ (.int .i64 t730)).setCell ⟨gb740, 2, none⟩ (.bool t731)).setCell ⟨gb740, 3, none⟩ (.int .i64 t732)).setCell ⟨gb740, 4, none⟩ (.int .u64 t733)).setCell ⟨gb740, 5, none⟩ (.float .f64 t734)).setCell ⟨gb740, 6, none⟩ (.string t735)).setCell ⟨gb740, 7, none⟩ (.slice Ao44 t736.length co44)).heap[gb740]? = some (.cells #[.string t729, .int .i64 t730, .bool t731, .int .i64 t732, .int .u64 t733, .float .f64 t734, .string t735, .slice Ao44 t736.length co44] 38 (0, 0))) := ⟨by (with_reducible repeat (first | refine blk_drewN ?_ _ | refine blk_drew ?_ | refine blk_alloc ?_ _)); refine blk_put (cs := #[.string t729, .int .i64 t730, .bool t731, .int .i64 t732, .int .u64 t733, .float .f64 t734, .string t735, .slice none 0 0]) ?_ 7 _ rfl; (with_reducible repeat (first | refine blk_drewN ?_ _ | refine blk_drew ?_ | refine blk_alloc ?_ _)); refine blk_put (cs := #[.string t729, .int .i64 t730, .bool t731, .int .i64 t732, .int .u64 t733, .float .f64 t734, .string (⟨#[]⟩ : ByteArray), .slice none 0 0]) ?_ 6 _ rfl; (with_reducible repeat (first | refine blk_drewN ?_ _ | refine blk_drew ?_ | refine blk_alloc ?_ _)); refine blk_put (cs := #[.string t729, .int .i64 t730, .bool t731, .int .i64 t732, .int .u64 t733, .float .f64 0, .string (⟨#[]⟩ : ByteArray), .slice none 0 0]) ?_ 5 _ rfl; (with_reducible repeat (first | refine blk_drewN ?_ _ | refine blk_drew ?_ | refine blk_alloc ?_ _)); refine blk_put (cs := #[.string t729, .int .i64 t730, .bool t731, .int .i64 t732, .int .u64 0, .float .f64 0, .string (⟨#[]⟩ : ByteArray), .slice none 0 0]) ?_ 4 _ rfl; (with_reducible repeat (first | refine blk_drewN ?_ _ | refine blk_drew ?_ | refine blk_alloc ?_ _)); refine blk_put (cs := #[.string t729, .int .i64 t730, .bool t731, .int .i64 0, .int .u64 0, .float .f64 0, .string (⟨#[]⟩ : ByteArray), .slice none 0 0]) ?_ 3 _ rfl; (with_reducible repeat (first | refine blk_drewN ?_ _ | refine blk_drew ?_ | refine blk_alloc ?_ _)); refine blk_put (cs := #[.string t729, .int .i64 t730, .bool false, .int .i64 0, .int .u64 0, .float .f64 0, .string (⟨#[]⟩ : ByteArray), .slice none 0 0]) ?_ 2 _ rfl; (with_reducible repeat (first | refine blk_drewN ?_ _ | refine blk_drew ?_ | refine blk_alloc ?_ _)); refine blk_put (cs := #[.string t729, .int .i64 0, .bool false, .int .i64 0, .int .u64 0, .float .f64 0, .string (⟨#[]⟩ : ByteArray), .slice none 0 0]) ?_ 1 _ rfl; (with_reducible repeat (first | refine blk_drewN ?_ _ | refine blk_drew ?_ | refine blk_alloc ?_ _)); refine blk_put (cs := #[.string (⟨#[]⟩ : ByteArray), .int .i64 0, .bool false, .int .i64 0, .int .u64 0, .float .f64 0, .string (⟨#[]⟩ : ByteArray), .slice none 0 0]) ?_ 0 _ rfl; (with_reducible repeat (first | refine blk_drewN ?_ _ | refine blk_drew ?_ | refine blk_alloc ?_ _)); exact BK740.out⟩
             have n5_ : Aside0 (Below w.heap.size w ((((((((w41.setCell ⟨gb740, 0, none⟩ (.string t729)).setCell ⟨gb740, 1, none⟩ (.int .i64 t730)).setCell ⟨gb740, 2, none⟩ (.bool t731)).setCell ⟨gb740, 3, none⟩ (.int .i64 t732)).setCell ⟨gb740, 4, none⟩ (.int .u64 t733)).setCell ⟨gb740, 5, none⟩ (.float .f64 t734)).setCell ⟨gb740, 6, none⟩ (.string t735)).setCell ⟨gb740, 7, none⟩ (.slice Ao44 t736.length co44))) := ⟨by repeat (first | (with_reducible first | exact HB.out | apply below_alloc | apply pw_below_drewN | apply below_drew1 | refine below_set ?_ GE727.out | refine below_set ?_ GE740.out) | exact HB.out)⟩
             (try clear HO712)
             (try clear HO725)
             (try clear HO738)
             (try clear BK727)
             (try clear BK740)
             (try clear HB)
             generalize ((((((((w41.setCell ⟨gb740, 0, none⟩ (.string t729)).setCell ⟨gb740, 1, none⟩ (.int .i64 t730)).setCell ⟨gb740, 2, none⟩ (.bool t731)).setCell ⟨gb740, 3, none⟩ (.int .i64 t732)).setCell ⟨gb740, 4, none⟩ (.int .u64 t733)).setCell ⟨gb740, 5, none⟩ (.float .f64 t734)).setCell ⟨gb740, 6, none⟩ (.string t735)).setCell ⟨gb740, 7, none⟩ (.slice Ao44 t736.length co44)) = w45 at n0_ n1_ n2_ n3_ n4_ n5_ ⊢
             have HO712 := n0_
             have HO725 := n1_
             have HO738 := n2_
             have BK727 := n3_
             have BK740 := n4_
             have HB := n5_
             clear n0_ n1_ n2_ n3_ n4_ n5_
             have n0_ := Aside0.mk (Kd.V_drew HO712.out)
             have n1_ := Aside0.mk (Kd.R_drew HO725.out)
             have n2_ := Aside0.mk (Kd.V_drew HO738.out)
             have n3_ := Aside0.mk (blk_drew BK727.out)
             have n4_ := Aside0.mk (blk_drew BK740.out)
             have n5_ := Aside0.mk (below_drew1 HB.out)
             clear HO712
             clear HO725
             clear HO738
             clear BK727
             clear BK740
             clear HB
             have HO712 := n0_
             have HO725 := n1_
             have HO738 := n2_
             have BK727 := n3_
             have BK740 := n4_
             have HB := n5_
             clear n0_ n1_ n2_ n3_ n4_ n5_
             refine start_ (n := 16) (S := fun w' => w'.cell? ⟨gb727, 0, none⟩ = some (.string t716) ∧ w'.cell? ⟨gb727, 1, none⟩ = some (.int .i64 t717) ∧ w'.cell? ⟨gb727, 2, none⟩ = some (.bool t718) ∧ w'.cell? ⟨gb727, 3, none⟩ = some (.int .i64 t719) ∧ w'.cell? ⟨gb727, 4, none⟩ = some (.int .u64 t720) ∧ w'.cell? ⟨gb727, 5, none⟩ = some (.float .f64 t721) ∧ w'.cell? ⟨gb727, 6, none⟩ = some (.string t722) ∧ w'.cell? ⟨gb727, 7, none⟩ = some (.slice Ao38 t723.length co38) ∧ w'.cell? ⟨gb740, 0, none⟩ = some (.string t729) ∧ w'.cell? ⟨gb740, 1, none⟩ = some (.int .i64 t730) ∧ w'.cell? ⟨gb740, 2, none⟩ = some (.bool t731) ∧ w'.cell? ⟨gb740, 3, none⟩ = some (.int .i64 t732) ∧ w'.cell? ⟨gb740, 4, none⟩ = some (.int .u64 t733) ∧ w'.cell? ⟨gb740, 5, none⟩ = some (.float .f64 t734) ∧ w'.cell? ⟨gb740, 6, none⟩ = some (.string t735) ∧ w'.cell? ⟨gb740, 7, none⟩ = some (.slice Ao44 t736.length co44)) (ds := []) #[false, false, false, false, false, false, false, false, false, false, false, false, false, false, false, false] (by kernel_rfl) rfl rfl ⟨(blk_cell BK727.out 0).trans rfl, (blk_cell BK727.out 1).trans rfl, (blk_cell BK727.out 2).trans rfl, (blk_cell BK727.out 3).trans rfl, (blk_cell BK727.out 4).trans rfl, (blk_cell BK727.out 5).trans rfl, (blk_cell BK727.out 6).trans rfl, (blk_cell BK727.out 7).trans rfl, (blk_cell BK740.out 0).trans rfl, (blk_cell BK740.out 1).trans rfl, (blk_cell BK740.out 2).trans rfl, (blk_cell BK740.out 3).trans rfl, (blk_cell BK740.out 4).trans rfl, (blk_cell BK740.out 5).trans rfl, (blk_cell BK740.out 6).trans rfl, (blk_cell BK740.out 7).trans rfl⟩ (fun hHeld => ?_); refine with_tabW laws_read_16_17_18.tab10 laws_read_16_17_18.bits10 (fun HT_ HW_ => ?_)
             generalize w45.drew = w46 at HO712 HO725 HO738 BK727 BK740 HB hHeld ⊢
             refine pure_ (i := 0) (N := some 47) (v := ?_) (a' := ?_) #[true, false, false, false, false, false, false, false, false, false, false, false, false, false, false, false] rfl rfl (any_of HT_.out (by kernel_rfl)) (fun _ _ _ h => h) (Or.inl ⟨by rfl, ?_⟩) ?_ ?_
             rotate_left
             · intro w'
               go_simp
               with_reducible rfl
             rotate_left
             · simp only [Act.put, List.setIfInBounds_toArray, List.set_cons_zero, List.set_cons_succ, i64_w, i32_w]
               rfl
             refine pure_ (i := 1) (N := some 48) (v := ?_) (a' := ?_) #[true, true, false, false, false, false, false, false, false, false, false, false, false, false, false, false] rfl rfl (any_of HT_.out (by kernel_rfl)) (fun _ _ _ h => h) (Or.inl ⟨by rfl, ?_⟩) ?_ ?_
             rotate_left
             · intro w'
               go_simp
               with_reducible rfl
             rotate_left
             · simp only [Act.put, List.setIfInBounds_toArray, List.set_cons_zero, List.set_cons_succ, i64_w, i32_w]
               rfl
             refine pure_ (i := 2) (N := some 49) (v := ?_) (a' := ?_) #[true, true, true, false, false, false, false, false, false, false, false, false, false, false, false, false] rfl rfl (any_of HT_.out (by kernel_rfl)) (fun _ _ _ h => h) (Or.inl ⟨by rfl, ?_⟩) ?_ ?_
             rotate_left
             · intro w'
               go_simp
               with_reducible rfl
             rotate_left
             · simp only [Act.put, List.setIfInBounds_toArray, List.set_cons_zero, List.set_cons_succ, i64_w, i32_w]
               rfl
             refine pure_ (i := 3) (N := some 50) (v := ?_) (a' := ?_) #[true, true, true, true, false, false, false, false, false, false, false, false, false, false, false, false] rfl rfl (any_of HT_.out (by kernel_rfl)) (fun _ _ _ h => h) (Or.inl ⟨by rfl, ?_⟩) ?_ ?_
             rotate_left
             · intro w'
               go_simp
               with_reducible rfl
             rotate_left
             · simp only [Act.put, List.setIfInBounds_toArray, List.set_cons_zero, List.set_cons_succ, i64_w, i32_w]
               rfl
             refine pure_ (i := 4) (N := some 51) (v := ?_) (a' := ?_) #[true, true, true, true, true, false, false, false, false, false, false, false, false, false, false, false] rfl rfl (any_of HT_.out (by kernel_rfl)) (fun _ _ _ h => h) (Or.inl ⟨by rfl, ?_⟩) ?_ ?_
             rotate_left
             · intro w'
               go_simp
               with_reducible rfl
             rotate_left
             · simp only [Act.put, List.setIfInBounds_toArray, List.set_cons_zero, List.set_cons_succ, i64_w, i32_w]
               rfl
             refine pure_ (i := 5) (N := some 52) (v := ?_) (a' := ?_) #[true, true, true, true, true, true, false, false, false, false, false, false, false, false, false, false] rfl rfl (any_of HT_.out (by kernel_rfl)) (fun _ _ _ h => h) (Or.inl ⟨by rfl, ?_⟩) ?_ ?_
             rotate_left
             · intro w'
               go_simp
               with_reducible rfl
             rotate_left
             · simp only [Act.put, List.setIfInBounds_toArray, List.set_cons_zero, List.set_cons_succ, i64_w, i32_w]
               rfl
             refine take_ (i := 6) (N := some 53) (v := ?_) (a' := ?_) #[true, true, true, true, true, true, true, false, false, false, false, false, false, false, false, false] rfl rfl (take_ofW HT_.out HW_.out (by kernel_rfl)) (fun _ _ _ h => h) (Or.inl ⟨by rfl, ?_⟩) hHeld ?_ ?_
             rotate_left
             · rintro w' ⟨s0, s1, s2, s3, s4, s5, s6, s7, s8, s9, s10, s11, s12, s13, s14, s15⟩
               go_simp
               with_reducible rfl
             rotate_left
             · simp only [Act.put, List.setIfInBounds_toArray, List.set_cons_zero, List.set_cons_succ, i64_w, i32_w]
               rfl
             refine take_ (i := 8) (N := some 55) (v := ?_) (a' := ?_) #[true, true, true, true, true, true, true, false, true, false, false, false, false, false, false, false] rfl rfl (take_ofW HT_.out HW_.out (by kernel_rfl)) (fun _ _ _ h => h) (Or.inl ⟨by rfl, ?_⟩) hHeld ?_ ?_
             rotate_left
             · rintro w' ⟨s0, s1, s2, s3, s4, s5, s6, s7, s8, s9, s10, s11, s12, s13, s14, s15⟩
               go_simp
               with_reducible rfl
             rotate_left
             · simp only [Act.put, List.setIfInBounds_toArray, List.set_cons_zero, List.set_cons_succ, i64_w, i32_w]
               rfl
             refine one_ (i := 7) (N := some 54) #[true, true, true, true, true, true, true, true, true, false, false, false, false, false, false, false] rfl rfl (one_of HT_.out (by kernel_rfl)) (by decide) (fun K hK => ?_)
             refine goes_ Tryz.func30 (by kernel_rfl) rfl #[.agg #[.string t716, .int .i64 t717, .bool t718, .int .i64 t719, .int .u64 t720, .float .f64 t721, .string t722, .slice Ao38 t723.length co38]] (by rfl) rfl rfl (by (try simp only [List.map_toArray, List.map_cons, List.map_nil]); first | done | rfl | (simp only [List.length_drop, List.length_take]; rfl)) ?_
             with_reducible refine (laws_toNode.calls k t716 t717 t718 t719 t720 t721 t722 _ _ t723 t741 t742 t743 t744 t745 t746 t747 t748 _ ?side1 ?side2 A13.out).mono ?_
             (case side1 => repeat (first | exact (Kd.R_reads' HO725.out).2.2 | (with_reducible refine Kd.C_alloc ?_ _) | (with_reducible refine Kd.C_drewN ?_ _) | (with_reducible refine Kd.C_drew ?_)))
             (case side2 => exact (Kd.R_reads' HO725.out).2.1)
             rintro e w47 ⟨v749, rfl, ho0, hb⟩
             refine ⟨_, rfl, ?_⟩
             have n0_ := Aside0.mk (Kd.V_elder' (by (with_reducible repeat (first | apply Kd.V_alloc | apply Kd.V_drewN | apply Kd.V_drew)); exact HO712.out) (Kd.R_base ho0) hb)
             have n1_ := Aside0.mk (Kd.R_below (by (with_reducible repeat (first | apply Kd.R_alloc | apply Kd.R_drewN | apply Kd.R_drew)); exact HO725.out) hb)
             have n2_ := Aside0.mk (Kd.V_elder' (by (with_reducible repeat (first | apply Kd.V_alloc | apply Kd.V_drewN | apply Kd.V_drew)); exact HO738.out) (Kd.R_base ho0) hb)
             have n3_ := Aside0.mk (Kd.R_lower (Kd.R_newB ho0 (g := gb740) (o := .cells #[.string t729, .int .i64 t730, .bool t731, .int .i64 t732, .int .u64 t733, .float .f64 t734, .string t735, .slice Ao44 t736.length co44] 38 (0, 0)) (by (with_reducible repeat (first | refine blk_drewN ?_ _ | refine blk_drew ?_ | refine blk_alloc ?_ _)); exact BK740.out)) (below_size (by repeat (first | (with_reducible first | exact HB.out | apply below_alloc | apply pw_below_drewN | apply below_drew1 | refine below_set ?_ GE727.out | refine below_set ?_ GE740.out) | exact HB.out))))
             have n4_ := Aside0.mk (blk_below (g := gb727) (o := .cells #[.string t716, .int .i64 t717, .bool t718, .int .i64 t719, .int .u64 t720, .float .f64 t721, .string t722, .slice Ao38 t723.length co38] 34 (0, 0)) (by (with_reducible repeat (first | refine blk_drewN ?_ _ | refine blk_drew ?_ | refine blk_alloc ?_ _)); exact BK727.out) hb)
             have n5_ := Aside0.mk (blk_below (g := gb740) (o := .cells #[.string t729, .int .i64 t730, .bool t731, .int .i64 t732, .int .u64 t733, .float .f64 t734, .string t735, .slice Ao44 t736.length co44] 38 (0, 0)) (by (with_reducible repeat (first | refine blk_drewN ?_ _ | refine blk_drew ?_ | refine blk_alloc ?_ _)); exact BK740.out) hb)
             have n6_ := Aside0.mk (below_step (by repeat (first | (with_reducible first | exact HB.out | apply below_alloc | apply pw_below_drewN | apply below_drew1 | refine below_set ?_ GE727.out | refine below_set ?_ GE740.out) | exact HB.out)) hb)
             clear HO712
             clear HO725
             clear HO738
             clear BK727
             clear BK740
             clear HB
             have HO712 := n0_
             have HO725 := n1_
             have HO738 := n2_
             have HO750 := n3_
             have BK727 := n4_
             have BK740 := n5_
             have HB := n6_
             clear n0_ n1_ n2_ n3_ n4_ n5_ n6_
             (try clear hb)
             (try clear hb2)
             (try clear hk)
             (try clear hi)
             (try clear ho0)
             obtain ⟨Ao48, co48, eo48⟩ := Kd.R_slice HO750.out
             (first | subst eo48 | (injection eo48 with f1_ f2_ f3_; have f4_ := f1_.symm; have f5_ := f3_.symm; clear f1_ f2_ f3_; subst f4_; subst f5_))
             refine hK.out _ _ ⟨(blk_cell BK727.out 0).trans rfl, (blk_cell BK727.out 1).trans rfl, (blk_cell BK727.out 2).trans rfl, (blk_cell BK727.out 3).trans rfl, (blk_cell BK727.out 4).trans rfl, (blk_cell BK727.out 5).trans rfl, (blk_cell BK727.out 6).trans rfl, (blk_cell BK727.out 7).trans rfl, (blk_cell BK740.out 0).trans rfl, (blk_cell BK740.out 1).trans rfl, (blk_cell BK740.out 2).trans rfl, (blk_cell BK740.out 3).trans rfl, (blk_cell BK740.out 4).trans rfl, (blk_cell BK740.out 5).trans rfl, (blk_cell BK740.out 6).trans rfl, (blk_cell BK740.out 7).trans rfl⟩ (fun hHeld => ?_)
             clear hK K
             refine norm_ (a' := ?_) ?_ ?_
             rotate_left
             · show Act.put _ (some 54) _ = _
               simp only [Act.put, List.setIfInBounds_toArray, List.set_cons_zero, List.set_cons_succ, i64_w, i32_w]
               rfl
             refine one_ (i := 9) (N := some 56) #[true, true, true, true, true, true, true, true, true, true, false, false, false, false, false, false] rfl rfl (one_of HT_.out (by kernel_rfl)) (by decide) (fun K hK => ?_)
             refine goes_ Tryz.func29 (by kernel_rfl) rfl #[.agg #[.string t741, .int .i64 t742, .bool t743, .int .i64 t744, .int .u64 t745, .float .f64 t746, .string t747, .slice Ao48 t748.length co48], .agg #[.string t729, .int .i64 t730, .bool t731, .int .i64 t732, .int .u64 t733, .float .f64 t734, .string t735, .slice Ao44 t736.length co44]] (by rfl) rfl rfl (by (try simp only [List.map_toArray, List.map_cons, List.map_nil]); first | done | rfl | (simp only [List.length_drop, List.length_take]; rfl)) ?_
             with_reducible refine (spec_SameNode.calls k t741 t742 t743 t744 t745 t746 t747 _ _ t748 t729 t730 t731 t732 t733 t734 t735 _ _ t736 false _ ?side1 ?side2 ?side3 ?side4 A14.out).mono ?_
             (case side1 => repeat (first | exact (Kd.R_reads' HO750.out).2.2 | (with_reducible refine Kd.C_alloc ?_ _) | (with_reducible refine Kd.C_drewN ?_ _) | (with_reducible refine Kd.C_drew ?_)))
             (case side2 => exact (Kd.R_reads' HO750.out).2.1)
             (case side3 => repeat (first | exact (Kd.V_reads' HO738.out).2.2 | (with_reducible refine Kd.C_alloc ?_ _) | (with_reducible refine Kd.C_drewN ?_ _) | (with_reducible refine Kd.C_drew ?_)))
             (case side4 => exact (Kd.V_reads' HO738.out).2.1)
             rintro e w49 ⟨rfl, hb⟩
             refine ⟨_, rfl, ?_⟩
             have n0_ := Aside0.mk (Kd.V_below (by (with_reducible repeat (first | apply Kd.V_alloc | apply Kd.V_drewN | apply Kd.V_drew)); exact HO712.out) hb)
             have n1_ := Aside0.mk (Kd.R_below (by (with_reducible repeat (first | apply Kd.R_alloc | apply Kd.R_drewN | apply Kd.R_drew)); exact HO725.out) hb)
             have n2_ := Aside0.mk (Kd.V_below (by (with_reducible repeat (first | apply Kd.V_alloc | apply Kd.V_drewN | apply Kd.V_drew)); exact HO738.out) hb)
             have n3_ := Aside0.mk (Kd.R_below (by (with_reducible repeat (first | apply Kd.R_alloc | apply Kd.R_drewN | apply Kd.R_drew)); exact HO750.out) hb)
             have n4_ := Aside0.mk (blk_below (g := gb727) (o := .cells #[.string t716, .int .i64 t717, .bool t718, .int .i64 t719, .int .u64 t720, .float .f64 t721, .string t722, .slice Ao38 t723.length co38] 34 (0, 0)) (by (with_reducible repeat (first | refine blk_drewN ?_ _ | refine blk_drew ?_ | refine blk_alloc ?_ _)); exact BK727.out) hb)
             have n5_ := Aside0.mk (blk_below (g := gb740) (o := .cells #[.string t729, .int .i64 t730, .bool t731, .int .i64 t732, .int .u64 t733, .float .f64 t734, .string t735, .slice Ao44 t736.length co44] 38 (0, 0)) (by (with_reducible repeat (first | refine blk_drewN ?_ _ | refine blk_drew ?_ | refine blk_alloc ?_ _)); exact BK740.out) hb)
             have n6_ := Aside0.mk (below_step (by repeat (first | (with_reducible first | exact HB.out | apply below_alloc | apply pw_below_drewN | apply below_drew1 | refine below_set ?_ GE727.out | refine below_set ?_ GE740.out) | exact HB.out)) hb)
             clear HO712
             clear HO725
             clear HO738
             clear HO750
             clear BK727
             clear BK740
             clear HB
             have HO712 := n0_
             have HO725 := n1_
             have HO738 := n2_
             have HO750 := n3_
             have BK727 := n4_
             have BK740 := n5_
             have HB := n6_
             clear n0_ n1_ n2_ n3_ n4_ n5_ n6_
             (try clear hb)
             (try clear hb2)
             (try clear hk)
             (try clear hi)
             refine hK.out _ _ ⟨(blk_cell BK727.out 0).trans rfl, (blk_cell BK727.out 1).trans rfl, (blk_cell BK727.out 2).trans rfl, (blk_cell BK727.out 3).trans rfl, (blk_cell BK727.out 4).trans rfl, (blk_cell BK727.out 5).trans rfl, (blk_cell BK727.out 6).trans rfl, (blk_cell BK727.out 7).trans rfl, (blk_cell BK740.out 0).trans rfl, (blk_cell BK740.out 1).trans rfl, (blk_cell BK740.out 2).trans rfl, (blk_cell BK740.out 3).trans rfl, (blk_cell BK740.out 4).trans rfl, (blk_cell BK740.out 5).trans rfl, (blk_cell BK740.out 6).trans rfl, (blk_cell BK740.out 7).trans rfl⟩ (fun hHeld => ?_)
             clear hK K
             refine norm_ (a' := ?_) ?_ ?_
             rotate_left
             · show Act.put _ (some 56) _ = _
               simp only [Act.put, List.setIfInBounds_toArray, List.set_cons_zero, List.set_cons_succ, i64_w, i32_w]
               rfl
             refine pure_ (i := 10) (N := some 57) (v := ?_) (a' := ?_) #[true, true, true, true, true, true, true, true, true, true, true, false, false, false, false, false] rfl rfl (any_of HT_.out (by kernel_rfl)) (fun _ _ _ h => h) (Or.inl ⟨by rfl, ?_⟩) ?_ ?_
             rotate_left
             · intro w'
               go_simp
               with_reducible rfl
             rotate_left
             · simp only [Act.put, List.setIfInBounds_toArray, List.set_cons_zero, List.set_cons_succ, i64_w, i32_w]
               rfl
             refine pure_ (i := 11) (N := some 58) (v := ?_) (a' := ?_) #[true, true, true, true, true, true, true, true, true, true, true, true, false, false, false, false] rfl rfl (any_of HT_.out (by kernel_rfl)) (fun _ _ _ h => h) (Or.inl ⟨by rfl, ?_⟩) ?_ ?_
             rotate_left
             · intro w'
               go_simp
               with_reducible rfl
             rotate_left
             · simp only [Act.put, List.setIfInBounds_toArray, List.set_cons_zero, List.set_cons_succ, i64_w, i32_w]
               rfl
             refine pure_ (i := 12) (N := some 59) (v := ?_) (a' := ?_) #[true, true, true, true, true, true, true, true, true, true, true, true, true, false, false, false] rfl rfl (any_of HT_.out (by kernel_rfl)) (fun _ _ _ h => h) (Or.inl ⟨by rfl, ?_⟩) ?_ ?_
             rotate_left
             · intro w'
               go_simp
               with_reducible rfl
             rotate_left
             · simp only [Act.put, List.setIfInBounds_toArray, List.set_cons_zero, List.set_cons_succ, i64_w, i32_w]
               rfl
             refine pure_ (i := 13) (N := some 60) (v := undef) (a' := ?_) #[true, true, true, true, true, true, true, true, true, true, true, true, true, true, false, false] rfl rfl (any_of HT_.out (by kernel_rfl)) (fun _ _ _ h => h) (Or.inr ⟨by rfl, rfl⟩) ?_ ?_
             rotate_left
             · simp only [Act.put, List.setIfInBounds_toArray, List.set_cons_zero, List.set_cons_succ, i64_w, i32_w]
               rfl
             refine pure_ (i := 14) (N := some 61) (v := ?_) (a' := ?_) #[true, true, true, true, true, true, true, true, true, true, true, true, true, true, true, false] rfl rfl (any_of HT_.out (by kernel_rfl)) (fun _ _ _ h => h) (Or.inl ⟨by rfl, ?_⟩) ?_ ?_
             rotate_left
             · intro w'
               go_simp
               with_reducible rfl
             rotate_left
             · simp only [Act.put, List.setIfInBounds_toArray, List.set_cons_zero, List.set_cons_succ, i64_w, i32_w]
               rfl
             refine pure_ (i := 15) (N := some 8) (v := ?_) (a' := ?_) #[true, true, true, true, true, true, true, true, true, true, true, true, true, true, true, true] rfl rfl (any_of HT_.out (by kernel_rfl)) (fun _ _ _ h => h) (Or.inl ⟨by rfl, ?_⟩) ?_ ?_
             rotate_left
             · intro w'
               go_simp
               with_reducible rfl
             rotate_left
             · simp only [Act.put, List.setIfInBounds_toArray, List.set_cons_zero, List.set_cons_succ, i64_w, i32_w]
               rfl
             refine done_ (done_of HT_.out (by kernel_rfl)) ?_
             try go_wp2
             go_ret
             exact ⟨by first | rfl | (simp [errW_none, errW_some] <;> rfl) | (simp [*, errW_none, errW_some] <;> rfl), by repeat (first | (with_reducible first | exact HB.out | apply below_alloc | apply pw_below_drewN | apply below_drew1 | refine below_set ?_ GE727.out | refine below_set ?_ GE740.out) | exact HB.out)⟩
         · rw [if_neg c12] at H
           have c12b0 : (t726 == 0) = false := beq_eq_false_iff_ne.mpr c12
           have c12b1 : (t726 != 0) = true := bne_iff_ne.mpr c12
           obtain rfl := Option.some.inj H
           go_enter Tryz.func9, Tryz.ntmps9
           try go_wp2_with (first | (go_at_call 16; (with_reducible refine (spec_StatmRead.calls k a0 t710 true t714 _ A6.out).mono ?_); rintro e w50 ⟨v711, rfl, ho0, hb⟩; have n0_ := Aside0.mk (Kd.V_lower (Kd.V_mono (ok' := fun k_ => True) ho0 (fun k_ hk_ => trivial)) (below_size (by repeat (first | (with_reducible first | exact HB.out | apply below_alloc | apply pw_below_drewN | apply below_drew1) | exact HB.out)))); have n1_ := Aside0.mk (below_step (by repeat (first | (with_reducible first | exact HB.out | apply below_alloc | apply pw_below_drewN | apply below_drew1) | exact HB.out)) hb); clear HB; have HO712 := n0_; have HB := n1_; clear n0_ n1_; (try clear hb); (try clear hb2); (try clear hk); (try clear hi); (try clear ho0)) | (go_at_call 18; (with_reducible refine (impl_Statm.calls k a0 t716 t717 t718 t719 t720 t721 t722 t723 t726 _ A8.out).mono ?_); rintro e w51 ⟨v724, rfl, ho0, hb⟩; have n0_ := Aside0.mk (Kd.V_elder' (by (with_reducible repeat (first | apply Kd.V_alloc | apply Kd.V_drewN | apply Kd.V_drew)); exact HO712.out) (Kd.R_base ho0) hb); have n1_ := Aside0.mk (Kd.R_lower ho0 (below_size (by repeat (first | (with_reducible first | exact HB.out | apply below_alloc | apply pw_below_drewN | apply below_drew1) | exact HB.out)))); have n2_ := Aside0.mk (below_step (by repeat (first | (with_reducible first | exact HB.out | apply below_alloc | apply pw_below_drewN | apply below_drew1) | exact HB.out)) hb); clear HO712; clear HB; have HO712 := n0_; have HO725 := n1_; have HB := n2_; clear n0_ n1_ n2_; (try clear hb); (try clear hb2); (try clear hk); (try clear hi); (try clear ho0)) | ((with_reducible refine gate_dst (N := 12) rfl ?_); refine box_event ?hg (N := 12) ?hd (cs := #[.string (⟨#[]⟩ : ByteArray), .int .i64 0, .bool false, .int .i64 0, .int .u64 0, .float .f64 0, .string (⟨#[]⟩ : ByteArray), .slice none 0 0]) (t := 34) ?hr ?_; (case hd => rfl); (case hg => rfl); (case hr => first | (go_simp; done) | (go_simp; rfl)); intro gb727 hg w52 hbox hb; have n0_ := Aside0.mk (Kd.V_below (Kd.V_elderB (by (with_reducible repeat (first | apply Kd.V_alloc | apply Kd.V_drewN | apply Kd.V_drew)); exact HO712.out) gb727 (Nat.le_of_eq hg.symm)) hb); have n1_ := Aside0.mk (Kd.R_below (Kd.R_elderB (by (with_reducible repeat (first | apply Kd.R_alloc | apply Kd.R_drewN | apply Kd.R_drew)); exact HO725.out) gb727 (Nat.le_of_eq hg.symm)) hb); have n2_ := Aside0.mk (below_step (by repeat (first | (with_reducible first | exact HB.out | apply below_alloc | apply pw_below_drewN | apply below_drew1) | exact HB.out)) hb); have n3_ := Aside0.mk (hbox); have n4_ := Aside0.mk ((by rw [hg]; exact (below_size (by repeat (first | (with_reducible first | exact HB.out | apply below_alloc | apply pw_below_drewN | apply below_drew1) | exact HB.out))) : w.heap.size ≤ gb727)); have n5_ := Aside0.mk ((by rw [hg]; exact (below_size (by repeat (first | (with_reducible first | exact HB.out | apply below_alloc | apply pw_below_drewN | apply below_drew1) | exact HB.out))) : w.heap.size ≤ gb727)); clear HO712; clear HO725; clear HB; have HO712 := n0_; have HO725 := n1_; have HB := n2_; have BK727 := n3_; have GW727 := n4_; have GE727 := n5_; clear n0_ n1_ n2_ n3_ n4_ n5_; clear hb hbox hg; have hcz53_0 : w52.cell? ⟨gb727, 0, none⟩ = some (.string (⟨#[]⟩ : ByteArray)) := (blk_cell BK727.out 0).trans rfl; have hcz53_1 : w52.cell? ⟨gb727, 1, none⟩ = some (.int .i64 0) := (blk_cell BK727.out 1).trans rfl; have hcz53_2 : w52.cell? ⟨gb727, 2, none⟩ = some (.bool false) := (blk_cell BK727.out 2).trans rfl; have hcz53_3 : w52.cell? ⟨gb727, 3, none⟩ = some (.int .i64 0) := (blk_cell BK727.out 3).trans rfl; have hcz53_4 : w52.cell? ⟨gb727, 4, none⟩ = some (.int .u64 0) := (blk_cell BK727.out 4).trans rfl; have hcz53_5 : w52.cell? ⟨gb727, 5, none⟩ = some (.float .f64 0) := (blk_cell BK727.out 5).trans rfl; have hcz53_6 : w52.cell? ⟨gb727, 6, none⟩ = some (.string (⟨#[]⟩ : ByteArray)) := (blk_cell BK727.out 6).trans rfl; have hcz53_7 : w52.cell? ⟨gb727, 7, none⟩ = some (.slice none 0 0) := (blk_cell BK727.out 7).trans rfl; have hfz53_0 := blk_frozen BK727.out 0; have hfz53_1 := blk_frozen BK727.out 1; have hfz53_2 := blk_frozen BK727.out 2; have hfz53_3 := blk_frozen BK727.out 3; have hfz53_4 := blk_frozen BK727.out 4; have hfz53_5 := blk_frozen BK727.out 5; have hfz53_6 := blk_frozen BK727.out 6; have hfz53_7 := blk_frozen BK727.out 7; obtain ⟨Ao54, co54, eo54⟩ := Kd.R_slice HO725.out; subst eo54; obtain ⟨Ao55, co55, eo55⟩ := Kd.V_slice HO712.out; subst eo55) | (go_at_call 17; (with_reducible refine (spec_StatmTree.calls k _ _ t710 t729 t730 t731 t732 t733 t734 t735 t736 t739 _ ?side1 ?side2 A10.out).mono ?_); (case side1 => refine (Kd.V_reads' (e := 48) (base := w.heap.size) (ok := fun k_ => ((True ∧ some k_ ≠ (.slice Ao54 t723.length co54 : Value).ownBlock) ∧ k_ ≠ gb727)) (n := t710.length) (c := co55) ?_).2.2; exact (by (with_reducible repeat (first | apply Kd.V_alloc | apply Kd.V_drewN | apply Kd.V_drew)); exact (Kd.V_mono (Kd.V_far (p := ⟨gb727, 7, none⟩) (Kd.V_far (p := ⟨gb727, 6, none⟩) (Kd.V_far (p := ⟨gb727, 5, none⟩) (Kd.V_far (p := ⟨gb727, 4, none⟩) (Kd.V_far (p := ⟨gb727, 3, none⟩) (Kd.V_far (p := ⟨gb727, 2, none⟩) (Kd.V_far (p := ⟨gb727, 1, none⟩) (Kd.V_far (p := ⟨gb727, 0, none⟩) (Kd.V_mono HO712.out (fun k_ hk => (⟨hk, hk.2⟩ : _ ∧ k_ ≠ gb727))) (fun _ hk => hk.2) (.string t716)) (fun _ hk => hk.2) (.int .i64 t717)) (fun _ hk => hk.2) (.bool t718)) (fun _ hk => hk.2) (.int .i64 t719)) (fun _ hk => hk.2) (.int .u64 t720)) (fun _ hk => hk.2) (.float .f64 t721)) (fun _ hk => hk.2) (.string t722)) (fun _ hk => hk.2) (.slice Ao54 t723.length co54)) (fun _ h_ => h_.1)))); (case side2 => exact (Kd.V_reads' HO712.out).2.1); rintro e w56 ⟨v737, rfl, ho0, hb⟩; have n0_ := Aside0.mk (Kd.V_below (by (with_reducible repeat (first | apply Kd.V_alloc | apply Kd.V_drewN | apply Kd.V_drew)); exact (Kd.V_mono (Kd.V_far (p := ⟨gb727, 7, none⟩) (Kd.V_far (p := ⟨gb727, 6, none⟩) (Kd.V_far (p := ⟨gb727, 5, none⟩) (Kd.V_far (p := ⟨gb727, 4, none⟩) (Kd.V_far (p := ⟨gb727, 3, none⟩) (Kd.V_far (p := ⟨gb727, 2, none⟩) (Kd.V_far (p := ⟨gb727, 1, none⟩) (Kd.V_far (p := ⟨gb727, 0, none⟩) (Kd.V_mono HO712.out (fun k_ hk => (⟨hk, hk.2⟩ : _ ∧ k_ ≠ gb727))) (fun _ hk => hk.2) (.string t716)) (fun _ hk => hk.2) (.int .i64 t717)) (fun _ hk => hk.2) (.bool t718)) (fun _ hk => hk.2) (.int .i64 t719)) (fun _ hk => hk.2) (.int .u64 t720)) (fun _ hk => hk.2) (.float .f64 t721)) (fun _ hk => hk.2) (.string t722)) (fun _ hk => hk.2) (.slice Ao54 t723.length co54)) (fun _ h_ => h_.1))) hb); have n1_ := Aside0.mk (Kd.R_below (by (with_reducible repeat (first | apply Kd.R_alloc | apply Kd.R_drewN | apply Kd.R_drew)); exact (Kd.R_mono (Kd.R_far (p := ⟨gb727, 7, none⟩) (Kd.R_far (p := ⟨gb727, 6, none⟩) (Kd.R_far (p := ⟨gb727, 5, none⟩) (Kd.R_far (p := ⟨gb727, 4, none⟩) (Kd.R_far (p := ⟨gb727, 3, none⟩) (Kd.R_far (p := ⟨gb727, 2, none⟩) (Kd.R_far (p := ⟨gb727, 1, none⟩) (Kd.R_far (p := ⟨gb727, 0, none⟩) (Kd.R_mono HO725.out (fun k_ hk => (⟨hk, hk.2⟩ : _ ∧ k_ ≠ gb727))) (fun _ hk => hk.2) (.string t716)) (fun _ hk => hk.2) (.int .i64 t717)) (fun _ hk => hk.2) (.bool t718)) (fun _ hk => hk.2) (.int .i64 t719)) (fun _ hk => hk.2) (.int .u64 t720)) (fun _ hk => hk.2) (.float .f64 t721)) (fun _ hk => hk.2) (.string t722)) (fun _ hk => hk.2) (.slice Ao54 t723.length co54)) (fun _ h_ => h_.1))) hb); have n2_ := Aside0.mk (Kd.V_lower (Kd.V_mono (ok' := fun k_ => some k_ ≠ (.slice Ao54 t723.length co54 : Value).ownBlock ∧ k_ ≠ gb727) ho0 (fun k_ hk_ => ⟨(Kd.fresh' (Kd.R_lt (by (with_reducible repeat (first | apply Kd.R_alloc | apply Kd.R_drewN | apply Kd.R_drew)); exact (Kd.R_mono (Kd.R_far (p := ⟨gb727, 7, none⟩) (Kd.R_far (p := ⟨gb727, 6, none⟩) (Kd.R_far (p := ⟨gb727, 5, none⟩) (Kd.R_far (p := ⟨gb727, 4, none⟩) (Kd.R_far (p := ⟨gb727, 3, none⟩) (Kd.R_far (p := ⟨gb727, 2, none⟩) (Kd.R_far (p := ⟨gb727, 1, none⟩) (Kd.R_far (p := ⟨gb727, 0, none⟩) (Kd.R_mono HO725.out (fun k_ hk => (⟨hk, hk.2⟩ : _ ∧ k_ ≠ gb727))) (fun _ hk => hk.2) (.string t716)) (fun _ hk => hk.2) (.int .i64 t717)) (fun _ hk => hk.2) (.bool t718)) (fun _ hk => hk.2) (.int .i64 t719)) (fun _ hk => hk.2) (.int .u64 t720)) (fun _ hk => hk.2) (.float .f64 t721)) (fun _ hk => hk.2) (.string t722)) (fun _ hk => hk.2) (.slice Ao54 t723.length co54)) (fun _ h_ => h_.1)))) k_ hk_), (Kd.freshB (g := gb727) (o := .cells #[.string t716, .int .i64 t717, .bool t718, .int .i64 t719, .int .u64 t720, .float .f64 t721, .string t722, .slice Ao54 t723.length co54] 34 (0, 0)) (by (with_reducible repeat (first | refine blk_drewN ?_ _ | refine blk_drew ?_ | refine blk_alloc ?_ _)); refine blk_put (cs := #[.string t716, .int .i64 t717, .bool t718, .int .i64 t719, .int .u64 t720, .float .f64 t721, .string t722, .slice none 0 0]) ?_ 7 _ rfl; (with_reducible repeat (first | refine blk_drewN ?_ _ | refine blk_drew ?_ | refine blk_alloc ?_ _)); refine blk_put (cs := #[.string t716, .int .i64 t717, .bool t718, .int .i64 t719, .int .u64 t720, .float .f64 t721, .string (⟨#[]⟩ : ByteArray), .slice none 0 0]) ?_ 6 _ rfl; (with_reducible repeat (first | refine blk_drewN ?_ _ | refine blk_drew ?_ | refine blk_alloc ?_ _)); refine blk_put (cs := #[.string t716, .int .i64 t717, .bool t718, .int .i64 t719, .int .u64 t720, .float .f64 0, .string (⟨#[]⟩ : ByteArray), .slice none 0 0]) ?_ 5 _ rfl; (with_reducible repeat (first | refine blk_drewN ?_ _ | refine blk_drew ?_ | refine blk_alloc ?_ _)); refine blk_put (cs := #[.string t716, .int .i64 t717, .bool t718, .int .i64 t719, .int .u64 0, .float .f64 0, .string (⟨#[]⟩ : ByteArray), .slice none 0 0]) ?_ 4 _ rfl; (with_reducible repeat (first | refine blk_drewN ?_ _ | refine blk_drew ?_ | refine blk_alloc ?_ _)); refine blk_put (cs := #[.string t716, .int .i64 t717, .bool t718, .int .i64 0, .int .u64 0, .float .f64 0, .string (⟨#[]⟩ : ByteArray), .slice none 0 0]) ?_ 3 _ rfl; (with_reducible repeat (first | refine blk_drewN ?_ _ | refine blk_drew ?_ | refine blk_alloc ?_ _)); refine blk_put (cs := #[.string t716, .int .i64 t717, .bool false, .int .i64 0, .int .u64 0, .float .f64 0, .string (⟨#[]⟩ : ByteArray), .slice none 0 0]) ?_ 2 _ rfl; (with_reducible repeat (first | refine blk_drewN ?_ _ | refine blk_drew ?_ | refine blk_alloc ?_ _)); refine blk_put (cs := #[.string t716, .int .i64 0, .bool false, .int .i64 0, .int .u64 0, .float .f64 0, .string (⟨#[]⟩ : ByteArray), .slice none 0 0]) ?_ 1 _ rfl; (with_reducible repeat (first | refine blk_drewN ?_ _ | refine blk_drew ?_ | refine blk_alloc ?_ _)); refine blk_put (cs := #[.string (⟨#[]⟩ : ByteArray), .int .i64 0, .bool false, .int .i64 0, .int .u64 0, .float .f64 0, .string (⟨#[]⟩ : ByteArray), .slice none 0 0]) ?_ 0 _ rfl; (with_reducible repeat (first | refine blk_drewN ?_ _ | refine blk_drew ?_ | refine blk_alloc ?_ _)); exact BK727.out) k_ hk_)⟩)) (below_size (by repeat (first | (with_reducible first | exact HB.out | apply below_alloc | apply pw_below_drewN | apply below_drew1 | refine below_set ?_ GE727.out) | exact HB.out)))); have n3_ := Aside0.mk (blk_below (g := gb727) (o := .cells #[.string t716, .int .i64 t717, .bool t718, .int .i64 t719, .int .u64 t720, .float .f64 t721, .string t722, .slice Ao54 t723.length co54] 34 (0, 0)) (by (with_reducible repeat (first | refine blk_drewN ?_ _ | refine blk_drew ?_ | refine blk_alloc ?_ _)); refine blk_put (cs := #[.string t716, .int .i64 t717, .bool t718, .int .i64 t719, .int .u64 t720, .float .f64 t721, .string t722, .slice none 0 0]) ?_ 7 _ rfl; (with_reducible repeat (first | refine blk_drewN ?_ _ | refine blk_drew ?_ | refine blk_alloc ?_ _)); refine blk_put (cs := #[.string t716, .int .i64 t717, .bool t718, .int .i64 t719, .int .u64 t720, .float .f64 t721, .string (⟨#[]⟩ : ByteArray), .slice none 0 0]) ?_ 6 _ rfl; (with_reducible repeat (first | refine blk_drewN ?_ _ | refine blk_drew ?_ | refine blk_alloc ?_ _)); refine blk_put (cs := #[.string t716, .int .i64 t717, .bool t718, .int .i64 t719, .int .u64 t720, .float .f64 0, .string (⟨#[]⟩ : ByteArray), .slice none 0 0]) ?_ 5 _ rfl; (with_reducible repeat (first | refine blk_drewN ?_ _ | refine blk_drew ?_ | refine blk_alloc ?_ _)); refine blk_put (cs := #[.string t716, .int .i64 t717, .bool t718, .int .i64 t719, .int .u64 0, .float .f64 0, .string (⟨#[]⟩ : ByteArray), .slice none 0 0]) ?_ 4 _ rfl; (with_reducible repeat (first | refine blk_drewN ?_ _ | refine blk_drew ?_ | refine blk_alloc ?_ _)); refine blk_put (cs := #[.string t716, .int .i64 t717, .bool t718, .int .i64 0, .int .u64 0, .float .f64 0, .string (⟨#[]⟩ : ByteArray), .slice none 0 0]) ?_ 3 _ rfl; (with_reducible repeat (first | refine blk_drewN ?_ _ | refine blk_drew ?_ | refine blk_alloc ?_ _)); refine blk_put (cs := #[.string t716, .int .i64 t717, .bool false, .int .i64 0, .int .u64 0, .float .f64 0, .string (⟨#[]⟩ : ByteArray), .slice none 0 0]) ?_ 2 _ rfl; (with_reducible repeat (first | refine blk_drewN ?_ _ | refine blk_drew ?_ | refine blk_alloc ?_ _)); refine blk_put (cs := #[.string t716, .int .i64 0, .bool false, .int .i64 0, .int .u64 0, .float .f64 0, .string (⟨#[]⟩ : ByteArray), .slice none 0 0]) ?_ 1 _ rfl; (with_reducible repeat (first | refine blk_drewN ?_ _ | refine blk_drew ?_ | refine blk_alloc ?_ _)); refine blk_put (cs := #[.string (⟨#[]⟩ : ByteArray), .int .i64 0, .bool false, .int .i64 0, .int .u64 0, .float .f64 0, .string (⟨#[]⟩ : ByteArray), .slice none 0 0]) ?_ 0 _ rfl; (with_reducible repeat (first | refine blk_drewN ?_ _ | refine blk_drew ?_ | refine blk_alloc ?_ _)); exact BK727.out) hb); have n4_ := Aside0.mk (below_step (by repeat (first | (with_reducible first | exact HB.out | apply below_alloc | apply pw_below_drewN | apply below_drew1 | refine below_set ?_ GE727.out) | exact HB.out)) hb); clear HO712; clear HO725; clear BK727; clear HB; have HO712 := n0_; have HO725 := n1_; have HO738 := n2_; have BK727 := n3_; have HB := n4_; clear n0_ n1_ n2_ n3_ n4_; (try clear hb); (try clear hb2); (try clear hk); (try clear hi); (try clear ho0)) | ((with_reducible refine gate_dst (N := 14) rfl ?_); refine box_event ?hg (N := 14) ?hd (cs := #[.string (⟨#[]⟩ : ByteArray), .int .i64 0, .bool false, .int .i64 0, .int .u64 0, .float .f64 0, .string (⟨#[]⟩ : ByteArray), .slice none 0 0]) (t := 38) ?hr ?_; (case hd => rfl); (case hg => rfl); (case hr => first | (go_simp; done) | (go_simp; rfl)); intro gb740 hg w57 hbox hb; have n0_ := Aside0.mk (Kd.V_below (Kd.V_elderB (by (with_reducible repeat (first | apply Kd.V_alloc | apply Kd.V_drewN | apply Kd.V_drew)); exact HO712.out) gb740 (Nat.le_of_eq hg.symm)) hb); have n1_ := Aside0.mk (Kd.R_below (by (with_reducible repeat (first | apply Kd.R_alloc | apply Kd.R_drewN | apply Kd.R_drew)); exact HO725.out) hb); have n2_ := Aside0.mk (Kd.V_below (Kd.V_elderB (by (with_reducible repeat (first | apply Kd.V_alloc | apply Kd.V_drewN | apply Kd.V_drew)); exact HO738.out) gb740 (Nat.le_of_eq hg.symm)) hb); have n3_ := Aside0.mk (blk_below (g := gb727) (o := .cells #[.string t716, .int .i64 t717, .bool t718, .int .i64 t719, .int .u64 t720, .float .f64 t721, .string t722, .slice Ao54 t723.length co54] 34 (0, 0)) (by (with_reducible repeat (first | refine blk_drewN ?_ _ | refine blk_drew ?_ | refine blk_alloc ?_ _)); exact BK727.out) hb); have n4_ := Aside0.mk (below_step (by repeat (first | (with_reducible first | exact HB.out | apply below_alloc | apply pw_below_drewN | apply below_drew1 | refine below_set ?_ GE727.out) | exact HB.out)) hb); have n5_ := Aside0.mk (hbox); have n6_ := Aside0.mk ((by rw [hg]; exact (below_size (by repeat (first | (with_reducible first | exact HB.out | apply below_alloc | apply pw_below_drewN | apply below_drew1 | refine below_set ?_ GE727.out) | exact HB.out))) : w.heap.size ≤ gb740)); have n7_ := Aside0.mk ((by rw [hg]; exact (below_size (by repeat (first | (with_reducible first | exact HB.out | apply below_alloc | apply pw_below_drewN | apply below_drew1 | refine below_set ?_ GE727.out) | exact HB.out))) : w.heap.size ≤ gb740)); have n8_ := Aside0.mk ((by rw [hg]; exact Nat.ne_of_lt (blk_lt (g := gb727) (o := .cells #[.string t716, .int .i64 t717, .bool t718, .int .i64 t719, .int .u64 t720, .float .f64 t721, .string t722, .slice Ao54 t723.length co54] 34 (0, 0)) (by (with_reducible repeat (first | refine blk_drewN ?_ _ | refine blk_drew ?_ | refine blk_alloc ?_ _)); exact BK727.out)) : gb727 ≠ gb740)); have n9_ := Aside0.mk ((by rw [hg]; exact Nat.ne_of_gt (blk_lt (g := gb727) (o := .cells #[.string t716, .int .i64 t717, .bool t718, .int .i64 t719, .int .u64 t720, .float .f64 t721, .string t722, .slice Ao54 t723.length co54] 34 (0, 0)) (by (with_reducible repeat (first | refine blk_drewN ?_ _ | refine blk_drew ?_ | refine blk_alloc ?_ _)); exact BK727.out)) : gb740 ≠ gb727)); clear HO712; clear HO725; clear HO738; clear BK727; clear HB; have HO712 := n0_; have HO725 := n1_; have HO738 := n2_; have BK727 := n3_; have HB := n4_; have BK740 := n5_; have GW740 := n6_; have GE740 := n7_; have NB727_740 := n8_; have NB740_727 := n9_; clear n0_ n1_ n2_ n3_ n4_ n5_ n6_ n7_ n8_ n9_; clear hb hbox hg; have hnb58 := NB740_727.out; have hnc58 := NB727_740.out; have hcz59_0 : w57.cell? ⟨gb740, 0, none⟩ = some (.string (⟨#[]⟩ : ByteArray)) := (blk_cell BK740.out 0).trans rfl; have hcz59_1 : w57.cell? ⟨gb740, 1, none⟩ = some (.int .i64 0) := (blk_cell BK740.out 1).trans rfl; have hcz59_2 : w57.cell? ⟨gb740, 2, none⟩ = some (.bool false) := (blk_cell BK740.out 2).trans rfl; have hcz59_3 : w57.cell? ⟨gb740, 3, none⟩ = some (.int .i64 0) := (blk_cell BK740.out 3).trans rfl; have hcz59_4 : w57.cell? ⟨gb740, 4, none⟩ = some (.int .u64 0) := (blk_cell BK740.out 4).trans rfl; have hcz59_5 : w57.cell? ⟨gb740, 5, none⟩ = some (.float .f64 0) := (blk_cell BK740.out 5).trans rfl; have hcz59_6 : w57.cell? ⟨gb740, 6, none⟩ = some (.string (⟨#[]⟩ : ByteArray)) := (blk_cell BK740.out 6).trans rfl; have hcz59_7 : w57.cell? ⟨gb740, 7, none⟩ = some (.slice none 0 0) := (blk_cell BK740.out 7).trans rfl; have hfz59_0 := blk_frozen BK740.out 0; have hfz59_1 := blk_frozen BK740.out 1; have hfz59_2 := blk_frozen BK740.out 2; have hfz59_3 := blk_frozen BK740.out 3; have hfz59_4 := blk_frozen BK740.out 4; have hfz59_5 := blk_frozen BK740.out 5; have hfz59_6 := blk_frozen BK740.out 6; have hfz59_7 := blk_frozen BK740.out 7; obtain ⟨Ao60, co60, eo60⟩ := Kd.V_slice HO738.out; subst eo60))
           have n0_ : Aside0 (Kd.V k48 48 ((((((((w57.setCell ⟨gb740, 0, none⟩ (.string t729)).setCell ⟨gb740, 1, none⟩ (.int .i64 t730)).setCell ⟨gb740, 2, none⟩ (.bool t731)).setCell ⟨gb740, 3, none⟩ (.int .i64 t732)).setCell ⟨gb740, 4, none⟩ (.int .u64 t733)).setCell ⟨gb740, 5, none⟩ (.float .f64 t734)).setCell ⟨gb740, 6, none⟩ (.string t735)).setCell ⟨gb740, 7, none⟩ (.slice Ao60 t736.length co60)) w.heap.size (fun k_ => some k_ ≠ (.slice Ao54 t723.length co54 : Value).ownBlock ∧ k_ ≠ gb727 ∧ k_ ≠ gb740) (.slice Ao55 t710.length co55) t710) := ⟨by (with_reducible repeat (first | apply Kd.V_alloc | apply Kd.V_drewN | apply Kd.V_drew)); exact Kd.V_mono (Kd.V_far (p := ⟨gb740, 7, none⟩) (Kd.V_far (p := ⟨gb740, 6, none⟩) (Kd.V_far (p := ⟨gb740, 5, none⟩) (Kd.V_far (p := ⟨gb740, 4, none⟩) (Kd.V_far (p := ⟨gb740, 3, none⟩) (Kd.V_far (p := ⟨gb740, 2, none⟩) (Kd.V_far (p := ⟨gb740, 1, none⟩) (Kd.V_far (p := ⟨gb740, 0, none⟩) (Kd.V_mono HO712.out (fun k_ hk => (⟨hk, hk.2⟩ : _ ∧ k_ ≠ gb740))) (fun _ hk => hk.2) (.string t729)) (fun _ hk => hk.2) (.int .i64 t730)) (fun _ hk => hk.2) (.bool t731)) (fun _ hk => hk.2) (.int .i64 t732)) (fun _ hk => hk.2) (.int .u64 t733)) (fun _ hk => hk.2) (.float .f64 t734)) (fun _ hk => hk.2) (.string t735)) (fun _ hk => hk.2) (.slice Ao60 t736.length co60)) (fun _ hk => ⟨hk.1.1.1.2, ⟨hk.1.1.2, hk.1.2⟩⟩)⟩
           have n1_ : Aside0 (Kd.R k34 34 ((((((((w57.setCell ⟨gb740, 0, none⟩ (.string t729)).setCell ⟨gb740, 1, none⟩ (.int .i64 t730)).setCell ⟨gb740, 2, none⟩ (.bool t731)).setCell ⟨gb740, 3, none⟩ (.int .i64 t732)).setCell ⟨gb740, 4, none⟩ (.int .u64 t733)).setCell ⟨gb740, 5, none⟩ (.float .f64 t734)).setCell ⟨gb740, 6, none⟩ (.string t735)).setCell ⟨gb740, 7, none⟩ (.slice Ao60 t736.length co60)) w.heap.size (fun k_ => k_ ≠ gb727) (.slice Ao54 t723.length co54) t723) := ⟨by (with_reducible repeat (first | apply Kd.R_alloc | apply Kd.R_drewN | apply Kd.R_drew)); exact Kd.R_mono (Kd.R_far (p := ⟨gb740, 7, none⟩) (Kd.R_far (p := ⟨gb740, 6, none⟩) (Kd.R_far (p := ⟨gb740, 5, none⟩) (Kd.R_far (p := ⟨gb740, 4, none⟩) (Kd.R_far (p := ⟨gb740, 3, none⟩) (Kd.R_far (p := ⟨gb740, 2, none⟩) (Kd.R_far (p := ⟨gb740, 1, none⟩) (Kd.R_far (p := ⟨gb740, 0, none⟩) (Kd.R_types HO725.out BK740.out (by decide)) (fun _ hk => hk.2) (.string t729)) (fun _ hk => hk.2) (.int .i64 t730)) (fun _ hk => hk.2) (.bool t731)) (fun _ hk => hk.2) (.int .i64 t732)) (fun _ hk => hk.2) (.int .u64 t733)) (fun _ hk => hk.2) (.float .f64 t734)) (fun _ hk => hk.2) (.string t735)) (fun _ hk => hk.2) (.slice Ao60 t736.length co60)) (fun _ hk => hk.1.2)⟩
           have n2_ : Aside0 (Kd.V k38 38 ((((((((w57.setCell ⟨gb740, 0, none⟩ (.string t729)).setCell ⟨gb740, 1, none⟩ (.int .i64 t730)).setCell ⟨gb740, 2, none⟩ (.bool t731)).setCell ⟨gb740, 3, none⟩ (.int .i64 t732)).setCell ⟨gb740, 4, none⟩ (.int .u64 t733)).setCell ⟨gb740, 5, none⟩ (.float .f64 t734)).setCell ⟨gb740, 6, none⟩ (.string t735)).setCell ⟨gb740, 7, none⟩ (.slice Ao60 t736.length co60)) w.heap.size (fun k_ => some k_ ≠ (.slice Ao54 t723.length co54 : Value).ownBlock ∧ k_ ≠ gb727 ∧ k_ ≠ gb740) (.slice Ao60 t736.length co60) t736) := ⟨by (with_reducible repeat (first | apply Kd.V_alloc | apply Kd.V_drewN | apply Kd.V_drew)); exact Kd.V_mono (Kd.V_far (p := ⟨gb740, 7, none⟩) (Kd.V_far (p := ⟨gb740, 6, none⟩) (Kd.V_far (p := ⟨gb740, 5, none⟩) (Kd.V_far (p := ⟨gb740, 4, none⟩) (Kd.V_far (p := ⟨gb740, 3, none⟩) (Kd.V_far (p := ⟨gb740, 2, none⟩) (Kd.V_far (p := ⟨gb740, 1, none⟩) (Kd.V_far (p := ⟨gb740, 0, none⟩) (Kd.V_mono HO738.out (fun k_ hk => (⟨hk, hk.2⟩ : _ ∧ k_ ≠ gb740))) (fun _ hk => hk.2) (.string t729)) (fun _ hk => hk.2) (.int .i64 t730)) (fun _ hk => hk.2) (.bool t731)) (fun _ hk => hk.2) (.int .i64 t732)) (fun _ hk => hk.2) (.int .u64 t733)) (fun _ hk => hk.2) (.float .f64 t734)) (fun _ hk => hk.2) (.string t735)) (fun _ hk => hk.2) (.slice Ao60 t736.length co60)) (fun _ hk => ⟨hk.1.1.1, ⟨hk.1.1.2, hk.1.2⟩⟩)⟩
           have n3_ : Aside0 (((((((((w57.setCell ⟨gb740, 0, none⟩ (.string t729)).setCell ⟨gb740, 1, none⟩ (.int .i64 t730)).setCell ⟨gb740, 2, none⟩ (.bool t731)).setCell ⟨gb740, 3, none⟩ (.int .i64 t732)).setCell ⟨gb740, 4, none⟩ (.int .u64 t733)).setCell ⟨gb740, 5, none⟩ (.float .f64 t734)).setCell ⟨gb740, 6, none⟩ (.string t735)).setCell ⟨gb740, 7, none⟩ (.slice Ao60 t736.length co60)).heap[gb727]? = some (.cells #[.string t716, .int .i64 t717, .bool t718, .int .i64 t719, .int .u64 t720, .float .f64 t721, .string t722, .slice Ao54 t723.length co54] 34 (0, 0))) := ⟨by (with_reducible repeat (first | refine blk_drewN ?_ _ | refine blk_drew ?_ | refine blk_alloc ?_ _)); refine blk_far ?_ NB727_740.out _; (with_reducible repeat (first | refine blk_drewN ?_ _ | refine blk_drew ?_ | refine blk_alloc ?_ _)); refine blk_far ?_ NB727_740.out _; (with_reducible repeat (first | refine blk_drewN ?_ _ | refine blk_drew ?_ | refine blk_alloc ?_ _)); refine blk_far ?_ NB727_740.out _; (with_reducible repeat (first | refine blk_drewN ?_ _ | refine blk_drew ?_ | refine blk_alloc ?_ _)); refine blk_far ?_ NB727_740.out _; (with_reducible repeat (first | refine blk_drewN ?_ _ | refine blk_drew ?_ | refine blk_alloc ?_ _)); refine blk_far ?_ NB727_740.out _; (with_reducible repeat (first | refine blk_drewN ?_ _ | refine blk_drew ?_ | refine blk_alloc ?_ _)); refine blk_far ?_ NB727_740.out _; (with_reducible repeat (first | refine blk_drewN ?_ _ | refine blk_drew ?_ | refine blk_alloc ?_ _)); refine blk_far ?_ NB727_740.out _; (with_reducible repeat (first | refine blk_drewN ?_ _ | refine blk_drew ?_ | refine blk_alloc ?_ _)); refine blk_far ?_ NB727_740.out _; (with_reducible repeat (first | refine blk_drewN ?_ _ | refine blk_drew ?_ | refine blk_alloc ?_ _)); exact BK727.out⟩
           have n4_ : Aside0 (((((((((w57.setCell ⟨gb740, 0, none⟩ (.string t729)).setCell ⟨gb740, 1, none⟩ (.int .i64 t730)).setCell ⟨gb740, 2, none⟩ (.bool t731)).setCell ⟨gb740, 3, none⟩ (.int .i64 t732)).setCell ⟨gb740, 4, none⟩ (.int .u64 t733)).setCell ⟨gb740, 5, none⟩ (.float .f64 t734)).setCell ⟨gb740, 6, none⟩ (.string t735)).setCell ⟨gb740, 7, none⟩ (.slice Ao60 t736.length co60)).heap[gb740]? = some (.cells #[.string t729, .int .i64 t730, .bool t731, .int .i64 t732, .int .u64 t733, .float .f64 t734, .string t735, .slice Ao60 t736.length co60] 38 (0, 0))) := ⟨by (with_reducible repeat (first | refine blk_drewN ?_ _ | refine blk_drew ?_ | refine blk_alloc ?_ _)); refine blk_put (cs := #[.string t729, .int .i64 t730, .bool t731, .int .i64 t732, .int .u64 t733, .float .f64 t734, .string t735, .slice none 0 0]) ?_ 7 _ rfl; (with_reducible repeat (first | refine blk_drewN ?_ _ | refine blk_drew ?_ | refine blk_alloc ?_ _)); refine blk_put (cs := #[.string t729, .int .i64 t730, .bool t731, .int .i64 t732, .int .u64 t733, .float .f64 t734, .string (⟨#[]⟩ : ByteArray), .slice none 0 0]) ?_ 6 _ rfl; (with_reducible repeat (first | refine blk_drewN ?_ _ | refine blk_drew ?_ | refine blk_alloc ?_ _)); refine blk_put (cs := #[.string t729, .int .i64 t730, .bool t731, .int .i64 t732, .int .u64 t733, .float .f64 0, .string (⟨#[]⟩ : ByteArray), .slice none 0 0]) ?_ 5 _ rfl; (with_reducible repeat (first | refine blk_drewN ?_ _ | refine blk_drew ?_ | refine blk_alloc ?_ _)); refine blk_put (cs := #[.string t729, .int .i64 t730, .bool t731, .int .i64 t732, .int .u64 0, .float .f64 0, .string (⟨#[]⟩ : ByteArray), .slice none 0 0]) ?_ 4 _ rfl; (with_reducible repeat (first | refine blk_drewN ?_ _ | refine blk_drew ?_ | refine blk_alloc ?_ _)); refine blk_put (cs := #[.string t729, .int .i64 t730, .bool t731, .int .i64 0, .int .u64 0, .float .f64 0, .string (⟨#[]⟩ : ByteArray), .slice none 0 0]) ?_ 3 _ rfl; (with_reducible repeat (first | refine blk_drewN ?_ _ | refine blk_drew ?_ | refine blk_alloc ?_ _)); refine blk_put (cs := #[.string t729, .int .i64 t730, .bool false, .int .i64 0, .int .u64 0, .float .f64 0, .string (⟨#[]⟩ : ByteArray), .slice none 0 0]) ?_ 2 _ rfl; (with_reducible repeat (first | refine blk_drewN ?_ _ | refine blk_drew ?_ | refine blk_alloc ?_ _)); refine blk_put (cs := #[.string t729, .int .i64 0, .bool false, .int .i64 0, .int .u64 0, .float .f64 0, .string (⟨#[]⟩ : ByteArray), .slice none 0 0]) ?_ 1 _ rfl; (with_reducible repeat (first | refine blk_drewN ?_ _ | refine blk_drew ?_ | refine blk_alloc ?_ _)); refine blk_put (cs := #[.string (⟨#[]⟩ : ByteArray), .int .i64 0, .bool false, .int .i64 0, .int .u64 0, .float .f64 0, .string (⟨#[]⟩ : ByteArray), .slice none 0 0]) ?_ 0 _ rfl; (with_reducible repeat (first | refine blk_drewN ?_ _ | refine blk_drew ?_ | refine blk_alloc ?_ _)); exact BK740.out⟩
           have n5_ : Aside0 (Below w.heap.size w ((((((((w57.setCell ⟨gb740, 0, none⟩ (.string t729)).setCell ⟨gb740, 1, none⟩ (.int .i64 t730)).setCell ⟨gb740, 2, none⟩ (.bool t731)).setCell ⟨gb740, 3, none⟩ (.int .i64 t732)).setCell ⟨gb740, 4, none⟩ (.int .u64 t733)).setCell ⟨gb740, 5, none⟩ (.float .f64 t734)).setCell ⟨gb740, 6, none⟩ (.string t735)).setCell ⟨gb740, 7, none⟩ (.slice Ao60 t736.length co60))) := ⟨by repeat (first | (with_reducible first | exact HB.out | apply below_alloc | apply pw_below_drewN | apply below_drew1 | refine below_set ?_ GE727.out | refine below_set ?_ GE740.out) | exact HB.out)⟩
           (try clear HO712)
           (try clear HO725)
           (try clear HO738)
           (try clear BK727)
           (try clear BK740)
           (try clear HB)
           generalize ((((((((w57.setCell ⟨gb740, 0, none⟩ (.string t729)).setCell ⟨gb740, 1, none⟩ (.int .i64 t730)).setCell ⟨gb740, 2, none⟩ (.bool t731)).setCell ⟨gb740, 3, none⟩ (.int .i64 t732)).setCell ⟨gb740, 4, none⟩ (.int .u64 t733)).setCell ⟨gb740, 5, none⟩ (.float .f64 t734)).setCell ⟨gb740, 6, none⟩ (.string t735)).setCell ⟨gb740, 7, none⟩ (.slice Ao60 t736.length co60)) = w61 at n0_ n1_ n2_ n3_ n4_ n5_ ⊢
           have HO712 := n0_
           have HO725 := n1_
           have HO738 := n2_
           have BK727 := n3_
           have BK740 := n4_
           have HB := n5_
           clear n0_ n1_ n2_ n3_ n4_ n5_
           have n0_ := Aside0.mk (Kd.V_drew HO712.out)
           have n1_ := Aside0.mk (Kd.R_drew HO725.out)
           have n2_ := Aside0.mk (Kd.V_drew HO738.out)
           have n3_ := Aside0.mk (blk_drew BK727.out)
           have n4_ := Aside0.mk (blk_drew BK740.out)
           have n5_ := Aside0.mk (below_drew1 HB.out)
           clear HO712
           clear HO725
           clear HO738
           clear BK727
           clear BK740
           clear HB
           have HO712 := n0_
           have HO725 := n1_
           have HO738 := n2_
           have BK727 := n3_
           have BK740 := n4_
           have HB := n5_
           clear n0_ n1_ n2_ n3_ n4_ n5_
           refine start_ (n := 16) (S := fun w' => True) (ds := []) #[false, false, false, false, false, false, false, false, false, false, false, false, false, false, false, false] (by kernel_rfl) rfl rfl trivial (fun hHeld => ?_); refine with_tabW laws_read_16_17_18.tab10 laws_read_16_17_18.bits10 (fun HT_ HW_ => ?_)
           generalize w61.drew = w62 at HO712 HO725 HO738 BK727 BK740 HB hHeld ⊢
           refine pure_ (i := 0) (N := some 47) (v := ?_) (a' := ?_) #[true, false, false, false, false, false, false, false, false, false, false, false, false, false, false, false] rfl rfl (any_of HT_.out (by kernel_rfl)) (fun _ _ _ h => h) (Or.inl ⟨by rfl, ?_⟩) ?_ ?_
           rotate_left
           · intro w'
             go_simp
             with_reducible rfl
           rotate_left
           · simp only [Act.put, List.setIfInBounds_toArray, List.set_cons_zero, List.set_cons_succ, i64_w, i32_w]
             rfl
           refine pure_ (i := 1) (N := some 48) (v := ?_) (a' := ?_) #[true, true, false, false, false, false, false, false, false, false, false, false, false, false, false, false] rfl rfl (any_of HT_.out (by kernel_rfl)) (fun _ _ _ h => h) (Or.inl ⟨by rfl, ?_⟩) ?_ ?_
           rotate_left
           · intro w'
             go_simp
             with_reducible rfl
           rotate_left
           · simp only [Act.put, List.setIfInBounds_toArray, List.set_cons_zero, List.set_cons_succ, i64_w, i32_w]
             rfl
           refine pure_ (i := 2) (N := some 49) (v := ?_) (a' := ?_) #[true, true, true, false, false, false, false, false, false, false, false, false, false, false, false, false] rfl rfl (any_of HT_.out (by kernel_rfl)) (fun _ _ _ h => h) (Or.inl ⟨by rfl, ?_⟩) ?_ ?_
           rotate_left
           · intro w'
             go_simp
             with_reducible rfl
           rotate_left
           · simp only [Act.put, List.setIfInBounds_toArray, List.set_cons_zero, List.set_cons_succ, i64_w, i32_w]
             rfl
           refine pure_ (i := 3) (N := some 50) (v := ?_) (a' := ?_) #[true, true, true, true, false, false, false, false, false, false, false, false, false, false, false, false] rfl rfl (any_of HT_.out (by kernel_rfl)) (fun _ _ _ h => h) (Or.inl ⟨by rfl, ?_⟩) ?_ ?_
           rotate_left
           · intro w'
             go_simp
             with_reducible rfl
           rotate_left
           · simp only [Act.put, List.setIfInBounds_toArray, List.set_cons_zero, List.set_cons_succ, i64_w, i32_w]
             rfl
           refine pure_ (i := 4) (N := some 51) (v := ?_) (a' := ?_) #[true, true, true, true, true, false, false, false, false, false, false, false, false, false, false, false] rfl rfl (any_of HT_.out (by kernel_rfl)) (fun _ _ _ h => h) (Or.inl ⟨by rfl, ?_⟩) ?_ ?_
           rotate_left
           · intro w'
             go_simp
             with_reducible rfl
           rotate_left
           · simp only [Act.put, List.setIfInBounds_toArray, List.set_cons_zero, List.set_cons_succ, i64_w, i32_w]
             rfl
           refine pure_ (i := 5) (N := some 52) (v := ?_) (a' := ?_) #[true, true, true, true, true, true, false, false, false, false, false, false, false, false, false, false] rfl rfl (any_of HT_.out (by kernel_rfl)) (fun _ _ _ h => h) (Or.inl ⟨by rfl, ?_⟩) ?_ ?_
           rotate_left
           · intro w'
             go_simp
             with_reducible rfl
           rotate_left
           · simp only [Act.put, List.setIfInBounds_toArray, List.set_cons_zero, List.set_cons_succ, i64_w, i32_w]
             rfl
           refine pure_ (i := 6) (N := some 53) (v := undef) (a' := ?_) #[true, true, true, true, true, true, true, false, false, false, false, false, false, false, false, false] rfl rfl (any_of HT_.out (by kernel_rfl)) (fun _ _ _ h => h) (Or.inr ⟨by rfl, rfl⟩) ?_ ?_
           rotate_left
           · simp only [Act.put, List.setIfInBounds_toArray, List.set_cons_zero, List.set_cons_succ, i64_w, i32_w]
             rfl
           refine pure_ (i := 7) (N := some 54) (v := undef) (a' := ?_) #[true, true, true, true, true, true, true, true, false, false, false, false, false, false, false, false] rfl rfl (any_of HT_.out (by kernel_rfl)) (fun _ _ _ h => h) (Or.inr ⟨by rfl, rfl⟩) ?_ ?_
           rotate_left
           · simp only [Act.put, List.setIfInBounds_toArray, List.set_cons_zero, List.set_cons_succ, i64_w, i32_w]
             rfl
           refine pure_ (i := 8) (N := some 55) (v := undef) (a' := ?_) #[true, true, true, true, true, true, true, true, true, false, false, false, false, false, false, false] rfl rfl (any_of HT_.out (by kernel_rfl)) (fun _ _ _ h => h) (Or.inr ⟨by rfl, rfl⟩) ?_ ?_
           rotate_left
           · simp only [Act.put, List.setIfInBounds_toArray, List.set_cons_zero, List.set_cons_succ, i64_w, i32_w]
             rfl
           refine pure_ (i := 9) (N := some 56) (v := undef) (a' := ?_) #[true, true, true, true, true, true, true, true, true, true, false, false, false, false, false, false] rfl rfl (any_of HT_.out (by kernel_rfl)) (fun _ _ _ h => h) (Or.inr ⟨by rfl, rfl⟩) ?_ ?_
           rotate_left
           · simp only [Act.put, List.setIfInBounds_toArray, List.set_cons_zero, List.set_cons_succ, i64_w, i32_w]
             rfl
           refine pure_ (i := 10) (N := some 57) (v := ?_) (a' := ?_) #[true, true, true, true, true, true, true, true, true, true, true, false, false, false, false, false] rfl rfl (any_of HT_.out (by kernel_rfl)) (fun _ _ _ h => h) (Or.inl ⟨by rfl, ?_⟩) ?_ ?_
           rotate_left
           · intro w'
             go_simp
             with_reducible rfl
           rotate_left
           · simp only [Act.put, List.setIfInBounds_toArray, List.set_cons_zero, List.set_cons_succ, i64_w, i32_w]
             rfl
           refine pure_ (i := 11) (N := some 58) (v := ?_) (a' := ?_) #[true, true, true, true, true, true, true, true, true, true, true, true, false, false, false, false] rfl rfl (any_of HT_.out (by kernel_rfl)) (fun _ _ _ h => h) (Or.inl ⟨by rfl, ?_⟩) ?_ ?_
           rotate_left
           · intro w'
             go_simp
             with_reducible rfl
           rotate_left
           · simp only [Act.put, List.setIfInBounds_toArray, List.set_cons_zero, List.set_cons_succ, i64_w, i32_w]
             rfl
           refine pure_ (i := 12) (N := some 59) (v := ?_) (a' := ?_) #[true, true, true, true, true, true, true, true, true, true, true, true, true, false, false, false] rfl rfl (any_of HT_.out (by kernel_rfl)) (fun _ _ _ h => h) (Or.inl ⟨by rfl, ?_⟩) ?_ ?_
           rotate_left
           · intro w'
             go_simp
             with_reducible rfl
           rotate_left
           · simp only [Act.put, List.setIfInBounds_toArray, List.set_cons_zero, List.set_cons_succ, i64_w, i32_w]
             rfl
           refine pure_ (i := 13) (N := some 60) (v := undef) (a' := ?_) #[true, true, true, true, true, true, true, true, true, true, true, true, true, true, false, false] rfl rfl (any_of HT_.out (by kernel_rfl)) (fun _ _ _ h => h) (Or.inr ⟨by rfl, rfl⟩) ?_ ?_
           rotate_left
           · simp only [Act.put, List.setIfInBounds_toArray, List.set_cons_zero, List.set_cons_succ, i64_w, i32_w]
             rfl
           refine pure_ (i := 14) (N := some 61) (v := ?_) (a' := ?_) #[true, true, true, true, true, true, true, true, true, true, true, true, true, true, true, false] rfl rfl (any_of HT_.out (by kernel_rfl)) (fun _ _ _ h => h) (Or.inl ⟨by rfl, ?_⟩) ?_ ?_
           rotate_left
           · intro w'
             go_simp
             with_reducible rfl
           rotate_left
           · simp only [Act.put, List.setIfInBounds_toArray, List.set_cons_zero, List.set_cons_succ, i64_w, i32_w]
             rfl
           refine pure_ (i := 15) (N := some 8) (v := ?_) (a' := ?_) #[true, true, true, true, true, true, true, true, true, true, true, true, true, true, true, true] rfl rfl (any_of HT_.out (by kernel_rfl)) (fun _ _ _ h => h) (Or.inl ⟨by rfl, ?_⟩) ?_ ?_
           rotate_left
           · intro w'
             go_simp
             with_reducible rfl
           rotate_left
           · simp only [Act.put, List.setIfInBounds_toArray, List.set_cons_zero, List.set_cons_succ, i64_w, i32_w]
             rfl
           refine done_ (done_of HT_.out (by kernel_rfl)) ?_
           try go_wp2
           go_ret
           exact ⟨by first | rfl | (simp [errW_none, errW_some] <;> rfl) | (simp [*, errW_none, errW_some] <;> rfl), by repeat (first | (with_reducible first | exact HB.out | apply below_alloc | apply pw_below_drewN | apply below_drew1 | refine below_set ?_ GE727.out | refine below_set ?_ GE740.out) | exact HB.out)⟩
       · rw [if_neg c11] at H
         have c11b0 : (t739 == 1) = false := beq_eq_false_iff_ne.mpr c11
         have c11b1 : (t739 != 1) = true := bne_iff_ne.mpr c11
         replace H := Option.bind_eq_some_iff.mp H
         obtain ⟨t753, A630, H⟩ := H
         replace H : (some t753) = some r := H
         have A63 := Aside0.mk A630
         clear A630
         obtain rfl := Option.some.inj H
         go_enter Tryz.func9, Tryz.ntmps9
         try go_wp2_with (first | (go_at_call 16; (with_reducible refine (spec_StatmRead.calls k a0 t710 true t714 _ A6.out).mono ?_); rintro e w64 ⟨v711, rfl, ho0, hb⟩; have n0_ := Aside0.mk (Kd.V_lower (Kd.V_mono (ok' := fun k_ => True) ho0 (fun k_ hk_ => trivial)) (below_size (by repeat (first | (with_reducible first | exact HB.out | apply below_alloc | apply pw_below_drewN | apply below_drew1) | exact HB.out)))); have n1_ := Aside0.mk (below_step (by repeat (first | (with_reducible first | exact HB.out | apply below_alloc | apply pw_below_drewN | apply below_drew1) | exact HB.out)) hb); clear HB; have HO712 := n0_; have HB := n1_; clear n0_ n1_; (try clear hb); (try clear hb2); (try clear hk); (try clear hi); (try clear ho0)) | (go_at_call 18; (with_reducible refine (impl_Statm.calls k a0 t716 t717 t718 t719 t720 t721 t722 t723 t726 _ A8.out).mono ?_); rintro e w65 ⟨v724, rfl, ho0, hb⟩; have n0_ := Aside0.mk (Kd.V_elder' (by (with_reducible repeat (first | apply Kd.V_alloc | apply Kd.V_drewN | apply Kd.V_drew)); exact HO712.out) (Kd.R_base ho0) hb); have n1_ := Aside0.mk (Kd.R_lower ho0 (below_size (by repeat (first | (with_reducible first | exact HB.out | apply below_alloc | apply pw_below_drewN | apply below_drew1) | exact HB.out)))); have n2_ := Aside0.mk (below_step (by repeat (first | (with_reducible first | exact HB.out | apply below_alloc | apply pw_below_drewN | apply below_drew1) | exact HB.out)) hb); clear HO712; clear HB; have HO712 := n0_; have HO725 := n1_; have HB := n2_; clear n0_ n1_ n2_; (try clear hb); (try clear hb2); (try clear hk); (try clear hi); (try clear ho0)) | ((with_reducible refine gate_dst (N := 12) rfl ?_); refine box_event ?hg (N := 12) ?hd (cs := #[.string (⟨#[]⟩ : ByteArray), .int .i64 0, .bool false, .int .i64 0, .int .u64 0, .float .f64 0, .string (⟨#[]⟩ : ByteArray), .slice none 0 0]) (t := 34) ?hr ?_; (case hd => rfl); (case hg => rfl); (case hr => first | (go_simp; done) | (go_simp; rfl)); intro gb727 hg w66 hbox hb; have n0_ := Aside0.mk (Kd.V_below (Kd.V_elderB (by (with_reducible repeat (first | apply Kd.V_alloc | apply Kd.V_drewN | apply Kd.V_drew)); exact HO712.out) gb727 (Nat.le_of_eq hg.symm)) hb); have n1_ := Aside0.mk (Kd.R_below (Kd.R_elderB (by (with_reducible repeat (first | apply Kd.R_alloc | apply Kd.R_drewN | apply Kd.R_drew)); exact HO725.out) gb727 (Nat.le_of_eq hg.symm)) hb); have n2_ := Aside0.mk (below_step (by repeat (first | (with_reducible first | exact HB.out | apply below_alloc | apply pw_below_drewN | apply below_drew1) | exact HB.out)) hb); have n3_ := Aside0.mk (hbox); have n4_ := Aside0.mk ((by rw [hg]; exact (below_size (by repeat (first | (with_reducible first | exact HB.out | apply below_alloc | apply pw_below_drewN | apply below_drew1) | exact HB.out))) : w.heap.size ≤ gb727)); have n5_ := Aside0.mk ((by rw [hg]; exact (below_size (by repeat (first | (with_reducible first | exact HB.out | apply below_alloc | apply pw_below_drewN | apply below_drew1) | exact HB.out))) : w.heap.size ≤ gb727)); clear HO712; clear HO725; clear HB; have HO712 := n0_; have HO725 := n1_; have HB := n2_; have BK727 := n3_; have GW727 := n4_; have GE727 := n5_; clear n0_ n1_ n2_ n3_ n4_ n5_; clear hb hbox hg; have hcz67_0 : w66.cell? ⟨gb727, 0, none⟩ = some (.string (⟨#[]⟩ : ByteArray)) := (blk_cell BK727.out 0).trans rfl; have hcz67_1 : w66.cell? ⟨gb727, 1, none⟩ = some (.int .i64 0) := (blk_cell BK727.out 1).trans rfl; have hcz67_2 : w66.cell? ⟨gb727, 2, none⟩ = some (.bool false) := (blk_cell BK727.out 2).trans rfl; have hcz67_3 : w66.cell? ⟨gb727, 3, none⟩ = some (.int .i64 0) := (blk_cell BK727.out 3).trans rfl; have hcz67_4 : w66.cell? ⟨gb727, 4, none⟩ = some (.int .u64 0) := (blk_cell BK727.out 4).trans rfl; have hcz67_5 : w66.cell? ⟨gb727, 5, none⟩ = some (.float .f64 0) := (blk_cell BK727.out 5).trans rfl; have hcz67_6 : w66.cell? ⟨gb727, 6, none⟩ = some (.string (⟨#[]⟩ : ByteArray)) := (blk_cell BK727.out 6).trans rfl; have hcz67_7 : w66.cell? ⟨gb727, 7, none⟩ = some (.slice none 0 0) := (blk_cell BK727.out 7).trans rfl; have hfz67_0 := blk_frozen BK727.out 0; have hfz67_1 := blk_frozen BK727.out 1; have hfz67_2 := blk_frozen BK727.out 2; have hfz67_3 := blk_frozen BK727.out 3; have hfz67_4 := blk_frozen BK727.out 4; have hfz67_5 := blk_frozen BK727.out 5; have hfz67_6 := blk_frozen BK727.out 6; have hfz67_7 := blk_frozen BK727.out 7; obtain ⟨Ao68, co68, eo68⟩ := Kd.R_slice HO725.out; subst eo68; obtain ⟨Ao69, co69, eo69⟩ := Kd.V_slice HO712.out; subst eo69) | (go_at_call 17; (with_reducible refine (spec_StatmTree.calls k _ _ t710 t729 t730 t731 t732 t733 t734 t735 t736 t739 _ ?side1 ?side2 A10.out).mono ?_); (case side1 => refine (Kd.V_reads' (e := 48) (base := w.heap.size) (ok := fun k_ => ((True ∧ some k_ ≠ (.slice Ao68 t723.length co68 : Value).ownBlock) ∧ k_ ≠ gb727)) (n := t710.length) (c := co69) ?_).2.2; exact (by (with_reducible repeat (first | apply Kd.V_alloc | apply Kd.V_drewN | apply Kd.V_drew)); exact (Kd.V_mono (Kd.V_far (p := ⟨gb727, 7, none⟩) (Kd.V_far (p := ⟨gb727, 6, none⟩) (Kd.V_far (p := ⟨gb727, 5, none⟩) (Kd.V_far (p := ⟨gb727, 4, none⟩) (Kd.V_far (p := ⟨gb727, 3, none⟩) (Kd.V_far (p := ⟨gb727, 2, none⟩) (Kd.V_far (p := ⟨gb727, 1, none⟩) (Kd.V_far (p := ⟨gb727, 0, none⟩) (Kd.V_mono HO712.out (fun k_ hk => (⟨hk, hk.2⟩ : _ ∧ k_ ≠ gb727))) (fun _ hk => hk.2) (.string t716)) (fun _ hk => hk.2) (.int .i64 t717)) (fun _ hk => hk.2) (.bool t718)) (fun _ hk => hk.2) (.int .i64 t719)) (fun _ hk => hk.2) (.int .u64 t720)) (fun _ hk => hk.2) (.float .f64 t721)) (fun _ hk => hk.2) (.string t722)) (fun _ hk => hk.2) (.slice Ao68 t723.length co68)) (fun _ h_ => h_.1)))); (case side2 => exact (Kd.V_reads' HO712.out).2.1); rintro e w70 ⟨v737, rfl, ho0, hb⟩; have n0_ := Aside0.mk (Kd.V_below (by (with_reducible repeat (first | apply Kd.V_alloc | apply Kd.V_drewN | apply Kd.V_drew)); exact (Kd.V_mono (Kd.V_far (p := ⟨gb727, 7, none⟩) (Kd.V_far (p := ⟨gb727, 6, none⟩) (Kd.V_far (p := ⟨gb727, 5, none⟩) (Kd.V_far (p := ⟨gb727, 4, none⟩) (Kd.V_far (p := ⟨gb727, 3, none⟩) (Kd.V_far (p := ⟨gb727, 2, none⟩) (Kd.V_far (p := ⟨gb727, 1, none⟩) (Kd.V_far (p := ⟨gb727, 0, none⟩) (Kd.V_mono HO712.out (fun k_ hk => (⟨hk, hk.2⟩ : _ ∧ k_ ≠ gb727))) (fun _ hk => hk.2) (.string t716)) (fun _ hk => hk.2) (.int .i64 t717)) (fun _ hk => hk.2) (.bool t718)) (fun _ hk => hk.2) (.int .i64 t719)) (fun _ hk => hk.2) (.int .u64 t720)) (fun _ hk => hk.2) (.float .f64 t721)) (fun _ hk => hk.2) (.string t722)) (fun _ hk => hk.2) (.slice Ao68 t723.length co68)) (fun _ h_ => h_.1))) hb); have n1_ := Aside0.mk (Kd.R_below (by (with_reducible repeat (first | apply Kd.R_alloc | apply Kd.R_drewN | apply Kd.R_drew)); exact (Kd.R_mono (Kd.R_far (p := ⟨gb727, 7, none⟩) (Kd.R_far (p := ⟨gb727, 6, none⟩) (Kd.R_far (p := ⟨gb727, 5, none⟩) (Kd.R_far (p := ⟨gb727, 4, none⟩) (Kd.R_far (p := ⟨gb727, 3, none⟩) (Kd.R_far (p := ⟨gb727, 2, none⟩) (Kd.R_far (p := ⟨gb727, 1, none⟩) (Kd.R_far (p := ⟨gb727, 0, none⟩) (Kd.R_mono HO725.out (fun k_ hk => (⟨hk, hk.2⟩ : _ ∧ k_ ≠ gb727))) (fun _ hk => hk.2) (.string t716)) (fun _ hk => hk.2) (.int .i64 t717)) (fun _ hk => hk.2) (.bool t718)) (fun _ hk => hk.2) (.int .i64 t719)) (fun _ hk => hk.2) (.int .u64 t720)) (fun _ hk => hk.2) (.float .f64 t721)) (fun _ hk => hk.2) (.string t722)) (fun _ hk => hk.2) (.slice Ao68 t723.length co68)) (fun _ h_ => h_.1))) hb); have n2_ := Aside0.mk (Kd.V_lower (Kd.V_mono (ok' := fun k_ => some k_ ≠ (.slice Ao68 t723.length co68 : Value).ownBlock ∧ k_ ≠ gb727) ho0 (fun k_ hk_ => ⟨(Kd.fresh' (Kd.R_lt (by (with_reducible repeat (first | apply Kd.R_alloc | apply Kd.R_drewN | apply Kd.R_drew)); exact (Kd.R_mono (Kd.R_far (p := ⟨gb727, 7, none⟩) (Kd.R_far (p := ⟨gb727, 6, none⟩) (Kd.R_far (p := ⟨gb727, 5, none⟩) (Kd.R_far (p := ⟨gb727, 4, none⟩) (Kd.R_far (p := ⟨gb727, 3, none⟩) (Kd.R_far (p := ⟨gb727, 2, none⟩) (Kd.R_far (p := ⟨gb727, 1, none⟩) (Kd.R_far (p := ⟨gb727, 0, none⟩) (Kd.R_mono HO725.out (fun k_ hk => (⟨hk, hk.2⟩ : _ ∧ k_ ≠ gb727))) (fun _ hk => hk.2) (.string t716)) (fun _ hk => hk.2) (.int .i64 t717)) (fun _ hk => hk.2) (.bool t718)) (fun _ hk => hk.2) (.int .i64 t719)) (fun _ hk => hk.2) (.int .u64 t720)) (fun _ hk => hk.2) (.float .f64 t721)) (fun _ hk => hk.2) (.string t722)) (fun _ hk => hk.2) (.slice Ao68 t723.length co68)) (fun _ h_ => h_.1)))) k_ hk_), (Kd.freshB (g := gb727) (o := .cells #[.string t716, .int .i64 t717, .bool t718, .int .i64 t719, .int .u64 t720, .float .f64 t721, .string t722, .slice Ao68 t723.length co68] 34 (0, 0)) (by (with_reducible repeat (first | refine blk_drewN ?_ _ | refine blk_drew ?_ | refine blk_alloc ?_ _)); refine blk_put (cs := #[.string t716, .int .i64 t717, .bool t718, .int .i64 t719, .int .u64 t720, .float .f64 t721, .string t722, .slice none 0 0]) ?_ 7 _ rfl; (with_reducible repeat (first | refine blk_drewN ?_ _ | refine blk_drew ?_ | refine blk_alloc ?_ _)); refine blk_put (cs := #[.string t716, .int .i64 t717, .bool t718, .int .i64 t719, .int .u64 t720, .float .f64 t721, .string (⟨#[]⟩ : ByteArray), .slice none 0 0]) ?_ 6 _ rfl; (with_reducible repeat (first | refine blk_drewN ?_ _ | refine blk_drew ?_ | refine blk_alloc ?_ _)); refine blk_put (cs := #[.string t716, .int .i64 t717, .bool t718, .int .i64 t719, .int .u64 t720, .float .f64 0, .string (⟨#[]⟩ : ByteArray), .slice none 0 0]) ?_ 5 _ rfl; (with_reducible repeat (first | refine blk_drewN ?_ _ | refine blk_drew ?_ | refine blk_alloc ?_ _)); refine blk_put (cs := #[.string t716, .int .i64 t717, .bool t718, .int .i64 t719, .int .u64 0, .float .f64 0, .string (⟨#[]⟩ : ByteArray), .slice none 0 0]) ?_ 4 _ rfl; (with_reducible repeat (first | refine blk_drewN ?_ _ | refine blk_drew ?_ | refine blk_alloc ?_ _)); refine blk_put (cs := #[.string t716, .int .i64 t717, .bool t718, .int .i64 0, .int .u64 0, .float .f64 0, .string (⟨#[]⟩ : ByteArray), .slice none 0 0]) ?_ 3 _ rfl; (with_reducible repeat (first | refine blk_drewN ?_ _ | refine blk_drew ?_ | refine blk_alloc ?_ _)); refine blk_put (cs := #[.string t716, .int .i64 t717, .bool false, .int .i64 0, .int .u64 0, .float .f64 0, .string (⟨#[]⟩ : ByteArray), .slice none 0 0]) ?_ 2 _ rfl; (with_reducible repeat (first | refine blk_drewN ?_ _ | refine blk_drew ?_ | refine blk_alloc ?_ _)); refine blk_put (cs := #[.string t716, .int .i64 0, .bool false, .int .i64 0, .int .u64 0, .float .f64 0, .string (⟨#[]⟩ : ByteArray), .slice none 0 0]) ?_ 1 _ rfl; (with_reducible repeat (first | refine blk_drewN ?_ _ | refine blk_drew ?_ | refine blk_alloc ?_ _)); refine blk_put (cs := #[.string (⟨#[]⟩ : ByteArray), .int .i64 0, .bool false, .int .i64 0, .int .u64 0, .float .f64 0, .string (⟨#[]⟩ : ByteArray), .slice none 0 0]) ?_ 0 _ rfl; (with_reducible repeat (first | refine blk_drewN ?_ _ | refine blk_drew ?_ | refine blk_alloc ?_ _)); exact BK727.out) k_ hk_)⟩)) (below_size (by repeat (first | (with_reducible first | exact HB.out | apply below_alloc | apply pw_below_drewN | apply below_drew1 | refine below_set ?_ GE727.out) | exact HB.out)))); have n3_ := Aside0.mk (blk_below (g := gb727) (o := .cells #[.string t716, .int .i64 t717, .bool t718, .int .i64 t719, .int .u64 t720, .float .f64 t721, .string t722, .slice Ao68 t723.length co68] 34 (0, 0)) (by (with_reducible repeat (first | refine blk_drewN ?_ _ | refine blk_drew ?_ | refine blk_alloc ?_ _)); refine blk_put (cs := #[.string t716, .int .i64 t717, .bool t718, .int .i64 t719, .int .u64 t720, .float .f64 t721, .string t722, .slice none 0 0]) ?_ 7 _ rfl; (with_reducible repeat (first | refine blk_drewN ?_ _ | refine blk_drew ?_ | refine blk_alloc ?_ _)); refine blk_put (cs := #[.string t716, .int .i64 t717, .bool t718, .int .i64 t719, .int .u64 t720, .float .f64 t721, .string (⟨#[]⟩ : ByteArray), .slice none 0 0]) ?_ 6 _ rfl; (with_reducible repeat (first | refine blk_drewN ?_ _ | refine blk_drew ?_ | refine blk_alloc ?_ _)); refine blk_put (cs := #[.string t716, .int .i64 t717, .bool t718, .int .i64 t719, .int .u64 t720, .float .f64 0, .string (⟨#[]⟩ : ByteArray), .slice none 0 0]) ?_ 5 _ rfl; (with_reducible repeat (first | refine blk_drewN ?_ _ | refine blk_drew ?_ | refine blk_alloc ?_ _)); refine blk_put (cs := #[.string t716, .int .i64 t717, .bool t718, .int .i64 t719, .int .u64 0, .float .f64 0, .string (⟨#[]⟩ : ByteArray), .slice none 0 0]) ?_ 4 _ rfl; (with_reducible repeat (first | refine blk_drewN ?_ _ | refine blk_drew ?_ | refine blk_alloc ?_ _)); refine blk_put (cs := #[.string t716, .int .i64 t717, .bool t718, .int .i64 0, .int .u64 0, .float .f64 0, .string (⟨#[]⟩ : ByteArray), .slice none 0 0]) ?_ 3 _ rfl; (with_reducible repeat (first | refine blk_drewN ?_ _ | refine blk_drew ?_ | refine blk_alloc ?_ _)); refine blk_put (cs := #[.string t716, .int .i64 t717, .bool false, .int .i64 0, .int .u64 0, .float .f64 0, .string (⟨#[]⟩ : ByteArray), .slice none 0 0]) ?_ 2 _ rfl; (with_reducible repeat (first | refine blk_drewN ?_ _ | refine blk_drew ?_ | refine blk_alloc ?_ _)); refine blk_put (cs := #[.string t716, .int .i64 0, .bool false, .int .i64 0, .int .u64 0, .float .f64 0, .string (⟨#[]⟩ : ByteArray), .slice none 0 0]) ?_ 1 _ rfl; (with_reducible repeat (first | refine blk_drewN ?_ _ | refine blk_drew ?_ | refine blk_alloc ?_ _)); refine blk_put (cs := #[.string (⟨#[]⟩ : ByteArray), .int .i64 0, .bool false, .int .i64 0, .int .u64 0, .float .f64 0, .string (⟨#[]⟩ : ByteArray), .slice none 0 0]) ?_ 0 _ rfl; (with_reducible repeat (first | refine blk_drewN ?_ _ | refine blk_drew ?_ | refine blk_alloc ?_ _)); exact BK727.out) hb); have n4_ := Aside0.mk (below_step (by repeat (first | (with_reducible first | exact HB.out | apply below_alloc | apply pw_below_drewN | apply below_drew1 | refine below_set ?_ GE727.out) | exact HB.out)) hb); clear HO712; clear HO725; clear BK727; clear HB; have HO712 := n0_; have HO725 := n1_; have HO738 := n2_; have BK727 := n3_; have HB := n4_; clear n0_ n1_ n2_ n3_ n4_; (try clear hb); (try clear hb2); (try clear hk); (try clear hi); (try clear ho0)) | ((with_reducible refine gate_dst (N := 14) rfl ?_); refine box_event ?hg (N := 14) ?hd (cs := #[.string (⟨#[]⟩ : ByteArray), .int .i64 0, .bool false, .int .i64 0, .int .u64 0, .float .f64 0, .string (⟨#[]⟩ : ByteArray), .slice none 0 0]) (t := 38) ?hr ?_; (case hd => rfl); (case hg => rfl); (case hr => first | (go_simp; done) | (go_simp; rfl)); intro gb740 hg w71 hbox hb; have n0_ := Aside0.mk (Kd.V_below (Kd.V_elderB (by (with_reducible repeat (first | apply Kd.V_alloc | apply Kd.V_drewN | apply Kd.V_drew)); exact HO712.out) gb740 (Nat.le_of_eq hg.symm)) hb); have n1_ := Aside0.mk (Kd.R_below (by (with_reducible repeat (first | apply Kd.R_alloc | apply Kd.R_drewN | apply Kd.R_drew)); exact HO725.out) hb); have n2_ := Aside0.mk (Kd.V_below (Kd.V_elderB (by (with_reducible repeat (first | apply Kd.V_alloc | apply Kd.V_drewN | apply Kd.V_drew)); exact HO738.out) gb740 (Nat.le_of_eq hg.symm)) hb); have n3_ := Aside0.mk (blk_below (g := gb727) (o := .cells #[.string t716, .int .i64 t717, .bool t718, .int .i64 t719, .int .u64 t720, .float .f64 t721, .string t722, .slice Ao68 t723.length co68] 34 (0, 0)) (by (with_reducible repeat (first | refine blk_drewN ?_ _ | refine blk_drew ?_ | refine blk_alloc ?_ _)); exact BK727.out) hb); have n4_ := Aside0.mk (below_step (by repeat (first | (with_reducible first | exact HB.out | apply below_alloc | apply pw_below_drewN | apply below_drew1 | refine below_set ?_ GE727.out) | exact HB.out)) hb); have n5_ := Aside0.mk (hbox); have n6_ := Aside0.mk ((by rw [hg]; exact (below_size (by repeat (first | (with_reducible first | exact HB.out | apply below_alloc | apply pw_below_drewN | apply below_drew1 | refine below_set ?_ GE727.out) | exact HB.out))) : w.heap.size ≤ gb740)); have n7_ := Aside0.mk ((by rw [hg]; exact (below_size (by repeat (first | (with_reducible first | exact HB.out | apply below_alloc | apply pw_below_drewN | apply below_drew1 | refine below_set ?_ GE727.out) | exact HB.out))) : w.heap.size ≤ gb740)); have n8_ := Aside0.mk ((by rw [hg]; exact Nat.ne_of_lt (blk_lt (g := gb727) (o := .cells #[.string t716, .int .i64 t717, .bool t718, .int .i64 t719, .int .u64 t720, .float .f64 t721, .string t722, .slice Ao68 t723.length co68] 34 (0, 0)) (by (with_reducible repeat (first | refine blk_drewN ?_ _ | refine blk_drew ?_ | refine blk_alloc ?_ _)); exact BK727.out)) : gb727 ≠ gb740)); have n9_ := Aside0.mk ((by rw [hg]; exact Nat.ne_of_gt (blk_lt (g := gb727) (o := .cells #[.string t716, .int .i64 t717, .bool t718, .int .i64 t719, .int .u64 t720, .float .f64 t721, .string t722, .slice Ao68 t723.length co68] 34 (0, 0)) (by (with_reducible repeat (first | refine blk_drewN ?_ _ | refine blk_drew ?_ | refine blk_alloc ?_ _)); exact BK727.out)) : gb740 ≠ gb727)); clear HO712; clear HO725; clear HO738; clear BK727; clear HB; have HO712 := n0_; have HO725 := n1_; have HO738 := n2_; have BK727 := n3_; have HB := n4_; have BK740 := n5_; have GW740 := n6_; have GE740 := n7_; have NB727_740 := n8_; have NB740_727 := n9_; clear n0_ n1_ n2_ n3_ n4_ n5_ n6_ n7_ n8_ n9_; clear hb hbox hg; have hnb72 := NB740_727.out; have hnc72 := NB727_740.out; have hcz73_0 : w71.cell? ⟨gb740, 0, none⟩ = some (.string (⟨#[]⟩ : ByteArray)) := (blk_cell BK740.out 0).trans rfl; have hcz73_1 : w71.cell? ⟨gb740, 1, none⟩ = some (.int .i64 0) := (blk_cell BK740.out 1).trans rfl; have hcz73_2 : w71.cell? ⟨gb740, 2, none⟩ = some (.bool false) := (blk_cell BK740.out 2).trans rfl; have hcz73_3 : w71.cell? ⟨gb740, 3, none⟩ = some (.int .i64 0) := (blk_cell BK740.out 3).trans rfl; have hcz73_4 : w71.cell? ⟨gb740, 4, none⟩ = some (.int .u64 0) := (blk_cell BK740.out 4).trans rfl; have hcz73_5 : w71.cell? ⟨gb740, 5, none⟩ = some (.float .f64 0) := (blk_cell BK740.out 5).trans rfl; have hcz73_6 : w71.cell? ⟨gb740, 6, none⟩ = some (.string (⟨#[]⟩ : ByteArray)) := (blk_cell BK740.out 6).trans rfl; have hcz73_7 : w71.cell? ⟨gb740, 7, none⟩ = some (.slice none 0 0) := (blk_cell BK740.out 7).trans rfl; have hfz73_0 := blk_frozen BK740.out 0; have hfz73_1 := blk_frozen BK740.out 1; have hfz73_2 := blk_frozen BK740.out 2; have hfz73_3 := blk_frozen BK740.out 3; have hfz73_4 := blk_frozen BK740.out 4; have hfz73_5 := blk_frozen BK740.out 5; have hfz73_6 := blk_frozen BK740.out 6; have hfz73_7 := blk_frozen BK740.out 7; obtain ⟨Ao74, co74, eo74⟩ := Kd.V_slice HO738.out; subst eo74))
         have n0_ : Aside0 (Kd.V k48 48 ((((((((w71.setCell ⟨gb740, 0, none⟩ (.string t729)).setCell ⟨gb740, 1, none⟩ (.int .i64 t730)).setCell ⟨gb740, 2, none⟩ (.bool t731)).setCell ⟨gb740, 3, none⟩ (.int .i64 t732)).setCell ⟨gb740, 4, none⟩ (.int .u64 t733)).setCell ⟨gb740, 5, none⟩ (.float .f64 t734)).setCell ⟨gb740, 6, none⟩ (.string t735)).setCell ⟨gb740, 7, none⟩ (.slice Ao74 t736.length co74)) w.heap.size (fun k_ => some k_ ≠ (.slice Ao68 t723.length co68 : Value).ownBlock ∧ k_ ≠ gb727 ∧ k_ ≠ gb740) (.slice Ao69 t710.length co69) t710) := ⟨by (with_reducible repeat (first | apply Kd.V_alloc | apply Kd.V_drewN | apply Kd.V_drew)); exact Kd.V_mono (Kd.V_far (p := ⟨gb740, 7, none⟩) (Kd.V_far (p := ⟨gb740, 6, none⟩) (Kd.V_far (p := ⟨gb740, 5, none⟩) (Kd.V_far (p := ⟨gb740, 4, none⟩) (Kd.V_far (p := ⟨gb740, 3, none⟩) (Kd.V_far (p := ⟨gb740, 2, none⟩) (Kd.V_far (p := ⟨gb740, 1, none⟩) (Kd.V_far (p := ⟨gb740, 0, none⟩) (Kd.V_mono HO712.out (fun k_ hk => (⟨hk, hk.2⟩ : _ ∧ k_ ≠ gb740))) (fun _ hk => hk.2) (.string t729)) (fun _ hk => hk.2) (.int .i64 t730)) (fun _ hk => hk.2) (.bool t731)) (fun _ hk => hk.2) (.int .i64 t732)) (fun _ hk => hk.2) (.int .u64 t733)) (fun _ hk => hk.2) (.float .f64 t734)) (fun _ hk => hk.2) (.string t735)) (fun _ hk => hk.2) (.slice Ao74 t736.length co74)) (fun _ hk => ⟨hk.1.1.1.2, ⟨hk.1.1.2, hk.1.2⟩⟩)⟩
         have n1_ : Aside0 (Kd.R k34 34 ((((((((w71.setCell ⟨gb740, 0, none⟩ (.string t729)).setCell ⟨gb740, 1, none⟩ (.int .i64 t730)).setCell ⟨gb740, 2, none⟩ (.bool t731)).setCell ⟨gb740, 3, none⟩ (.int .i64 t732)).setCell ⟨gb740, 4, none⟩ (.int .u64 t733)).setCell ⟨gb740, 5, none⟩ (.float .f64 t734)).setCell ⟨gb740, 6, none⟩ (.string t735)).setCell ⟨gb740, 7, none⟩ (.slice Ao74 t736.length co74)) w.heap.size (fun k_ => k_ ≠ gb727) (.slice Ao68 t723.length co68) t723) := ⟨by (with_reducible repeat (first | apply Kd.R_alloc | apply Kd.R_drewN | apply Kd.R_drew)); exact Kd.R_mono (Kd.R_far (p := ⟨gb740, 7, none⟩) (Kd.R_far (p := ⟨gb740, 6, none⟩) (Kd.R_far (p := ⟨gb740, 5, none⟩) (Kd.R_far (p := ⟨gb740, 4, none⟩) (Kd.R_far (p := ⟨gb740, 3, none⟩) (Kd.R_far (p := ⟨gb740, 2, none⟩) (Kd.R_far (p := ⟨gb740, 1, none⟩) (Kd.R_far (p := ⟨gb740, 0, none⟩) (Kd.R_types HO725.out BK740.out (by decide)) (fun _ hk => hk.2) (.string t729)) (fun _ hk => hk.2) (.int .i64 t730)) (fun _ hk => hk.2) (.bool t731)) (fun _ hk => hk.2) (.int .i64 t732)) (fun _ hk => hk.2) (.int .u64 t733)) (fun _ hk => hk.2) (.float .f64 t734)) (fun _ hk => hk.2) (.string t735)) (fun _ hk => hk.2) (.slice Ao74 t736.length co74)) (fun _ hk => hk.1.2)⟩
         have n2_ : Aside0 (Kd.V k38 38 ((((((((w71.setCell ⟨gb740, 0, none⟩ (.string t729)).setCell ⟨gb740, 1, none⟩ (.int .i64 t730)).setCell ⟨gb740, 2, none⟩ (.bool t731)).setCell ⟨gb740, 3, none⟩ (.int .i64 t732)).setCell ⟨gb740, 4, none⟩ (.int .u64 t733)).setCell ⟨gb740, 5, none⟩ (.float .f64 t734)).setCell ⟨gb740, 6, none⟩ (.string t735)).setCell ⟨gb740, 7, none⟩ (.slice Ao74 t736.length co74)) w.heap.size (fun k_ => some k_ ≠ (.slice Ao68 t723.length co68 : Value).ownBlock ∧ k_ ≠ gb727 ∧ k_ ≠ gb740) (.slice Ao74 t736.length co74) t736) := ⟨by (with_reducible repeat (first | apply Kd.V_alloc | apply Kd.V_drewN | apply Kd.V_drew)); exact Kd.V_mono (Kd.V_far (p := ⟨gb740, 7, none⟩) (Kd.V_far (p := ⟨gb740, 6, none⟩) (Kd.V_far (p := ⟨gb740, 5, none⟩) (Kd.V_far (p := ⟨gb740, 4, none⟩) (Kd.V_far (p := ⟨gb740, 3, none⟩) (Kd.V_far (p := ⟨gb740, 2, none⟩) (Kd.V_far (p := ⟨gb740, 1, none⟩) (Kd.V_far (p := ⟨gb740, 0, none⟩) (Kd.V_mono HO738.out (fun k_ hk => (⟨hk, hk.2⟩ : _ ∧ k_ ≠ gb740))) (fun _ hk => hk.2) (.string t729)) (fun _ hk => hk.2) (.int .i64 t730)) (fun _ hk => hk.2) (.bool t731)) (fun _ hk => hk.2) (.int .i64 t732)) (fun _ hk => hk.2) (.int .u64 t733)) (fun _ hk => hk.2) (.float .f64 t734)) (fun _ hk => hk.2) (.string t735)) (fun _ hk => hk.2) (.slice Ao74 t736.length co74)) (fun _ hk => ⟨hk.1.1.1, ⟨hk.1.1.2, hk.1.2⟩⟩)⟩
         have n3_ : Aside0 (((((((((w71.setCell ⟨gb740, 0, none⟩ (.string t729)).setCell ⟨gb740, 1, none⟩ (.int .i64 t730)).setCell ⟨gb740, 2, none⟩ (.bool t731)).setCell ⟨gb740, 3, none⟩ (.int .i64 t732)).setCell ⟨gb740, 4, none⟩ (.int .u64 t733)).setCell ⟨gb740, 5, none⟩ (.float .f64 t734)).setCell ⟨gb740, 6, none⟩ (.string t735)).setCell ⟨gb740, 7, none⟩ (.slice Ao74 t736.length co74)).heap[gb727]? = some (.cells #[.string t716, .int .i64 t717, .bool t718, .int .i64 t719, .int .u64 t720, .float .f64 t721, .string t722, .slice Ao68 t723.length co68] 34 (0, 0))) := ⟨by (with_reducible repeat (first | refine blk_drewN ?_ _ | refine blk_drew ?_ | refine blk_alloc ?_ _)); refine blk_far ?_ NB727_740.out _; (with_reducible repeat (first | refine blk_drewN ?_ _ | refine blk_drew ?_ | refine blk_alloc ?_ _)); refine blk_far ?_ NB727_740.out _; (with_reducible repeat (first | refine blk_drewN ?_ _ | refine blk_drew ?_ | refine blk_alloc ?_ _)); refine blk_far ?_ NB727_740.out _; (with_reducible repeat (first | refine blk_drewN ?_ _ | refine blk_drew ?_ | refine blk_alloc ?_ _)); refine blk_far ?_ NB727_740.out _; (with_reducible repeat (first | refine blk_drewN ?_ _ | refine blk_drew ?_ | refine blk_alloc ?_ _)); refine blk_far ?_ NB727_740.out _; (with_reducible repeat (first | refine blk_drewN ?_ _ | refine blk_drew ?_ | refine blk_alloc ?_ _)); refine blk_far ?_ NB727_740.out _; (with_reducible repeat (first | refine blk_drewN ?_ _ | refine blk_drew ?_ | refine blk_alloc ?_ _)); refine blk_far ?_ NB727_740.out _; (with_reducible repeat (first | refine blk_drewN ?_ _ | refine blk_drew ?_ | refine blk_alloc ?_ _)); refine blk_far ?_ NB727_740.out _; (with_reducible repeat (first | refine blk_drewN ?_ _ | refine blk_drew ?_ | refine blk_alloc ?_ _)); exact BK727.out⟩
         have n4_ : Aside0 (((((((((w71.setCell ⟨gb740, 0, none⟩ (.string t729)).setCell ⟨gb740, 1, none⟩ (.int .i64 t730)).setCell ⟨gb740, 2, none⟩ (.bool t731)).setCell ⟨gb740, 3, none⟩ (.int .i64 t732)).setCell ⟨gb740, 4, none⟩ (.int .u64 t733)).setCell ⟨gb740, 5, none⟩ (.float .f64 t734)).setCell ⟨gb740, 6, none⟩ (.string t735)).setCell ⟨gb740, 7, none⟩ (.slice Ao74 t736.length co74)).heap[gb740]? = some (.cells #[.string t729, .int .i64 t730, .bool t731, .int .i64 t732, .int .u64 t733, .float .f64 t734, .string t735, .slice Ao74 t736.length co74] 38 (0, 0))) := ⟨by (with_reducible repeat (first | refine blk_drewN ?_ _ | refine blk_drew ?_ | refine blk_alloc ?_ _)); refine blk_put (cs := #[.string t729, .int .i64 t730, .bool t731, .int .i64 t732, .int .u64 t733, .float .f64 t734, .string t735, .slice none 0 0]) ?_ 7 _ rfl; (with_reducible repeat (first | refine blk_drewN ?_ _ | refine blk_drew ?_ | refine blk_alloc ?_ _)); refine blk_put (cs := #[.string t729, .int .i64 t730, .bool t731, .int .i64 t732, .int .u64 t733, .float .f64 t734, .string (⟨#[]⟩ : ByteArray), .slice none 0 0]) ?_ 6 _ rfl; (with_reducible repeat (first | refine blk_drewN ?_ _ | refine blk_drew ?_ | refine blk_alloc ?_ _)); refine blk_put (cs := #[.string t729, .int .i64 t730, .bool t731, .int .i64 t732, .int .u64 t733, .float .f64 0, .string (⟨#[]⟩ : ByteArray), .slice none 0 0]) ?_ 5 _ rfl; (with_reducible repeat (first | refine blk_drewN ?_ _ | refine blk_drew ?_ | refine blk_alloc ?_ _)); refine blk_put (cs := #[.string t729, .int .i64 t730, .bool t731, .int .i64 t732, .int .u64 0, .float .f64 0, .string (⟨#[]⟩ : ByteArray), .slice none 0 0]) ?_ 4 _ rfl; (with_reducible repeat (first | refine blk_drewN ?_ _ | refine blk_drew ?_ | refine blk_alloc ?_ _)); refine blk_put (cs := #[.string t729, .int .i64 t730, .bool t731, .int .i64 0, .int .u64 0, .float .f64 0, .string (⟨#[]⟩ : ByteArray), .slice none 0 0]) ?_ 3 _ rfl; (with_reducible repeat (first | refine blk_drewN ?_ _ | refine blk_drew ?_ | refine blk_alloc ?_ _)); refine blk_put (cs := #[.string t729, .int .i64 t730, .bool false, .int .i64 0, .int .u64 0, .float .f64 0, .string (⟨#[]⟩ : ByteArray), .slice none 0 0]) ?_ 2 _ rfl; (with_reducible repeat (first | refine blk_drewN ?_ _ | refine blk_drew ?_ | refine blk_alloc ?_ _)); refine blk_put (cs := #[.string t729, .int .i64 0, .bool false, .int .i64 0, .int .u64 0, .float .f64 0, .string (⟨#[]⟩ : ByteArray), .slice none 0 0]) ?_ 1 _ rfl; (with_reducible repeat (first | refine blk_drewN ?_ _ | refine blk_drew ?_ | refine blk_alloc ?_ _)); refine blk_put (cs := #[.string (⟨#[]⟩ : ByteArray), .int .i64 0, .bool false, .int .i64 0, .int .u64 0, .float .f64 0, .string (⟨#[]⟩ : ByteArray), .slice none 0 0]) ?_ 0 _ rfl; (with_reducible repeat (first | refine blk_drewN ?_ _ | refine blk_drew ?_ | refine blk_alloc ?_ _)); exact BK740.out⟩
         have n5_ : Aside0 (Below w.heap.size w ((((((((w71.setCell ⟨gb740, 0, none⟩ (.string t729)).setCell ⟨gb740, 1, none⟩ (.int .i64 t730)).setCell ⟨gb740, 2, none⟩ (.bool t731)).setCell ⟨gb740, 3, none⟩ (.int .i64 t732)).setCell ⟨gb740, 4, none⟩ (.int .u64 t733)).setCell ⟨gb740, 5, none⟩ (.float .f64 t734)).setCell ⟨gb740, 6, none⟩ (.string t735)).setCell ⟨gb740, 7, none⟩ (.slice Ao74 t736.length co74))) := ⟨by repeat (first | (with_reducible first | exact HB.out | apply below_alloc | apply pw_below_drewN | apply below_drew1 | refine below_set ?_ GE727.out | refine below_set ?_ GE740.out) | exact HB.out)⟩
         (try clear HO712)
         (try clear HO725)
         (try clear HO738)
         (try clear BK727)
         (try clear BK740)
         (try clear HB)
         generalize ((((((((w71.setCell ⟨gb740, 0, none⟩ (.string t729)).setCell ⟨gb740, 1, none⟩ (.int .i64 t730)).setCell ⟨gb740, 2, none⟩ (.bool t731)).setCell ⟨gb740, 3, none⟩ (.int .i64 t732)).setCell ⟨gb740, 4, none⟩ (.int .u64 t733)).setCell ⟨gb740, 5, none⟩ (.float .f64 t734)).setCell ⟨gb740, 6, none⟩ (.string t735)).setCell ⟨gb740, 7, none⟩ (.slice Ao74 t736.length co74)) = w75 at n0_ n1_ n2_ n3_ n4_ n5_ ⊢
         have HO712 := n0_
         have HO725 := n1_
         have HO738 := n2_
         have BK727 := n3_
         have BK740 := n4_
         have HB := n5_
         clear n0_ n1_ n2_ n3_ n4_ n5_
         have n0_ := Aside0.mk (Kd.V_drew HO712.out)
         have n1_ := Aside0.mk (Kd.R_drew HO725.out)
         have n2_ := Aside0.mk (Kd.V_drew HO738.out)
         have n3_ := Aside0.mk (blk_drew BK727.out)
         have n4_ := Aside0.mk (blk_drew BK740.out)
         have n5_ := Aside0.mk (below_drew1 HB.out)
         clear HO712
         clear HO725
         clear HO738
         clear BK727
         clear BK740
         clear HB
         have HO712 := n0_
         have HO725 := n1_
         have HO738 := n2_
         have BK727 := n3_
         have BK740 := n4_
         have HB := n5_
         clear n0_ n1_ n2_ n3_ n4_ n5_
         refine start_ (n := 16) (S := fun w' => True) (ds := []) #[false, false, false, false, false, false, false, false, false, false, false, false, false, false, false, false] (by kernel_rfl) rfl rfl trivial (fun hHeld => ?_); refine with_tabW laws_read_16_17_18.tab10 laws_read_16_17_18.bits10 (fun HT_ HW_ => ?_)
         generalize w75.drew = w76 at HO712 HO725 HO738 BK727 BK740 HB hHeld ⊢
         refine pure_ (i := 0) (N := some 47) (v := ?_) (a' := ?_) #[true, false, false, false, false, false, false, false, false, false, false, false, false, false, false, false] rfl rfl (any_of HT_.out (by kernel_rfl)) (fun _ _ _ h => h) (Or.inl ⟨by rfl, ?_⟩) ?_ ?_
         rotate_left
         · intro w'
           go_simp
           with_reducible rfl
         rotate_left
         · simp only [Act.put, List.setIfInBounds_toArray, List.set_cons_zero, List.set_cons_succ, i64_w, i32_w]
           rfl
         refine pure_ (i := 1) (N := some 48) (v := ?_) (a' := ?_) #[true, true, false, false, false, false, false, false, false, false, false, false, false, false, false, false] rfl rfl (any_of HT_.out (by kernel_rfl)) (fun _ _ _ h => h) (Or.inl ⟨by rfl, ?_⟩) ?_ ?_
         rotate_left
         · intro w'
           go_simp
           with_reducible rfl
         rotate_left
         · simp only [Act.put, List.setIfInBounds_toArray, List.set_cons_zero, List.set_cons_succ, i64_w, i32_w]
           rfl
         refine pure_ (i := 2) (N := some 49) (v := ?_) (a' := ?_) #[true, true, true, false, false, false, false, false, false, false, false, false, false, false, false, false] rfl rfl (any_of HT_.out (by kernel_rfl)) (fun _ _ _ h => h) (Or.inl ⟨by rfl, ?_⟩) ?_ ?_
         rotate_left
         · intro w'
           go_simp
           with_reducible rfl
         rotate_left
         · simp only [Act.put, List.setIfInBounds_toArray, List.set_cons_zero, List.set_cons_succ, i64_w, i32_w]
           rfl
         refine pure_ (i := 3) (N := some 50) (v := undef) (a' := ?_) #[true, true, true, true, false, false, false, false, false, false, false, false, false, false, false, false] rfl rfl (any_of HT_.out (by kernel_rfl)) (fun _ _ _ h => h) (Or.inr ⟨by rfl, rfl⟩) ?_ ?_
         rotate_left
         · simp only [Act.put, List.setIfInBounds_toArray, List.set_cons_zero, List.set_cons_succ, i64_w, i32_w]
           rfl
         refine pure_ (i := 4) (N := some 51) (v := undef) (a' := ?_) #[true, true, true, true, true, false, false, false, false, false, false, false, false, false, false, false] rfl rfl (any_of HT_.out (by kernel_rfl)) (fun _ _ _ h => h) (Or.inr ⟨by rfl, rfl⟩) ?_ ?_
         rotate_left
         · simp only [Act.put, List.setIfInBounds_toArray, List.set_cons_zero, List.set_cons_succ, i64_w, i32_w]
           rfl
         refine pure_ (i := 5) (N := some 52) (v := undef) (a' := ?_) #[true, true, true, true, true, true, false, false, false, false, false, false, false, false, false, false] rfl rfl (any_of HT_.out (by kernel_rfl)) (fun _ _ _ h => h) (Or.inr ⟨by rfl, rfl⟩) ?_ ?_
         rotate_left
         · simp only [Act.put, List.setIfInBounds_toArray, List.set_cons_zero, List.set_cons_succ, i64_w, i32_w]
           rfl
         refine pure_ (i := 6) (N := some 53) (v := undef) (a' := ?_) #[true, true, true, true, true, true, true, false, false, false, false, false, false, false, false, false] rfl rfl (any_of HT_.out (by kernel_rfl)) (fun _ _ _ h => h) (Or.inr ⟨by rfl, rfl⟩) ?_ ?_
         rotate_left
         · simp only [Act.put, List.setIfInBounds_toArray, List.set_cons_zero, List.set_cons_succ, i64_w, i32_w]
           rfl
         refine pure_ (i := 7) (N := some 54) (v := undef) (a' := ?_) #[true, true, true, true, true, true, true, true, false, false, false, false, false, false, false, false] rfl rfl (any_of HT_.out (by kernel_rfl)) (fun _ _ _ h => h) (Or.inr ⟨by rfl, rfl⟩) ?_ ?_
         rotate_left
         · simp only [Act.put, List.setIfInBounds_toArray, List.set_cons_zero, List.set_cons_succ, i64_w, i32_w]
           rfl
         refine pure_ (i := 8) (N := some 55) (v := undef) (a' := ?_) #[true, true, true, true, true, true, true, true, true, false, false, false, false, false, false, false] rfl rfl (any_of HT_.out (by kernel_rfl)) (fun _ _ _ h => h) (Or.inr ⟨by rfl, rfl⟩) ?_ ?_
         rotate_left
         · simp only [Act.put, List.setIfInBounds_toArray, List.set_cons_zero, List.set_cons_succ, i64_w, i32_w]
           rfl
         refine pure_ (i := 9) (N := some 56) (v := undef) (a' := ?_) #[true, true, true, true, true, true, true, true, true, true, false, false, false, false, false, false] rfl rfl (any_of HT_.out (by kernel_rfl)) (fun _ _ _ h => h) (Or.inr ⟨by rfl, rfl⟩) ?_ ?_
         rotate_left
         · simp only [Act.put, List.setIfInBounds_toArray, List.set_cons_zero, List.set_cons_succ, i64_w, i32_w]
           rfl
         refine pure_ (i := 10) (N := some 57) (v := undef) (a' := ?_) #[true, true, true, true, true, true, true, true, true, true, true, false, false, false, false, false] rfl rfl (any_of HT_.out (by kernel_rfl)) (fun _ _ _ h => h) (Or.inr ⟨by rfl, rfl⟩) ?_ ?_
         rotate_left
         · simp only [Act.put, List.setIfInBounds_toArray, List.set_cons_zero, List.set_cons_succ, i64_w, i32_w]
           rfl
         refine pure_ (i := 11) (N := some 58) (v := ?_) (a' := ?_) #[true, true, true, true, true, true, true, true, true, true, true, true, false, false, false, false] rfl rfl (any_of HT_.out (by kernel_rfl)) (fun _ _ _ h => h) (Or.inl ⟨by rfl, ?_⟩) ?_ ?_
         rotate_left
         · intro w'
           go_simp
           with_reducible rfl
         rotate_left
         · simp only [Act.put, List.setIfInBounds_toArray, List.set_cons_zero, List.set_cons_succ, i64_w, i32_w]
           rfl
         refine pure_ (i := 12) (N := some 59) (v := ?_) (a' := ?_) #[true, true, true, true, true, true, true, true, true, true, true, true, true, false, false, false] rfl rfl (any_of HT_.out (by kernel_rfl)) (fun _ _ _ h => h) (Or.inl ⟨by rfl, ?_⟩) ?_ ?_
         rotate_left
         · intro w'
           go_simp
           with_reducible rfl
         rotate_left
         · simp only [Act.put, List.setIfInBounds_toArray, List.set_cons_zero, List.set_cons_succ, i64_w, i32_w]
           rfl
         refine one_ (i := 13) (N := some 60) #[true, true, true, true, true, true, true, true, true, true, true, true, true, true, false, false] rfl rfl (one_of HT_.out (by kernel_rfl)) (by decide) (fun K hK => ?_)
         refine goes_ Tryz.func28 (by kernel_rfl) rfl #[] (by rfl) rfl rfl (by (try simp only [List.map_toArray, List.map_cons, List.map_nil]); first | done | rfl | (simp only [List.length_drop, List.length_take]; rfl)) ?_
         with_reducible refine (laws_lives.calls  t753 _ A63.out).mono ?_
         rintro e w77 ⟨rfl, hb⟩
         refine ⟨_, rfl, ?_⟩
         have n0_ := Aside0.mk (Kd.V_below (by (with_reducible repeat (first | apply Kd.V_alloc | apply Kd.V_drewN | apply Kd.V_drew)); exact HO712.out) hb)
         have n1_ := Aside0.mk (Kd.R_below (by (with_reducible repeat (first | apply Kd.R_alloc | apply Kd.R_drewN | apply Kd.R_drew)); exact HO725.out) hb)
         have n2_ := Aside0.mk (Kd.V_below (by (with_reducible repeat (first | apply Kd.V_alloc | apply Kd.V_drewN | apply Kd.V_drew)); exact HO738.out) hb)
         have n3_ := Aside0.mk (blk_below (g := gb727) (o := .cells #[.string t716, .int .i64 t717, .bool t718, .int .i64 t719, .int .u64 t720, .float .f64 t721, .string t722, .slice Ao68 t723.length co68] 34 (0, 0)) (by (with_reducible repeat (first | refine blk_drewN ?_ _ | refine blk_drew ?_ | refine blk_alloc ?_ _)); exact BK727.out) hb)
         have n4_ := Aside0.mk (blk_below (g := gb740) (o := .cells #[.string t729, .int .i64 t730, .bool t731, .int .i64 t732, .int .u64 t733, .float .f64 t734, .string t735, .slice Ao74 t736.length co74] 38 (0, 0)) (by (with_reducible repeat (first | refine blk_drewN ?_ _ | refine blk_drew ?_ | refine blk_alloc ?_ _)); exact BK740.out) hb)
         have n5_ := Aside0.mk (below_step (by repeat (first | (with_reducible first | exact HB.out | apply below_alloc | apply pw_below_drewN | apply below_drew1 | refine below_set ?_ GE727.out | refine below_set ?_ GE740.out) | exact HB.out)) hb)
         clear HO712
         clear HO725
         clear HO738
         clear BK727
         clear BK740
         clear HB
         have HO712 := n0_
         have HO725 := n1_
         have HO738 := n2_
         have BK727 := n3_
         have BK740 := n4_
         have HB := n5_
         clear n0_ n1_ n2_ n3_ n4_ n5_
         (try clear hb)
         (try clear hb2)
         (try clear hk)
         (try clear hi)
         refine hK.out _ _ trivial (fun hHeld => ?_)
         clear hK K
         refine norm_ (a' := ?_) ?_ ?_
         rotate_left
         · show Act.put _ (some 60) _ = _
           simp only [Act.put, List.setIfInBounds_toArray, List.set_cons_zero, List.set_cons_succ, i64_w, i32_w]
           rfl
         refine pure_ (i := 14) (N := some 61) (v := ?_) (a' := ?_) #[true, true, true, true, true, true, true, true, true, true, true, true, true, true, true, false] rfl rfl (any_of HT_.out (by kernel_rfl)) (fun _ _ _ h => h) (Or.inl ⟨by rfl, ?_⟩) ?_ ?_
         rotate_left
         · intro w'
           go_simp
           with_reducible rfl
         rotate_left
         · simp only [Act.put, List.setIfInBounds_toArray, List.set_cons_zero, List.set_cons_succ, i64_w, i32_w]
           rfl
         refine pure_ (i := 15) (N := some 8) (v := ?_) (a' := ?_) #[true, true, true, true, true, true, true, true, true, true, true, true, true, true, true, true] rfl rfl (any_of HT_.out (by kernel_rfl)) (fun _ _ _ h => h) (Or.inl ⟨by rfl, ?_⟩) ?_ ?_
         rotate_left
         · intro w'
           go_simp
           with_reducible rfl
         rotate_left
         · simp only [Act.put, List.setIfInBounds_toArray, List.set_cons_zero, List.set_cons_succ, i64_w, i32_w]
           rfl
         refine done_ (done_of HT_.out (by kernel_rfl)) ?_
         try go_wp2
         go_ret
         exact ⟨by first | rfl | (simp [errW_none, errW_some] <;> rfl) | (simp [*, errW_none, errW_some] <;> rfl), by repeat (first | (with_reducible first | exact HB.out | apply below_alloc | apply pw_below_drewN | apply below_drew1 | refine below_set ?_ GE727.out | refine below_set ?_ GE740.out) | exact HB.out)⟩
     · replace c9 := Bool.eq_false_iff.mpr c9
       subst c9
       have H1 : (if t726 = 1 then ((laws_lives.f).bind fun t728 => (some t728)) else (some false)) = some r := by rw [if_neg (show ¬ (false = true) by decide)] at H; exact H
       clear H
       have H := H1
       clear H1
       by_cases c78 : t726 = 1
       · rw [if_pos c78] at H
         have c78b0 : (t726 == 1) = true := beq_iff_eq.mpr c78
         have c78b1 : (t726 != 1) = false := bne_eq_false_iff_eq.mpr c78
         clear c78
         replace H := Option.bind_eq_some_iff.mp H
         obtain ⟨t728, A790, H⟩ := H
         replace H : (some t728) = some r := H
         have A79 := Aside0.mk A790
         clear A790
         obtain rfl := Option.some.inj H
         go_enter Tryz.func9, Tryz.ntmps9
         go_wp2_with (first | (go_at_call 16; (with_reducible refine (spec_StatmRead.calls k a0 t710 false t714 _ A6.out).mono ?_); rintro e w80 ⟨v711, rfl, ho0, hb⟩; have n0_ := Aside0.mk (Kd.V_lower (Kd.V_mono (ok' := fun k_ => True) ho0 (fun k_ hk_ => trivial)) (below_size (by repeat (first | (with_reducible first | exact HB.out | apply below_alloc | apply pw_below_drewN | apply below_drew1) | exact HB.out)))); have n1_ := Aside0.mk (below_step (by repeat (first | (with_reducible first | exact HB.out | apply below_alloc | apply pw_below_drewN | apply below_drew1) | exact HB.out)) hb); clear HB; have HO712 := n0_; have HB := n1_; clear n0_ n1_; (try clear hb); (try clear hb2); (try clear hk); (try clear hi); (try clear ho0)) | (go_at_call 18; (with_reducible refine (impl_Statm.calls k a0 t716 t717 t718 t719 t720 t721 t722 t723 t726 _ A8.out).mono ?_); rintro e w81 ⟨v724, rfl, ho0, hb⟩; have n0_ := Aside0.mk (Kd.V_elder' (by (with_reducible repeat (first | apply Kd.V_alloc | apply Kd.V_drewN | apply Kd.V_drew)); exact HO712.out) (Kd.R_base ho0) hb); have n1_ := Aside0.mk (Kd.R_lower ho0 (below_size (by repeat (first | (with_reducible first | exact HB.out | apply below_alloc | apply pw_below_drewN | apply below_drew1) | exact HB.out)))); have n2_ := Aside0.mk (below_step (by repeat (first | (with_reducible first | exact HB.out | apply below_alloc | apply pw_below_drewN | apply below_drew1) | exact HB.out)) hb); clear HO712; clear HB; have HO712 := n0_; have HO725 := n1_; have HB := n2_; clear n0_ n1_ n2_; (try clear hb); (try clear hb2); (try clear hk); (try clear hi); (try clear ho0)) | ((with_reducible refine gate_dst (N := 12) rfl ?_); refine box_event ?hg (N := 12) ?hd (cs := #[.string (⟨#[]⟩ : ByteArray), .int .i64 0, .bool false, .int .i64 0, .int .u64 0, .float .f64 0, .string (⟨#[]⟩ : ByteArray), .slice none 0 0]) (t := 34) ?hr ?_; (case hd => rfl); (case hg => rfl); (case hr => first | (go_simp; done) | (go_simp; rfl)); intro gb727 hg w82 hbox hb; have n0_ := Aside0.mk (Kd.V_below (Kd.V_elderB (by (with_reducible repeat (first | apply Kd.V_alloc | apply Kd.V_drewN | apply Kd.V_drew)); exact HO712.out) gb727 (Nat.le_of_eq hg.symm)) hb); have n1_ := Aside0.mk (Kd.R_below (Kd.R_elderB (by (with_reducible repeat (first | apply Kd.R_alloc | apply Kd.R_drewN | apply Kd.R_drew)); exact HO725.out) gb727 (Nat.le_of_eq hg.symm)) hb); have n2_ := Aside0.mk (below_step (by repeat (first | (with_reducible first | exact HB.out | apply below_alloc | apply pw_below_drewN | apply below_drew1) | exact HB.out)) hb); have n3_ := Aside0.mk (hbox); have n4_ := Aside0.mk ((by rw [hg]; exact (below_size (by repeat (first | (with_reducible first | exact HB.out | apply below_alloc | apply pw_below_drewN | apply below_drew1) | exact HB.out))) : w.heap.size ≤ gb727)); have n5_ := Aside0.mk ((by rw [hg]; exact (below_size (by repeat (first | (with_reducible first | exact HB.out | apply below_alloc | apply pw_below_drewN | apply below_drew1) | exact HB.out))) : w.heap.size ≤ gb727)); clear HO712; clear HO725; clear HB; have HO712 := n0_; have HO725 := n1_; have HB := n2_; have BK727 := n3_; have GW727 := n4_; have GE727 := n5_; clear n0_ n1_ n2_ n3_ n4_ n5_; clear hb hbox hg; have hcz83_0 : w82.cell? ⟨gb727, 0, none⟩ = some (.string (⟨#[]⟩ : ByteArray)) := (blk_cell BK727.out 0).trans rfl; have hcz83_1 : w82.cell? ⟨gb727, 1, none⟩ = some (.int .i64 0) := (blk_cell BK727.out 1).trans rfl; have hcz83_2 : w82.cell? ⟨gb727, 2, none⟩ = some (.bool false) := (blk_cell BK727.out 2).trans rfl; have hcz83_3 : w82.cell? ⟨gb727, 3, none⟩ = some (.int .i64 0) := (blk_cell BK727.out 3).trans rfl; have hcz83_4 : w82.cell? ⟨gb727, 4, none⟩ = some (.int .u64 0) := (blk_cell BK727.out 4).trans rfl; have hcz83_5 : w82.cell? ⟨gb727, 5, none⟩ = some (.float .f64 0) := (blk_cell BK727.out 5).trans rfl; have hcz83_6 : w82.cell? ⟨gb727, 6, none⟩ = some (.string (⟨#[]⟩ : ByteArray)) := (blk_cell BK727.out 6).trans rfl; have hcz83_7 : w82.cell? ⟨gb727, 7, none⟩ = some (.slice none 0 0) := (blk_cell BK727.out 7).trans rfl; have hfz83_0 := blk_frozen BK727.out 0; have hfz83_1 := blk_frozen BK727.out 1; have hfz83_2 := blk_frozen BK727.out 2; have hfz83_3 := blk_frozen BK727.out 3; have hfz83_4 := blk_frozen BK727.out 4; have hfz83_5 := blk_frozen BK727.out 5; have hfz83_6 := blk_frozen BK727.out 6; have hfz83_7 := blk_frozen BK727.out 7; obtain ⟨Ao84, co84, eo84⟩ := Kd.R_slice HO725.out; subst eo84) | (go_at_call 28; (with_reducible refine (laws_lives.calls  t728 _ A79.out).mono ?_); rintro e w85 ⟨rfl, hb⟩; have n0_ := Aside0.mk (Kd.V_below (by (with_reducible repeat (first | apply Kd.V_alloc | apply Kd.V_drewN | apply Kd.V_drew)); exact (Kd.V_mono (Kd.V_far (p := ⟨gb727, 7, none⟩) (Kd.V_far (p := ⟨gb727, 6, none⟩) (Kd.V_far (p := ⟨gb727, 5, none⟩) (Kd.V_far (p := ⟨gb727, 4, none⟩) (Kd.V_far (p := ⟨gb727, 3, none⟩) (Kd.V_far (p := ⟨gb727, 2, none⟩) (Kd.V_far (p := ⟨gb727, 1, none⟩) (Kd.V_far (p := ⟨gb727, 0, none⟩) (Kd.V_mono HO712.out (fun k_ hk => (⟨hk, hk.2⟩ : _ ∧ k_ ≠ gb727))) (fun _ hk => hk.2) (.string t716)) (fun _ hk => hk.2) (.int .i64 t717)) (fun _ hk => hk.2) (.bool t718)) (fun _ hk => hk.2) (.int .i64 t719)) (fun _ hk => hk.2) (.int .u64 t720)) (fun _ hk => hk.2) (.float .f64 t721)) (fun _ hk => hk.2) (.string t722)) (fun _ hk => hk.2) (.slice Ao84 t723.length co84)) (fun _ h_ => h_.1))) hb); have n1_ := Aside0.mk (Kd.R_below (by (with_reducible repeat (first | apply Kd.R_alloc | apply Kd.R_drewN | apply Kd.R_drew)); exact (Kd.R_mono (Kd.R_far (p := ⟨gb727, 7, none⟩) (Kd.R_far (p := ⟨gb727, 6, none⟩) (Kd.R_far (p := ⟨gb727, 5, none⟩) (Kd.R_far (p := ⟨gb727, 4, none⟩) (Kd.R_far (p := ⟨gb727, 3, none⟩) (Kd.R_far (p := ⟨gb727, 2, none⟩) (Kd.R_far (p := ⟨gb727, 1, none⟩) (Kd.R_far (p := ⟨gb727, 0, none⟩) (Kd.R_mono HO725.out (fun k_ hk => (⟨hk, hk.2⟩ : _ ∧ k_ ≠ gb727))) (fun _ hk => hk.2) (.string t716)) (fun _ hk => hk.2) (.int .i64 t717)) (fun _ hk => hk.2) (.bool t718)) (fun _ hk => hk.2) (.int .i64 t719)) (fun _ hk => hk.2) (.int .u64 t720)) (fun _ hk => hk.2) (.float .f64 t721)) (fun _ hk => hk.2) (.string t722)) (fun _ hk => hk.2) (.slice Ao84 t723.length co84)) (fun _ h_ => h_.1))) hb); have n2_ := Aside0.mk (blk_below (g := gb727) (o := .cells #[.string t716, .int .i64 t717, .bool t718, .int .i64 t719, .int .u64 t720, .float .f64 t721, .string t722, .slice Ao84 t723.length co84] 34 (0, 0)) (by (with_reducible repeat (first | refine blk_drewN ?_ _ | refine blk_drew ?_ | refine blk_alloc ?_ _)); refine blk_put (cs := #[.string t716, .int .i64 t717, .bool t718, .int .i64 t719, .int .u64 t720, .float .f64 t721, .string t722, .slice none 0 0]) ?_ 7 _ rfl; (with_reducible repeat (first | refine blk_drewN ?_ _ | refine blk_drew ?_ | refine blk_alloc ?_ _)); refine blk_put (cs := #[.string t716, .int .i64 t717, .bool t718, .int .i64 t719, .int .u64 t720, .float .f64 t721, .string (⟨#[]⟩ : ByteArray), .slice none 0 0]) ?_ 6 _ rfl; (with_reducible repeat (first | refine blk_drewN ?_ _ | refine blk_drew ?_ | refine blk_alloc ?_ _)); refine blk_put (cs := #[.string t716, .int .i64 t717, .bool t718, .int .i64 t719, .int .u64 t720, .float .f64 0, .string (⟨#[]⟩ : ByteArray), .slice none 0 0]) ?_ 5 _ rfl; (with_reducible repeat (first | refine blk_drewN ?_ _ | refine blk_drew ?_ | refine blk_alloc ?_ _)); refine blk_put (cs := #[.string t716, .int .i64 t717, .bool t718, .int .i64 t719, .int .u64 0, .float .f64 0, .string (⟨#[]⟩ : ByteArray), .slice none 0 0]) ?_ 4 _ rfl; (with_reducible repeat (first | refine blk_drewN ?_ _ | refine blk_drew ?_ | refine blk_alloc ?_ _)); refine blk_put (cs := #[.string t716, .int .i64 t717, .bool t718, .int .i64 0, .int .u64 0, .float .f64 0, .string (⟨#[]⟩ : ByteArray), .slice none 0 0]) ?_ 3 _ rfl; (with_reducible repeat (first | refine blk_drewN ?_ _ | refine blk_drew ?_ | refine blk_alloc ?_ _)); refine blk_put (cs := #[.string t716, .int .i64 t717, .bool false, .int .i64 0, .int .u64 0, .float .f64 0, .string (⟨#[]⟩ : ByteArray), .slice none 0 0]) ?_ 2 _ rfl; (with_reducible repeat (first | refine blk_drewN ?_ _ | refine blk_drew ?_ | refine blk_alloc ?_ _)); refine blk_put (cs := #[.string t716, .int .i64 0, .bool false, .int .i64 0, .int .u64 0, .float .f64 0, .string (⟨#[]⟩ : ByteArray), .slice none 0 0]) ?_ 1 _ rfl; (with_reducible repeat (first | refine blk_drewN ?_ _ | refine blk_drew ?_ | refine blk_alloc ?_ _)); refine blk_put (cs := #[.string (⟨#[]⟩ : ByteArray), .int .i64 0, .bool false, .int .i64 0, .int .u64 0, .float .f64 0, .string (⟨#[]⟩ : ByteArray), .slice none 0 0]) ?_ 0 _ rfl; (with_reducible repeat (first | refine blk_drewN ?_ _ | refine blk_drew ?_ | refine blk_alloc ?_ _)); exact BK727.out) hb); have n3_ := Aside0.mk (below_step (by repeat (first | (with_reducible first | exact HB.out | apply below_alloc | apply pw_below_drewN | apply below_drew1 | refine below_set ?_ GE727.out) | exact HB.out)) hb); clear HO712; clear HO725; clear BK727; clear HB; have HO712 := n0_; have HO725 := n1_; have BK727 := n2_; have HB := n3_; clear n0_ n1_ n2_ n3_; (try clear hb); (try clear hb2); (try clear hk); (try clear hi)))
         go_ret
         exact ⟨by first | rfl | (simp [errW_none, errW_some] <;> rfl) | (simp [*, errW_none, errW_some] <;> rfl), by repeat (first | (with_reducible first | exact HB.out | apply below_alloc | apply pw_below_drewN | apply below_drew1 | refine below_set ?_ GE727.out) | exact HB.out)⟩
       · rw [if_neg c78] at H
         have c78b0 : (t726 == 1) = false := beq_eq_false_iff_ne.mpr c78
         have c78b1 : (t726 != 1) = true := bne_iff_ne.mpr c78
         obtain rfl := Option.some.inj H
         go_enter Tryz.func9, Tryz.ntmps9
         go_wp2_with (first | (go_at_call 16; (with_reducible refine (spec_StatmRead.calls k a0 t710 false t714 _ A6.out).mono ?_); rintro e w86 ⟨v711, rfl, ho0, hb⟩; have n0_ := Aside0.mk (Kd.V_lower (Kd.V_mono (ok' := fun k_ => True) ho0 (fun k_ hk_ => trivial)) (below_size (by repeat (first | (with_reducible first | exact HB.out | apply below_alloc | apply pw_below_drewN | apply below_drew1) | exact HB.out)))); have n1_ := Aside0.mk (below_step (by repeat (first | (with_reducible first | exact HB.out | apply below_alloc | apply pw_below_drewN | apply below_drew1) | exact HB.out)) hb); clear HB; have HO712 := n0_; have HB := n1_; clear n0_ n1_; (try clear hb); (try clear hb2); (try clear hk); (try clear hi); (try clear ho0)) | (go_at_call 18; (with_reducible refine (impl_Statm.calls k a0 t716 t717 t718 t719 t720 t721 t722 t723 t726 _ A8.out).mono ?_); rintro e w87 ⟨v724, rfl, ho0, hb⟩; have n0_ := Aside0.mk (Kd.V_elder' (by (with_reducible repeat (first | apply Kd.V_alloc | apply Kd.V_drewN | apply Kd.V_drew)); exact HO712.out) (Kd.R_base ho0) hb); have n1_ := Aside0.mk (Kd.R_lower ho0 (below_size (by repeat (first | (with_reducible first | exact HB.out | apply below_alloc | apply pw_below_drewN | apply below_drew1) | exact HB.out)))); have n2_ := Aside0.mk (below_step (by repeat (first | (with_reducible first | exact HB.out | apply below_alloc | apply pw_below_drewN | apply below_drew1) | exact HB.out)) hb); clear HO712; clear HB; have HO712 := n0_; have HO725 := n1_; have HB := n2_; clear n0_ n1_ n2_; (try clear hb); (try clear hb2); (try clear hk); (try clear hi); (try clear ho0)) | ((with_reducible refine gate_dst (N := 12) rfl ?_); refine box_event ?hg (N := 12) ?hd (cs := #[.string (⟨#[]⟩ : ByteArray), .int .i64 0, .bool false, .int .i64 0, .int .u64 0, .float .f64 0, .string (⟨#[]⟩ : ByteArray), .slice none 0 0]) (t := 34) ?hr ?_; (case hd => rfl); (case hg => rfl); (case hr => first | (go_simp; done) | (go_simp; rfl)); intro gb727 hg w88 hbox hb; have n0_ := Aside0.mk (Kd.V_below (Kd.V_elderB (by (with_reducible repeat (first | apply Kd.V_alloc | apply Kd.V_drewN | apply Kd.V_drew)); exact HO712.out) gb727 (Nat.le_of_eq hg.symm)) hb); have n1_ := Aside0.mk (Kd.R_below (Kd.R_elderB (by (with_reducible repeat (first | apply Kd.R_alloc | apply Kd.R_drewN | apply Kd.R_drew)); exact HO725.out) gb727 (Nat.le_of_eq hg.symm)) hb); have n2_ := Aside0.mk (below_step (by repeat (first | (with_reducible first | exact HB.out | apply below_alloc | apply pw_below_drewN | apply below_drew1) | exact HB.out)) hb); have n3_ := Aside0.mk (hbox); have n4_ := Aside0.mk ((by rw [hg]; exact (below_size (by repeat (first | (with_reducible first | exact HB.out | apply below_alloc | apply pw_below_drewN | apply below_drew1) | exact HB.out))) : w.heap.size ≤ gb727)); have n5_ := Aside0.mk ((by rw [hg]; exact (below_size (by repeat (first | (with_reducible first | exact HB.out | apply below_alloc | apply pw_below_drewN | apply below_drew1) | exact HB.out))) : w.heap.size ≤ gb727)); clear HO712; clear HO725; clear HB; have HO712 := n0_; have HO725 := n1_; have HB := n2_; have BK727 := n3_; have GW727 := n4_; have GE727 := n5_; clear n0_ n1_ n2_ n3_ n4_ n5_; clear hb hbox hg; have hcz89_0 : w88.cell? ⟨gb727, 0, none⟩ = some (.string (⟨#[]⟩ : ByteArray)) := (blk_cell BK727.out 0).trans rfl; have hcz89_1 : w88.cell? ⟨gb727, 1, none⟩ = some (.int .i64 0) := (blk_cell BK727.out 1).trans rfl; have hcz89_2 : w88.cell? ⟨gb727, 2, none⟩ = some (.bool false) := (blk_cell BK727.out 2).trans rfl; have hcz89_3 : w88.cell? ⟨gb727, 3, none⟩ = some (.int .i64 0) := (blk_cell BK727.out 3).trans rfl; have hcz89_4 : w88.cell? ⟨gb727, 4, none⟩ = some (.int .u64 0) := (blk_cell BK727.out 4).trans rfl; have hcz89_5 : w88.cell? ⟨gb727, 5, none⟩ = some (.float .f64 0) := (blk_cell BK727.out 5).trans rfl; have hcz89_6 : w88.cell? ⟨gb727, 6, none⟩ = some (.string (⟨#[]⟩ : ByteArray)) := (blk_cell BK727.out 6).trans rfl; have hcz89_7 : w88.cell? ⟨gb727, 7, none⟩ = some (.slice none 0 0) := (blk_cell BK727.out 7).trans rfl; have hfz89_0 := blk_frozen BK727.out 0; have hfz89_1 := blk_frozen BK727.out 1; have hfz89_2 := blk_frozen BK727.out 2; have hfz89_3 := blk_frozen BK727.out 3; have hfz89_4 := blk_frozen BK727.out 4; have hfz89_5 := blk_frozen BK727.out 5; have hfz89_6 := blk_frozen BK727.out 6; have hfz89_7 := blk_frozen BK727.out 7; obtain ⟨Ao90, co90, eo90⟩ := Kd.R_slice HO725.out; subst eo90))
         go_ret
         exact ⟨by first | rfl | (simp [errW_none, errW_some] <;> rfl) | (simp [*, errW_none, errW_some] <;> rfl), by repeat (first | (with_reducible first | exact HB.out | apply below_alloc | apply pw_below_drewN | apply below_drew1 | refine below_set ?_ GE727.out) | exact HB.out)⟩
   · rw [if_neg c7] at H
     have c7b0 : (t714 == 1) = false := beq_eq_false_iff_ne.mpr c7
     have c7b1 : (t714 != 1) = true := bne_iff_ne.mpr c7
     replace H := Option.bind_eq_some_iff.mp H
     obtain ⟨t715, A910, H⟩ := H
     replace H : (some t715) = some r := H
     have A91 := Aside0.mk A910
     clear A910
     obtain rfl := Option.some.inj H
     go_enter Tryz.func9, Tryz.ntmps9
     go_wp2_with (first | (go_at_call 16; (with_reducible refine (spec_StatmRead.calls k a0 t710 t713 t714 _ A6.out).mono ?_); rintro e w92 ⟨v711, rfl, ho0, hb⟩; have n0_ := Aside0.mk (Kd.V_lower (Kd.V_mono (ok' := fun k_ => True) ho0 (fun k_ hk_ => trivial)) (below_size (by repeat (first | (with_reducible first | exact HB.out | apply below_alloc | apply pw_below_drewN | apply below_drew1) | exact HB.out)))); have n1_ := Aside0.mk (below_step (by repeat (first | (with_reducible first | exact HB.out | apply below_alloc | apply pw_below_drewN | apply below_drew1) | exact HB.out)) hb); clear HB; have HO712 := n0_; have HB := n1_; clear n0_ n1_; (try clear hb); (try clear hb2); (try clear hk); (try clear hi); (try clear ho0)) | ((with_reducible refine gate_callee (f := 28) rfl ?_); refine goesL_ (some 27) rfl rfl Tryz.func28 (by kernel_rfl) rfl #[] rfl (by (try simp only [List.map_toArray, List.map_cons, List.map_nil]); first | done | rfl | (simp only [List.length_drop, List.length_take]; rfl)) ?_; (with_reducible refine (laws_lives.calls  t715 _ A91.out).mono ?_); rintro e w93 ⟨rfl, hb⟩; refine ⟨_, rfl, ?_⟩; have n0_ := Aside0.mk (Kd.V_below (by (with_reducible repeat (first | apply Kd.V_alloc | apply Kd.V_drewN | apply Kd.V_drew)); exact HO712.out) hb); have n1_ := Aside0.mk (below_step (by repeat (first | (with_reducible first | exact HB.out | apply below_alloc | apply pw_below_drewN | apply below_drew1) | exact HB.out)) hb); clear HO712; clear HB; have HO712 := n0_; have HB := n1_; clear n0_ n1_; (try clear hb); (try clear hb2); (try clear hk); (try clear hi)))
     go_ret
     exact ⟨by first | rfl | (simp [errW_none, errW_some] <;> rfl) | (simp [*, errW_none, errW_some] <;> rfl), by repeat (first | (with_reducible first | exact HB.out | apply below_alloc | apply pw_below_drewN | apply below_drew1) | exact HB.out)⟩
end Go.Proofs.YtabfehcpcjcomaaGreatDoor.QA0
namespace Go.Proofs.YtabfehcpcjcomaaGreatDoor.QA0
open Go.RowKit Go.Proofs.YtabfehcpcjcomaaGreatDoorW.PrintWords Go.Proofs.YtabfehcpcjcomaaGreatDoorW.PrintLast Go.Proofs.YtabfehcpcjcomaaGreatDoorW.PrintMore
attribute [local go_sem] max2_int min2_int max_two min_two max_three min_three max_four min_four
set_option linter.unusedVariables false
set_option linter.unusedSimpArgs false
def laws_FnStatmRead.f (k : Nat) (a0 : ByteArray) : Option (Bool) := if (a0.size : Int) > 2147483647 then (some true) else ((laws_read_16_17_18.f k a0 () () ()).bind fun t754 => (some t754))
set_option maxHeartbeats 8000000 in
set_option maxRecDepth 100000 in
theorem laws_FnStatmRead.calls (k : Nat) (a0 : ByteArray) (r : Bool) (w : World) (h : laws_FnStatmRead.f k a0 = some r) (hTabs : R.LTabs w := by first | assumption | exact Aside0.out ‹Aside0 (R.LTabs _)› | exact R.LTabs.below (Aside0.out ‹Aside0 (R.LTabs _)›) (by repeat (first | (with_reducible first | exact Aside0.out ‹Aside0 (Below _ _ _)› | exact Below.refl _ _ | apply below_alloc | apply pw_below_drewN | apply below_drew1)))) :
 Calls Tryz.prog 5 #[.string a0] w fun e w' => e = .returned (.bool r) ∧ Below w.heap.size w w' := by
 have HTabs := Aside0.mk hTabs
 clear hTabs
 have HB := Aside0.mk (Below.refl w.heap.size w)
 have H : (if (a0.size : Int) > 2147483647 then (some true) else ((laws_read_16_17_18.f k a0 () () ()).bind fun t754 => (some t754))) = some r := h
 clear h
 by_cases c2 : (a0.size : Int) > 2147483647
 · rw [if_pos c2] at H
   have c2b0 : decide (2147483647 < (a0.size : Int)) = true := decide_eq_true c2
   have c2b1 : decide (2147483647 < a0.size) = true := decide_eq_true (by omega)
   clear c2
   obtain rfl := Option.some.inj H
   go_enter Tryz.func5, Tryz.ntmps5
   go_wp2
   go_ret
   exact ⟨by first | rfl | (simp [errW_none, errW_some] <;> rfl) | (simp [*, errW_none, errW_some] <;> rfl), by repeat (first | (with_reducible first | exact HB.out | apply below_alloc | apply pw_below_drewN | apply below_drew1) | exact HB.out)⟩
 · rw [if_neg c2] at H
   have c2b0 : decide (2147483647 < (a0.size : Int)) = false := decide_eq_false c2
   have c2b1 : decide (2147483647 < a0.size) = false := decide_eq_false (by omega)
   clear c2
   replace H := Option.bind_eq_some_iff.mp H
   obtain ⟨t754, A30, H⟩ := H
   replace H : (some t754) = some r := H
   have A3 := Aside0.mk A30
   clear A30
   obtain rfl := Option.some.inj H
   go_enter Tryz.func5, Tryz.ntmps5
   go_wp2_with (first | ((with_reducible refine gate_callee (f := 9) rfl ?_); refine goesL_ (some 7) rfl rfl Tryz.func9 (by kernel_rfl) rfl #[.string a0, .func (.func 16) #[] #[], .func (.func 17) #[] #[], .func (.func 18) #[] #[]] rfl (by (try simp only [List.map_toArray, List.map_cons, List.map_nil]); first | done | rfl | (simp only [List.length_drop, List.length_take]; rfl)) ?_; (with_reducible refine (laws_read_16_17_18.calls k a0 () () () t754 _ A3.out).mono ?_); rintro e w4 ⟨rfl, hb⟩; refine ⟨_, rfl, ?_⟩; have n0_ := Aside0.mk (below_step (by repeat (first | (with_reducible first | exact HB.out | apply below_alloc | apply pw_below_drewN | apply below_drew1) | exact HB.out)) hb); clear HB; have HB := n0_; clear n0_; (try clear hb); (try clear hb2); (try clear hk); (try clear hi)))
   go_ret
   exact ⟨by first | rfl | (simp [errW_none, errW_some] <;> rfl) | (simp [*, errW_none, errW_some] <;> rfl), by repeat (first | (with_reducible first | exact HB.out | apply below_alloc | apply pw_below_drewN | apply below_drew1) | exact HB.out)⟩
def laws_FnStatmRead.Pure : Prop := ∀ (a0 : ByteArray), a0.size ≤ 140737488351232 → ∃ k, laws_FnStatmRead.f k a0 = some true
theorem laws_FnStatmRead.walk (P : laws_FnStatmRead.Pure) (a0 : ByteArray) (w : World) (w0 : a0.size ≤ 140737488351232) (hTabs : R.LTabs w) :
 Calls Tryz.prog 5 #[.string a0] w fun e w' => e = .returned (.bool true) ∧ Below w.heap.size w w' := by
 obtain ⟨k, h⟩ := P a0 w0
 refine (laws_FnStatmRead.calls k a0 true w h).mono ?_
 rintro e w' ⟨rfl, hd⟩
 exact ⟨rfl, hd⟩
end Go.Proofs.YtabfehcpcjcomaaGreatDoor.QA0
namespace Go.Proofs.YtabfehcpcjcomaaGreatDoor.R
open Go.RowKit Go.Proofs.YtabfehcpcjcomaaGreatDoor.QA0 Go.Proofs.YtabfehcpcjcomaaGreatDoorW.PrintWords Go.Proofs.YtabfehcpcjcomaaGreatDoorW.PrintLast Go.Proofs.YtabfehcpcjcomaaGreatDoorW.PrintMore
set_option linter.unusedVariables false
set_option linter.unusedSimpArgs false
theorem statm_len (N : List Int) (h7 : N.length = 7) : (statKids4 N).length ≤ 100000 ∧ (statKids N).length ≤ 100000 := by
  obtain ⟨a, b, c, d, e, f, g, rfl⟩ := len_seven h7
  simp [statKids4, statKids]
theorem statm_pure : laws_FnStatmRead.Pure := by
  intro a0 hz
  refine Ev.rounds (g := fun k => laws_FnStatmRead.f k a0) ?_
  unfold laws_FnStatmRead.f
  by_cases c : (a0.size : Int) > 2147483647
  · simp only [if_pos c]; exact Ev.now _
  · simp only [if_neg c]
    refine Ev.bind ?_ (Ev.now _)
    unfold laws_read_16_17_18.f
    by_cases d : (a0.size : Int) > 40000
    · simp only [if_pos d]; exact Ev.now _
    · simp only [if_neg d]
      obtain ⟨r, hr, hp⟩ := read_ends a0 (by omega)
      refine Ev.bind hr ?_
      by_cases e : r.2.2 = 1
      · obtain ⟨N, h7, hu, hT, h1, h2⟩ := hp e
        simp only [if_pos e, if_pos h2, h1]
        refine Ev.bind (impl_ev a0 N h7 hu hT (by omega)) ?_
        refine Ev.bind (statm_tree N h7 hu) ?_
        simp only [if_true]
        have hn := cast_node (n := ⟨#[]⟩) (kd := 8) (b := false) (i := 0) (u := 0) (f := 0) (s := ⟨#[]⟩) (statm_len N h7).1 (kids_cast N h7)
        refine Ev.bind hn ?_
        have hm := same_node (n := ⟨#[]⟩) (kd := 8) (b := false) (i := 0) (u := 0) (f := 0) (s := ⟨#[]⟩) (statm_len N h7).2 (kids_same N h7)
        refine Ev.bind hm ?_
        simp only [if_true, laws_lives.f, Option.bind_some]
        exact Ev.now _
      · simp only [if_neg e, laws_lives.f, Option.bind_some]
        exact Ev.now _
end Go.Proofs.YtabfehcpcjcomaaGreatDoor.R
namespace Go.Proofs.YtabfehcpcjcomaaGreatDoor.fnStatmRead
open Go.ChangeShapes Go.WideShapes Go.ChangeAt Go.RowKit
open Go.ChangeMaps (open_string shut_string)
open Go.Proofs.YtabfehcpcjcomaaGreatDoorW.PrintWords Go.Proofs.YtabfehcpcjcomaaGreatDoor.R Go.Proofs.YtabfehcpcjcomaaGreatDoor.Ck
set_option linter.unusedVariables false
set_option linter.unusedSimpArgs false
theorem witness_row (os : Os) {H : Type} (enc : TypeId × Value → H) :
    (OpenSpec.ofChange Rows.fnStatmReadSpec).preRow enc Tryz.prog Tryz.f5 Rows.fnStatmReadRow.domain false Rows.fnStatmReadRow.laid ((laidWorld os).forCall (fun _ _ => 0) ⟨#[], #[.string ⟨#[]⟩], []⟩).memory #[.string ⟨#[]⟩] := by
  have hw : (DataW.whole enc Tryz.prog ((laidWorld os).forCall (fun _ _ => 0) ⟨#[], #[.string ⟨#[]⟩], []⟩).memory Tryz.f5.params.toList Rows.fnStatmReadSpec.vars false (#[.string ⟨#[]⟩] : Array Value).toList 8).map (fun x => (x.1, x.2.1)) =
      some ([.lit (.string [])], []) := by kernel_rfl
  obtain ⟨⟨x1, x2, x3⟩, hx, hx1⟩ := Option.map_eq_some_iff.1 hw
  simp only [Prod.mk.injEq] at hx1
  obtain ⟨rfl, rfl⟩ := hx1
  exact OpenSpec.preRow_of_cond 8 hx (by kernel_rfl) (fun k hk => by cases hk) (by kernel_rfl) (laid_met os _)
set_option maxRecDepth 100000 in
theorem lifted (os : Os) (started : os.Started) (H : Type) (enc : TypeId × Value → H) (F : Stop.Interp) :
    ReturnsInHanded {} Tryz.checked os 5 .any ((OpenSpec.ofChange Rows.fnStatmReadSpec).preRow enc Tryz.prog Tryz.f5 Rows.fnStatmReadRow.domain false Rows.fnStatmReadRow.laid) (((OpenSpec.ofChange Rows.fnStatmReadSpec).at F).post enc Tryz.prog Tryz.f5 false true false false) := by
  refine returnsInHanded_of_row (C := Tryz.checked) (s := OpenSpec.ofChange Rows.fnStatmReadSpec) own started (by kernel_rfl) Tryz.func5
    (witness_row_atRef (enc := enc) (C := Tryz.checked) false (laidWorld os) #[.string ⟨#[]⟩] rfl (vars_ok os _) (by kernel_rfl) (by kernel_rfl) (witness_row os enc)) ?_
  intro W base args ds gs before hval0 hW hcnd _ hsz0 hL hsh _
  have hsz : (DataW.weightsEach Tryz.prog (Tryz.f5.params.toList ++ (OpenSpec.ofChange Rows.fnStatmReadSpec).bare.plain.varTypes Tryz.prog) (ds ++ gs)).all (· ≤ reachBytes) = true := hsz0
  have hval : ∀ (j : Nat) t v, Tryz.f5.params[j]? = some t → args[j]? = some v → Value.okWide Tryz.prog W .any base t v := hval0
  have hW' := hW
  obtain ⟨p, q, hA0, hV, rfl, hfz, hnd⟩ := hW
  have hA : DataW.TrodAll enc Tryz.prog W 0 (fun _ => true) true Tryz.f5.params.toList args.toList ds p := hA0
  rw [Tryz.params5] at hA hval hsz
  obtain ⟨v0, vs0, d0, ds0, p0, q0, hargs, rfl, rfl, h0, r0⟩ := trodAll_cons hA
  obtain ⟨rfl, rfl, rfl⟩ := trodAll_nil r0
  obtain rfl : args = #[v0] := by cases args; simp_all
  obtain ⟨rfl, rfl⟩ := trodVars_none hV
  obtain ⟨a0, rfl, rfl, rfl, y0⟩ := open_string Tryz.underlying9 (hval 0 9 v0 rfl rfl) h0
  have w0 : a0.size ≤ 140737488351232 := by
    have z := sized_string hsz (j := 0) (t := 9) rfl rfl
    rw [Array.length_toList] at z
    exact z
  clear hA0 hval0 hsz0 hsz
  refine (QA0.laws_FnStatmRead.walk statm_pure a0 W w0 (tabs_of hL)).mono fun e W' ⟨he, bel⟩ => ?_
  subst he
  exact ⟨_, rfl, _, _, _, [], _, [], hW', trodAll_mk1 (shut_bool Tryz.underlying4 _), (trodAll_cons_mk (shut_string Tryz.underlying9 y0) trodAll_mk0), rfl, bel.frame _, fun h => by cases h⟩
theorem said : Rows.FnStatmReadSaid :=
  OpenClaim.holds_of_cond 5 Tryz.f5 rfl rfl rfl rfl rfl rfl rfl ⟨rfl, rfl, rfl, rfl, rfl⟩ rfl rfl rfl rfl rfl (by kernel_rfl) Tryz.func5 (by kernel_rfl)
    (of_decide_eq_true (by kernel_rfl)) (by unfold Func.isWrapper; first | (rw [if_pos (by decide +kernel)]; kernel_rfl) | (rw [if_neg (by decide +kernel)]; exact ⟨rfl, rfl⟩))
    (fun os started H enc _ F => by rw [OpenClaim.pre_eq_preRow]; exact lifted os started H enc F)
theorem plain (f : FuncId) (fn : Func) (hf : Tryz.pinned.checked.prog.funcNamed "pub-frontispiece/laws.FnStatmRead" = some f) (hfn : Tryz.pinned.checked.prog.funcs[f]? = some fn) :
    true = Tryz.pinned.checked.prog.looks [] ∧ ∀ (j : Nat) t, fn.params[j]? = some t → Tryz.pinned.checked.prog.wantsStandIn t = false := by
  obtain rfl : f = 5 := Option.some.inj ((show Tryz.prog.funcNamed "pub-frontispiece/laws.FnStatmRead" = some 5 by kernel_rfl).symm.trans hf) |>.symm
  obtain rfl : fn = Tryz.f5 := (Option.some.inj (Tryz.func5.symm.trans hfn)).symm
  refine ⟨by kernel_rfl, fun j t ht => ?_⟩
  rw [Tryz.params5] at ht
  obtain rfl : t = 9 := by simpa using Array.mem_of_getElem? ht
  exact (show Tryz.prog.wantsStandIn 9 = false by kernel_rfl)
theorem card : Rows.FnStatmReadCardSaid :=
  Claim7.holds_tied_plain_at .later [] _ _ _ _ said (fun _ h => by cases h) (by kernel_rfl) (fun _ h => by cases h) fnStatmRead_row_tie rfl ⟨rfl, rfl⟩ (by kernel_rfl) rfl plain (by kernel_rfl)
#print axioms card
end Go.Proofs.YtabfehcpcjcomaaGreatDoor.fnStatmRead
namespace Go.Proofs.YtabfehcpcjcomaaGreatDoor
theorem fnStatmRead_card_holds : Rows.FnStatmReadCardSaid := fnStatmRead.card
end Go.Proofs.YtabfehcpcjcomaaGreatDoor
