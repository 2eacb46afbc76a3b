/- The texts Pa, Pb, Pc, QA0x17, La, Lb, QA0x23, QA0x24, Lc, CardFnLoadavgRead, without what the claims do not use, laid together by a program of this session (wip/tools/bundle.py). Conditions: those of each theorem. -/
import Derived.Test.YtabfehcpcjcomaaGreatDoorXc5
import Derived.Test.YtabfehcpcjcomaaGreatDoorXc6
import Derived.Test.YtabfehcpcjcomaaGreatDoorXc7
import Derived.Test.YtabfehcpcjcomaaGreatDoorXc8
import Derived.Lib.ItoaLen
import Derived.ShutString
import Derived.ChangeOld
namespace Go.Proofs.YtabfehcpcjcomaaGreatDoor.R
open Go.RowKit Go.Proofs.YtabfehcpcjcomaaGreatDoor.QA0 Go.Proofs.YtabfehcpcjcomaaGreatDoorW.PrintWords Go.Proofs.YtabfehcpcjcomaaGreatDoorW.PrintLast Go.Proofs.YtabfehcpcjcomaaGreatDoorW.PrintMore
set_option linter.unusedVariables false
set_option linter.unusedSimpArgs false
def Ends {α : Type} (g : Nat → Option α) (P : α → Prop) : Prop := ∃ r, Ev g r ∧ P r
section
variable {α β : Type} {g f : Nat → Option α} {P : α → Prop}
theorem Ends.step (h : ∀ k, g (k + 1) = f k) (k : Ends f P) : Ends g P := by
  obtain ⟨r, k, hp⟩ := k
  exact ⟨r, Ev.step h k, hp⟩
theorem Ends.now {r : α} (h : P r) : Ends (fun _ => some r) P := ⟨r, Ev.now r, h⟩
theorem Ends.bind {Q : β → Prop} {h : Nat → α → Option β} (a : Ends g P) (k : ∀ x, P x → Ends (fun n => h n x) Q) : Ends (fun n => (g n).bind (h n)) Q := by
  obtain ⟨r, e, hp⟩ := a
  obtain ⟨q, e', hq⟩ := k r hp
  exact ⟨q, Ev.bind e e', hq⟩
theorem Ends.mono {Q : α → Prop} (a : Ends g P) (h : ∀ x, P x → Q x) : Ends g Q := by
  obtain ⟨r, e, hp⟩ := a
  exact ⟨r, e, h r hp⟩
theorem Ends.ev {r : α} (h : Ev g r) : Ends g (fun x => x = r) := ⟨r, h, rfl⟩
end
theorem ext_size (T : ByteArray) (i j : Nat) : (T.extract i j).size ≤ T.size := by
  rw [ByteArray.size_extract]; omega
def Small (T : ByteArray) (r : List ByteArray) : Prop := r.length ≤ T.size + 1 ∧ ∀ x ∈ r, x.size ≤ T.size
theorem lines_go (T : ByteArray) (hs : T.size ≤ 40000) : ∀ (n : Nat) (x3 : List ByteArray) (x4 x8 : Int), 0 ≤ x4 → x4 ≤ x8 → x8 ≤ (T.size : Int) → n = ((T.size : Int) - x8).toNat → (x3.length : Int) ≤ x8 → (∀ x ∈ x3, x.size ≤ T.size) → Ends (fun k => spec_Lines.l0 k T x3 x4 (T.size : Int) x8) (Small T)
  | 0, x3, x4, x8, h0, h1, h2, hn, hl, hx => by
    refine Ends.step (fun k => by rw [spec_Lines.l0]) ?_
    have c : ¬ (x8 < (T.size : Int)) := by omega
    simp only [if_neg c]
    by_cases d : x4 < (T.size : Int)
    · simp only [if_pos d, if_pos h0, if_pos (show x4 ≤ (T.size : Int) by omega), if_pos (show x3.length < 8796093022208 by omega)]
      refine Ends.now ⟨by simp; omega, ?_⟩
      intro x hm
      rcases List.mem_append.1 hm with hm | hm
      · exact hx x hm
      · rw [List.mem_singleton.1 hm]; exact ext_size _ _ _
    · simp only [if_neg d]
      exact Ends.now ⟨by omega, hx⟩
  | n + 1, x3, x4, x8, h0, h1, h2, hn, hl, hx => by
    refine Ends.step (fun k => by rw [spec_Lines.l0]) ?_
    have c : x8 < (T.size : Int) := by omega
    have w : wrap64 (x8 + 1) = x8 + 1 := wr64 _ (by omega)
    simp only [if_pos c, if_pos (show 0 ≤ x8 by omega), w]
    by_cases d : bt T x8 = 10
    · simp only [if_pos d, if_pos h0, if_pos h1, if_pos (show x8 ≤ (T.size : Int) by omega), if_pos (show x3.length < 8796093022208 by omega)]
      refine lines_go T hs n _ _ _ (by omega) (by omega) (by omega) (by omega) (by simp; omega) ?_
      intro x hm
      rcases List.mem_append.1 hm with hm | hm
      · exact hx x hm
      · rw [List.mem_singleton.1 hm]; exact ext_size _ _ _
    · simp only [if_neg d]
      exact lines_go T hs n _ _ _ h0 (by omega) (by omega) (by omega) (by omega) hx
theorem lines_ends (T : ByteArray) (hs : T.size ≤ 40000) : Ends (fun k => spec_Lines.f k T) (Small T) := by
  unfold spec_Lines.f
  exact lines_go T hs _ [] 0 0 (by omega) (by omega) (by omega) rfl (by simp) (by simp)
theorem single_ends (T : ByteArray) (hs : T.size ≤ 40000) : Ends (fun k => spec_single.f k T) (fun r => r.size ≤ T.size) := by
  unfold spec_single.f
  refine Ends.bind (lines_ends T hs) fun r hr => ?_
  by_cases c : (r.length : Int) = 1
  · simp only [if_pos c, if_pos (show (0 : Int) < (r.length : Int) by omega)]
    refine Ends.now ?_
    match r, c with
    | [a], _ => exact hr.2 a (by simp)
  · simp only [if_neg c]
    exact Ends.now (Nat.zero_le _)
theorem fields_go (T : ByteArray) (hs : T.size ≤ 40000) : ∀ (n : Nat) (x3 : List ByteArray) (x4 x9 : Int), -1 ≤ x4 → x4 ≤ x9 → 0 ≤ x9 → x9 ≤ (T.size : Int) → n = ((T.size : Int) - x9).toNat → (x3.length : Int) ≤ x9 → (∀ x ∈ x3, x.size ≤ T.size) → Ends (fun k => spec_Fields.l0 k T x3 x4 (T.size : Int) x9) (Small T)
  | 0, x3, x4, x8, h0, h1, h00, h2, hn, hl, hx => by
    refine Ends.step (fun k => by rw [spec_Fields.l0]) ?_
    have c : ¬ (x8 < (T.size : Int)) := by omega
    simp only [if_neg c]
    by_cases d : x4 ≥ 0
    · simp only [if_pos d, if_pos (show 0 ≤ x4 from d), if_pos (show x4 ≤ (T.size : Int) by omega), if_pos (show x3.length < 8796093022208 by omega)]
      refine Ends.now ⟨by simp; omega, ?_⟩
      intro x hm
      rcases List.mem_append.1 hm with hm | hm
      · exact hx x hm
      · rw [List.mem_singleton.1 hm]; exact ext_size _ _ _
    · simp only [if_neg d]
      exact Ends.now ⟨by omega, hx⟩
  | n + 1, x3, x4, x8, h0, h1, h00, h2, hn, hl, hx => by
    refine Ends.step (fun k => by rw [spec_Fields.l0]) ?_
    have c : x8 < (T.size : Int) := by omega
    have w : wrap64 (x8 + 1) = x8 + 1 := wr64 _ (by omega)
    simp only [if_pos c, if_pos (show 0 ≤ x8 by omega)]
    have key : ∀ b : Bool, Ends (fun k => spec_Fields.j1 k T x3 x4 x8 b (T.size : Int) x8) (Small T) := by
      intro b
      refine Ends.step (fun k => by rw [spec_Fields.j1]) ?_
      cases b with
      | true =>
        simp only [if_true]
        refine Ends.step (fun k => by rw [spec_Fields.j2]) ?_
        by_cases d : x4 ≥ 0
        · simp only [decide_eq_true d, if_true, if_pos (show 0 ≤ x4 from d), if_pos h1, if_pos (show x8 ≤ (T.size : Int) by omega), if_pos (show x3.length < 8796093022208 by omega), w]
          refine fields_go T hs n _ _ _ (by omega) (by omega) (by omega) (by omega) (by omega) (by simp; omega) ?_
          intro x hm
          rcases List.mem_append.1 hm with hm | hm
          · exact hx x hm
          · rw [List.mem_singleton.1 hm]; exact ext_size _ _ _
        · simp only [decide_eq_false d, Bool.false_eq_true, if_false, if_true, w]
          exact fields_go T hs n _ _ _ h0 (by omega) (by omega) (by omega) (by omega) (by omega) hx
      | false =>
        simp only [Bool.false_eq_true, if_false]
        refine Ends.step (fun k => by rw [spec_Fields.j2]) ?_
        simp only [Bool.false_eq_true, if_false, w]
        by_cases d : x4 < 0
        · simp only [if_pos d]
          exact fields_go T hs n _ _ _ (by omega) (by omega) (by omega) (by omega) (by omega) (by omega) hx
        · simp only [if_neg d]
          exact fields_go T hs n _ _ _ (by omega) (by omega) (by omega) (by omega) (by omega) (by omega) hx
    by_cases d : bt T x8 = 32
    · simp only [if_pos d]
      exact key true
    · simp only [if_neg d]
      exact key _
theorem fields_ends (T : ByteArray) (hs : T.size ≤ 40000) : Ends (fun k => spec_Fields.f k T) (Small T) := by
  unfold spec_Fields.f
  exact fields_go T hs _ [] (-1) 0 (by omega) (by omega) (by omega) (by omega) rfl (by simp) (by simp)
def U64 (n : Int) : Prop := 0 ≤ n ∧ n < 18446744073709551616
theorem wU (z : Int) : U64 (IntKind.u64.wrap z) := by
  unfold U64
  simp [IntKind.wrap, IntKind.bits, IntKind.signed]
  omega
theorem digit_ends (c : Int) : Ends (fun k => spec_digit.f k c) (fun _ => True) := by
  have key : ∀ b : Bool, Ends (fun k => spec_digit.j1 k c b) (fun _ => True) := by
    intro b
    refine Ends.step (fun k => by rw [spec_digit.j1]) ?_
    cases b with
    | true => simp only [if_true]; exact Ends.now trivial
    | false =>
      simp only [Bool.false_eq_true, if_false]
      by_cases d : c ≥ 65
      · simp only [if_pos d]
        by_cases e : c ≤ 70
        · simp only [if_pos e]; exact Ends.now trivial
        · simp only [if_neg e]; exact Ends.now trivial
      · simp only [if_neg d]; exact Ends.now trivial
  have key0 : ∀ b : Bool, Ends (fun k => spec_digit.j0 k c b) (fun _ => True) := by
    intro b
    refine Ends.step (fun k => by rw [spec_digit.j0]) ?_
    cases b with
    | true => simp only [if_true]; exact Ends.now trivial
    | false =>
      simp only [Bool.false_eq_true, if_false]
      by_cases d : c ≥ 97
      · simp only [if_pos d]; exact key _
      · simp only [if_neg d]; exact key _
  unfold spec_digit.f
  by_cases d : c ≥ 48
  · simp only [if_pos d]; exact key0 _
  · simp only [if_neg d]; exact key0 _
theorem number_go (T : ByteArray) (x1 : Int) (h10 : 0 < x1) (hs : T.size ≤ 40000) : ∀ (n : Nat) (x6 x11 : Int), U64 x6 → 0 ≤ x11 → x11 ≤ (T.size : Int) → n = ((T.size : Int) - x11).toNat → Ends (fun k => spec_Number.l0 k T x1 x6 (T.size : Int) x11) (fun r => U64 r.1)
  | 0, x6, x11, hu, h0, h1, hn => by
    refine Ends.step (fun k => by rw [spec_Number.l0]) ?_
    simp only [if_neg (show ¬ (x11 < (T.size : Int)) by omega)]
    exact Ends.now hu
  | n + 1, x6, x11, hu, h0, h1, hn => by
    refine Ends.step (fun k => by rw [spec_Number.l0]) ?_
    have w : wrap64 (x11 + 1) = x11 + 1 := wr64 _ (by omega)
    simp only [if_pos (show x11 < (T.size : Int) by omega), if_pos h0, w]
    refine Ends.bind (digit_ends _) fun d _ => ?_
    by_cases c : d ≥ x1
    · simp only [if_pos c]; exact Ends.now (by unfold U64; omega)
    · simp only [if_neg c, if_neg (show ¬ (x1 = 0) by omega)]
      by_cases e : x6 > (IntKind.u64.wrap (Int.tdiv (IntKind.u64.wrap (18446744073709551615 - d)) x1))
      · simp only [if_pos e]; exact Ends.now (by unfold U64; omega)
      · simp only [if_neg e]
        exact number_go T x1 h10 hs n _ _ (wU _) (by omega) (by omega) (by omega)
theorem dec_ends (T : ByteArray) (hs : T.size ≤ 40000) : Ends (fun k => spec_Dec.f k T) (fun r => U64 r.1) := by
  unfold spec_Dec.f spec_Number.f
  refine Ends.bind (number_go T 10 (by omega) hs _ 0 0 (by unfold U64; omega) (by omega) (by omega) rfl) fun r hr => ?_
  exact Ends.now hr
def decB (n : Nat) : ByteArray := ⟨(Lib.decDigits n).toArray⟩
theorem decB_size (n : Nat) (h : n < 18446744073709551616) : (decB n).size ≤ 20 := by
  have h1 : (decB n).size = Lib.nDigits n := by rw [← Lib.decDigits_length]; simp [decB, ByteArray.size]
  rw [h1]
  exact Lib.nDigits_le20 n h
theorem dg_nat (d : Nat) (h : d < 10) : (UInt8.ofNat (48 + d)).toNat = 48 + d := by
  rw [UInt8.toNat_ofNat']; omega
theorem dec_ne (n : Nat) : Lib.decDigits n ≠ [] := by
  rw [Lib.decDigits]
  split <;> simp
theorem dec_dig (n : Nat) : ∀ c ∈ Lib.decDigits n, 48 ≤ c.toNat ∧ c.toNat ≤ 57 := by
  induction n using Nat.strongRecOn with
  | _ n ih =>
    rw [Lib.decDigits]
    by_cases h : n < 10
    · rw [dif_pos h]
      intro c hc
      rw [List.mem_singleton.1 hc, dg_nat n h]
      omega
    · rw [dif_neg h]
      intro c hc
      rcases List.mem_append.1 hc with hc | hc
      · exact ih (n / 10) (by omega) c hc
      · rw [List.mem_singleton.1 hc, dg_nat _ (by omega)]
        omega
theorem B_app (a b : Bs) : B a ++ B b = B (a ++ b) := by
  unfold B
  apply ByteArray.ext
  simp
theorem dig_str (d : Nat) (h : d < 10) : strOfNums [bt (⟨#[48, 49, 50, 51, 52, 53, 54, 55, 56, 57, 97, 98, 99, 100, 101, 102]⟩ : ByteArray) (d : Int)] = B [UInt8.ofNat (48 + d)] := by
  match d, h with
  | 0, _ => rfl
  | 1, _ => rfl
  | 2, _ => rfl
  | 3, _ => rfl
  | 4, _ => rfl
  | 5, _ => rfl
  | 6, _ => rfl
  | 7, _ => rfl
  | 8, _ => rfl
  | 9, _ => rfl
theorem digits_ev (n : Nat) (hn : n < 18446744073709551616) : Ev (fun k => spec_Digits.f k (n : Int) 10) (decB n) := by
  induction n using Nat.strongRecOn with
  | _ n ih =>
    refine Ev.step (fun k => by rw [spec_Digits.f]) ?_
    have m : Int.tmod (n : Int) 10 = ((n % 10 : Nat) : Int) := by rw [Int.tmod_eq_emod_of_nonneg (by omega)]; omega
    have q : Int.tdiv (n : Int) 10 = ((n / 10 : Nat) : Int) := by rw [Int.tdiv_eq_ediv_of_nonneg (by omega)]; omega
    simp only [m, q]
    simp only [if_neg (show ¬ ((10 : Int) = 0) by omega), if_pos (show (0 : Int) ≤ ((n % 10 : Nat) : Int) by omega), if_pos (show ((n % 10 : Nat) : Int) < 16 by omega), dig_str (n % 10) (by omega)]
    by_cases c : n < 10
    · simp only [if_pos (show (n : Int) < 10 by omega)]
      have : decB n = B [UInt8.ofNat (48 + n % 10)] := by unfold decB B; rw [Lib.decDigits, dif_pos c, Nat.mod_eq_of_lt c]
      rw [this]
      exact Ev.now _
    · simp only [if_neg (show ¬ ((n : Int) < 10) by omega), u64w ((n / 10 : Nat) : Int) (by omega)]
      refine Ev.bind (ih (n / 10) (by omega) (by omega)) ?_
      simp only [Option.bind_some, dig_str (n % 10) (by omega)]
      have hz := decB_size (n / 10) (by omega)
      have hz1 : (B [UInt8.ofNat (48 + n % 10)]).size = 1 := rfl
      simp only [if_pos (show (decB (n / 10)).size + (B [UInt8.ofNat (48 + n % 10)]).size ≤ 9223372036854775807 by omega)]
      have : decB n = decB (n / 10) ++ B [UInt8.ofNat (48 + n % 10)] := by
        rw [show decB (n / 10) = B (Lib.decDigits (n / 10)) from rfl, B_app]
        unfold decB B; rw [Lib.decDigits, dif_neg c]
      rw [this]
      exact Ev.now _
theorem text_ev (n : Int) (hn : U64 n) : Ev (fun k => spec_Text.f k n) (decB n.toNat) := by
  unfold spec_Text.f U64 at *
  have e : n = (n.toNat : Int) := by omega
  have := digits_ev n.toNat (by omega)
  rw [← e] at this
  exact Ev.bind this (Ev.now _)
theorem decimals_go (x9 : List ByteArray) (T : ByteArray) (hT : T.size ≤ 40000) (hx9 : Small T x9) : ∀ (n : Nat) (x4 : List Int) (x11 : Int), 0 ≤ x11 → x11 ≤ (x9.length : Int) → n = ((x9.length : Int) - x11).toNat → (x4.length : Int) ≤ x11 → (∀ x ∈ x4, U64 x) → Ends (fun k => spec_decimals.l0 k x4 x9 (x9.length : Int) x11) (fun r => r.1.length ≤ 40001 ∧ ∀ x ∈ r.1, U64 x)
  | 0, x4, x11, h0, h1, hn, hl, hu => by
    refine Ends.step (fun k => by rw [spec_decimals.l0]) ?_
    simp only [if_neg (show ¬ (x11 < (x9.length : Int)) by omega)]
    exact Ends.now ⟨by have := hx9.1; show x4.length ≤ 40001; omega, hu⟩
  | n + 1, x4, x11, h0, h1, hn, hl, hu => by
    have h9 := hx9.1
    refine Ends.step (fun k => by rw [spec_decimals.l0]) ?_
    have w : wrap64 (x11 + 1) = x11 + 1 := wr64 _ (by omega)
    have hsz : (rdOf ByteArray.empty x9 x11).size ≤ 40000 := by
      have e : rdOf ByteArray.empty x9 x11 = x9[x11.toNat]'(by omega) := by
        unfold rdOf
        rw [List.getD_eq_getElem?_getD, List.getElem?_eq_getElem (by omega)]; rfl
      rw [e]
      exact Nat.le_trans (hx9.2 _ (List.getElem_mem _)) hT
    simp only [if_pos (show x11 < (x9.length : Int) by omega), if_pos h0, w]
    refine Ends.bind (dec_ends _ hsz) fun r hr => ?_
    by_cases c : r.2 = true
    · simp only [if_pos c]
      refine Ends.bind (Ends.ev (text_ev r.1 hr)) fun t _ => ?_
      by_cases d : t.toList = (rdOf ByteArray.empty x9 x11).toList
      · simp only [if_pos d, if_pos (show x4.length < 17592186044416 by omega)]
        refine decimals_go x9 T hT hx9 n _ _ (by omega) (by omega) (by omega) (by simp; omega) ?_
        intro x hm
        rcases List.mem_append.1 hm with hm | hm
        · exact hu x hm
        · rw [List.mem_singleton.1 hm]; exact hr
      · simp only [if_neg d]
        exact Ends.now ⟨by simp, by simp⟩
    · simp only [if_neg c]
      exact Ends.now ⟨by simp, by simp⟩
theorem decimals_ends (x9 : List ByteArray) (T : ByteArray) (hT : T.size ≤ 40000) (hx9 : Small T x9) : Ends (fun k => spec_decimals.f k x9) (fun r => r.1.length ≤ 40001 ∧ ∀ x ∈ r.1, U64 x) := by
  unfold spec_decimals.f
  exact decimals_go x9 T hT hx9 _ [] 0 (by omega) (by omega) rfl (by simp) (by simp)
theorem plain_go (T : ByteArray) (hs : T.size ≤ 40000) : ∀ (n : Nat) (x7 : Int), 0 ≤ x7 → x7 ≤ (T.size : Int) → n = ((T.size : Int) - x7).toNat → Ends (fun k => spec_Plain.l0 k T (T.size : Int) x7) (fun _ => True)
  | 0, x7, h0, h1, hn => by
    refine Ends.step (fun k => by rw [spec_Plain.l0]) ?_
    simp only [if_neg (show ¬ (x7 < (T.size : Int)) by omega)]
    exact Ends.now trivial
  | n + 1, x7, h0, h1, hn => by
    refine Ends.step (fun k => by rw [spec_Plain.l0]) ?_
    have w : wrap64 (x7 + 1) = x7 + 1 := wr64 _ (by omega)
    have ih := plain_go T hs n (x7 + 1) (by omega) (by omega) (by omega)
    simp only [if_pos (show x7 < (T.size : Int) by omega), if_pos h0, w]
    by_cases c : bt T x7 > 126
    · simp only [if_pos c]; exact Ends.now trivial
    · simp only [if_neg c]
      by_cases d : bt T x7 < 32
      · simp only [if_pos d]
        by_cases e : bt T x7 = 10
        · simp only [if_pos e]; exact ih
        · simp only [if_neg e]
          by_cases e : bt T x7 = 9
          · simp only [if_pos e]; exact ih
          · simp only [if_neg e]; exact Ends.now trivial
      · simp only [if_neg d]; exact ih
theorem plain_ends (T : ByteArray) (hs : T.size ≤ 40000) : Ends (fun k => spec_Plain.f k T) (fun _ => True) := by
  unfold spec_Plain.f
  exact plain_go T hs _ 0 (by omega) (by omega) rfl
theorem rd_mid (A : List ByteArray) (b : ByteArray) (l : List ByteArray) : rdOf ByteArray.empty (A ++ b :: l) (A.length : Int) = b := by
  unfold rdOf
  simp
def decT (n : Int) : ByteArray := decB n.toNat
theorem decT_size (n : Int) (h : U64 n) : (decT n).size ≤ 20 := decB_size _ (by unfold U64 at h; omega)
end Go.Proofs.YtabfehcpcjcomaaGreatDoor.R
namespace Go.Proofs.YtabfehcpcjcomaaGreatDoor.R
open Go.RowKit Go.Proofs.YtabfehcpcjcomaaGreatDoor.QA0 Go.Proofs.YtabfehcpcjcomaaGreatDoorW.PrintWords Go.Proofs.YtabfehcpcjcomaaGreatDoorW.PrintLast Go.Proofs.YtabfehcpcjcomaaGreatDoorW.PrintMore
set_option linter.unusedVariables false
set_option linter.unusedSimpArgs false
theorem toList_inj {a b : ByteArray} (h : a.toList = b.toList) : a = b := by
  rw [ByteArray.toList_eq, ByteArray.toList_eq] at h
  exact ByteArray.ext (Array.toList_inj.1 h)
def Cast (x : S34) (y : S38) : Prop := Ev (fun k => laws_toNode.f k x.f0 x.f1 x.f2 x.f3 x.f4 x.f5 x.f6 x.f7) (y.f0, y.f1, y.f2, y.f3, y.f4, y.f5, y.f6, y.f7)
inductive Casts : List S34 → List S38 → Prop
  | nil : Casts [] []
  | cons {x y l l'} : Cast x y → Casts l l' → Casts (x :: l) (y :: l')
theorem toNode_go (n : ByteArray) (kd : Int) (b : Bool) (i u : Int) (f : Nat) (s : ByteArray) : ∀ (l : List S34) (l' : List S38) (A : List S34) (acc : List S38), (A ++ l).length ≤ 100000 → acc.length ≤ A.length → Casts l l' →
    Ev (fun k => laws_toNode.l0 k (A ++ l) ((A ++ l).length : Int) (A.length : Int) n kd b i u f s acc) (n, kd, b, i, u, f, s, acc ++ l')
  | [], [], A, acc, hl, ha, _ => by
    refine Ev.step (fun k => by rw [laws_toNode.l0]) ?_
    simp only [List.append_nil, if_neg (show ¬ ((A.length : Int) < (A.length : Int)) by omega)]
    exact Ev.now _
  | [], _ :: _, _, _, _, _, h => nomatch h
  | _ :: _, [], _, _, _, _, h => nomatch h
  | x :: l, y :: l', A, acc, hl, ha, h => by
    obtain ⟨h, hs⟩ : Cast x y ∧ Casts l l' := by cases h with | cons h hs => exact ⟨h, hs⟩
    have hll : A.length + (l.length + 1) ≤ 100000 := by simpa using hl
    refine Ev.step (fun k => by rw [laws_toNode.l0]) ?_
    have w : wrap64 ((A.length : Int) + 1) = ((A ++ [x]).length : Int) := by rw [wr64 _ (by omega)]; simp
    have e : A ++ x :: l = (A ++ [x]) ++ l := by simp
    have r : rd_T34 (A ++ x :: l) (A.length : Int) = x := by unfold rd_T34; simp
    have cl : (A.length : Int) < ((A ++ x :: l).length : Int) := by simp; omega
    simp only [if_pos cl, if_pos (show (0 : Int) ≤ (A.length : Int) by omega), r, w]
    refine Ev.bind h ?_
    simp only [if_pos (show acc.length < 1466015503701 by omega)]
    have := toNode_go n kd b i u f s l l' (A ++ [x]) (acc ++ [y]) (by rw [← e]; exact hl) (by simp; omega) hs
    rw [e]
    rw [List.append_assoc acc, List.singleton_append] at this
    have hy : (⟨y.f0, y.f1, y.f2, y.f3, y.f4, y.f5, y.f6, y.f7⟩ : S38) = y := by cases y; rfl
    simp only [hy]
    exact this
theorem cast_node {n : ByteArray} {kd : Int} {b : Bool} {i u : Int} {f : Nat} {s : ByteArray} {l : List S34} {l' : List S38} (hl : l.length ≤ 100000) (h : Casts l l') : Cast ⟨n, kd, b, i, u, f, s, l⟩ ⟨n, kd, b, i, u, f, s, l'⟩ := by
  unfold Cast
  refine Ev.step (fun k => by rw [laws_toNode.f]) ?_
  exact toNode_go n kd b i u f s l l' [] [] (by simpa using hl) (by simp) h
theorem cast_leaf {n : ByteArray} {kd : Int} {b : Bool} {i u : Int} {f : Nat} {s : ByteArray} : Cast ⟨n, kd, b, i, u, f, s, []⟩ ⟨n, kd, b, i, u, f, s, []⟩ := cast_node (by simp) .nil
def Same (y : S38) : Prop := Ev (fun k => spec_SameNode.f k y.f0 y.f1 y.f2 y.f3 y.f4 y.f5 y.f6 y.f7 y.f0 y.f1 y.f2 y.f3 y.f4 y.f5 y.f6 y.f7) true
theorem same_go (n n' : ByteArray) (kd kd' : Int) (b b' : Bool) (i u i' u' : Int) (f f' : Nat) (s s' : ByteArray) : ∀ (l A : List S38), (A ++ l).length ≤ 100000 → (∀ x ∈ l, Same x) →
    Ev (fun k => spec_SameNode.l0 k ((A ++ l).length : Int) (A.length : Int) n kd b i u f s (A ++ l) n' kd' b' i' u' f' s' (A ++ l)) true
  | [], A, hl, h => by
    refine Ev.step (fun k => by rw [spec_SameNode.l0]) ?_
    simp only [List.append_nil, if_neg (show ¬ ((A.length : Int) < (A.length : Int)) by omega)]
    exact Ev.now _
  | x :: l, A, hl, h => by
    have hll : A.length + (l.length + 1) ≤ 100000 := by simpa using hl
    refine Ev.step (fun k => by rw [spec_SameNode.l0]) ?_
    have w : wrap64 ((A.length : Int) + 1) = ((A ++ [x]).length : Int) := by rw [wr64 _ (by omega)]; simp
    have e : A ++ x :: l = (A ++ [x]) ++ l := by simp
    have r : rd_T38 (A ++ x :: l) (A.length : Int) = x := by unfold rd_T38; simp
    have cl : (A.length : Int) < ((A ++ x :: l).length : Int) := by simp; omega
    simp only [if_pos cl, if_pos (show (0 : Int) ≤ (A.length : Int) by omega), r, w]
    refine Ev.bind (h x (by simp)) ?_
    simp only [if_true]
    have := same_go n n' kd kd' b b' i u i' u' f f' s s' l (A ++ [x]) (by rw [← e]; exact hl) (fun z hz => h z (by simp [hz]))
    rw [e]
    exact this
theorem same_node {n : ByteArray} {kd : Int} {b : Bool} {i u : Int} {f : Nat} {s : ByteArray} {l : List S38} (hl : l.length ≤ 100000) (h : ∀ x ∈ l, Same x) : Same ⟨n, kd, b, i, u, f, s, l⟩ := by
  unfold Same
  refine Ev.step (fun k => by rw [spec_SameNode.f]) ?_
  have hb : ¬ ((b != b) = true) := by simp
  simp only [if_true, if_neg hb]
  exact same_go n n kd kd b b i u i u f f s s l [] (by simpa using hl) h
theorem same_leaf {n : ByteArray} {kd : Int} {b : Bool} {i u : Int} {f : Nat} {s : ByteArray} : Same ⟨n, kd, b, i, u, f, s, []⟩ := same_node (by simp) (by simp)
end Go.Proofs.YtabfehcpcjcomaaGreatDoor.R
namespace Go.Proofs.YtabfehcpcjcomaaGreatDoor.R
open Go.RowKit Go.Proofs.YtabfehcpcjcomaaGreatDoor.QA0 Go.Proofs.YtabfehcpcjcomaaGreatDoorW.PrintWords Go.Proofs.YtabfehcpcjcomaaGreatDoorW.PrintLast Go.Proofs.YtabfehcpcjcomaaGreatDoorW.PrintMore
set_option linter.unusedVariables false
set_option linter.unusedSimpArgs false
def rowsOf (N : List Int) : List S48 := [⟨⟨#[]⟩, N, []⟩]
theorem asc_dec (n : Int) : (Lib.decDigits n.toNat).all (fun c => decide (c.toNat < 128)) = true := by
  rw [List.all_eq_true]
  intro c hc
  have := dec_dig n.toNat c hc
  simp only [decide_eq_true_eq]
  omega
end Go.Proofs.YtabfehcpcjcomaaGreatDoor.R
namespace Go.Proofs.YtabfehcpcjcomaaGreatDoor.QA0
open Go.RowKit Go.Proofs.YtabfehcpcjcomaaGreatDoorW.PrintWords Go.Proofs.YtabfehcpcjcomaaGreatDoorW.PrintLast Go.Proofs.YtabfehcpcjcomaaGreatDoorW.PrintMore
attribute [local go_sem] max2_int min2_int max_two min_two max_three min_three max_four min_four
set_option linter.unusedVariables false
set_option linter.unusedSimpArgs false
def laws_read_16_17_18.T10 : Bool × List (List Nat × List Nat) := (true, [([], []), ([0], [0]), ([1], [1]), ([2], [2]), ([3, 2], [2, 3]), ([4, 2, 2], [2, 4]), ([5], [5]), ([6, 5, 5], [5, 6]), ([5], [5]), ([7, 8, 7, 5], [5, 7, 8]), ([5, 9, 2], [2, 5, 9]), ([2, 10], [2, 10]), ([11, 9], [11]), ([12, 12], [12]), ([12, 13], [12, 13]), ([14, 13, 0, 1, 2, 3, 4, 5, 6, 7, 8, 9, 10, 11, 12, 13, 14], [14])])
def laws_read_16_17_18.B10 : List Nat := [0, 1, 3, 7, 15, 31, 63, 127, 63, 511, 1023, 2047, 4095, 8191, 16383, 32767]
theorem laws_read_16_17_18.tab10 : rtab .any (opsOf Tryz.f9 10) = laws_read_16_17_18.T10 := by kernel_rfl
theorem laws_read_16_17_18.bits10 : waitsOk laws_read_16_17_18.T10.2 laws_read_16_17_18.B10 = true := by kernel_rfl
end Go.Proofs.YtabfehcpcjcomaaGreatDoor.QA0
namespace Go.Proofs.YtabfehcpcjcomaaGreatDoor.R
open Go.RowKit Go.Proofs.YtabfehcpcjcomaaGreatDoor.QA0 Go.Proofs.YtabfehcpcjcomaaGreatDoorW.PrintWords Go.Proofs.YtabfehcpcjcomaaGreatDoorW.PrintLast Go.Proofs.YtabfehcpcjcomaaGreatDoorW.PrintMore
set_option linter.unusedVariables false
set_option linter.unusedSimpArgs false
theorem dec_len (d : Nat) : ∀ n : Nat, n < 10 ^ (d + 1) → (Lib.decDigits n).length ≤ d + 1 := by
  induction d with
  | zero =>
    intro n h
    have h' : n < 10 := by simpa using h
    rw [Lib.decDigits, dif_pos h']
    simp
  | succ d ih =>
    intro n h
    rw [Lib.decDigits]
    by_cases c : n < 10
    · rw [dif_pos c]; simp
    · rw [dif_neg c, List.length_append]
      have h' : n / 10 < 10 ^ (d + 1) := Nat.div_lt_of_lt_mul (by rw [Nat.mul_comm, ← Nat.pow_succ]; exact h)
      have := ih (n / 10) h'
      simp only [List.length_cons, List.length_nil]
      omega
theorem step_dot (r : RS) : stepR r 46 = { r with dot := true, dp := r.nd } := by unfold stepR; rw [if_pos rfl]
theorem step_dig (r : RS) (d : Nat) (hd : d < 10) (h0 : 0 < r.nd ∨ 0 < d) : stepR r (UInt8.ofNat (48 + d)) = { r with dig := true, nd := r.nd + 1, m := r.m * 10 + d } := by
  have hn := dg_nat d hd
  have h1 : ¬ (UInt8.ofNat (48 + d) = 46) := fun e => by
    rw [e] at hn
    have : (46 : UInt8).toNat = 46 := rfl
    omega
  have h2 : ¬ (UInt8.ofNat (48 + d) = 48 ∧ r.nd = 0) := fun e => by
    rw [e.1] at hn
    have : (48 : UInt8).toNat = 48 := rfl
    omega
  unfold stepR
  rw [if_neg h1, if_neg h2, hn, Nat.add_sub_cancel_left]
theorem rf_dec (n : Nat) (h : 0 < n) : (rf (Lib.decDigits n)).m = n ∧ 0 < (rf (Lib.decDigits n)).nd ∧ (rf (Lib.decDigits n)).dot = false := by
  induction n using Nat.strongRecOn with
  | _ n ih =>
    rw [Lib.decDigits]
    by_cases c : n < 10
    · rw [dif_pos c]
      have e : rf [UInt8.ofNat (48 + n)] = stepR RS.zero (UInt8.ofNat (48 + n)) := rfl
      rw [e, step_dig _ n c (.inr h)]
      refine ⟨?_, ?_, rfl⟩
      · show 0 * 10 + n = n; omega
      · show 0 < 0 + 1; omega
    · rw [dif_neg c]
      obtain ⟨a, b, d⟩ := ih (n / 10) (by omega) (by omega)
      rw [rf_snoc, step_dig _ (n % 10) (by omega) (.inl b)]
      refine ⟨?_, ?_, d⟩
      · show (rf (Lib.decDigits (n / 10))).m * 10 + n % 10 = n
        rw [a]; omega
      · show 0 < (rf (Lib.decDigits (n / 10))).nd + 1; omega
theorem dec_zero : Lib.decDigits 0 = [48] := by rw [Lib.decDigits, dif_pos (by omega)]; rfl
theorem dec_no46 (n : Nat) : (Lib.decDigits n).filter (· == 46) = [] := by
  rw [List.filter_eq_nil_iff]
  intro c hc e
  have h1 := dec_dig n c hc
  rw [beq_iff_eq] at e
  rw [e] at h1
  exact absurd h1 (by decide)
def hundB (n : Nat) : Bs := Lib.decDigits (n / 100) ++ [46, UInt8.ofNat (48 + n % 100 / 10), UInt8.ofNat (48 + n % 10)]
theorem two_digs (r : RS) (a b : Nat) (ha : a < 10) (hb : b < 10) (h : 0 < r.nd ∨ 0 < a) : (stepR (stepR (stepR r 46) (UInt8.ofNat (48 + a))) (UInt8.ofNat (48 + b))).m = (r.m * 10 + a) * 10 + b ∧ (stepR (stepR (stepR r 46) (UInt8.ofNat (48 + a))) (UInt8.ofNat (48 + b))).dot = true ∧ (stepR (stepR (stepR r 46) (UInt8.ofNat (48 + a))) (UInt8.ofNat (48 + b))).dp - ((stepR (stepR (stepR r 46) (UInt8.ofNat (48 + a))) (UInt8.ofNat (48 + b))).nd : Int) = -2 := by
  have s1 : stepR (stepR r 46) (UInt8.ofNat (48 + a)) = ⟨r.m * 10 + a, r.nd + 1, (r.nd : Int), true, true⟩ := by
    rw [step_dot]
    exact step_dig _ a ha h
  have s2 : stepR (⟨r.m * 10 + a, r.nd + 1, (r.nd : Int), true, true⟩ : RS) (UInt8.ofNat (48 + b)) = ⟨(r.m * 10 + a) * 10 + b, r.nd + 1 + 1, (r.nd : Int), true, true⟩ := step_dig _ b hb (.inl (Nat.succ_pos _))
  rw [s1, s2]
  refine ⟨rfl, rfl, ?_⟩
  show (r.nd : Int) - ((r.nd + 1 + 1 : Nat) : Int) = -2
  omega
theorem fin_hund (n : Nat) (X : RS) (h1 : X.m = n) (h2 : X.dot = true) (h3 : X.dp - (X.nd : Int) = -2) (h4 : 0 < n) : X.m = n ∧ (if X.m = 0 then 0 else (if X.dot = true then X.dp else (X.nd : Int)) - (X.nd : Int)) = if n = 0 then 0 else (-2 : Int) := by
  refine ⟨h1, ?_⟩
  rw [if_neg (show ¬ X.m = 0 by omega), if_neg (show ¬ n = 0 by omega), if_pos h2]
  exact h3
theorem rf_hund (n : Nat) : (rf (hundB n)).m = n ∧ rfExp (hundB n) = if n = 0 then 0 else -2 := by
  have e : hundB n = ((Lib.decDigits (n / 100) ++ [46]) ++ [UInt8.ofNat (48 + n % 100 / 10)]) ++ [UInt8.ofNat (48 + n % 10)] := by simp [hundB]
  have d1 : n % 100 / 10 < 10 := by omega
  have d2 : n % 10 < 10 := by omega
  unfold rfExp rfDp
  rw [e, rf_snoc, rf_snoc, rf_snoc]
  rcases Nat.eq_zero_or_pos (n / 100) with h0 | h0
  · have er : rf (Lib.decDigits (n / 100)) = ⟨0, 0, -1, false, true⟩ := by rw [h0, dec_zero]; rfl
    rw [er]
    rcases Nat.eq_zero_or_pos (n % 100 / 10) with h1 | h1
    · have s0 : stepR (stepR (⟨0, 0, -1, false, true⟩ : RS) 46) (UInt8.ofNat (48 + n % 100 / 10)) = ⟨0, 0, -1, true, true⟩ := by rw [h1]; rfl
      rw [s0]
      rcases Nat.eq_zero_or_pos (n % 10) with h2 | h2
      · rw [h2]
        have hn : n = 0 := by omega
        subst hn
        exact ⟨rfl, rfl⟩
      · have s1 : stepR (⟨0, 0, -1, true, true⟩ : RS) (UInt8.ofNat (48 + n % 10)) = ⟨0 * 10 + n % 10, 0 + 1, -1, true, true⟩ := step_dig _ _ d2 (.inr h2)
        rw [s1]
        exact fin_hund n _ (show 0 * 10 + n % 10 = n by omega) rfl rfl (by omega)
    · obtain ⟨a, b, c⟩ := two_digs ⟨0, 0, -1, false, true⟩ _ _ d1 d2 (.inr h1)
      exact fin_hund n _ (a.trans (show (0 * 10 + n % 100 / 10) * 10 + n % 10 = n by omega)) b c (by omega)
  · obtain ⟨a, b, d⟩ := rf_dec (n / 100) h0
    obtain ⟨x, y, z⟩ := two_digs (rf (Lib.decDigits (n / 100))) _ _ d1 d2 (.inl b)
    exact fin_hund n _ (x.trans (by rw [a]; omega)) y z (by omega)
theorem hund_ne (n : Nat) : hundB n ≠ [] := by unfold hundB; simp
theorem hund_ch (n : Nat) : ∀ c ∈ hundB n, c = 46 ∨ (48 ≤ c.toNat ∧ c.toNat ≤ 57) := by
  intro c hc
  unfold hundB at hc
  rcases List.mem_append.1 hc with hc | hc
  · exact .inr (dec_dig _ c hc)
  · simp only [List.mem_cons, List.not_mem_nil, or_false] at hc
    rcases hc with rfl | rfl | rfl
    · exact .inl rfl
    · right; rw [dg_nat _ (by omega)]; omega
    · right; rw [dg_nat _ (by omega)]; omega
theorem dg_not46 (d : Nat) (h : d < 10) : (UInt8.ofNat (48 + d) == 46) = false := by
  refine beq_eq_false_iff_ne.2 fun e => ?_
  have hn := dg_nat d h
  rw [e] at hn
  have : (46 : UInt8).toNat = 46 := rfl
  omega
theorem hund_len (n : Nat) (h : n < 1099511627776) : (hundB n).length ≤ 14 := by
  have := dec_len 10 (n / 100) (by omega)
  unfold hundB
  rw [List.length_append]
  simp only [List.length_cons, List.length_nil]
  omega
theorem not_nan (x : Nat) (h : x ≤ Ieee.double.infRung) : ∃ s, (∃ m p, Ieee.double.read x = .number s m p) ∨ Ieee.double.read x = .infinity s := by
  have hw := Ieee.double.infRung_lt
  have hm : x % Ieee.double.signWeight = x := Nat.mod_eq_of_lt (by omega)
  unfold Ieee.Format.read
  dsimp only
  rw [hm]
  refine ⟨x / Ieee.double.signWeight % 2 == 1, ?_⟩
  by_cases a : x < Ieee.double.binade
  · rw [if_pos a]; exact .inl ⟨_, _, rfl⟩
  · rw [if_neg a]
    by_cases b : x < Ieee.double.infRung
    · rw [if_pos b]; exact .inl ⟨_, _, rfl⟩
    · rw [if_neg b, if_pos (by omega)]; exact .inr rfl
theorem nearest_rung (mag : Nat) : Ieee.double.nearest false mag 0 ≤ Ieee.double.infRung := by
  unfold Ieee.Format.nearest
  have h0 : ∀ r : Nat, Ieee.double.word false r = r := fun r => by unfold Ieee.Format.word; simp
  rw [h0]
  split
  · exact Nat.zero_le _
  · rw [h0]; exact Nat.min_le_right _ _
theorem int_rung (n : Nat) : floatOfInt .f64 (n : Int) ≤ Ieee.double.infRung := by
  have e : floatOfInt .f64 (n : Int) = Ieee.double.nearest (decide ((n : Int) < 0)) ((n : Int).natAbs) 0 := rfl
  rw [e, decide_eq_false (by omega)]
  exact nearest_rung _
theorem hund_some (n : Nat) : ∃ q, hundredthF (n : Int) = some q := by
  unfold hundredthF
  have h := not_nan _ (int_rung n)
  generalize floatOfInt .f64 (n : Int) = x at h
  have hd : (match Ieee.double.read 4636737291354636288 with | .number _ n _ => n != 0 | _ => false) = true := by decide +kernel
  show ∃ q, Ieee.double.div x 4636737291354636288 = some q
  unfold Ieee.Format.div
  generalize Ieee.double.read 4636737291354636288 = y at hd
  cases y with
  | number t n j =>
    have hn : n ≠ 0 := by simpa using hd
    obtain ⟨s, ⟨m', p', h⟩ | h⟩ := h
    · rw [h]; unfold Ieee.Datum.quotient; simp only [if_neg hn]; exact ⟨_, rfl⟩
    · rw [h]; unfold Ieee.Datum.quotient; exact ⟨_, rfl⟩
  | nan => cases hd
  | infinity => cases hd
theorem float_hund (n : Nat) (h : n < 1099511627776) : ∃ q, floatF (B (hundB n)) 64 = some (q, none) ∧ hundredthF (n : Int) = some q := by
  have hl := hund_len n h
  have hk : numOk (B (hundB n)).data.toList = true := by
    rw [B_data]
    unfold numOk
    simp only [Bool.and_eq_true, decide_eq_true_eq]
    refine ⟨⟨⟨?_, by omega⟩, ?_⟩, ?_⟩
    · rw [List.all_eq_true]
      intro c hc
      have := hund_ch n c hc
      simp only [Bool.or_eq_true, beq_iff_eq, Bool.and_eq_true, decide_eq_true_eq]
      exact this
    · unfold hundB
      have e1 := dg_not46 _ (show n % 100 / 10 < 10 by omega)
      have e2 := dg_not46 _ (show n % 10 < 10 by omega)
      generalize UInt8.ofNat (48 + n % 100 / 10) = c1 at e1
      generalize UInt8.ofNat (48 + n % 10) = c2 at e2
      rw [List.filter_append, dec_no46, List.filter_cons_of_pos (by decide), List.filter_cons_of_neg (by rw [e1]; simp), List.filter_cons_of_neg (by rw [e2]; simp), List.filter_nil]
      simp
    · rw [List.any_eq_true]
      refine ⟨UInt8.ofNat (48 + n % 10), by simp [hundB], ?_⟩
      rw [dg_nat _ (by omega)]
      simp only [Bool.and_eq_true, decide_eq_true_eq]
      omega
  obtain ⟨a, b⟩ := rf_hund n
  unfold floatF
  rw [B_data] at hk ⊢
  rcases Nat.eq_zero_or_pos n with h0 | h0
  · subst h0
    rw [if_pos rfl] at b
    rw [if_pos ⟨rfl, hk, by omega, by omega, by omega⟩, a, b]
    exact ⟨0, rfl, by decide +kernel⟩
  · obtain ⟨q, hq⟩ := hund_some n
    rw [if_neg (by omega)] at b
    rw [if_pos ⟨rfl, hk, by omega, by omega, by omega⟩, a, b]
    refine ⟨q, ?_, hq⟩
    unfold fval
    rw [if_neg (by omega), if_neg (by omega)]
    unfold hundredthF at hq
    have e : pow10F.getD (-(-2 : Int)).toNat 0 = 4636737291354636288 := rfl
    rw [e, hq]
    rfl
theorem nosp (c : UInt8) (h : 33 ≤ c.toNat) (h2 : c.toNat ≤ 126) : Lib.isSp c = false := by
  have key : ∀ m : UInt8, m.toNat < 33 → ¬ (c = m) := by intro m hm he; rw [he] at h; omega
  unfold Lib.isSp
  simp [key 9 (by decide), key 10 (by decide), key 11 (by decide), key 12 (by decide), key 13 (by decide), key 32 (by decide)]
theorem word_fields {L : List (List UInt8)} (rest : Bs) (hr : Lib.fieldsGo [] rest = L) (w : Bs) (hw : ∀ c ∈ w, Lib.isSp c = false) (hne : w ≠ []) (z : UInt8) (hz : Lib.isSp z = true) : Lib.fieldsGo [] (w ++ z :: rest) = w :: L := by
  have hd : ∀ (l cur : List UInt8), (∀ c ∈ l, Lib.isSp c = false) → cur ++ l ≠ [] → Lib.fieldsGo cur (l ++ z :: rest) = (cur ++ l) :: L := by
    intro l
    induction l with
    | nil =>
      intro cur _ hne
      rw [List.append_nil] at hne
      rw [List.nil_append, List.append_nil, Lib.fieldsGo_end _ _ _ hz hne, hr]
    | cons c l ih =>
      intro cur hc _
      rw [List.cons_append, Lib.fieldsGo_more _ _ _ (hc c (by simp)), ih (cur ++ [c]) (fun x hx => hc x (by simp [hx])) (by simp)]
      simp
  have := hd w [] hw (by simpa using hne)
  simpa using this
theorem dec_nosp (n : Nat) : ∀ c ∈ Lib.decDigits n, Lib.isSp c = false := fun c hc => by
  have := dec_dig n c hc
  exact nosp c (by omega) (by omega)
theorem hund_nosp (n : Nat) : ∀ c ∈ hundB n, Lib.isSp c = false := fun c hc => by
  rcases hund_ch n c hc with rfl | h
  · rfl
  · exact nosp c (by omega) (by omega)
def loadB : List Int → Bs
  | [a, b, c, d, e, f] => hundB a.toNat ++ 32 :: (hundB b.toNat ++ 32 :: (hundB c.toNat ++ 32 :: ((Lib.decDigits d.toNat ++ 47 :: Lib.decDigits e.toNat) ++ 32 :: (Lib.decDigits f.toNat ++ 10 :: []))))
  | _ => []
theorem load_fields (a b c d e f : Int) : Lib.fields (loadB [a, b, c, d, e, f]) = [hundB a.toNat, hundB b.toNat, hundB c.toNat, Lib.decDigits d.toNat ++ 47 :: Lib.decDigits e.toNat, Lib.decDigits f.toNat] := by
  unfold Lib.fields loadB
  have e10 : Lib.fieldsGo [] ([] : List UInt8) = [] := rfl
  have k5 := word_fields [] e10 _ (dec_nosp f.toNat) (dec_ne f.toNat) 10 (by decide)
  have k4 := word_fields _ k5 (Lib.decDigits d.toNat ++ 47 :: Lib.decDigits e.toNat) (by
    intro c hc
    rcases List.mem_append.1 hc with hc | hc
    · exact dec_nosp _ c hc
    · rcases List.mem_cons.1 hc with rfl | hc
      · rfl
      · exact dec_nosp _ c hc) (by simp) 32 (by decide)
  have k3 := word_fields _ k4 _ (hund_nosp c.toNat) (hund_ne _) 32 (by decide)
  have k2 := word_fields _ k3 _ (hund_nosp b.toNat) (hund_ne _) 32 (by decide)
  exact word_fields _ k2 _ (hund_nosp a.toNat) (hund_ne _) 32 (by decide)
theorem load_asc (a b c d e f : Int) : (loadB [a, b, c, d, e, f]).all (fun c => decide (c.toNat < 128)) = true := by
  have hh : ∀ n : Nat, (hundB n).all (fun c => decide (c.toNat < 128)) = true := by
    intro n
    rw [List.all_eq_true]
    intro c hc
    rcases hund_ch n c hc with rfl | h
    · rfl
    · simp only [decide_eq_true_eq]; omega
  simp only [loadB, List.all_append, List.all_cons, List.all_nil, asc_dec, hh]
  rfl
end Go.Proofs.YtabfehcpcjcomaaGreatDoor.R
namespace Go.Proofs.YtabfehcpcjcomaaGreatDoor.R
open Go.RowKit Go.Proofs.YtabfehcpcjcomaaGreatDoor.QA0 Go.Proofs.YtabfehcpcjcomaaGreatDoorW.PrintWords Go.Proofs.YtabfehcpcjcomaaGreatDoorW.PrintLast Go.Proofs.YtabfehcpcjcomaaGreatDoorW.PrintMore
set_option linter.unusedVariables false
set_option linter.unusedSimpArgs false
theorem parts_go (T : ByteArray) (x1 : Int) (hs : T.size ≤ 40000) : ∀ (n : Nat) (x5 : List ByteArray) (x6 x10 : Int), 0 ≤ x6 → x6 ≤ x10 → x10 ≤ (T.size : Int) → n = ((T.size : Int) - x10).toNat → (x5.length : Int) ≤ x10 → (∀ x ∈ x5, x.size ≤ T.size) → Ends (fun k => spec_Parts.l0 k T x1 x5 x6 (T.size : Int) x10) (Small T)
  | 0, x5, x6, x10, h0, h1, h2, hn, hl, hx => by
    refine Ends.step (fun k => by rw [spec_Parts.l0]) ?_
    have c : ¬ (x10 < (T.size : Int)) := by omega
    simp only [if_neg c, if_pos h0, if_pos (show x6 ≤ (T.size : Int) by omega), if_pos (show x5.length < 8796093022208 by omega)]
    refine Ends.now ⟨by simp; omega, ?_⟩
    intro x hm
    rcases List.mem_append.1 hm with hm | hm
    · exact hx x hm
    · rw [List.mem_singleton.1 hm]; exact ext_size _ _ _
  | n + 1, x5, x6, x10, h0, h1, h2, hn, hl, hx => by
    refine Ends.step (fun k => by rw [spec_Parts.l0]) ?_
    have c : x10 < (T.size : Int) := by omega
    have w : wrap64 (x10 + 1) = x10 + 1 := wr64 _ (by omega)
    simp only [if_pos c, if_pos (show 0 ≤ x10 by omega), w]
    by_cases d : bt T x10 = x1
    · simp only [if_pos d, if_pos h0, if_pos h1, if_pos (show x10 ≤ (T.size : Int) by omega), if_pos (show x5.length < 8796093022208 by omega)]
      refine parts_go T x1 hs n _ _ _ (by omega) (by omega) (by omega) (by omega) (by simp; omega) ?_
      intro x hm
      rcases List.mem_append.1 hm with hm | hm
      · exact hx x hm
      · rw [List.mem_singleton.1 hm]; exact ext_size _ _ _
    · simp only [if_neg d]
      exact parts_go T x1 hs n _ _ _ h0 (by omega) (by omega) (by omega) (by omega) hx
theorem parts_ends (T : ByteArray) (x1 : Int) (hs : T.size ≤ 40000) : Ends (fun k => spec_Parts.f k T x1) (Small T) := by
  unfold spec_Parts.f
  exact parts_go T x1 hs _ [] 0 0 (by omega) (by omega) (by omega) rfl (by simp) (by simp)
theorem where_go (T : ByteArray) (x1 : Int) (hs : T.size ≤ 40000) : ∀ (n : Nat) (x8 : Int), 0 ≤ x8 → x8 ≤ (T.size : Int) → n = ((T.size : Int) - x8).toNat → Ends (fun k => spec_Where.l0 k T x1 (T.size : Int) x8) (fun r => -1 ≤ r ∧ r < (T.size : Int))
  | 0, x8, h0, h1, hn => by
    refine Ends.step (fun k => by rw [spec_Where.l0]) ?_
    simp only [if_neg (show ¬ (x8 < (T.size : Int)) by omega)]
    exact Ends.now (by omega)
  | n + 1, x8, h0, h1, hn => by
    refine Ends.step (fun k => by rw [spec_Where.l0]) ?_
    have w : wrap64 (x8 + 1) = x8 + 1 := wr64 _ (by omega)
    simp only [if_pos (show x8 < (T.size : Int) by omega), if_pos h0, w]
    by_cases d : bt T x8 = x1
    · simp only [if_pos d]; exact Ends.now (by omega)
    · simp only [if_neg d]; exact where_go T x1 hs n _ (by omega) (by omega) (by omega)
theorem where_ends (T : ByteArray) (x1 : Int) (hs : T.size ≤ 40000) : Ends (fun k => spec_Where.f k T x1) (fun r => -1 ≤ r ∧ r < (T.size : Int)) := by
  unfold spec_Where.f
  exact where_go T x1 hs _ 0 (by omega) (by omega) rfl
theorem hundreds_ends (T : ByteArray) (hs : T.size ≤ 40000) : Ends (fun k => spec_hundreds.f k T) (fun r => U64 r.1) := by
  have u0 : U64 0 := by unfold U64; omega
  unfold spec_hundreds.f
  refine Ends.bind (where_ends T 46 hs) fun t ht => ?_
  have key : ∀ b : Bool, (b = false → 0 ≤ t) → Ends (fun k => spec_hundreds.j0 k T t b) (fun r => U64 r.1) := by
    intro b hb
    refine Ends.step (fun k => by rw [spec_hundreds.j0]) ?_
    cases b with
    | true => simp only [if_true]; exact Ends.now u0
    | false =>
      have h0 := hb rfl
      have w : wrap64 (t + 1) = t + 1 := wr64 _ (by omega)
      simp only [Bool.false_eq_true, if_false, if_pos h0, if_pos (show t ≤ (T.size : Int) by omega), w, if_pos (show 0 ≤ t + 1 by omega), if_pos (show t + 1 ≤ (T.size : Int) by omega)]
      refine Ends.bind (dec_ends _ (Nat.le_trans (ext_size _ _ _) hs)) fun a ha => ?_
      refine Ends.bind (dec_ends _ (Nat.le_trans (ext_size _ _ _) hs)) fun b hb => ?_
      by_cases ca : a.2 = true
      · simp only [if_pos ca]
        by_cases cb : b.2 = true
        · simp only [if_pos cb]; exact Ends.now (wU _)
        · simp only [if_neg cb]; exact Ends.now (wU _)
      · simp only [if_neg ca]; exact Ends.now (wU _)
  by_cases c : t < 1
  · simp only [if_pos c]; exact key true (fun h => by cases h)
  · simp only [if_neg c]; exact key _ (fun _ => by omega)
theorem small_go (x0 : Int) : ∀ (l A : List Int), (A ++ l).length ≤ 100000 → Ends (fun k => spec_small.l0 k x0 (A ++ l) ((A ++ l).length : Int) (A.length : Int)) (fun r => r = true ↔ ∀ x ∈ l, x < x0)
  | [], A, hl => by
    refine Ends.step (fun k => by rw [spec_small.l0]) ?_
    simp only [List.append_nil, if_neg (show ¬ ((A.length : Int) < (A.length : Int)) by omega)]
    exact Ends.now (by simp)
  | x :: l, A, hl => by
    have hll : A.length + (l.length + 1) ≤ 100000 := by simpa using hl
    refine Ends.step (fun k => by rw [spec_small.l0]) ?_
    have w : wrap64 ((A.length : Int) + 1) = ((A ++ [x]).length : Int) := by rw [wr64 _ (by omega)]; simp
    have e : A ++ x :: l = (A ++ [x]) ++ l := by simp
    have r : rd (A ++ x :: l) (A.length : Int) = x := by unfold rd; simp
    have cl : (A.length : Int) < ((A ++ x :: l).length : Int) := by simp; omega
    simp only [if_pos cl, if_pos (show (0 : Int) ≤ (A.length : Int) by omega), r, w]
    by_cases d : x ≥ x0
    · simp only [if_pos d]
      refine Ends.now ⟨by simp, fun h => ?_⟩
      have := h x (by simp)
      omega
    · simp only [if_neg d]
      have := small_go x0 l (A ++ [x]) (by rw [← e]; exact hl)
      rw [← e] at this
      refine this.mono fun r hr => ⟨fun h y hy => ?_, fun h => hr.2 fun y hy => h y (by simp [hy])⟩
      rcases List.mem_cons.1 hy with hy | hy
      · rw [hy]; omega
      · exact hr.1 h y hy
theorem small_ends (x0 : Int) (l : List Int) (hl : l.length ≤ 100000) : Ends (fun k => spec_small.f k x0 l) (fun r => r = true ↔ ∀ x ∈ l, x < x0) := by
  unfold spec_small.f
  exact small_go x0 l [] (by simpa using hl)
theorem padded_ev (m : Nat) (h : m < 100) : Ev (fun k => spec_Padded.f k (m : Int) 10 2) (B [UInt8.ofNat (48 + m / 10), UInt8.ofNat (48 + m % 10)]) := by
  unfold spec_Padded.f
  refine Ev.bind (digits_ev m (by omega)) ?_
  by_cases c : m < 10
  · have e : decB m = B [UInt8.ofNat (48 + m)] := by unfold decB B; rw [Lib.decDigits, dif_pos c]
    rw [e]
    refine Ev.step (fun k => by rw [spec_Padded.l0]) ?_
    have hz1 : (B [UInt8.ofNat (48 + m)]).size = 1 := rfl
    simp only [hz1, if_pos (show ((1 : Nat) : Int) < 2 by omega), if_pos (show 1 + 1 ≤ 9223372036854775807 by omega)]
    refine Ev.step (fun k => by rw [spec_Padded.l0]) ?_
    have e2 : (⟨#[48]⟩ : ByteArray) ++ B [UInt8.ofNat (48 + m)] = B [UInt8.ofNat (48 + m / 10), UInt8.ofNat (48 + m % 10)] := by
      rw [show (⟨#[48]⟩ : ByteArray) = B [48] from rfl, B_app, show m / 10 = 0 by omega, show m % 10 = m by omega]
      rfl
    rw [e2]
    have hz2 : (B [UInt8.ofNat (48 + m / 10), UInt8.ofNat (48 + m % 10)]).size = 2 := rfl
    simp only [hz2, if_neg (show ¬ (((2 : Nat) : Int) < 2) by omega)]
    exact Ev.now _
  · have e : decB m = B [UInt8.ofNat (48 + m / 10), UInt8.ofNat (48 + m % 10)] := by
      unfold decB B
      rw [Lib.decDigits, dif_neg c, Lib.decDigits, dif_pos (show m / 10 < 10 by omega)]
      rfl
    rw [e]
    refine Ev.step (fun k => by rw [spec_Padded.l0]) ?_
    have hz2 : (B [UInt8.ofNat (48 + m / 10), UInt8.ofNat (48 + m % 10)]).size = 2 := rfl
    simp only [hz2, if_neg (show ¬ (((2 : Nat) : Int) < 2) by omega)]
    exact Ev.now _
theorem hundT_ev (n : Int) (h : U64 n) : Ev (fun k => spec_Hundredths.f k n) (B (hundB n.toNat)) := by
  have h' := h
  unfold U64 at h
  have eq : Int.tdiv n 100 = ((n.toNat / 100 : Nat) : Int) := by rw [Int.tdiv_eq_ediv_of_nonneg (by omega)]; omega
  have em : Int.tmod n 100 = ((n.toNat % 100 : Nat) : Int) := by rw [Int.tmod_eq_emod_of_nonneg (by omega)]; omega
  unfold spec_Hundredths.f
  simp only [eq, em, u64w ((n.toNat / 100 : Nat) : Int) (by omega)]
  refine Ev.bind (text_ev ((n.toNat / 100 : Nat) : Int) (by unfold U64; omega)) ?_
  rw [Int.toNat_natCast]
  have hz := decB_size (n.toNat / 100) (by omega)
  simp only [if_pos (show (decB (n.toNat / 100)).size + 1 ≤ 9223372036854775807 by omega)]
  refine Ev.bind (padded_ev (n.toNat % 100) (by omega)) ?_
  have hz2 : (B [UInt8.ofNat (48 + n.toNat % 100 / 10), UInt8.ofNat (48 + n.toNat % 100 % 10)]).size = 2 := rfl
  have hz3 : (decB (n.toNat / 100) ++ (⟨#[46]⟩ : ByteArray)).size = (decB (n.toNat / 100)).size + 1 := by rw [ByteArray.size_append]; rfl
  simp only [hz2, hz3, if_pos (show (decB (n.toNat / 100)).size + 1 + 2 ≤ 9223372036854775807 by omega)]
  have e : (decB (n.toNat / 100) ++ (⟨#[46]⟩ : ByteArray)) ++ B [UInt8.ofNat (48 + n.toNat % 100 / 10), UInt8.ofNat (48 + n.toNat % 100 % 10)] = B (hundB n.toNat) := by
    rw [show decB (n.toNat / 100) = B (Lib.decDigits (n.toNat / 100)) from rfl, show (⟨#[46]⟩ : ByteArray) = B [46] from rfl, B_app, B_app, show n.toNat % 100 % 10 = n.toNat % 10 by omega]
    simp [hundB]
  rw [e]
  exact Ev.now _
theorem len_six {l : List Int} (h : l.length = 6) : ∃ a b c d e f, l = [a, b, c, d, e, f] := by
  match l, h with
  | [a, b, c, d, e, f], _ => exact ⟨a, b, c, d, e, f, rfl⟩
def Below40 (N : List Int) : Prop := ∀ x ∈ N, x < 1099511627776
theorem load_text (a b c d e f : Int) : ((((((((((((B (hundB a.toNat) ++ (⟨#[32]⟩ : ByteArray)) ++ B (hundB b.toNat)) ++ (⟨#[32]⟩ : ByteArray)) ++ B (hundB c.toNat)) ++ (⟨#[32]⟩ : ByteArray)) ++ decB d.toNat) ++ (⟨#[47]⟩ : ByteArray)) ++ decB e.toNat) ++ (⟨#[32]⟩ : ByteArray)) ++ decB f.toNat) ++ (⟨#[10]⟩ : ByteArray))) = B (loadB [a, b, c, d, e, f]) := by
  have e1 : (⟨#[32]⟩ : ByteArray) = B [32] := rfl
  have e2 : (⟨#[10]⟩ : ByteArray) = B [10] := rfl
  have e3 : (⟨#[47]⟩ : ByteArray) = B [47] := rfl
  have ed : ∀ n, decB n = B (Lib.decDigits n) := fun _ => rfl
  simp only [e1, e2, e3, ed, B_app, loadB]
  congr 1
  simp
theorem loadp_ends (N : List Int) (hu : ∀ x ∈ N, U64 x) : Ends (fun k => spec_LoadavgPrint.f k (rowsOf N)) (fun r => (N.length = 6 → Below40 N → r.2 = 1) ∧ (r.2 = 1 → N.length = 6 ∧ Below40 N ∧ r.1 = B (loadB N))) := by
  unfold spec_LoadavgPrint.f
  have e1 : ((rowsOf N).length : Int) = 1 := rfl
  have e2 : (rd_T48 (rowsOf N) 0) = ⟨⟨#[]⟩, N, []⟩ := rfl
  have no : ∀ (P : (N.length = 6 → Below40 N → False)), Ends (fun k => spec_LoadavgPrint.j0 k (rowsOf N) true) (fun r => (N.length = 6 → Below40 N → r.2 = 1) ∧ (r.2 = 1 → N.length = 6 ∧ Below40 N ∧ r.1 = B (loadB N))) := by
    intro P
    refine Ends.step (fun k => by rw [spec_LoadavgPrint.j0]) ?_
    simp only [if_true]
    exact Ends.now ⟨fun h1 h2 => (P h1 h2).elim, by simp⟩
  simp only [if_pos e1, e2, if_pos (show (0 : Int) < ((rowsOf N).length : Int) by rw [e1]; omega)]
  by_cases c : (N.length : Int) = 6
  · have s : spec_sized.f ⟨#[]⟩ N [] 6 0 = some true := by unfold spec_sized.f; rw [if_pos c]; rfl
    simp only [s, Option.bind_some, if_true]
    refine Ends.bind (small_ends 1099511627776 N (by omega)) fun t ht => ?_
    cases t with
    | false =>
      simp only [Bool.not_false]
      exact no fun _ hb => by have := ht.2 hb; cases this
    | true =>
      have hb : Below40 N := ht.1 rfl
      simp only [Bool.not_true]
      obtain ⟨a, b, c', d, e, f, rfl⟩ := len_six (l := N) (by omega)
      refine Ends.step (fun k => by rw [spec_LoadavgPrint.j0]) ?_
      have hl : (([a, b, c', d, e, f] : List Int).length : Int) = 6 := rfl
      have r0 : rd [a, b, c', d, e, f] 0 = a := rfl
      have r1 : rd [a, b, c', d, e, f] 1 = b := rfl
      have r2 : rd [a, b, c', d, e, f] 2 = c' := rfl
      have r3 : rd [a, b, c', d, e, f] 3 = d := rfl
      have r4 : rd [a, b, c', d, e, f] 4 = e := rfl
      have r5 : rd [a, b, c', d, e, f] 5 = f := rfl
      have ua := hu a (by simp)
      have ub := hu b (by simp)
      have uc := hu c' (by simp)
      have ud := hu d (by simp)
      have ue := hu e (by simp)
      have uf := hu f (by simp)
      have za := hund_len a.toNat (by have := hb a (by simp); unfold U64 at ua; omega)
      have zb := hund_len b.toNat (by have := hb b (by simp); unfold U64 at ub; omega)
      have zc := hund_len c'.toNat (by have := hb c' (by simp); unfold U64 at uc; omega)
      have zd := decT_size d ud
      have ze := decT_size e ue
      have zf := decT_size f uf
      unfold decT at zd ze zf
      have k1 : (⟨#[32]⟩ : ByteArray).size = 1 := rfl
      have k2 : (⟨#[47]⟩ : ByteArray).size = 1 := rfl
      simp only [Bool.false_eq_true, if_false, if_pos (show (0 : Int) < ((rowsOf [a, b, c', d, e, f]).length : Int) by rw [e1]; omega), e2, hl, r0, r1, r2, r3, r4, r5, if_pos (show (0 : Int) < 6 by omega), if_pos (show (1 : Int) < 6 by omega), if_pos (show (2 : Int) < 6 by omega), if_pos (show (3 : Int) < 6 by omega), if_pos (show (4 : Int) < 6 by omega), if_pos (show (5 : Int) < 6 by omega), ByteArray.size_append, k1, k2]
      refine Ends.bind (Ends.ev (hundT_ev a ua)) fun t0 h0 => ?_
      subst h0
      simp only [B_size, if_pos (show (hundB a.toNat).length + 1 ≤ 9223372036854775807 by omega)]
      refine Ends.bind (Ends.ev (hundT_ev b ub)) fun t0 h0 => ?_
      subst h0
      simp only [B_size, if_pos (show (hundB a.toNat).length + 1 + (hundB b.toNat).length ≤ 9223372036854775807 by omega), if_pos (show (hundB a.toNat).length + 1 + (hundB b.toNat).length + 1 ≤ 9223372036854775807 by omega)]
      refine Ends.bind (Ends.ev (hundT_ev c' uc)) fun t0 h0 => ?_
      subst h0
      simp only [B_size, if_pos (show (hundB a.toNat).length + 1 + (hundB b.toNat).length + 1 + (hundB c'.toNat).length ≤ 9223372036854775807 by omega), if_pos (show (hundB a.toNat).length + 1 + (hundB b.toNat).length + 1 + (hundB c'.toNat).length + 1 ≤ 9223372036854775807 by omega)]
      refine Ends.bind (Ends.ev (text_ev d ud)) fun t0 h0 => ?_
      subst h0
      simp only [if_pos (show (hundB a.toNat).length + 1 + (hundB b.toNat).length + 1 + (hundB c'.toNat).length + 1 + (decB d.toNat).size ≤ 9223372036854775807 by omega), if_pos (show (hundB a.toNat).length + 1 + (hundB b.toNat).length + 1 + (hundB c'.toNat).length + 1 + (decB d.toNat).size + 1 ≤ 9223372036854775807 by omega)]
      refine Ends.bind (Ends.ev (text_ev e ue)) fun t0 h0 => ?_
      subst h0
      simp only [if_pos (show (hundB a.toNat).length + 1 + (hundB b.toNat).length + 1 + (hundB c'.toNat).length + 1 + (decB d.toNat).size + 1 + (decB e.toNat).size ≤ 9223372036854775807 by omega), if_pos (show (hundB a.toNat).length + 1 + (hundB b.toNat).length + 1 + (hundB c'.toNat).length + 1 + (decB d.toNat).size + 1 + (decB e.toNat).size + 1 ≤ 9223372036854775807 by omega)]
      refine Ends.bind (Ends.ev (text_ev f uf)) fun t0 h0 => ?_
      subst h0
      simp only [if_pos (show (hundB a.toNat).length + 1 + (hundB b.toNat).length + 1 + (hundB c'.toNat).length + 1 + (decB d.toNat).size + 1 + (decB e.toNat).size + 1 + (decB f.toNat).size ≤ 9223372036854775807 by omega), if_pos (show (hundB a.toNat).length + 1 + (hundB b.toNat).length + 1 + (hundB c'.toNat).length + 1 + (decB d.toNat).size + 1 + (decB e.toNat).size + 1 + (decB f.toNat).size + 1 ≤ 9223372036854775807 by omega)]
      refine Ends.now ⟨fun _ _ => rfl, fun _ => ⟨rfl, hb, ?_⟩⟩
      exact load_text a b c' d e f
  · have s : spec_sized.f ⟨#[]⟩ N [] 6 0 = some false := by unfold spec_sized.f; rw [if_neg c]
    simp only [s, Option.bind_some, Bool.false_eq_true, if_false]
    exact no fun h _ => c (by omega)
def LoadIs (T : ByteArray) (r : List S48 × Bool × Int) : Prop := r.2.2 = 1 → ∃ N : List Int, N.length = 6 ∧ (∀ x ∈ N, U64 x) ∧ Below40 N ∧ T = B (loadB N) ∧ r.1 = rowsOf N ∧ r.2.1 = true
theorem loadm_ends (T : ByteArray) (hs : T.size ≤ 40000) (N : List Int) (hu : ∀ x ∈ N, U64 x) (a2 : Bool) :
    Ends (fun k => spec_meant_37.f k T (rowsOf N) a2 () false) (LoadIs T) := by
  have key : ∀ b : Bool, Ends (fun k => spec_meant_37.j0 k T (rowsOf N) false b) (LoadIs T) := by
    intro b
    refine Ends.step (fun k => by rw [spec_meant_37.j0]) ?_
    cases b with
    | true => simp only [if_true]; exact Ends.now (fun h => by simp at h)
    | false =>
      simp only [Bool.false_eq_true, if_false]
      refine Ends.bind (loadp_ends N hu) fun r hr => ?_
      by_cases c : r.2 = 1
      · obtain ⟨h6, hb, ht⟩ := hr.2 c
        simp only [if_pos c]
        by_cases d : r.1.toList = T.toList
        · simp only [if_pos d]
          exact Ends.now fun _ => ⟨N, h6, hu, hb, by rw [← ht]; exact (toList_inj d).symm, rfl, rfl⟩
        · simp only [if_neg d]
          exact Ends.now (fun h => by simp at h)
      · simp only [if_neg c]
        exact Ends.now (fun h => by simp at h)
  unfold spec_meant_37.f
  cases a2 with
  | true =>
    simp only [if_true]
    exact Ends.bind (plain_ends T hs) fun p _ => key _
  | false =>
    simp only [Bool.false_eq_true, if_false]
    exact key _
def wideT : ByteArray := B (List.replicate 40000 0)
theorem wideT_size : wideT.size = 40000 := by unfold wideT; rw [B_size, List.length_replicate]
theorem loadr_go (T : ByteArray) (hs : T.size ≤ 40000) (x5 p : List ByteArray) (h5 : x5.length = 5) (hx : ∀ x ∈ x5, x.size ≤ 40000) (hp : Ev (fun k => spec_Parts.f k (rdOf ByteArray.empty x5 3) 47) p) (hp2 : p.length = 2) (hps : ∀ x ∈ p, x.size ≤ 40000) :
    ∀ (l A : List ByteArray) (nums : List Int), (A ++ l).length ≤ 10 → (∀ x ∈ l, x.size ≤ 40000) → nums.length ≤ A.length → (∀ x ∈ nums, U64 x) →
      Ends (fun k => spec_LoadavgRead.l0 k T x5 (A ++ l) ((A ++ l).length : Int) (A.length : Int) ⟨#[]⟩ nums) (LoadIs T)
  | [], A, nums, hl, hf, hn, hu => by
    refine Ends.step (fun k => by rw [spec_LoadavgRead.l0]) ?_
    simp only [List.append_nil] at hl
    simp only [List.append_nil, if_neg (show ¬ ((A.length : Int) < (A.length : Int)) by omega), if_pos (show (3 : Int) < (x5.length : Int) by omega)]
    refine Ends.bind (Ends.ev hp) fun t ht => ?_
    subst ht
    simp only [if_pos (show (4 : Int) < (x5.length : Int) by omega), Option.bind_some, List.length_cons, List.length_nil, if_pos (show t.length + (0 + 1) < 8796093022208 by omega)]
    have h4 : (rdOf ByteArray.empty x5 4).size ≤ 40000 := by
      match x5, h5 with
      | [_, _, _, _, y], _ => exact hx y (by simp)
    refine Ends.bind (decimals_ends (t ++ [rdOf ByteArray.empty x5 4]) wideT (by rw [wideT_size]; omega) ⟨by rw [wideT_size]; simp; omega, by
      intro x hm
      rw [wideT_size]
      rcases List.mem_append.1 hm with hm | hm
      · exact hps x hm
      · rw [List.mem_singleton.1 hm]; exact h4⟩) fun d hd => ?_
    simp only [if_pos (show nums.length + d.1.length < 17592186044416 by omega)]
    have hU : ∀ x ∈ nums ++ d.1, U64 x := by
      intro x hm
      rcases List.mem_append.1 hm with hm | hm
      · exact hu x hm
      · exact hd.2 x hm
    refine Ends.bind (loadm_ends T hs (nums ++ d.1) hU d.2) fun r hr => ?_
    exact Ends.now hr
  | f :: l, A, nums, hl, hf, hn, hu => by
    have hll : A.length + (l.length + 1) ≤ 10 := by simpa using hl
    refine Ends.step (fun k => by rw [spec_LoadavgRead.l0]) ?_
    have w : wrap64 ((A.length : Int) + 1) = ((A ++ [f]).length : Int) := by rw [wr64 _ (by omega)]; simp
    have e : A ++ f :: l = (A ++ [f]) ++ l := by simp
    have cl : (A.length : Int) < ((A ++ f :: l).length : Int) := by simp; omega
    simp only [if_pos cl, if_pos (show (0 : Int) ≤ (A.length : Int) by omega), rd_mid, w]
    refine Ends.bind (hundreds_ends f (hf f (by simp))) fun t ht => ?_
    by_cases c : t.2 = true
    · simp only [if_pos c, Option.bind_some, List.length_cons, List.length_nil, if_pos (show nums.length + (0 + 1) < 17592186044416 by omega)]
      have := loadr_go T hs x5 p h5 hx hp hp2 hps l (A ++ [f]) (nums ++ [t.1]) (by rw [← e]; exact hl) (fun x hx => hf x (by simp [hx])) (by simp; omega) (by
        intro x hm
        rcases List.mem_append.1 hm with hm | hm
        · exact hu x hm
        · rw [List.mem_singleton.1 hm]; exact ht)
      rw [← e] at this
      simp only [List.length_append, List.length_cons, List.length_nil] at this ⊢
      exact this
    · simp only [if_neg c]
      exact Ends.now (fun h => by simp at h)
theorem load_read (T : ByteArray) (hs : T.size ≤ 40000) : Ends (fun k => spec_LoadavgRead.f k T) (LoadIs T) := by
  unfold spec_LoadavgRead.f
  refine Ends.bind (single_ends T hs) fun t ht => ?_
  refine Ends.bind (fields_ends t (by omega)) fun x5 hx5 => ?_
  have no : ∀ y, Ends (fun k => spec_LoadavgRead.j0 k T y true) (LoadIs T) := by
    intro y
    refine Ends.step (fun k => by rw [spec_LoadavgRead.j0]) ?_
    simp only [if_true]
    exact Ends.now (fun h => by simp at h)
  by_cases c : (x5.length : Int) = 5
  · have hx : ∀ x ∈ x5, x.size ≤ 40000 := fun x hm => Nat.le_trans (hx5.2 x hm) (by omega)
    have h3 : (rdOf ByteArray.empty x5 3).size ≤ 40000 := by
      match x5, c, hx with
      | [_, _, _, y, _], _, hx => exact hx y (by simp)
    simp only [if_pos c, if_pos (show (3 : Int) < (x5.length : Int) by omega)]
    obtain ⟨p, hp, hps⟩ := parts_ends (rdOf ByteArray.empty x5 3) 47 h3
    refine Ends.bind (P := fun x => x = p) ⟨p, hp, rfl⟩ fun p' e => ?_
    subst e
    by_cases d : (p'.length : Int) = 2
    · have hb : ((p'.length : Int) != 2) = false := by simpa using d
      simp only [hb]
      refine Ends.step (fun k => by rw [spec_LoadavgRead.j0]) ?_
      simp only [Bool.false_eq_true, if_false, if_pos (show (3 : Int) ≤ (x5.length : Int) by omega), Option.bind_some]
      exact loadr_go T hs x5 p' (by omega) hx hp (by omega) (fun x hm => Nat.le_trans (hps.2 x hm) h3) (x5.take 3) [] [] (by simp; omega) (fun x hm => hx x (List.mem_of_mem_take hm)) (by simp) (by simp)
    · have hb : ((p'.length : Int) != 2) = true := by simpa using d
      simp only [hb]
      exact no _
  · simp only [if_neg c]
    exact no _
end Go.Proofs.YtabfehcpcjcomaaGreatDoor.R
namespace Go.Proofs.YtabfehcpcjcomaaGreatDoor.QA0
open Go.RowKit Go.Proofs.YtabfehcpcjcomaaGreatDoorW.PrintWords Go.Proofs.YtabfehcpcjcomaaGreatDoorW.PrintLast Go.Proofs.YtabfehcpcjcomaaGreatDoorW.PrintMore
attribute [local go_sem] max2_int min2_int max_two min_two max_three min_three max_four min_four
set_option linter.unusedVariables false
set_option linter.unusedSimpArgs false
def laws_read_10_11_12.f (k : Nat) (a0 : ByteArray) (a1 : Unit) (a2 : Unit) (a3 : Unit) : Option (Bool) := if (a0.size : Int) > 40000 then (some true) else ((spec_LoadavgRead.f k a0).bind fun bt895 => (if bt895.2.2 = 1 then ((impl_Loadavg.f a0).bind fun bt901 => (if bt895.2.1 = true then ((spec_LoadavgTree.f k bt895.1).bind fun bt914 => (if bt914.2.2.2.2.2.2.2.2 = 1 then (if bt901.2.2.2.2.2.2.2.2 = 0 then ((laws_toNode.f k bt901.1 bt901.2.1 bt901.2.2.1 bt901.2.2.2.1 bt901.2.2.2.2.1 bt901.2.2.2.2.2.1 bt901.2.2.2.2.2.2.1 bt901.2.2.2.2.2.2.2.1).bind fun bt926 => ((spec_SameNode.f k bt926.1 bt926.2.1 bt926.2.2.1 bt926.2.2.2.1 bt926.2.2.2.2.1 bt926.2.2.2.2.2.1 bt926.2.2.2.2.2.2.1 bt926.2.2.2.2.2.2.2 bt914.1 bt914.2.1 bt914.2.2.1 bt914.2.2.2.1 bt914.2.2.2.2.1 bt914.2.2.2.2.2.1 bt914.2.2.2.2.2.2.1 bt914.2.2.2.2.2.2.2.1).bind fun t936 => (if t936 = true then ((laws_lives.f).bind fun t937 => (some t937)) else (some false)))) else (some false)) else ((laws_lives.f).bind fun t938 => (some t938)))) else (if bt901.2.2.2.2.2.2.2.2 = 1 then ((laws_lives.f).bind fun t913 => (some t913)) else (some false)))) else ((laws_lives.f).bind fun t900 => (some t900))))
def laws_read_10_11_12.T10 : Bool × List (List Nat × List Nat) := (true, [([], []), ([0], [0]), ([1], [1]), ([2], [2]), ([3, 2], [2, 3]), ([4, 2, 2], [2, 4]), ([5], [5]), ([6, 5, 5], [5, 6]), ([5], [5]), ([7, 8, 7, 5], [5, 7, 8]), ([5, 9, 2], [2, 5, 9]), ([2, 10], [2, 10]), ([11, 9], [11]), ([12, 12], [12]), ([12, 13], [12, 13]), ([14, 13, 0, 1, 2, 3, 4, 5, 6, 7, 8, 9, 10, 11, 12, 13, 14], [14])])
def laws_read_10_11_12.B10 : List Nat := [0, 1, 3, 7, 15, 31, 63, 127, 63, 511, 1023, 2047, 4095, 8191, 16383, 32767]
theorem laws_read_10_11_12.tab10 : rtab .any (opsOf Tryz.f9 10) = laws_read_10_11_12.T10 := by kernel_rfl
theorem laws_read_10_11_12.bits10 : waitsOk laws_read_10_11_12.T10.2 laws_read_10_11_12.B10 = true := by kernel_rfl
set_option maxHeartbeats 8000000 in
set_option maxRecDepth 100000 in
theorem laws_read_10_11_12.calls (k : Nat) (a0 : ByteArray) (a1 : Unit) (a2 : Unit) (a3 : Unit) (r : Bool) (w : World) (h : laws_read_10_11_12.f k a0 a1 a2 a3 = some r) (hTabs : R.LTabs w := by first | assumption | exact Aside0.out ‹Aside0 (R.LTabs _)› | exact R.LTabs.below (Aside0.out ‹Aside0 (R.LTabs _)›) (by repeat (first | (with_reducible first | exact Aside0.out ‹Aside0 (Below _ _ _)› | exact Below.refl _ _ | apply below_alloc | apply pw_below_drewN | apply below_drew1)))) :
 Calls Tryz.prog 9 #[.string a0, .func (.func 10) #[] #[], .func (.func 11) #[] #[], .func (.func 12) #[] #[]] w fun e w' => e = .returned (.bool r) ∧ Below w.heap.size w w' := by
 have HTabs := Aside0.mk hTabs
 clear hTabs
 have hu34 := Tryz.underlying34
 have hu38 := Tryz.underlying38
 have HB := Aside0.mk (Below.refl w.heap.size w)
 have H : (if (a0.size : Int) > 40000 then (some true) else ((spec_LoadavgRead.f k a0).bind fun bt895 => (if bt895.2.2 = 1 then ((impl_Loadavg.f a0).bind fun bt901 => (if bt895.2.1 = true then ((spec_LoadavgTree.f k bt895.1).bind fun bt914 => (if bt914.2.2.2.2.2.2.2.2 = 1 then (if bt901.2.2.2.2.2.2.2.2 = 0 then ((laws_toNode.f k bt901.1 bt901.2.1 bt901.2.2.1 bt901.2.2.2.1 bt901.2.2.2.2.1 bt901.2.2.2.2.2.1 bt901.2.2.2.2.2.2.1 bt901.2.2.2.2.2.2.2.1).bind fun bt926 => ((spec_SameNode.f k bt926.1 bt926.2.1 bt926.2.2.1 bt926.2.2.2.1 bt926.2.2.2.2.1 bt926.2.2.2.2.2.1 bt926.2.2.2.2.2.2.1 bt926.2.2.2.2.2.2.2 bt914.1 bt914.2.1 bt914.2.2.1 bt914.2.2.2.1 bt914.2.2.2.2.1 bt914.2.2.2.2.2.1 bt914.2.2.2.2.2.2.1 bt914.2.2.2.2.2.2.2.1).bind fun t936 => (if t936 = true then ((laws_lives.f).bind fun t937 => (some t937)) else (some false)))) else (some false)) else ((laws_lives.f).bind fun t938 => (some t938)))) else (if bt901.2.2.2.2.2.2.2.2 = 1 then ((laws_lives.f).bind fun t913 => (some t913)) else (some false)))) else ((laws_lives.f).bind fun t900 => (some t900))))) = some r := h
 clear h
 by_cases c5 : (a0.size : Int) > 40000
 · rw [if_pos c5] at H
   have c5b0 : decide (40000 < (a0.size : Int)) = true := decide_eq_true c5
   have c5b1 : decide (40000 < a0.size) = true := decide_eq_true (by omega)
   clear c5
   obtain rfl := Option.some.inj H
   go_enter Tryz.func9, Tryz.ntmps9
   go_wp2
   go_ret
   exact ⟨by first | rfl | (simp [errW_none, errW_some] <;> rfl) | (simp [*, errW_none, errW_some] <;> rfl), by repeat (first | (with_reducible first | exact HB.out | apply below_alloc | apply pw_below_drewN | apply below_drew1) | exact HB.out)⟩
 · rw [if_neg c5] at H
   have c5b0 : decide (40000 < (a0.size : Int)) = false := decide_eq_false c5
   have c5b1 : decide (40000 < a0.size) = false := decide_eq_false (by omega)
   clear c5
   replace H := Option.bind_eq_some_iff.mp H
   obtain ⟨⟨t895, t898, t899⟩, A60, H⟩ := H
   replace H : (if t899 = 1 then ((impl_Loadavg.f a0).bind fun bt901 => (if t898 = true then ((spec_LoadavgTree.f k t895).bind fun bt914 => (if bt914.2.2.2.2.2.2.2.2 = 1 then (if bt901.2.2.2.2.2.2.2.2 = 0 then ((laws_toNode.f k bt901.1 bt901.2.1 bt901.2.2.1 bt901.2.2.2.1 bt901.2.2.2.2.1 bt901.2.2.2.2.2.1 bt901.2.2.2.2.2.2.1 bt901.2.2.2.2.2.2.2.1).bind fun bt926 => ((spec_SameNode.f k bt926.1 bt926.2.1 bt926.2.2.1 bt926.2.2.2.1 bt926.2.2.2.2.1 bt926.2.2.2.2.2.1 bt926.2.2.2.2.2.2.1 bt926.2.2.2.2.2.2.2 bt914.1 bt914.2.1 bt914.2.2.1 bt914.2.2.2.1 bt914.2.2.2.2.1 bt914.2.2.2.2.2.1 bt914.2.2.2.2.2.2.1 bt914.2.2.2.2.2.2.2.1).bind fun t936 => (if t936 = true then ((laws_lives.f).bind fun t937 => (some t937)) else (some false)))) else (some false)) else ((laws_lives.f).bind fun t938 => (some t938)))) else (if bt901.2.2.2.2.2.2.2.2 = 1 then ((laws_lives.f).bind fun t913 => (some t913)) else (some false)))) else ((laws_lives.f).bind fun t900 => (some t900))) = some r := H
   have A6 := Aside0.mk A60
   clear A60
   by_cases c7 : t899 = 1
   · rw [if_pos c7] at H
     have c7b0 : (t899 == 1) = true := beq_iff_eq.mpr c7
     have c7b1 : (t899 != 1) = false := bne_eq_false_iff_eq.mpr c7
     clear c7
     replace H := Option.bind_eq_some_iff.mp H
     obtain ⟨⟨t901, t902, t903, t904, t905, t906, t907, t908, t911⟩, A80, H⟩ := H
     replace H : (if t898 = true then ((spec_LoadavgTree.f k t895).bind fun bt914 => (if bt914.2.2.2.2.2.2.2.2 = 1 then (if t911 = 0 then ((laws_toNode.f k t901 t902 t903 t904 t905 t906 t907 t908).bind fun bt926 => ((spec_SameNode.f k bt926.1 bt926.2.1 bt926.2.2.1 bt926.2.2.2.1 bt926.2.2.2.2.1 bt926.2.2.2.2.2.1 bt926.2.2.2.2.2.2.1 bt926.2.2.2.2.2.2.2 bt914.1 bt914.2.1 bt914.2.2.1 bt914.2.2.2.1 bt914.2.2.2.2.1 bt914.2.2.2.2.2.1 bt914.2.2.2.2.2.2.1 bt914.2.2.2.2.2.2.2.1).bind fun t936 => (if t936 = true then ((laws_lives.f).bind fun t937 => (some t937)) else (some false)))) else (some false)) else ((laws_lives.f).bind fun t938 => (some t938)))) else (if t911 = 1 then ((laws_lives.f).bind fun t913 => (some t913)) else (some false))) = some r := H
     have A8 := Aside0.mk A80
     clear A80
     by_cases c9 : t898 = true
     · subst c9
       have H1 : ((spec_LoadavgTree.f k t895).bind fun bt914 => (if bt914.2.2.2.2.2.2.2.2 = 1 then (if t911 = 0 then ((laws_toNode.f k t901 t902 t903 t904 t905 t906 t907 t908).bind fun bt926 => ((spec_SameNode.f k bt926.1 bt926.2.1 bt926.2.2.1 bt926.2.2.2.1 bt926.2.2.2.2.1 bt926.2.2.2.2.2.1 bt926.2.2.2.2.2.2.1 bt926.2.2.2.2.2.2.2 bt914.1 bt914.2.1 bt914.2.2.1 bt914.2.2.2.1 bt914.2.2.2.2.1 bt914.2.2.2.2.2.1 bt914.2.2.2.2.2.2.1 bt914.2.2.2.2.2.2.2.1).bind fun t936 => (if t936 = true then ((laws_lives.f).bind fun t937 => (some t937)) else (some false)))) else (some false)) else ((laws_lives.f).bind fun t938 => (some t938)))) = some r := by rw [if_pos rfl] at H; exact H
       clear H
       have H := H1
       clear H1
       replace H := Option.bind_eq_some_iff.mp H
       obtain ⟨⟨t914, t915, t916, t917, t918, t919, t920, t921, t924⟩, A100, H⟩ := H
       replace H : (if t924 = 1 then (if t911 = 0 then ((laws_toNode.f k t901 t902 t903 t904 t905 t906 t907 t908).bind fun bt926 => ((spec_SameNode.f k bt926.1 bt926.2.1 bt926.2.2.1 bt926.2.2.2.1 bt926.2.2.2.2.1 bt926.2.2.2.2.2.1 bt926.2.2.2.2.2.2.1 bt926.2.2.2.2.2.2.2 t914 t915 t916 t917 t918 t919 t920 t921).bind fun t936 => (if t936 = true then ((laws_lives.f).bind fun t937 => (some t937)) else (some false)))) else (some false)) else ((laws_lives.f).bind fun t938 => (some t938))) = some r := H
       have A10 := Aside0.mk A100
       clear A100
       by_cases c11 : t924 = 1
       · rw [if_pos c11] at H
         have c11b0 : (t924 == 1) = true := beq_iff_eq.mpr c11
         have c11b1 : (t924 != 1) = false := bne_eq_false_iff_eq.mpr c11
         clear c11
         by_cases c12 : t911 = 0
         · rw [if_pos c12] at H
           have c12b0 : (t911 == 0) = true := beq_iff_eq.mpr c12
           have c12b1 : (t911 != 0) = false := bne_eq_false_iff_eq.mpr c12
           clear c12
           replace H := Option.bind_eq_some_iff.mp H
           obtain ⟨⟨t926, t927, t928, t929, t930, t931, t932, t933⟩, A130, H⟩ := H
           replace H : ((spec_SameNode.f k t926 t927 t928 t929 t930 t931 t932 t933 t914 t915 t916 t917 t918 t919 t920 t921).bind fun t936 => (if t936 = true then ((laws_lives.f).bind fun t937 => (some t937)) else (some false))) = some r := H
           have A13 := Aside0.mk A130
           clear A130
           replace H := Option.bind_eq_some_iff.mp H
           obtain ⟨t936, A140, H⟩ := H
           replace H : (if t936 = true then ((laws_lives.f).bind fun t937 => (some t937)) else (some false)) = some r := H
           have A14 := Aside0.mk A140
           clear A140
           by_cases c15 : t936 = true
           · subst c15
             have H1 : ((laws_lives.f).bind fun t937 => (some t937)) = some r := by rw [if_pos rfl] at H; exact H
             clear H
             have H := H1
             clear H1
             replace H := Option.bind_eq_some_iff.mp H
             obtain ⟨t937, A160, H⟩ := H
             replace H : (some t937) = some r := H
             have A16 := Aside0.mk A160
             clear A160
             obtain rfl := Option.some.inj H
             go_enter Tryz.func9, Tryz.ntmps9
             try go_wp2_with (first | (go_at_call 10; (with_reducible refine (spec_LoadavgRead.calls k a0 t895 true t899 _ A6.out).mono ?_); rintro e w17 ⟨v896, rfl, ho0, hb⟩; have n0_ := Aside0.mk (Kd.V_lower (Kd.V_mono (ok' := fun k_ => True) ho0 (fun k_ hk_ => trivial)) (below_size (by repeat (first | (with_reducible first | exact HB.out | apply below_alloc | apply pw_below_drewN | apply below_drew1) | exact HB.out)))); have n1_ := Aside0.mk (below_step (by repeat (first | (with_reducible first | exact HB.out | apply below_alloc | apply pw_below_drewN | apply below_drew1) | exact HB.out)) hb); clear HB; have HO897 := n0_; have HB := n1_; clear n0_ n1_; (try clear hb); (try clear hb2); (try clear hk); (try clear hi); (try clear ho0)) | (go_at_call 12; (with_reducible refine (impl_Loadavg.calls a0 t901 t902 t903 t904 t905 t906 t907 t908 t911 _ A8.out).mono ?_); rintro e w18 ⟨v909, rfl, ho0, hb⟩; have n0_ := Aside0.mk (Kd.V_elder' (by (with_reducible repeat (first | apply Kd.V_alloc | apply Kd.V_drewN | apply Kd.V_drew)); exact HO897.out) (Kd.R_base ho0) hb); have n1_ := Aside0.mk (Kd.R_lower ho0 (below_size (by repeat (first | (with_reducible first | exact HB.out | apply below_alloc | apply pw_below_drewN | apply below_drew1) | exact HB.out)))); have n2_ := Aside0.mk (below_step (by repeat (first | (with_reducible first | exact HB.out | apply below_alloc | apply pw_below_drewN | apply below_drew1) | exact HB.out)) hb); clear HO897; clear HB; have HO897 := n0_; have HO910 := n1_; have HB := n2_; clear n0_ n1_ n2_; (try clear hb); (try clear hb2); (try clear hk); (try clear hi); (try clear ho0)) | ((with_reducible refine gate_dst (N := 12) rfl ?_); refine box_event ?hg (N := 12) ?hd (cs := #[.string (⟨#[]⟩ : ByteArray), .int .i64 0, .bool false, .int .i64 0, .int .u64 0, .float .f64 0, .string (⟨#[]⟩ : ByteArray), .slice none 0 0]) (t := 34) ?hr ?_; (case hd => rfl); (case hg => rfl); (case hr => first | (go_simp; done) | (go_simp; rfl)); intro gb912 hg w19 hbox hb; have n0_ := Aside0.mk (Kd.V_below (Kd.V_elderB (by (with_reducible repeat (first | apply Kd.V_alloc | apply Kd.V_drewN | apply Kd.V_drew)); exact HO897.out) gb912 (Nat.le_of_eq hg.symm)) hb); have n1_ := Aside0.mk (Kd.R_below (Kd.R_elderB (by (with_reducible repeat (first | apply Kd.R_alloc | apply Kd.R_drewN | apply Kd.R_drew)); exact HO910.out) gb912 (Nat.le_of_eq hg.symm)) hb); have n2_ := Aside0.mk (below_step (by repeat (first | (with_reducible first | exact HB.out | apply below_alloc | apply pw_below_drewN | apply below_drew1) | exact HB.out)) hb); have n3_ := Aside0.mk (hbox); have n4_ := Aside0.mk ((by rw [hg]; exact (below_size (by repeat (first | (with_reducible first | exact HB.out | apply below_alloc | apply pw_below_drewN | apply below_drew1) | exact HB.out))) : w.heap.size ≤ gb912)); have n5_ := Aside0.mk ((by rw [hg]; exact (below_size (by repeat (first | (with_reducible first | exact HB.out | apply below_alloc | apply pw_below_drewN | apply below_drew1) | exact HB.out))) : w.heap.size ≤ gb912)); clear HO897; clear HO910; clear HB; have HO897 := n0_; have HO910 := n1_; have HB := n2_; have BK912 := n3_; have GW912 := n4_; have GE912 := n5_; clear n0_ n1_ n2_ n3_ n4_ n5_; clear hb hbox hg; have hcz20_0 : w19.cell? ⟨gb912, 0, none⟩ = some (.string (⟨#[]⟩ : ByteArray)) := (blk_cell BK912.out 0).trans rfl; have hcz20_1 : w19.cell? ⟨gb912, 1, none⟩ = some (.int .i64 0) := (blk_cell BK912.out 1).trans rfl; have hcz20_2 : w19.cell? ⟨gb912, 2, none⟩ = some (.bool false) := (blk_cell BK912.out 2).trans rfl; have hcz20_3 : w19.cell? ⟨gb912, 3, none⟩ = some (.int .i64 0) := (blk_cell BK912.out 3).trans rfl; have hcz20_4 : w19.cell? ⟨gb912, 4, none⟩ = some (.int .u64 0) := (blk_cell BK912.out 4).trans rfl; have hcz20_5 : w19.cell? ⟨gb912, 5, none⟩ = some (.float .f64 0) := (blk_cell BK912.out 5).trans rfl; have hcz20_6 : w19.cell? ⟨gb912, 6, none⟩ = some (.string (⟨#[]⟩ : ByteArray)) := (blk_cell BK912.out 6).trans rfl; have hcz20_7 : w19.cell? ⟨gb912, 7, none⟩ = some (.slice none 0 0) := (blk_cell BK912.out 7).trans rfl; have hfz20_0 := blk_frozen BK912.out 0; have hfz20_1 := blk_frozen BK912.out 1; have hfz20_2 := blk_frozen BK912.out 2; have hfz20_3 := blk_frozen BK912.out 3; have hfz20_4 := blk_frozen BK912.out 4; have hfz20_5 := blk_frozen BK912.out 5; have hfz20_6 := blk_frozen BK912.out 6; have hfz20_7 := blk_frozen BK912.out 7; obtain ⟨Ao21, co21, eo21⟩ := Kd.R_slice HO910.out; subst eo21; obtain ⟨Ao22, co22, eo22⟩ := Kd.V_slice HO897.out; subst eo22) | (go_at_call 11; (with_reducible refine (spec_LoadavgTree.calls k _ _ t895 t914 t915 t916 t917 t918 t919 t920 t921 t924 _ ?side1 ?side2 A10.out).mono ?_); (case side1 => refine (Kd.V_reads' (e := 48) (base := w.heap.size) (ok := fun k_ => ((True ∧ some k_ ≠ (.slice Ao21 t908.length co21 : Value).ownBlock) ∧ k_ ≠ gb912)) (n := t895.length) (c := co22) ?_).2.2; exact (by (with_reducible repeat (first | apply Kd.V_alloc | apply Kd.V_drewN | apply Kd.V_drew)); exact (Kd.V_mono (Kd.V_far (p := ⟨gb912, 7, none⟩) (Kd.V_far (p := ⟨gb912, 6, none⟩) (Kd.V_far (p := ⟨gb912, 5, none⟩) (Kd.V_far (p := ⟨gb912, 4, none⟩) (Kd.V_far (p := ⟨gb912, 3, none⟩) (Kd.V_far (p := ⟨gb912, 2, none⟩) (Kd.V_far (p := ⟨gb912, 1, none⟩) (Kd.V_far (p := ⟨gb912, 0, none⟩) (Kd.V_mono HO897.out (fun k_ hk => (⟨hk, hk.2⟩ : _ ∧ k_ ≠ gb912))) (fun _ hk => hk.2) (.string t901)) (fun _ hk => hk.2) (.int .i64 t902)) (fun _ hk => hk.2) (.bool t903)) (fun _ hk => hk.2) (.int .i64 t904)) (fun _ hk => hk.2) (.int .u64 t905)) (fun _ hk => hk.2) (.float .f64 t906)) (fun _ hk => hk.2) (.string t907)) (fun _ hk => hk.2) (.slice Ao21 t908.length co21)) (fun _ h_ => h_.1)))); (case side2 => exact (Kd.V_reads' HO897.out).2.1); rintro e w23 ⟨v922, rfl, ho0, hb⟩; have n0_ := Aside0.mk (Kd.V_below (by (with_reducible repeat (first | apply Kd.V_alloc | apply Kd.V_drewN | apply Kd.V_drew)); exact (Kd.V_mono (Kd.V_far (p := ⟨gb912, 7, none⟩) (Kd.V_far (p := ⟨gb912, 6, none⟩) (Kd.V_far (p := ⟨gb912, 5, none⟩) (Kd.V_far (p := ⟨gb912, 4, none⟩) (Kd.V_far (p := ⟨gb912, 3, none⟩) (Kd.V_far (p := ⟨gb912, 2, none⟩) (Kd.V_far (p := ⟨gb912, 1, none⟩) (Kd.V_far (p := ⟨gb912, 0, none⟩) (Kd.V_mono HO897.out (fun k_ hk => (⟨hk, hk.2⟩ : _ ∧ k_ ≠ gb912))) (fun _ hk => hk.2) (.string t901)) (fun _ hk => hk.2) (.int .i64 t902)) (fun _ hk => hk.2) (.bool t903)) (fun _ hk => hk.2) (.int .i64 t904)) (fun _ hk => hk.2) (.int .u64 t905)) (fun _ hk => hk.2) (.float .f64 t906)) (fun _ hk => hk.2) (.string t907)) (fun _ hk => hk.2) (.slice Ao21 t908.length co21)) (fun _ h_ => h_.1))) hb); have n1_ := Aside0.mk (Kd.R_below (by (with_reducible repeat (first | apply Kd.R_alloc | apply Kd.R_drewN | apply Kd.R_drew)); exact (Kd.R_mono (Kd.R_far (p := ⟨gb912, 7, none⟩) (Kd.R_far (p := ⟨gb912, 6, none⟩) (Kd.R_far (p := ⟨gb912, 5, none⟩) (Kd.R_far (p := ⟨gb912, 4, none⟩) (Kd.R_far (p := ⟨gb912, 3, none⟩) (Kd.R_far (p := ⟨gb912, 2, none⟩) (Kd.R_far (p := ⟨gb912, 1, none⟩) (Kd.R_far (p := ⟨gb912, 0, none⟩) (Kd.R_mono HO910.out (fun k_ hk => (⟨hk, hk.2⟩ : _ ∧ k_ ≠ gb912))) (fun _ hk => hk.2) (.string t901)) (fun _ hk => hk.2) (.int .i64 t902)) (fun _ hk => hk.2) (.bool t903)) (fun _ hk => hk.2) (.int .i64 t904)) (fun _ hk => hk.2) (.int .u64 t905)) (fun _ hk => hk.2) (.float .f64 t906)) (fun _ hk => hk.2) (.string t907)) (fun _ hk => hk.2) (.slice Ao21 t908.length co21)) (fun _ h_ => h_.1))) hb); have n2_ := Aside0.mk (Kd.V_lower (Kd.V_mono (ok' := fun k_ => some k_ ≠ (.slice Ao21 t908.length co21 : Value).ownBlock ∧ k_ ≠ gb912) ho0 (fun k_ hk_ => ⟨(Kd.fresh' (Kd.R_lt (by (with_reducible repeat (first | apply Kd.R_alloc | apply Kd.R_drewN | apply Kd.R_drew)); exact (Kd.R_mono (Kd.R_far (p := ⟨gb912, 7, none⟩) (Kd.R_far (p := ⟨gb912, 6, none⟩) (Kd.R_far (p := ⟨gb912, 5, none⟩) (Kd.R_far (p := ⟨gb912, 4, none⟩) (Kd.R_far (p := ⟨gb912, 3, none⟩) (Kd.R_far (p := ⟨gb912, 2, none⟩) (Kd.R_far (p := ⟨gb912, 1, none⟩) (Kd.R_far (p := ⟨gb912, 0, none⟩) (Kd.R_mono HO910.out (fun k_ hk => (⟨hk, hk.2⟩ : _ ∧ k_ ≠ gb912))) (fun _ hk => hk.2) (.string t901)) (fun _ hk => hk.2) (.int .i64 t902)) (fun _ hk => hk.2) (.bool t903)) (fun _ hk => hk.2) (.int .i64 t904)) (fun _ hk => hk.2) (.int .u64 t905)) (fun _ hk => hk.2) (.float .f64 t906)) (fun _ hk => hk.2) (.string t907)) (fun _ hk => hk.2) (.slice Ao21 t908.length co21)) (fun _ h_ => h_.1)))) k_ hk_), (Kd.freshB (g := gb912) (o := .cells #[.string t901, .int .i64 t902, .bool t903, .int .i64 t904, .int .u64 t905, .float .f64 t906, .string t907, .slice Ao21 t908.length co21] 34 (0, 0)) (by (with_reducible repeat (first | refine blk_drewN ?_ _ | refine blk_drew ?_ | refine blk_alloc ?_ _)); refine blk_put (cs := #[.string t901, .int .i64 t902, .bool t903, .int .i64 t904, .int .u64 t905, .float .f64 t906, .string t907, .slice none 0 0]) ?_ 7 _ rfl; (with_reducible repeat (first | refine blk_drewN ?_ _ | refine blk_drew ?_ | refine blk_alloc ?_ _)); refine blk_put (cs := #[.string t901, .int .i64 t902, .bool t903, .int .i64 t904, .int .u64 t905, .float .f64 t906, .string (⟨#[]⟩ : ByteArray), .slice none 0 0]) ?_ 6 _ rfl; (with_reducible repeat (first | refine blk_drewN ?_ _ | refine blk_drew ?_ | refine blk_alloc ?_ _)); refine blk_put (cs := #[.string t901, .int .i64 t902, .bool t903, .int .i64 t904, .int .u64 t905, .float .f64 0, .string (⟨#[]⟩ : ByteArray), .slice none 0 0]) ?_ 5 _ rfl; (with_reducible repeat (first | refine blk_drewN ?_ _ | refine blk_drew ?_ | refine blk_alloc ?_ _)); refine blk_put (cs := #[.string t901, .int .i64 t902, .bool t903, .int .i64 t904, .int .u64 0, .float .f64 0, .string (⟨#[]⟩ : ByteArray), .slice none 0 0]) ?_ 4 _ rfl; (with_reducible repeat (first | refine blk_drewN ?_ _ | refine blk_drew ?_ | refine blk_alloc ?_ _)); refine blk_put (cs := #[.string t901, .int .i64 t902, .bool t903, .int .i64 0, .int .u64 0, .float .f64 0, .string (⟨#[]⟩ : ByteArray), .slice none 0 0]) ?_ 3 _ rfl; (with_reducible repeat (first | refine blk_drewN ?_ _ | refine blk_drew ?_ | refine blk_alloc ?_ _)); refine blk_put (cs := #[.string t901, .int .i64 t902, .bool false, .int .i64 0, .int .u64 0, .float .f64 0, .string (⟨#[]⟩ : ByteArray), .slice none 0 0]) ?_ 2 _ rfl; (with_reducible repeat (first | refine blk_drewN ?_ _ | refine blk_drew ?_ | refine blk_alloc ?_ _)); refine blk_put (cs := #[.string t901, .int .i64 0, .bool false, .int .i64 0, .int .u64 0, .float .f64 0, .string (⟨#[]⟩ : ByteArray), .slice none 0 0]) ?_ 1 _ rfl; (with_reducible repeat (first | refine blk_drewN ?_ _ | refine blk_drew ?_ | refine blk_alloc ?_ _)); refine blk_put (cs := #[.string (⟨#[]⟩ : ByteArray), .int .i64 0, .bool false, .int .i64 0, .int .u64 0, .float .f64 0, .string (⟨#[]⟩ : ByteArray), .slice none 0 0]) ?_ 0 _ rfl; (with_reducible repeat (first | refine blk_drewN ?_ _ | refine blk_drew ?_ | refine blk_alloc ?_ _)); exact BK912.out) k_ hk_)⟩)) (below_size (by repeat (first | (with_reducible first | exact HB.out | apply below_alloc | apply pw_below_drewN | apply below_drew1 | refine below_set ?_ GE912.out) | exact HB.out)))); have n3_ := Aside0.mk (blk_below (g := gb912) (o := .cells #[.string t901, .int .i64 t902, .bool t903, .int .i64 t904, .int .u64 t905, .float .f64 t906, .string t907, .slice Ao21 t908.length co21] 34 (0, 0)) (by (with_reducible repeat (first | refine blk_drewN ?_ _ | refine blk_drew ?_ | refine blk_alloc ?_ _)); refine blk_put (cs := #[.string t901, .int .i64 t902, .bool t903, .int .i64 t904, .int .u64 t905, .float .f64 t906, .string t907, .slice none 0 0]) ?_ 7 _ rfl; (with_reducible repeat (first | refine blk_drewN ?_ _ | refine blk_drew ?_ | refine blk_alloc ?_ _)); refine blk_put (cs := #[.string t901, .int .i64 t902, .bool t903, .int .i64 t904, .int .u64 t905, .float .f64 t906, .string (⟨#[]⟩ : ByteArray), .slice none 0 0]) ?_ 6 _ rfl; (with_reducible repeat (first | refine blk_drewN ?_ _ | refine blk_drew ?_ | refine blk_alloc ?_ _)); refine blk_put (cs := #[.string t901, .int .i64 t902, .bool t903, .int .i64 t904, .int .u64 t905, .float .f64 0, .string (⟨#[]⟩ : ByteArray), .slice none 0 0]) ?_ 5 _ rfl; (with_reducible repeat (first | refine blk_drewN ?_ _ | refine blk_drew ?_ | refine blk_alloc ?_ _)); refine blk_put (cs := #[.string t901, .int .i64 t902, .bool t903, .int .i64 t904, .int .u64 0, .float .f64 0, .string (⟨#[]⟩ : ByteArray), .slice none 0 0]) ?_ 4 _ rfl; (with_reducible repeat (first | refine blk_drewN ?_ _ | refine blk_drew ?_ | refine blk_alloc ?_ _)); refine blk_put (cs := #[.string t901, .int .i64 t902, .bool t903, .int .i64 0, .int .u64 0, .float .f64 0, .string (⟨#[]⟩ : ByteArray), .slice none 0 0]) ?_ 3 _ rfl; (with_reducible repeat (first | refine blk_drewN ?_ _ | refine blk_drew ?_ | refine blk_alloc ?_ _)); refine blk_put (cs := #[.string t901, .int .i64 t902, .bool false, .int .i64 0, .int .u64 0, .float .f64 0, .string (⟨#[]⟩ : ByteArray), .slice none 0 0]) ?_ 2 _ rfl; (with_reducible repeat (first | refine blk_drewN ?_ _ | refine blk_drew ?_ | refine blk_alloc ?_ _)); refine blk_put (cs := #[.string t901, .int .i64 0, .bool false, .int .i64 0, .int .u64 0, .float .f64 0, .string (⟨#[]⟩ : ByteArray), .slice none 0 0]) ?_ 1 _ rfl; (with_reducible repeat (first | refine blk_drewN ?_ _ | refine blk_drew ?_ | refine blk_alloc ?_ _)); refine blk_put (cs := #[.string (⟨#[]⟩ : ByteArray), .int .i64 0, .bool false, .int .i64 0, .int .u64 0, .float .f64 0, .string (⟨#[]⟩ : ByteArray), .slice none 0 0]) ?_ 0 _ rfl; (with_reducible repeat (first | refine blk_drewN ?_ _ | refine blk_drew ?_ | refine blk_alloc ?_ _)); exact BK912.out) hb); have n4_ := Aside0.mk (below_step (by repeat (first | (with_reducible first | exact HB.out | apply below_alloc | apply pw_below_drewN | apply below_drew1 | refine below_set ?_ GE912.out) | exact HB.out)) hb); clear HO897; clear HO910; clear BK912; clear HB; have HO897 := n0_; have HO910 := n1_; have HO923 := n2_; have BK912 := n3_; have HB := n4_; clear n0_ n1_ n2_ n3_ n4_; (try clear hb); (try clear hb2); (try clear hk); (try clear hi); (try clear ho0)) | ((with_reducible refine gate_dst (N := 14) rfl ?_); refine box_event ?hg (N := 14) ?hd (cs := #[.string (⟨#[]⟩ : ByteArray), .int .i64 0, .bool false, .int .i64 0, .int .u64 0, .float .f64 0, .string (⟨#[]⟩ : ByteArray), .slice none 0 0]) (t := 38) ?hr ?_; (case hd => rfl); (case hg => rfl); (case hr => first | (go_simp; done) | (go_simp; rfl)); intro gb925 hg w24 hbox hb; have n0_ := Aside0.mk (Kd.V_below (Kd.V_elderB (by (with_reducible repeat (first | apply Kd.V_alloc | apply Kd.V_drewN | apply Kd.V_drew)); exact HO897.out) gb925 (Nat.le_of_eq hg.symm)) hb); have n1_ := Aside0.mk (Kd.R_below (by (with_reducible repeat (first | apply Kd.R_alloc | apply Kd.R_drewN | apply Kd.R_drew)); exact HO910.out) hb); have n2_ := Aside0.mk (Kd.V_below (Kd.V_elderB (by (with_reducible repeat (first | apply Kd.V_alloc | apply Kd.V_drewN | apply Kd.V_drew)); exact HO923.out) gb925 (Nat.le_of_eq hg.symm)) hb); have n3_ := Aside0.mk (blk_below (g := gb912) (o := .cells #[.string t901, .int .i64 t902, .bool t903, .int .i64 t904, .int .u64 t905, .float .f64 t906, .string t907, .slice Ao21 t908.length co21] 34 (0, 0)) (by (with_reducible repeat (first | refine blk_drewN ?_ _ | refine blk_drew ?_ | refine blk_alloc ?_ _)); exact BK912.out) hb); have n4_ := Aside0.mk (below_step (by repeat (first | (with_reducible first | exact HB.out | apply below_alloc | apply pw_below_drewN | apply below_drew1 | refine below_set ?_ GE912.out) | exact HB.out)) hb); have n5_ := Aside0.mk (hbox); have n6_ := Aside0.mk ((by rw [hg]; exact (below_size (by repeat (first | (with_reducible first | exact HB.out | apply below_alloc | apply pw_below_drewN | apply below_drew1 | refine below_set ?_ GE912.out) | exact HB.out))) : w.heap.size ≤ gb925)); have n7_ := Aside0.mk ((by rw [hg]; exact (below_size (by repeat (first | (with_reducible first | exact HB.out | apply below_alloc | apply pw_below_drewN | apply below_drew1 | refine below_set ?_ GE912.out) | exact HB.out))) : w.heap.size ≤ gb925)); have n8_ := Aside0.mk ((by rw [hg]; exact Nat.ne_of_lt (blk_lt (g := gb912) (o := .cells #[.string t901, .int .i64 t902, .bool t903, .int .i64 t904, .int .u64 t905, .float .f64 t906, .string t907, .slice Ao21 t908.length co21] 34 (0, 0)) (by (with_reducible repeat (first | refine blk_drewN ?_ _ | refine blk_drew ?_ | refine blk_alloc ?_ _)); exact BK912.out)) : gb912 ≠ gb925)); have n9_ := Aside0.mk ((by rw [hg]; exact Nat.ne_of_gt (blk_lt (g := gb912) (o := .cells #[.string t901, .int .i64 t902, .bool t903, .int .i64 t904, .int .u64 t905, .float .f64 t906, .string t907, .slice Ao21 t908.length co21] 34 (0, 0)) (by (with_reducible repeat (first | refine blk_drewN ?_ _ | refine blk_drew ?_ | refine blk_alloc ?_ _)); exact BK912.out)) : gb925 ≠ gb912)); clear HO897; clear HO910; clear HO923; clear BK912; clear HB; have HO897 := n0_; have HO910 := n1_; have HO923 := n2_; have BK912 := n3_; have HB := n4_; have BK925 := n5_; have GW925 := n6_; have GE925 := n7_; have NB912_925 := n8_; have NB925_912 := n9_; clear n0_ n1_ n2_ n3_ n4_ n5_ n6_ n7_ n8_ n9_; clear hb hbox hg; have hnb25 := NB925_912.out; have hnc25 := NB912_925.out; have hcz26_0 : w24.cell? ⟨gb925, 0, none⟩ = some (.string (⟨#[]⟩ : ByteArray)) := (blk_cell BK925.out 0).trans rfl; have hcz26_1 : w24.cell? ⟨gb925, 1, none⟩ = some (.int .i64 0) := (blk_cell BK925.out 1).trans rfl; have hcz26_2 : w24.cell? ⟨gb925, 2, none⟩ = some (.bool false) := (blk_cell BK925.out 2).trans rfl; have hcz26_3 : w24.cell? ⟨gb925, 3, none⟩ = some (.int .i64 0) := (blk_cell BK925.out 3).trans rfl; have hcz26_4 : w24.cell? ⟨gb925, 4, none⟩ = some (.int .u64 0) := (blk_cell BK925.out 4).trans rfl; have hcz26_5 : w24.cell? ⟨gb925, 5, none⟩ = some (.float .f64 0) := (blk_cell BK925.out 5).trans rfl; have hcz26_6 : w24.cell? ⟨gb925, 6, none⟩ = some (.string (⟨#[]⟩ : ByteArray)) := (blk_cell BK925.out 6).trans rfl; have hcz26_7 : w24.cell? ⟨gb925, 7, none⟩ = some (.slice none 0 0) := (blk_cell BK925.out 7).trans rfl; have hfz26_0 := blk_frozen BK925.out 0; have hfz26_1 := blk_frozen BK925.out 1; have hfz26_2 := blk_frozen BK925.out 2; have hfz26_3 := blk_frozen BK925.out 3; have hfz26_4 := blk_frozen BK925.out 4; have hfz26_5 := blk_frozen BK925.out 5; have hfz26_6 := blk_frozen BK925.out 6; have hfz26_7 := blk_frozen BK925.out 7; obtain ⟨Ao27, co27, eo27⟩ := Kd.V_slice HO923.out; subst eo27))
             have n0_ : Aside0 (Kd.V k48 48 ((((((((w24.setCell ⟨gb925, 0, none⟩ (.string t914)).setCell ⟨gb925, 1, none⟩ (.int .i64 t915)).setCell ⟨gb925, 2, none⟩ (.bool t916)).setCell ⟨gb925, 3, none⟩ (.int .i64 t917)).setCell ⟨gb925, 4, none⟩ (.int .u64 t918)).setCell ⟨gb925, 5, none⟩ (.float .f64 t919)).setCell ⟨gb925, 6, none⟩ (.string t920)).setCell ⟨gb925, 7, none⟩ (.slice Ao27 t921.length co27)) w.heap.size (fun k_ => some k_ ≠ (.slice Ao21 t908.length co21 : Value).ownBlock ∧ k_ ≠ gb912 ∧ k_ ≠ gb925) (.slice Ao22 t895.length co22) t895) := ⟨by (with_reducible repeat (first | apply Kd.V_alloc | apply Kd.V_drewN | apply Kd.V_drew)); exact Kd.V_mono (Kd.V_far (p := ⟨gb925, 7, none⟩) (Kd.V_far (p := ⟨gb925, 6, none⟩) (Kd.V_far (p := ⟨gb925, 5, none⟩) (Kd.V_far (p := ⟨gb925, 4, none⟩) (Kd.V_far (p := ⟨gb925, 3, none⟩) (Kd.V_far (p := ⟨gb925, 2, none⟩) (Kd.V_far (p := ⟨gb925, 1, none⟩) (Kd.V_far (p := ⟨gb925, 0, none⟩) (Kd.V_mono HO897.out (fun k_ hk => (⟨hk, hk.2⟩ : _ ∧ k_ ≠ gb925))) (fun _ hk => hk.2) (.string t914)) (fun _ hk => hk.2) (.int .i64 t915)) (fun _ hk => hk.2) (.bool t916)) (fun _ hk => hk.2) (.int .i64 t917)) (fun _ hk => hk.2) (.int .u64 t918)) (fun _ hk => hk.2) (.float .f64 t919)) (fun _ hk => hk.2) (.string t920)) (fun _ hk => hk.2) (.slice Ao27 t921.length co27)) (fun _ hk => ⟨hk.1.1.1.2, ⟨hk.1.1.2, hk.1.2⟩⟩)⟩
             have n1_ : Aside0 (Kd.R k34 34 ((((((((w24.setCell ⟨gb925, 0, none⟩ (.string t914)).setCell ⟨gb925, 1, none⟩ (.int .i64 t915)).setCell ⟨gb925, 2, none⟩ (.bool t916)).setCell ⟨gb925, 3, none⟩ (.int .i64 t917)).setCell ⟨gb925, 4, none⟩ (.int .u64 t918)).setCell ⟨gb925, 5, none⟩ (.float .f64 t919)).setCell ⟨gb925, 6, none⟩ (.string t920)).setCell ⟨gb925, 7, none⟩ (.slice Ao27 t921.length co27)) w.heap.size (fun k_ => k_ ≠ gb912) (.slice Ao21 t908.length co21) t908) := ⟨by (with_reducible repeat (first | apply Kd.R_alloc | apply Kd.R_drewN | apply Kd.R_drew)); exact Kd.R_mono (Kd.R_far (p := ⟨gb925, 7, none⟩) (Kd.R_far (p := ⟨gb925, 6, none⟩) (Kd.R_far (p := ⟨gb925, 5, none⟩) (Kd.R_far (p := ⟨gb925, 4, none⟩) (Kd.R_far (p := ⟨gb925, 3, none⟩) (Kd.R_far (p := ⟨gb925, 2, none⟩) (Kd.R_far (p := ⟨gb925, 1, none⟩) (Kd.R_far (p := ⟨gb925, 0, none⟩) (Kd.R_types HO910.out BK925.out (by decide)) (fun _ hk => hk.2) (.string t914)) (fun _ hk => hk.2) (.int .i64 t915)) (fun _ hk => hk.2) (.bool t916)) (fun _ hk => hk.2) (.int .i64 t917)) (fun _ hk => hk.2) (.int .u64 t918)) (fun _ hk => hk.2) (.float .f64 t919)) (fun _ hk => hk.2) (.string t920)) (fun _ hk => hk.2) (.slice Ao27 t921.length co27)) (fun _ hk => hk.1.2)⟩
             have n2_ : Aside0 (Kd.V k38 38 ((((((((w24.setCell ⟨gb925, 0, none⟩ (.string t914)).setCell ⟨gb925, 1, none⟩ (.int .i64 t915)).setCell ⟨gb925, 2, none⟩ (.bool t916)).setCell ⟨gb925, 3, none⟩ (.int .i64 t917)).setCell ⟨gb925, 4, none⟩ (.int .u64 t918)).setCell ⟨gb925, 5, none⟩ (.float .f64 t919)).setCell ⟨gb925, 6, none⟩ (.string t920)).setCell ⟨gb925, 7, none⟩ (.slice Ao27 t921.length co27)) w.heap.size (fun k_ => some k_ ≠ (.slice Ao21 t908.length co21 : Value).ownBlock ∧ k_ ≠ gb912 ∧ k_ ≠ gb925) (.slice Ao27 t921.length co27) t921) := ⟨by (with_reducible repeat (first | apply Kd.V_alloc | apply Kd.V_drewN | apply Kd.V_drew)); exact Kd.V_mono (Kd.V_far (p := ⟨gb925, 7, none⟩) (Kd.V_far (p := ⟨gb925, 6, none⟩) (Kd.V_far (p := ⟨gb925, 5, none⟩) (Kd.V_far (p := ⟨gb925, 4, none⟩) (Kd.V_far (p := ⟨gb925, 3, none⟩) (Kd.V_far (p := ⟨gb925, 2, none⟩) (Kd.V_far (p := ⟨gb925, 1, none⟩) (Kd.V_far (p := ⟨gb925, 0, none⟩) (Kd.V_mono HO923.out (fun k_ hk => (⟨hk, hk.2⟩ : _ ∧ k_ ≠ gb925))) (fun _ hk => hk.2) (.string t914)) (fun _ hk => hk.2) (.int .i64 t915)) (fun _ hk => hk.2) (.bool t916)) (fun _ hk => hk.2) (.int .i64 t917)) (fun _ hk => hk.2) (.int .u64 t918)) (fun _ hk => hk.2) (.float .f64 t919)) (fun _ hk => hk.2) (.string t920)) (fun _ hk => hk.2) (.slice Ao27 t921.length co27)) (fun _ hk => ⟨hk.1.1.1, ⟨hk.1.1.2, hk.1.2⟩⟩)⟩
             have n3_ : Aside0 (((((((((w24.setCell ⟨gb925, 0, none⟩ (.string t914)).setCell ⟨gb925, 1, none⟩ (.int .i64 t915)).setCell ⟨gb925, 2, none⟩ (.bool t916)).setCell ⟨gb925, 3, none⟩ (.int .i64 t917)).setCell ⟨gb925, 4, none⟩ (.int .u64 t918)).setCell ⟨gb925, 5, none⟩ (.float .f64 t919)).setCell ⟨gb925, 6, none⟩ (.string t920)).setCell ⟨gb925, 7, none⟩ (.slice Ao27 t921.length co27)).heap[gb912]? = some (.cells #[.string t901, .int .i64 t902, .bool t903, .int .i64 t904, .int .u64 t905, .float .f64 t906, .string t907, .slice Ao21 t908.length co21] 34 (0, 0))) := ⟨by (with_reducible repeat (first | refine blk_drewN ?_ _ | refine blk_drew ?_ | refine blk_alloc ?_ _)); refine blk_far ?_ NB912_925.out _; (with_reducible repeat (first | refine blk_drewN ?_ _ | refine blk_drew ?_ | refine blk_alloc ?_ _)); refine blk_far ?_ NB912_925.out _; (with_reducible repeat (first | refine blk_drewN ?_ _ | refine blk_drew ?_ | refine blk_alloc ?_ _)); refine blk_far ?_ NB912_925.out _; (with_reducible repeat (first | refine blk_drewN ?_ _ | refine blk_drew ?_ | refine blk_alloc ?_ _)); refine blk_far ?_ NB912_925.out _; (with_reducible repeat (first | refine blk_drewN ?_ _ | refine blk_drew ?_ | refine blk_alloc ?_ _)); refine blk_far ?_ NB912_925.out _; (with_reducible repeat (first | refine blk_drewN ?_ _ | refine blk_drew ?_ | refine blk_alloc ?_ _)); refine blk_far ?_ NB912_925.out _; (with_reducible repeat (first | refine blk_drewN ?_ _ | refine blk_drew ?_ | refine blk_alloc ?_ _)); refine blk_far ?_ NB912_925.out _; (with_reducible repeat (first | refine blk_drewN ?_ _ | refine blk_drew ?_ | refine blk_alloc ?_ _)); refine blk_far ?_ NB912_925.out _; (with_reducible repeat (first | refine blk_drewN ?_ _ | refine blk_drew ?_ | refine blk_alloc ?_ _)); exact BK912.out⟩
             have n4_ : Aside0 (((((((((w24.setCell ⟨gb925, 0, none⟩ (.string t914)).setCell ⟨gb925, 1, none⟩ (.int .i64 t915)).setCell ⟨gb925, 2, none⟩ (.bool t916)).setCell ⟨gb925, 3, none⟩ (.int .i64 t917)).setCell ⟨gb925, 4, none⟩ (.int .u64 t918)).setCell ⟨gb925, 5, none⟩ (.float .f64 t919)).setCell ⟨gb925, 6, none⟩ (.string t920)).setCell ⟨gb925, 7, none⟩ (.slice Ao27 t921.length co27)).heap[gb925]? = some (.cells #[.string t914, .int .i64 t915, .bool t916, .int .i64 t917, .int .u64 t918, .float .f64 t919, .string t920, .slice Ao27 t921.length co27] 38 (0, 0))) := ⟨by (with_reducible repeat (first | refine blk_drewN ?_ _ | refine blk_drew ?_ | refine blk_alloc ?_ _)); refine blk_put (cs := #[.string t914, .int .i64 t915, .bool t916, .int .i64 t917, .int .u64 t918, .float .f64 t919, .string t920, .slice none 0 0]) ?_ 7 _ rfl; (with_reducible repeat (first | refine blk_drewN ?_ _ | refine blk_drew ?_ | refine blk_alloc ?_ _)); refine blk_put (cs := #[.string t914, .int .i64 t915, .bool t916, .int .i64 t917, .int .u64 t918, .float .f64 t919, .string (⟨#[]⟩ : ByteArray), .slice none 0 0]) ?_ 6 _ rfl; (with_reducible repeat (first | refine blk_drewN ?_ _ | refine blk_drew ?_ | refine blk_alloc ?_ _)); refine blk_put (cs := #[.string t914, .int .i64 t915, .bool t916, .int .i64 t917, .int .u64 t918, .float .f64 0, .string (⟨#[]⟩ : ByteArray), .slice none 0 0]) ?_ 5 _ rfl; (with_reducible repeat (first | refine blk_drewN ?_ _ | refine blk_drew ?_ | refine blk_alloc ?_ _)); refine blk_put (cs := #[.string t914, .int .i64 t915, .bool t916, .int .i64 t917, .int .u64 0, .float .f64 0, .string (⟨#[]⟩ : ByteArray), .slice none 0 0]) ?_ 4 _ rfl; (with_reducible repeat (first | refine blk_drewN ?_ _ | refine blk_drew ?_ | refine blk_alloc ?_ _)); refine blk_put (cs := #[.string t914, .int .i64 t915, .bool t916, .int .i64 0, .int .u64 0, .float .f64 0, .string (⟨#[]⟩ : ByteArray), .slice none 0 0]) ?_ 3 _ rfl; (with_reducible repeat (first | refine blk_drewN ?_ _ | refine blk_drew ?_ | refine blk_alloc ?_ _)); refine blk_put (cs := #[.string t914, .int .i64 t915, .bool false, .int .i64 0, .int .u64 0, .float .f64 0, .string (⟨#[]⟩ : ByteArray), .slice none 0 0]) ?_ 2 _ rfl; (with_reducible repeat (first | refine blk_drewN ?_ _ | refine blk_drew ?_ | refine blk_alloc ?_ _)); refine blk_put (cs := #[.string t914, .int .i64 0, .bool false, .int .i64 0, .int .u64 0, .float .f64 0, .string (⟨#[]⟩ : ByteArray), .slice none 0 0]) ?_ 1 _ rfl; (with_reducible repeat (first | refine blk_drewN ?_ _ | refine blk_drew ?_ | refine blk_alloc ?_ _)); refine blk_put (cs := #[.string (⟨#[]⟩ : ByteArray), .int .i64 0, .bool false, .int .i64 0, .int .u64 0, .float .f64 0, .string (⟨#[]⟩ : ByteArray), .slice none 0 0]) ?_ 0 _ rfl; (with_reducible repeat (first | refine blk_drewN ?_ _ | refine blk_drew ?_ | refine blk_alloc ?_ _)); exact BK925.out⟩
             have n5_ : Aside0 (Below w.heap.size w ((((((((w24.setCell ⟨gb925, 0, none⟩ (.string t914)).setCell ⟨gb925, 1, none⟩ (.int .i64 t915)).setCell ⟨gb925, 2, none⟩ (.bool t916)).setCell ⟨gb925, 3, none⟩ (.int .i64 t917)).setCell ⟨gb925, 4, none⟩ (.int .u64 t918)).setCell ⟨gb925, 5, none⟩ (.float .f64 t919)).setCell ⟨gb925, 6, none⟩ (.string t920)).setCell ⟨gb925, 7, none⟩ (.slice Ao27 t921.length co27))) := ⟨by repeat (first | (with_reducible first | exact HB.out | apply below_alloc | apply pw_below_drewN | apply below_drew1 | refine below_set ?_ GE912.out | refine below_set ?_ GE925.out) | exact HB.out)⟩
             (try clear HO897)
             (try clear HO910)
             (try clear HO923)
             (try clear BK912)
             (try clear BK925)
             (try clear HB)
             generalize ((((((((w24.setCell ⟨gb925, 0, none⟩ (.string t914)).setCell ⟨gb925, 1, none⟩ (.int .i64 t915)).setCell ⟨gb925, 2, none⟩ (.bool t916)).setCell ⟨gb925, 3, none⟩ (.int .i64 t917)).setCell ⟨gb925, 4, none⟩ (.int .u64 t918)).setCell ⟨gb925, 5, none⟩ (.float .f64 t919)).setCell ⟨gb925, 6, none⟩ (.string t920)).setCell ⟨gb925, 7, none⟩ (.slice Ao27 t921.length co27)) = w28 at n0_ n1_ n2_ n3_ n4_ n5_ ⊢
             have HO897 := n0_
             have HO910 := n1_
             have HO923 := n2_
             have BK912 := n3_
             have BK925 := n4_
             have HB := n5_
             clear n0_ n1_ n2_ n3_ n4_ n5_
             have n0_ := Aside0.mk (Kd.V_drew HO897.out)
             have n1_ := Aside0.mk (Kd.R_drew HO910.out)
             have n2_ := Aside0.mk (Kd.V_drew HO923.out)
             have n3_ := Aside0.mk (blk_drew BK912.out)
             have n4_ := Aside0.mk (blk_drew BK925.out)
             have n5_ := Aside0.mk (below_drew1 HB.out)
             clear HO897
             clear HO910
             clear HO923
             clear BK912
             clear BK925
             clear HB
             have HO897 := n0_
             have HO910 := n1_
             have HO923 := n2_
             have BK912 := n3_
             have BK925 := n4_
             have HB := n5_
             clear n0_ n1_ n2_ n3_ n4_ n5_
             refine start_ (n := 16) (S := fun w' => w'.cell? ⟨gb912, 0, none⟩ = some (.string t901) ∧ w'.cell? ⟨gb912, 1, none⟩ = some (.int .i64 t902) ∧ w'.cell? ⟨gb912, 2, none⟩ = some (.bool t903) ∧ w'.cell? ⟨gb912, 3, none⟩ = some (.int .i64 t904) ∧ w'.cell? ⟨gb912, 4, none⟩ = some (.int .u64 t905) ∧ w'.cell? ⟨gb912, 5, none⟩ = some (.float .f64 t906) ∧ w'.cell? ⟨gb912, 6, none⟩ = some (.string t907) ∧ w'.cell? ⟨gb912, 7, none⟩ = some (.slice Ao21 t908.length co21) ∧ w'.cell? ⟨gb925, 0, none⟩ = some (.string t914) ∧ w'.cell? ⟨gb925, 1, none⟩ = some (.int .i64 t915) ∧ w'.cell? ⟨gb925, 2, none⟩ = some (.bool t916) ∧ w'.cell? ⟨gb925, 3, none⟩ = some (.int .i64 t917) ∧ w'.cell? ⟨gb925, 4, none⟩ = some (.int .u64 t918) ∧ w'.cell? ⟨gb925, 5, none⟩ = some (.float .f64 t919) ∧ w'.cell? ⟨gb925, 6, none⟩ = some (.string t920) ∧ w'.cell? ⟨gb925, 7, none⟩ = some (.slice Ao27 t921.length co27)) (ds := []) #[false, false, false, false, false, false, false, false, false, false, false, false, false, false, false, false] (by kernel_rfl) rfl rfl ⟨(blk_cell BK912.out 0).trans rfl, (blk_cell BK912.out 1).trans rfl, (blk_cell BK912.out 2).trans rfl, (blk_cell BK912.out 3).trans rfl, (blk_cell BK912.out 4).trans rfl, (blk_cell BK912.out 5).trans rfl, (blk_cell BK912.out 6).trans rfl, (blk_cell BK912.out 7).trans rfl, (blk_cell BK925.out 0).trans rfl, (blk_cell BK925.out 1).trans rfl, (blk_cell BK925.out 2).trans rfl, (blk_cell BK925.out 3).trans rfl, (blk_cell BK925.out 4).trans rfl, (blk_cell BK925.out 5).trans rfl, (blk_cell BK925.out 6).trans rfl, (blk_cell BK925.out 7).trans rfl⟩ (fun hHeld => ?_); refine with_tabW laws_read_10_11_12.tab10 laws_read_10_11_12.bits10 (fun HT_ HW_ => ?_)
             generalize w28.drew = w29 at HO897 HO910 HO923 BK912 BK925 HB hHeld ⊢
             refine pure_ (i := 0) (N := some 47) (v := ?_) (a' := ?_) #[true, false, false, false, false, false, false, false, false, false, false, false, false, false, false, false] rfl rfl (any_of HT_.out (by kernel_rfl)) (fun _ _ _ h => h) (Or.inl ⟨by rfl, ?_⟩) ?_ ?_
             rotate_left
             · intro w'
               go_simp
               with_reducible rfl
             rotate_left
             · simp only [Act.put, List.setIfInBounds_toArray, List.set_cons_zero, List.set_cons_succ, i64_w, i32_w]
               rfl
             refine pure_ (i := 1) (N := some 48) (v := ?_) (a' := ?_) #[true, true, false, false, false, false, false, false, false, false, false, false, false, false, false, false] rfl rfl (any_of HT_.out (by kernel_rfl)) (fun _ _ _ h => h) (Or.inl ⟨by rfl, ?_⟩) ?_ ?_
             rotate_left
             · intro w'
               go_simp
               with_reducible rfl
             rotate_left
             · simp only [Act.put, List.setIfInBounds_toArray, List.set_cons_zero, List.set_cons_succ, i64_w, i32_w]
               rfl
             refine pure_ (i := 2) (N := some 49) (v := ?_) (a' := ?_) #[true, true, true, false, false, false, false, false, false, false, false, false, false, false, false, false] rfl rfl (any_of HT_.out (by kernel_rfl)) (fun _ _ _ h => h) (Or.inl ⟨by rfl, ?_⟩) ?_ ?_
             rotate_left
             · intro w'
               go_simp
               with_reducible rfl
             rotate_left
             · simp only [Act.put, List.setIfInBounds_toArray, List.set_cons_zero, List.set_cons_succ, i64_w, i32_w]
               rfl
             refine pure_ (i := 3) (N := some 50) (v := ?_) (a' := ?_) #[true, true, true, true, false, false, false, false, false, false, false, false, false, false, false, false] rfl rfl (any_of HT_.out (by kernel_rfl)) (fun _ _ _ h => h) (Or.inl ⟨by rfl, ?_⟩) ?_ ?_
             rotate_left
             · intro w'
               go_simp
               with_reducible rfl
             rotate_left
             · simp only [Act.put, List.setIfInBounds_toArray, List.set_cons_zero, List.set_cons_succ, i64_w, i32_w]
               rfl
             refine pure_ (i := 4) (N := some 51) (v := ?_) (a' := ?_) #[true, true, true, true, true, false, false, false, false, false, false, false, false, false, false, false] rfl rfl (any_of HT_.out (by kernel_rfl)) (fun _ _ _ h => h) (Or.inl ⟨by rfl, ?_⟩) ?_ ?_
             rotate_left
             · intro w'
               go_simp
               with_reducible rfl
             rotate_left
             · simp only [Act.put, List.setIfInBounds_toArray, List.set_cons_zero, List.set_cons_succ, i64_w, i32_w]
               rfl
             refine pure_ (i := 5) (N := some 52) (v := ?_) (a' := ?_) #[true, true, true, true, true, true, false, false, false, false, false, false, false, false, false, false] rfl rfl (any_of HT_.out (by kernel_rfl)) (fun _ _ _ h => h) (Or.inl ⟨by rfl, ?_⟩) ?_ ?_
             rotate_left
             · intro w'
               go_simp
               with_reducible rfl
             rotate_left
             · simp only [Act.put, List.setIfInBounds_toArray, List.set_cons_zero, List.set_cons_succ, i64_w, i32_w]
               rfl
             refine take_ (i := 6) (N := some 53) (v := ?_) (a' := ?_) #[true, true, true, true, true, true, true, false, false, false, false, false, false, false, false, false] rfl rfl (take_ofW HT_.out HW_.out (by kernel_rfl)) (fun _ _ _ h => h) (Or.inl ⟨by rfl, ?_⟩) hHeld ?_ ?_
             rotate_left
             · rintro w' ⟨s0, s1, s2, s3, s4, s5, s6, s7, s8, s9, s10, s11, s12, s13, s14, s15⟩
               go_simp
               with_reducible rfl
             rotate_left
             · simp only [Act.put, List.setIfInBounds_toArray, List.set_cons_zero, List.set_cons_succ, i64_w, i32_w]
               rfl
             refine take_ (i := 8) (N := some 55) (v := ?_) (a' := ?_) #[true, true, true, true, true, true, true, false, true, false, false, false, false, false, false, false] rfl rfl (take_ofW HT_.out HW_.out (by kernel_rfl)) (fun _ _ _ h => h) (Or.inl ⟨by rfl, ?_⟩) hHeld ?_ ?_
             rotate_left
             · rintro w' ⟨s0, s1, s2, s3, s4, s5, s6, s7, s8, s9, s10, s11, s12, s13, s14, s15⟩
               go_simp
               with_reducible rfl
             rotate_left
             · simp only [Act.put, List.setIfInBounds_toArray, List.set_cons_zero, List.set_cons_succ, i64_w, i32_w]
               rfl
             refine one_ (i := 7) (N := some 54) #[true, true, true, true, true, true, true, true, true, false, false, false, false, false, false, false] rfl rfl (one_of HT_.out (by kernel_rfl)) (by decide) (fun K hK => ?_)
             refine goes_ Tryz.func30 (by kernel_rfl) rfl #[.agg #[.string t901, .int .i64 t902, .bool t903, .int .i64 t904, .int .u64 t905, .float .f64 t906, .string t907, .slice Ao21 t908.length co21]] (by rfl) rfl rfl (by (try simp only [List.map_toArray, List.map_cons, List.map_nil]); first | done | rfl | (simp only [List.length_drop, List.length_take]; rfl)) ?_
             with_reducible refine (laws_toNode.calls k t901 t902 t903 t904 t905 t906 t907 _ _ t908 t926 t927 t928 t929 t930 t931 t932 t933 _ ?side1 ?side2 A13.out).mono ?_
             (case side1 => repeat (first | exact (Kd.R_reads' HO910.out).2.2 | (with_reducible refine Kd.C_alloc ?_ _) | (with_reducible refine Kd.C_drewN ?_ _) | (with_reducible refine Kd.C_drew ?_)))
             (case side2 => exact (Kd.R_reads' HO910.out).2.1)
             rintro e w30 ⟨v934, rfl, ho0, hb⟩
             refine ⟨_, rfl, ?_⟩
             have n0_ := Aside0.mk (Kd.V_elder' (by (with_reducible repeat (first | apply Kd.V_alloc | apply Kd.V_drewN | apply Kd.V_drew)); exact HO897.out) (Kd.R_base ho0) hb)
             have n1_ := Aside0.mk (Kd.R_below (by (with_reducible repeat (first | apply Kd.R_alloc | apply Kd.R_drewN | apply Kd.R_drew)); exact HO910.out) hb)
             have n2_ := Aside0.mk (Kd.V_elder' (by (with_reducible repeat (first | apply Kd.V_alloc | apply Kd.V_drewN | apply Kd.V_drew)); exact HO923.out) (Kd.R_base ho0) hb)
             have n3_ := Aside0.mk (Kd.R_lower (Kd.R_newB ho0 (g := gb925) (o := .cells #[.string t914, .int .i64 t915, .bool t916, .int .i64 t917, .int .u64 t918, .float .f64 t919, .string t920, .slice Ao27 t921.length co27] 38 (0, 0)) (by (with_reducible repeat (first | refine blk_drewN ?_ _ | refine blk_drew ?_ | refine blk_alloc ?_ _)); exact BK925.out)) (below_size (by repeat (first | (with_reducible first | exact HB.out | apply below_alloc | apply pw_below_drewN | apply below_drew1 | refine below_set ?_ GE912.out | refine below_set ?_ GE925.out) | exact HB.out))))
             have n4_ := Aside0.mk (blk_below (g := gb912) (o := .cells #[.string t901, .int .i64 t902, .bool t903, .int .i64 t904, .int .u64 t905, .float .f64 t906, .string t907, .slice Ao21 t908.length co21] 34 (0, 0)) (by (with_reducible repeat (first | refine blk_drewN ?_ _ | refine blk_drew ?_ | refine blk_alloc ?_ _)); exact BK912.out) hb)
             have n5_ := Aside0.mk (blk_below (g := gb925) (o := .cells #[.string t914, .int .i64 t915, .bool t916, .int .i64 t917, .int .u64 t918, .float .f64 t919, .string t920, .slice Ao27 t921.length co27] 38 (0, 0)) (by (with_reducible repeat (first | refine blk_drewN ?_ _ | refine blk_drew ?_ | refine blk_alloc ?_ _)); exact BK925.out) hb)
             have n6_ := Aside0.mk (below_step (by repeat (first | (with_reducible first | exact HB.out | apply below_alloc | apply pw_below_drewN | apply below_drew1 | refine below_set ?_ GE912.out | refine below_set ?_ GE925.out) | exact HB.out)) hb)
             clear HO897
             clear HO910
             clear HO923
             clear BK912
             clear BK925
             clear HB
             have HO897 := n0_
             have HO910 := n1_
             have HO923 := n2_
             have HO935 := n3_
             have BK912 := n4_
             have BK925 := n5_
             have HB := n6_
             clear n0_ n1_ n2_ n3_ n4_ n5_ n6_
             (try clear hb)
             (try clear hb2)
             (try clear hk)
             (try clear hi)
             (try clear ho0)
             obtain ⟨Ao31, co31, eo31⟩ := Kd.R_slice HO935.out
             (first | subst eo31 | (injection eo31 with f1_ f2_ f3_; have f4_ := f1_.symm; have f5_ := f3_.symm; clear f1_ f2_ f3_; subst f4_; subst f5_))
             refine hK.out _ _ ⟨(blk_cell BK912.out 0).trans rfl, (blk_cell BK912.out 1).trans rfl, (blk_cell BK912.out 2).trans rfl, (blk_cell BK912.out 3).trans rfl, (blk_cell BK912.out 4).trans rfl, (blk_cell BK912.out 5).trans rfl, (blk_cell BK912.out 6).trans rfl, (blk_cell BK912.out 7).trans rfl, (blk_cell BK925.out 0).trans rfl, (blk_cell BK925.out 1).trans rfl, (blk_cell BK925.out 2).trans rfl, (blk_cell BK925.out 3).trans rfl, (blk_cell BK925.out 4).trans rfl, (blk_cell BK925.out 5).trans rfl, (blk_cell BK925.out 6).trans rfl, (blk_cell BK925.out 7).trans rfl⟩ (fun hHeld => ?_)
             clear hK K
             refine norm_ (a' := ?_) ?_ ?_
             rotate_left
             · show Act.put _ (some 54) _ = _
               simp only [Act.put, List.setIfInBounds_toArray, List.set_cons_zero, List.set_cons_succ, i64_w, i32_w]
               rfl
             refine one_ (i := 9) (N := some 56) #[true, true, true, true, true, true, true, true, true, true, false, false, false, false, false, false] rfl rfl (one_of HT_.out (by kernel_rfl)) (by decide) (fun K hK => ?_)
             refine goes_ Tryz.func29 (by kernel_rfl) rfl #[.agg #[.string t926, .int .i64 t927, .bool t928, .int .i64 t929, .int .u64 t930, .float .f64 t931, .string t932, .slice Ao31 t933.length co31], .agg #[.string t914, .int .i64 t915, .bool t916, .int .i64 t917, .int .u64 t918, .float .f64 t919, .string t920, .slice Ao27 t921.length co27]] (by rfl) rfl rfl (by (try simp only [List.map_toArray, List.map_cons, List.map_nil]); first | done | rfl | (simp only [List.length_drop, List.length_take]; rfl)) ?_
             with_reducible refine (spec_SameNode.calls k t926 t927 t928 t929 t930 t931 t932 _ _ t933 t914 t915 t916 t917 t918 t919 t920 _ _ t921 true _ ?side1 ?side2 ?side3 ?side4 A14.out).mono ?_
             (case side1 => repeat (first | exact (Kd.R_reads' HO935.out).2.2 | (with_reducible refine Kd.C_alloc ?_ _) | (with_reducible refine Kd.C_drewN ?_ _) | (with_reducible refine Kd.C_drew ?_)))
             (case side2 => exact (Kd.R_reads' HO935.out).2.1)
             (case side3 => repeat (first | exact (Kd.V_reads' HO923.out).2.2 | (with_reducible refine Kd.C_alloc ?_ _) | (with_reducible refine Kd.C_drewN ?_ _) | (with_reducible refine Kd.C_drew ?_)))
             (case side4 => exact (Kd.V_reads' HO923.out).2.1)
             rintro e w32 ⟨rfl, hb⟩
             refine ⟨_, rfl, ?_⟩
             have n0_ := Aside0.mk (Kd.V_below (by (with_reducible repeat (first | apply Kd.V_alloc | apply Kd.V_drewN | apply Kd.V_drew)); exact HO897.out) hb)
             have n1_ := Aside0.mk (Kd.R_below (by (with_reducible repeat (first | apply Kd.R_alloc | apply Kd.R_drewN | apply Kd.R_drew)); exact HO910.out) hb)
             have n2_ := Aside0.mk (Kd.V_below (by (with_reducible repeat (first | apply Kd.V_alloc | apply Kd.V_drewN | apply Kd.V_drew)); exact HO923.out) hb)
             have n3_ := Aside0.mk (Kd.R_below (by (with_reducible repeat (first | apply Kd.R_alloc | apply Kd.R_drewN | apply Kd.R_drew)); exact HO935.out) hb)
             have n4_ := Aside0.mk (blk_below (g := gb912) (o := .cells #[.string t901, .int .i64 t902, .bool t903, .int .i64 t904, .int .u64 t905, .float .f64 t906, .string t907, .slice Ao21 t908.length co21] 34 (0, 0)) (by (with_reducible repeat (first | refine blk_drewN ?_ _ | refine blk_drew ?_ | refine blk_alloc ?_ _)); exact BK912.out) hb)
             have n5_ := Aside0.mk (blk_below (g := gb925) (o := .cells #[.string t914, .int .i64 t915, .bool t916, .int .i64 t917, .int .u64 t918, .float .f64 t919, .string t920, .slice Ao27 t921.length co27] 38 (0, 0)) (by (with_reducible repeat (first | refine blk_drewN ?_ _ | refine blk_drew ?_ | refine blk_alloc ?_ _)); exact BK925.out) hb)
             have n6_ := Aside0.mk (below_step (by repeat (first | (with_reducible first | exact HB.out | apply below_alloc | apply pw_below_drewN | apply below_drew1 | refine below_set ?_ GE912.out | refine below_set ?_ GE925.out) | exact HB.out)) hb)
             clear HO897
             clear HO910
             clear HO923
             clear HO935
             clear BK912
             clear BK925
             clear HB
             have HO897 := n0_
             have HO910 := n1_
             have HO923 := n2_
             have HO935 := n3_
             have BK912 := n4_
             have BK925 := n5_
             have HB := n6_
             clear n0_ n1_ n2_ n3_ n4_ n5_ n6_
             (try clear hb)
             (try clear hb2)
             (try clear hk)
             (try clear hi)
             refine hK.out _ _ ⟨(blk_cell BK912.out 0).trans rfl, (blk_cell BK912.out 1).trans rfl, (blk_cell BK912.out 2).trans rfl, (blk_cell BK912.out 3).trans rfl, (blk_cell BK912.out 4).trans rfl, (blk_cell BK912.out 5).trans rfl, (blk_cell BK912.out 6).trans rfl, (blk_cell BK912.out 7).trans rfl, (blk_cell BK925.out 0).trans rfl, (blk_cell BK925.out 1).trans rfl, (blk_cell BK925.out 2).trans rfl, (blk_cell BK925.out 3).trans rfl, (blk_cell BK925.out 4).trans rfl, (blk_cell BK925.out 5).trans rfl, (blk_cell BK925.out 6).trans rfl, (blk_cell BK925.out 7).trans rfl⟩ (fun hHeld => ?_)
             clear hK K
             refine norm_ (a' := ?_) ?_ ?_
             rotate_left
             · show Act.put _ (some 56) _ = _
               simp only [Act.put, List.setIfInBounds_toArray, List.set_cons_zero, List.set_cons_succ, i64_w, i32_w]
               rfl
             refine pure_ (i := 10) (N := some 57) (v := ?_) (a' := ?_) #[true, true, true, true, true, true, true, true, true, true, true, false, false, false, false, false] rfl rfl (any_of HT_.out (by kernel_rfl)) (fun _ _ _ h => h) (Or.inl ⟨by rfl, ?_⟩) ?_ ?_
             rotate_left
             · intro w'
               go_simp
               with_reducible rfl
             rotate_left
             · simp only [Act.put, List.setIfInBounds_toArray, List.set_cons_zero, List.set_cons_succ, i64_w, i32_w]
               rfl
             refine pure_ (i := 11) (N := some 58) (v := ?_) (a' := ?_) #[true, true, true, true, true, true, true, true, true, true, true, true, false, false, false, false] rfl rfl (any_of HT_.out (by kernel_rfl)) (fun _ _ _ h => h) (Or.inl ⟨by rfl, ?_⟩) ?_ ?_
             rotate_left
             · intro w'
               go_simp
               with_reducible rfl
             rotate_left
             · simp only [Act.put, List.setIfInBounds_toArray, List.set_cons_zero, List.set_cons_succ, i64_w, i32_w]
               rfl
             refine pure_ (i := 12) (N := some 59) (v := ?_) (a' := ?_) #[true, true, true, true, true, true, true, true, true, true, true, true, true, false, false, false] rfl rfl (any_of HT_.out (by kernel_rfl)) (fun _ _ _ h => h) (Or.inl ⟨by rfl, ?_⟩) ?_ ?_
             rotate_left
             · intro w'
               go_simp
               with_reducible rfl
             rotate_left
             · simp only [Act.put, List.setIfInBounds_toArray, List.set_cons_zero, List.set_cons_succ, i64_w, i32_w]
               rfl
             refine one_ (i := 13) (N := some 60) #[true, true, true, true, true, true, true, true, true, true, true, true, true, true, false, false] rfl rfl (one_of HT_.out (by kernel_rfl)) (by decide) (fun K hK => ?_)
             refine goes_ Tryz.func28 (by kernel_rfl) rfl #[] (by rfl) rfl rfl (by (try simp only [List.map_toArray, List.map_cons, List.map_nil]); first | done | rfl | (simp only [List.length_drop, List.length_take]; rfl)) ?_
             with_reducible refine (laws_lives.calls  t937 _ A16.out).mono ?_
             rintro e w33 ⟨rfl, hb⟩
             refine ⟨_, rfl, ?_⟩
             have n0_ := Aside0.mk (Kd.V_below (by (with_reducible repeat (first | apply Kd.V_alloc | apply Kd.V_drewN | apply Kd.V_drew)); exact HO897.out) hb)
             have n1_ := Aside0.mk (Kd.R_below (by (with_reducible repeat (first | apply Kd.R_alloc | apply Kd.R_drewN | apply Kd.R_drew)); exact HO910.out) hb)
             have n2_ := Aside0.mk (Kd.V_below (by (with_reducible repeat (first | apply Kd.V_alloc | apply Kd.V_drewN | apply Kd.V_drew)); exact HO923.out) hb)
             have n3_ := Aside0.mk (Kd.R_below (by (with_reducible repeat (first | apply Kd.R_alloc | apply Kd.R_drewN | apply Kd.R_drew)); exact HO935.out) hb)
             have n4_ := Aside0.mk (blk_below (g := gb912) (o := .cells #[.string t901, .int .i64 t902, .bool t903, .int .i64 t904, .int .u64 t905, .float .f64 t906, .string t907, .slice Ao21 t908.length co21] 34 (0, 0)) (by (with_reducible repeat (first | refine blk_drewN ?_ _ | refine blk_drew ?_ | refine blk_alloc ?_ _)); exact BK912.out) hb)
             have n5_ := Aside0.mk (blk_below (g := gb925) (o := .cells #[.string t914, .int .i64 t915, .bool t916, .int .i64 t917, .int .u64 t918, .float .f64 t919, .string t920, .slice Ao27 t921.length co27] 38 (0, 0)) (by (with_reducible repeat (first | refine blk_drewN ?_ _ | refine blk_drew ?_ | refine blk_alloc ?_ _)); exact BK925.out) hb)
             have n6_ := Aside0.mk (below_step (by repeat (first | (with_reducible first | exact HB.out | apply below_alloc | apply pw_below_drewN | apply below_drew1 | refine below_set ?_ GE912.out | refine below_set ?_ GE925.out) | exact HB.out)) hb)
             clear HO897
             clear HO910
             clear HO923
             clear HO935
             clear BK912
             clear BK925
             clear HB
             have HO897 := n0_
             have HO910 := n1_
             have HO923 := n2_
             have HO935 := n3_
             have BK912 := n4_
             have BK925 := n5_
             have HB := n6_
             clear n0_ n1_ n2_ n3_ n4_ n5_ n6_
             (try clear hb)
             (try clear hb2)
             (try clear hk)
             (try clear hi)
             refine hK.out _ _ ⟨(blk_cell BK912.out 0).trans rfl, (blk_cell BK912.out 1).trans rfl, (blk_cell BK912.out 2).trans rfl, (blk_cell BK912.out 3).trans rfl, (blk_cell BK912.out 4).trans rfl, (blk_cell BK912.out 5).trans rfl, (blk_cell BK912.out 6).trans rfl, (blk_cell BK912.out 7).trans rfl, (blk_cell BK925.out 0).trans rfl, (blk_cell BK925.out 1).trans rfl, (blk_cell BK925.out 2).trans rfl, (blk_cell BK925.out 3).trans rfl, (blk_cell BK925.out 4).trans rfl, (blk_cell BK925.out 5).trans rfl, (blk_cell BK925.out 6).trans rfl, (blk_cell BK925.out 7).trans rfl⟩ (fun hHeld => ?_)
             clear hK K
             refine norm_ (a' := ?_) ?_ ?_
             rotate_left
             · show Act.put _ (some 60) _ = _
               simp only [Act.put, List.setIfInBounds_toArray, List.set_cons_zero, List.set_cons_succ, i64_w, i32_w]
               rfl
             refine pure_ (i := 14) (N := some 61) (v := ?_) (a' := ?_) #[true, true, true, true, true, true, true, true, true, true, true, true, true, true, true, false] rfl rfl (any_of HT_.out (by kernel_rfl)) (fun _ _ _ h => h) (Or.inl ⟨by rfl, ?_⟩) ?_ ?_
             rotate_left
             · intro w'
               go_simp
               with_reducible rfl
             rotate_left
             · simp only [Act.put, List.setIfInBounds_toArray, List.set_cons_zero, List.set_cons_succ, i64_w, i32_w]
               rfl
             refine pure_ (i := 15) (N := some 8) (v := ?_) (a' := ?_) #[true, true, true, true, true, true, true, true, true, true, true, true, true, true, true, true] rfl rfl (any_of HT_.out (by kernel_rfl)) (fun _ _ _ h => h) (Or.inl ⟨by rfl, ?_⟩) ?_ ?_
             rotate_left
             · intro w'
               go_simp
               with_reducible rfl
             rotate_left
             · simp only [Act.put, List.setIfInBounds_toArray, List.set_cons_zero, List.set_cons_succ, i64_w, i32_w]
               rfl
             refine done_ (done_of HT_.out (by kernel_rfl)) ?_
             try go_wp2
             go_ret
             exact ⟨by first | rfl | (simp [errW_none, errW_some] <;> rfl) | (simp [*, errW_none, errW_some] <;> rfl), by repeat (first | (with_reducible first | exact HB.out | apply below_alloc | apply pw_below_drewN | apply below_drew1 | refine below_set ?_ GE912.out | refine below_set ?_ GE925.out) | exact HB.out)⟩
           · replace c15 := Bool.eq_false_iff.mpr c15
             subst c15
             have H1 : (some false) = some r := by rw [if_neg (show ¬ (false = true) by decide)] at H; exact H
             clear H
             have H := H1
             clear H1
             obtain rfl := Option.some.inj H
             go_enter Tryz.func9, Tryz.ntmps9
             try go_wp2_with (first | (go_at_call 10; (with_reducible refine (spec_LoadavgRead.calls k a0 t895 true t899 _ A6.out).mono ?_); rintro e w34 ⟨v896, rfl, ho0, hb⟩; have n0_ := Aside0.mk (Kd.V_lower (Kd.V_mono (ok' := fun k_ => True) ho0 (fun k_ hk_ => trivial)) (below_size (by repeat (first | (with_reducible first | exact HB.out | apply below_alloc | apply pw_below_drewN | apply below_drew1) | exact HB.out)))); have n1_ := Aside0.mk (below_step (by repeat (first | (with_reducible first | exact HB.out | apply below_alloc | apply pw_below_drewN | apply below_drew1) | exact HB.out)) hb); clear HB; have HO897 := n0_; have HB := n1_; clear n0_ n1_; (try clear hb); (try clear hb2); (try clear hk); (try clear hi); (try clear ho0)) | (go_at_call 12; (with_reducible refine (impl_Loadavg.calls a0 t901 t902 t903 t904 t905 t906 t907 t908 t911 _ A8.out).mono ?_); rintro e w35 ⟨v909, rfl, ho0, hb⟩; have n0_ := Aside0.mk (Kd.V_elder' (by (with_reducible repeat (first | apply Kd.V_alloc | apply Kd.V_drewN | apply Kd.V_drew)); exact HO897.out) (Kd.R_base ho0) hb); have n1_ := Aside0.mk (Kd.R_lower ho0 (below_size (by repeat (first | (with_reducible first | exact HB.out | apply below_alloc | apply pw_below_drewN | apply below_drew1) | exact HB.out)))); have n2_ := Aside0.mk (below_step (by repeat (first | (with_reducible first | exact HB.out | apply below_alloc | apply pw_below_drewN | apply below_drew1) | exact HB.out)) hb); clear HO897; clear HB; have HO897 := n0_; have HO910 := n1_; have HB := n2_; clear n0_ n1_ n2_; (try clear hb); (try clear hb2); (try clear hk); (try clear hi); (try clear ho0)) | ((with_reducible refine gate_dst (N := 12) rfl ?_); refine box_event ?hg (N := 12) ?hd (cs := #[.string (⟨#[]⟩ : ByteArray), .int .i64 0, .bool false, .int .i64 0, .int .u64 0, .float .f64 0, .string (⟨#[]⟩ : ByteArray), .slice none 0 0]) (t := 34) ?hr ?_; (case hd => rfl); (case hg => rfl); (case hr => first | (go_simp; done) | (go_simp; rfl)); intro gb912 hg w36 hbox hb; have n0_ := Aside0.mk (Kd.V_below (Kd.V_elderB (by (with_reducible repeat (first | apply Kd.V_alloc | apply Kd.V_drewN | apply Kd.V_drew)); exact HO897.out) gb912 (Nat.le_of_eq hg.symm)) hb); have n1_ := Aside0.mk (Kd.R_below (Kd.R_elderB (by (with_reducible repeat (first | apply Kd.R_alloc | apply Kd.R_drewN | apply Kd.R_drew)); exact HO910.out) gb912 (Nat.le_of_eq hg.symm)) hb); have n2_ := Aside0.mk (below_step (by repeat (first | (with_reducible first | exact HB.out | apply below_alloc | apply pw_below_drewN | apply below_drew1) | exact HB.out)) hb); have n3_ := Aside0.mk (hbox); have n4_ := Aside0.mk ((by rw [hg]; exact (below_size (by repeat (first | (with_reducible first | exact HB.out | apply below_alloc | apply pw_below_drewN | apply below_drew1) | exact HB.out))) : w.heap.size ≤ gb912)); have n5_ := Aside0.mk ((by rw [hg]; exact (below_size (by repeat (first | (with_reducible first | exact HB.out | apply below_alloc | apply pw_below_drewN | apply below_drew1) | exact HB.out))) : w.heap.size ≤ gb912)); clear HO897; clear HO910; clear HB; have HO897 := n0_; have HO910 := n1_; have HB := n2_; have BK912 := n3_; have GW912 := n4_; have GE912 := n5_; clear n0_ n1_ n2_ n3_ n4_ n5_; clear hb hbox hg; have hcz37_0 : w36.cell? ⟨gb912, 0, none⟩ = some (.string (⟨#[]⟩ : ByteArray)) := (blk_cell BK912.out 0).trans rfl; have hcz37_1 : w36.cell? ⟨gb912, 1, none⟩ = some (.int .i64 0) := (blk_cell BK912.out 1).trans rfl; have hcz37_2 : w36.cell? ⟨gb912, 2, none⟩ = some (.bool false) := (blk_cell BK912.out 2).trans rfl; have hcz37_3 : w36.cell? ⟨gb912, 3, none⟩ = some (.int .i64 0) := (blk_cell BK912.out 3).trans rfl; have hcz37_4 : w36.cell? ⟨gb912, 4, none⟩ = some (.int .u64 0) := (blk_cell BK912.out 4).trans rfl; have hcz37_5 : w36.cell? ⟨gb912, 5, none⟩ = some (.float .f64 0) := (blk_cell BK912.out 5).trans rfl; have hcz37_6 : w36.cell? ⟨gb912, 6, none⟩ = some (.string (⟨#[]⟩ : ByteArray)) := (blk_cell BK912.out 6).trans rfl; have hcz37_7 : w36.cell? ⟨gb912, 7, none⟩ = some (.slice none 0 0) := (blk_cell BK912.out 7).trans rfl; have hfz37_0 := blk_frozen BK912.out 0; have hfz37_1 := blk_frozen BK912.out 1; have hfz37_2 := blk_frozen BK912.out 2; have hfz37_3 := blk_frozen BK912.out 3; have hfz37_4 := blk_frozen BK912.out 4; have hfz37_5 := blk_frozen BK912.out 5; have hfz37_6 := blk_frozen BK912.out 6; have hfz37_7 := blk_frozen BK912.out 7; obtain ⟨Ao38, co38, eo38⟩ := Kd.R_slice HO910.out; subst eo38; obtain ⟨Ao39, co39, eo39⟩ := Kd.V_slice HO897.out; subst eo39) | (go_at_call 11; (with_reducible refine (spec_LoadavgTree.calls k _ _ t895 t914 t915 t916 t917 t918 t919 t920 t921 t924 _ ?side1 ?side2 A10.out).mono ?_); (case side1 => refine (Kd.V_reads' (e := 48) (base := w.heap.size) (ok := fun k_ => ((True ∧ some k_ ≠ (.slice Ao38 t908.length co38 : Value).ownBlock) ∧ k_ ≠ gb912)) (n := t895.length) (c := co39) ?_).2.2; exact (by (with_reducible repeat (first | apply Kd.V_alloc | apply Kd.V_drewN | apply Kd.V_drew)); exact (Kd.V_mono (Kd.V_far (p := ⟨gb912, 7, none⟩) (Kd.V_far (p := ⟨gb912, 6, none⟩) (Kd.V_far (p := ⟨gb912, 5, none⟩) (Kd.V_far (p := ⟨gb912, 4, none⟩) (Kd.V_far (p := ⟨gb912, 3, none⟩) (Kd.V_far (p := ⟨gb912, 2, none⟩) (Kd.V_far (p := ⟨gb912, 1, none⟩) (Kd.V_far (p := ⟨gb912, 0, none⟩) (Kd.V_mono HO897.out (fun k_ hk => (⟨hk, hk.2⟩ : _ ∧ k_ ≠ gb912))) (fun _ hk => hk.2) (.string t901)) (fun _ hk => hk.2) (.int .i64 t902)) (fun _ hk => hk.2) (.bool t903)) (fun _ hk => hk.2) (.int .i64 t904)) (fun _ hk => hk.2) (.int .u64 t905)) (fun _ hk => hk.2) (.float .f64 t906)) (fun _ hk => hk.2) (.string t907)) (fun _ hk => hk.2) (.slice Ao38 t908.length co38)) (fun _ h_ => h_.1)))); (case side2 => exact (Kd.V_reads' HO897.out).2.1); rintro e w40 ⟨v922, rfl, ho0, hb⟩; have n0_ := Aside0.mk (Kd.V_below (by (with_reducible repeat (first | apply Kd.V_alloc | apply Kd.V_drewN | apply Kd.V_drew)); exact (Kd.V_mono (Kd.V_far (p := ⟨gb912, 7, none⟩) (Kd.V_far (p := ⟨gb912, 6, none⟩) (Kd.V_far (p := ⟨gb912, 5, none⟩) (Kd.V_far (p := ⟨gb912, 4, none⟩) (Kd.V_far (p := ⟨gb912, 3, none⟩) (Kd.V_far (p := ⟨gb912, 2, none⟩) (Kd.V_far (p := ⟨gb912, 1, none⟩) (Kd.V_far (p := ⟨gb912, 0, none⟩) (Kd.V_mono HO897.out (fun k_ hk => (⟨hk, hk.2⟩ : _ ∧ k_ ≠ gb912))) (fun _ hk => hk.2) (.string t901)) (fun _ hk => hk.2) (.int .i64 t902)) (fun _ hk => hk.2) (.bool t903)) (fun _ hk => hk.2) (.int .i64 t904)) (fun _ hk => hk.2) (.int .u64 t905)) (fun _ hk => hk.2) (.float .f64 t906)) (fun _ hk => hk.2) (.string t907)) (fun _ hk => hk.2) (.slice Ao38 t908.length co38)) (fun _ h_ => h_.1))) hb); have n1_ := Aside0.mk (Kd.R_below (by (with_reducible repeat (first | apply Kd.R_alloc | apply Kd.R_drewN | apply Kd.R_drew)); exact (Kd.R_mono (Kd.R_far (p := ⟨gb912, 7, none⟩) (Kd.R_far (p := ⟨gb912, 6, none⟩) (Kd.R_far (p := ⟨gb912, 5, none⟩) (Kd.R_far (p := ⟨gb912, 4, none⟩) (Kd.R_far (p := ⟨gb912, 3, none⟩) (Kd.R_far (p := ⟨gb912, 2, none⟩) (Kd.R_far (p := ⟨gb912, 1, none⟩) (Kd.R_far (p := ⟨gb912, 0, none⟩) (Kd.R_mono HO910.out (fun k_ hk => (⟨hk, hk.2⟩ : _ ∧ k_ ≠ gb912))) (fun _ hk => hk.2) (.string t901)) (fun _ hk => hk.2) (.int .i64 t902)) (fun _ hk => hk.2) (.bool t903)) (fun _ hk => hk.2) (.int .i64 t904)) (fun _ hk => hk.2) (.int .u64 t905)) (fun _ hk => hk.2) (.float .f64 t906)) (fun _ hk => hk.2) (.string t907)) (fun _ hk => hk.2) (.slice Ao38 t908.length co38)) (fun _ h_ => h_.1))) hb); have n2_ := Aside0.mk (Kd.V_lower (Kd.V_mono (ok' := fun k_ => some k_ ≠ (.slice Ao38 t908.length co38 : Value).ownBlock ∧ k_ ≠ gb912) ho0 (fun k_ hk_ => ⟨(Kd.fresh' (Kd.R_lt (by (with_reducible repeat (first | apply Kd.R_alloc | apply Kd.R_drewN | apply Kd.R_drew)); exact (Kd.R_mono (Kd.R_far (p := ⟨gb912, 7, none⟩) (Kd.R_far (p := ⟨gb912, 6, none⟩) (Kd.R_far (p := ⟨gb912, 5, none⟩) (Kd.R_far (p := ⟨gb912, 4, none⟩) (Kd.R_far (p := ⟨gb912, 3, none⟩) (Kd.R_far (p := ⟨gb912, 2, none⟩) (Kd.R_far (p := ⟨gb912, 1, none⟩) (Kd.R_far (p := ⟨gb912, 0, none⟩) (Kd.R_mono HO910.out (fun k_ hk => (⟨hk, hk.2⟩ : _ ∧ k_ ≠ gb912))) (fun _ hk => hk.2) (.string t901)) (fun _ hk => hk.2) (.int .i64 t902)) (fun _ hk => hk.2) (.bool t903)) (fun _ hk => hk.2) (.int .i64 t904)) (fun _ hk => hk.2) (.int .u64 t905)) (fun _ hk => hk.2) (.float .f64 t906)) (fun _ hk => hk.2) (.string t907)) (fun _ hk => hk.2) (.slice Ao38 t908.length co38)) (fun _ h_ => h_.1)))) k_ hk_), (Kd.freshB (g := gb912) (o := .cells #[.string t901, .int .i64 t902, .bool t903, .int .i64 t904, .int .u64 t905, .float .f64 t906, .string t907, .slice Ao38 t908.length co38] 34 (0, 0)) (by (with_reducible repeat (first | refine blk_drewN ?_ _ | refine blk_drew ?_ | refine blk_alloc ?_ _)); refine blk_put (cs := #[.string t901, .int .i64 t902, .bool t903, .int .i64 t904, .int .u64 t905, .float .f64 t906, .string t907, .slice none 0 0]) ?_ 7 _ rfl; (with_reducible repeat (first | refine blk_drewN ?_ _ | refine blk_drew ?_ | refine blk_alloc ?_ _)); refine blk_put (cs := #[.string t901, .int .i64 t902, .bool t903, .int .i64 t904, .int .u64 t905, .float .f64 t906, .string (⟨#[]⟩ : ByteArray), .slice none 0 0]) ?_ 6 _ rfl; (with_reducible repeat (first | refine blk_drewN ?_ _ | refine blk_drew ?_ | refine blk_alloc ?_ _)); refine blk_put (cs := #[.string t901, .int .i64 t902, .bool t903, .int .i64 t904, .int .u64 t905, .float .f64 0, .string (⟨#[]⟩ : ByteArray), .slice none 0 0]) ?_ 5 _ rfl; (with_reducible repeat (first | refine blk_drewN ?_ _ | refine blk_drew ?_ | refine blk_alloc ?_ _)); refine blk_put (cs := #[.string t901, .int .i64 t902, .bool t903, .int .i64 t904, .int .u64 0, .float .f64 0, .string (⟨#[]⟩ : ByteArray), .slice none 0 0]) ?_ 4 _ rfl; (with_reducible repeat (first | refine blk_drewN ?_ _ | refine blk_drew ?_ | refine blk_alloc ?_ _)); refine blk_put (cs := #[.string t901, .int .i64 t902, .bool t903, .int .i64 0, .int .u64 0, .float .f64 0, .string (⟨#[]⟩ : ByteArray), .slice none 0 0]) ?_ 3 _ rfl; (with_reducible repeat (first | refine blk_drewN ?_ _ | refine blk_drew ?_ | refine blk_alloc ?_ _)); refine blk_put (cs := #[.string t901, .int .i64 t902, .bool false, .int .i64 0, .int .u64 0, .float .f64 0, .string (⟨#[]⟩ : ByteArray), .slice none 0 0]) ?_ 2 _ rfl; (with_reducible repeat (first | refine blk_drewN ?_ _ | refine blk_drew ?_ | refine blk_alloc ?_ _)); refine blk_put (cs := #[.string t901, .int .i64 0, .bool false, .int .i64 0, .int .u64 0, .float .f64 0, .string (⟨#[]⟩ : ByteArray), .slice none 0 0]) ?_ 1 _ rfl; (with_reducible repeat (first | refine blk_drewN ?_ _ | refine blk_drew ?_ | refine blk_alloc ?_ _)); refine blk_put (cs := #[.string (⟨#[]⟩ : ByteArray), .int .i64 0, .bool false, .int .i64 0, .int .u64 0, .float .f64 0, .string (⟨#[]⟩ : ByteArray), .slice none 0 0]) ?_ 0 _ rfl; (with_reducible repeat (first | refine blk_drewN ?_ _ | refine blk_drew ?_ | refine blk_alloc ?_ _)); exact BK912.out) k_ hk_)⟩)) (below_size (by repeat (first | (with_reducible first | exact HB.out | apply below_alloc | apply pw_below_drewN | apply below_drew1 | refine below_set ?_ GE912.out) | exact HB.out)))); have n3_ := Aside0.mk (blk_below (g := gb912) (o := .cells #[.string t901, .int .i64 t902, .bool t903, .int .i64 t904, .int .u64 t905, .float .f64 t906, .string t907, .slice Ao38 t908.length co38] 34 (0, 0)) (by (with_reducible repeat (first | refine blk_drewN ?_ _ | refine blk_drew ?_ | refine blk_alloc ?_ _)); refine blk_put (cs := #[.string t901, .int .i64 t902, .bool t903, .int .i64 t904, .int .u64 t905, .float .f64 t906, .string t907, .slice none 0 0]) ?_ 7 _ rfl; (with_reducible repeat (first | refine blk_drewN ?_ _ | refine blk_drew ?_ | refine blk_alloc ?_ _)); refine blk_put (cs := #[.string t901, .int .i64 t902, .bool t903, .int .i64 t904, .int .u64 t905, .float .f64 t906, .string (⟨#[]⟩ : ByteArray), .slice none 0 0]) ?_ 6 _ rfl; (with_reducible repeat (first | refine blk_drewN ?_ _ | refine blk_drew ?_ | refine blk_alloc ?_ _)); refine blk_put (cs := #[.string t901, .int .i64 t902, .bool t903, .int .i64 t904, .int .u64 t905, .float .f64 0, .string (⟨#[]⟩ : ByteArray), .slice none 0 0]) ?_ 5 _ rfl; (with_reducible repeat (first | refine blk_drewN ?_ _ | refine blk_drew ?_ | refine blk_alloc ?_ _)); refine blk_put (cs := #[.string t901, .int .i64 t902, .bool t903, .int .i64 t904, .int .u64 0, .float .f64 0, .string (⟨#[]⟩ : ByteArray), .slice none 0 0]) ?_ 4 _ rfl; (with_reducible repeat (first | refine blk_drewN ?_ _ | refine blk_drew ?_ | refine blk_alloc ?_ _)); refine blk_put (cs := #[.string t901, .int .i64 t902, .bool t903, .int .i64 0, .int .u64 0, .float .f64 0, .string (⟨#[]⟩ : ByteArray), .slice none 0 0]) ?_ 3 _ rfl; (with_reducible repeat (first | refine blk_drewN ?_ _ | refine blk_drew ?_ | refine blk_alloc ?_ _)); refine blk_put (cs := #[.string t901, .int .i64 t902, .bool false, .int .i64 0, .int .u64 0, .float .f64 0, .string (⟨#[]⟩ : ByteArray), .slice none 0 0]) ?_ 2 _ rfl; (with_reducible repeat (first | refine blk_drewN ?_ _ | refine blk_drew ?_ | refine blk_alloc ?_ _)); refine blk_put (cs := #[.string t901, .int .i64 0, .bool false, .int .i64 0, .int .u64 0, .float .f64 0, .string (⟨#[]⟩ : ByteArray), .slice none 0 0]) ?_ 1 _ rfl; (with_reducible repeat (first | refine blk_drewN ?_ _ | refine blk_drew ?_ | refine blk_alloc ?_ _)); refine blk_put (cs := #[.string (⟨#[]⟩ : ByteArray), .int .i64 0, .bool false, .int .i64 0, .int .u64 0, .float .f64 0, .string (⟨#[]⟩ : ByteArray), .slice none 0 0]) ?_ 0 _ rfl; (with_reducible repeat (first | refine blk_drewN ?_ _ | refine blk_drew ?_ | refine blk_alloc ?_ _)); exact BK912.out) hb); have n4_ := Aside0.mk (below_step (by repeat (first | (with_reducible first | exact HB.out | apply below_alloc | apply pw_below_drewN | apply below_drew1 | refine below_set ?_ GE912.out) | exact HB.out)) hb); clear HO897; clear HO910; clear BK912; clear HB; have HO897 := n0_; have HO910 := n1_; have HO923 := n2_; have BK912 := n3_; have HB := n4_; clear n0_ n1_ n2_ n3_ n4_; (try clear hb); (try clear hb2); (try clear hk); (try clear hi); (try clear ho0)) | ((with_reducible refine gate_dst (N := 14) rfl ?_); refine box_event ?hg (N := 14) ?hd (cs := #[.string (⟨#[]⟩ : ByteArray), .int .i64 0, .bool false, .int .i64 0, .int .u64 0, .float .f64 0, .string (⟨#[]⟩ : ByteArray), .slice none 0 0]) (t := 38) ?hr ?_; (case hd => rfl); (case hg => rfl); (case hr => first | (go_simp; done) | (go_simp; rfl)); intro gb925 hg w41 hbox hb; have n0_ := Aside0.mk (Kd.V_below (Kd.V_elderB (by (with_reducible repeat (first | apply Kd.V_alloc | apply Kd.V_drewN | apply Kd.V_drew)); exact HO897.out) gb925 (Nat.le_of_eq hg.symm)) hb); have n1_ := Aside0.mk (Kd.R_below (by (with_reducible repeat (first | apply Kd.R_alloc | apply Kd.R_drewN | apply Kd.R_drew)); exact HO910.out) hb); have n2_ := Aside0.mk (Kd.V_below (Kd.V_elderB (by (with_reducible repeat (first | apply Kd.V_alloc | apply Kd.V_drewN | apply Kd.V_drew)); exact HO923.out) gb925 (Nat.le_of_eq hg.symm)) hb); have n3_ := Aside0.mk (blk_below (g := gb912) (o := .cells #[.string t901, .int .i64 t902, .bool t903, .int .i64 t904, .int .u64 t905, .float .f64 t906, .string t907, .slice Ao38 t908.length co38] 34 (0, 0)) (by (with_reducible repeat (first | refine blk_drewN ?_ _ | refine blk_drew ?_ | refine blk_alloc ?_ _)); exact BK912.out) hb); have n4_ := Aside0.mk (below_step (by repeat (first | (with_reducible first | exact HB.out | apply below_alloc | apply pw_below_drewN | apply below_drew1 | refine below_set ?_ GE912.out) | exact HB.out)) hb); have n5_ := Aside0.mk (hbox); have n6_ := Aside0.mk ((by rw [hg]; exact (below_size (by repeat (first | (with_reducible first | exact HB.out | apply below_alloc | apply pw_below_drewN | apply below_drew1 | refine below_set ?_ GE912.out) | exact HB.out))) : w.heap.size ≤ gb925)); have n7_ := Aside0.mk ((by rw [hg]; exact (below_size (by repeat (first | (with_reducible first | exact HB.out | apply below_alloc | apply pw_below_drewN | apply below_drew1 | refine below_set ?_ GE912.out) | exact HB.out))) : w.heap.size ≤ gb925)); have n8_ := Aside0.mk ((by rw [hg]; exact Nat.ne_of_lt (blk_lt (g := gb912) (o := .cells #[.string t901, .int .i64 t902, .bool t903, .int .i64 t904, .int .u64 t905, .float .f64 t906, .string t907, .slice Ao38 t908.length co38] 34 (0, 0)) (by (with_reducible repeat (first | refine blk_drewN ?_ _ | refine blk_drew ?_ | refine blk_alloc ?_ _)); exact BK912.out)) : gb912 ≠ gb925)); have n9_ := Aside0.mk ((by rw [hg]; exact Nat.ne_of_gt (blk_lt (g := gb912) (o := .cells #[.string t901, .int .i64 t902, .bool t903, .int .i64 t904, .int .u64 t905, .float .f64 t906, .string t907, .slice Ao38 t908.length co38] 34 (0, 0)) (by (with_reducible repeat (first | refine blk_drewN ?_ _ | refine blk_drew ?_ | refine blk_alloc ?_ _)); exact BK912.out)) : gb925 ≠ gb912)); clear HO897; clear HO910; clear HO923; clear BK912; clear HB; have HO897 := n0_; have HO910 := n1_; have HO923 := n2_; have BK912 := n3_; have HB := n4_; have BK925 := n5_; have GW925 := n6_; have GE925 := n7_; have NB912_925 := n8_; have NB925_912 := n9_; clear n0_ n1_ n2_ n3_ n4_ n5_ n6_ n7_ n8_ n9_; clear hb hbox hg; have hnb42 := NB925_912.out; have hnc42 := NB912_925.out; have hcz43_0 : w41.cell? ⟨gb925, 0, none⟩ = some (.string (⟨#[]⟩ : ByteArray)) := (blk_cell BK925.out 0).trans rfl; have hcz43_1 : w41.cell? ⟨gb925, 1, none⟩ = some (.int .i64 0) := (blk_cell BK925.out 1).trans rfl; have hcz43_2 : w41.cell? ⟨gb925, 2, none⟩ = some (.bool false) := (blk_cell BK925.out 2).trans rfl; have hcz43_3 : w41.cell? ⟨gb925, 3, none⟩ = some (.int .i64 0) := (blk_cell BK925.out 3).trans rfl; have hcz43_4 : w41.cell? ⟨gb925, 4, none⟩ = some (.int .u64 0) := (blk_cell BK925.out 4).trans rfl; have hcz43_5 : w41.cell? ⟨gb925, 5, none⟩ = some (.float .f64 0) := (blk_cell BK925.out 5).trans rfl; have hcz43_6 : w41.cell? ⟨gb925, 6, none⟩ = some (.string (⟨#[]⟩ : ByteArray)) := (blk_cell BK925.out 6).trans rfl; have hcz43_7 : w41.cell? ⟨gb925, 7, none⟩ = some (.slice none 0 0) := (blk_cell BK925.out 7).trans rfl; have hfz43_0 := blk_frozen BK925.out 0; have hfz43_1 := blk_frozen BK925.out 1; have hfz43_2 := blk_frozen BK925.out 2; have hfz43_3 := blk_frozen BK925.out 3; have hfz43_4 := blk_frozen BK925.out 4; have hfz43_5 := blk_frozen BK925.out 5; have hfz43_6 := blk_frozen BK925.out 6; have hfz43_7 := blk_frozen BK925.out 7; obtain ⟨Ao44, co44, eo44⟩ := Kd.V_slice HO923.out; subst eo44))
             have n0_ : Aside0 (Kd.V k48 48 ((((((((w41.setCell ⟨gb925, 0, none⟩ (.string t914)).setCell ⟨gb925, 1, none⟩ (.int .i64 t915)).setCell ⟨gb925, 2, none⟩ (.bool t916)).setCell ⟨gb925, 3, none⟩ (.int .i64 t917)).setCell ⟨gb925, 4, none⟩ (.int .u64 t918)).setCell ⟨gb925, 5, none⟩ (.float .f64 t919)).setCell ⟨gb925, 6, none⟩ (.string t920)).setCell ⟨gb925, 7, none⟩ (.slice Ao44 t921.length co44)) w.heap.size (fun k_ => some k_ ≠ (.slice Ao38 t908.length co38 : Value).ownBlock ∧ k_ ≠ gb912 ∧ k_ ≠ gb925) (.slice Ao39 t895.length co39) t895) := ⟨by (with_reducible repeat (first | apply Kd.V_alloc | apply Kd.V_drewN | apply Kd.V_drew)); exact Kd.V_mono (Kd.V_far (p := ⟨gb925, 7, none⟩) (Kd.V_far (p := ⟨gb925, 6, none⟩) (Kd.V_far (p := ⟨gb925, 5, none⟩) (Kd.V_far (p := ⟨gb925, 4, none⟩) (Kd.V_far (p := ⟨gb925, 3, none⟩) (Kd.V_far (p := ⟨gb925, 2, none⟩) (Kd.V_far (p := ⟨gb925, 1, none⟩) (Kd.V_far (p := ⟨gb925, 0, none⟩) (Kd.V_mono HO897.out (fun k_ hk => (⟨hk, hk.2⟩ : _ ∧ k_ ≠ gb925))) (fun _ hk => hk.2) (.string t914)) (fun _ hk => hk.2) (.int .i64 t915)) (fun _ hk => hk.2) (.bool t916)) (fun _ hk => hk.2) (.int .i64 t917)) (fun _ hk => hk.2) (.int .u64 t918)) (fun _ hk => hk.2) (.float .f64 t919)) (fun _ hk => hk.2) (.string t920)) (fun _ hk => hk.2) (.slice Ao44 t921.length co44)) (fun _ hk => ⟨hk.1.1.1.2, ⟨hk.1.1.2, hk.1.2⟩⟩)⟩
             have n1_ : Aside0 (Kd.R k34 34 ((((((((w41.setCell ⟨gb925, 0, none⟩ (.string t914)).setCell ⟨gb925, 1, none⟩ (.int .i64 t915)).setCell ⟨gb925, 2, none⟩ (.bool t916)).setCell ⟨gb925, 3, none⟩ (.int .i64 t917)).setCell ⟨gb925, 4, none⟩ (.int .u64 t918)).setCell ⟨gb925, 5, none⟩ (.float .f64 t919)).setCell ⟨gb925, 6, none⟩ (.string t920)).setCell ⟨gb925, 7, none⟩ (.slice Ao44 t921.length co44)) w.heap.size (fun k_ => k_ ≠ gb912) (.slice Ao38 t908.length co38) t908) := ⟨by (with_reducible repeat (first | apply Kd.R_alloc | apply Kd.R_drewN | apply Kd.R_drew)); exact Kd.R_mono (Kd.R_far (p := ⟨gb925, 7, none⟩) (Kd.R_far (p := ⟨gb925, 6, none⟩) (Kd.R_far (p := ⟨gb925, 5, none⟩) (Kd.R_far (p := ⟨gb925, 4, none⟩) (Kd.R_far (p := ⟨gb925, 3, none⟩) (Kd.R_far (p := ⟨gb925, 2, none⟩) (Kd.R_far (p := ⟨gb925, 1, none⟩) (Kd.R_far (p := ⟨gb925, 0, none⟩) (Kd.R_types HO910.out BK925.out (by decide)) (fun _ hk => hk.2) (.string t914)) (fun _ hk => hk.2) (.int .i64 t915)) (fun _ hk => hk.2) (.bool t916)) (fun _ hk => hk.2) (.int .i64 t917)) (fun _ hk => hk.2) (.int .u64 t918)) (fun _ hk => hk.2) (.float .f64 t919)) (fun _ hk => hk.2) (.string t920)) (fun _ hk => hk.2) (.slice Ao44 t921.length co44)) (fun _ hk => hk.1.2)⟩
             have n2_ : Aside0 (Kd.V k38 38 ((((((((w41.setCell ⟨gb925, 0, none⟩ (.string t914)).setCell ⟨gb925, 1, none⟩ (.int .i64 t915)).setCell ⟨gb925, 2, none⟩ (.bool t916)).setCell ⟨gb925, 3, none⟩ (.int .i64 t917)).setCell ⟨gb925, 4, none⟩ (.int .u64 t918)).setCell ⟨gb925, 5, none⟩ (.float .f64 t919)).setCell ⟨gb925, 6, none⟩ (.string t920)).setCell ⟨gb925, 7, none⟩ (.slice Ao44 t921.length co44)) w.heap.size (fun k_ => some k_ ≠ (.slice Ao38 t908.length co38 : Value).ownBlock ∧ k_ ≠ gb912 ∧ k_ ≠ gb925) (.slice Ao44 t921.length co44) t921) := ⟨by (with_reducible repeat (first | apply Kd.V_alloc | apply Kd.V_drewN | apply Kd.V_drew)); exact Kd.V_mono (Kd.V_far (p := ⟨gb925, 7, none⟩) (Kd.V_far (p := ⟨gb925, 6, none⟩) (Kd.V_far (p := ⟨gb925, 5, none⟩) (Kd.V_far (p := ⟨gb925, 4, none⟩) (Kd.V_far (p := ⟨gb925, 3, none⟩) (Kd.V_far (p := ⟨gb925, 2, none⟩) (Kd.V_far (p := ⟨gb925, 1, none⟩) (Kd.V_far (p := ⟨gb925, 0, none⟩) (Kd.V_mono HO923.out (fun k_ hk => (⟨hk, hk.2⟩ : _ ∧ k_ ≠ gb925))) (fun _ hk => hk.2) (.string t914)) (fun _ hk => hk.2) (.int .i64 t915)) (fun _ hk => hk.2) (.bool t916)) (fun _ hk => hk.2) (.int .i64 t917)) (fun _ hk => hk.2) (.int .u64 t918)) (fun _ hk => hk.2) (.float .f64 t919)) (fun _ hk => hk.2) (.string t920)) (fun _ hk => hk.2) (.slice Ao44 t921.length co44)) (fun _ hk => ⟨hk.1.1.1, ⟨hk.1.1.2, hk.1.2⟩⟩)⟩
             have n3_ : Aside0 (((((((((w41.setCell ⟨gb925, 0, none⟩ (.string t914)).setCell ⟨gb925, 1, none⟩ (.int .i64 t915)).setCell ⟨gb925, 2, none⟩ (.bool t916)).setCell ⟨gb925, 3, none⟩ (.int .i64 t917)).setCell ⟨gb925, 4, none⟩ (.int .u64 t918)).setCell ⟨gb925, 5, none⟩ (.float .f64 t919)).setCell ⟨gb925, 6, none⟩ (.string t920)).setCell ⟨gb925, 7, none⟩ (.slice Ao44 t921.length co44)).heap[gb912]? = some (.cells #[.string t901, .int .i64 t902, .bool t903, .int .i64 t904, .int .u64 t905, .float .f64 t906, .string t907, .slice Ao38 t908.length co38] 34 (0, 0))) := ⟨by (with_reducible repeat (first | refine blk_drewN ?_ _ | refine blk_drew ?_ | refine blk_alloc ?_ _)); refine blk_far ?_ NB912_925.out _; (with_reducible repeat (first | refine blk_drewN ?_ _ | refine blk_drew ?_ | refine blk_alloc ?_ _)); refine blk_far ?_ NB912_925.out _; (with_reducible repeat (first | refine blk_drewN ?_ _ | refine blk_drew ?_ | refine blk_alloc ?_ _)); refine blk_far ?_ NB912_925.out _; (with_reducible repeat (first | refine blk_drewN ?_ _ | refine blk_drew ?_ | refine blk_alloc ?_ _)); refine blk_far ?_ NB912_925.out _; (with_reducible repeat (first | refine blk_drewN ?_ _ | refine blk_drew ?_ | refine blk_alloc ?_ _)); refine blk_far ?_ NB912_925.out _; (with_reducible repeat (first | refine blk_drewN ?_ _ | refine blk_drew ?_ | refine blk_alloc ?_ _)); refine blk_far ?_ NB912_925.out _; (with_reducible repeat (first | refine blk_drewN ?_ _ | refine blk_drew ?_ | refine blk_alloc ?_ _)); refine blk_far ?_ NB912_925.out _; (with_reducible repeat (first | refine blk_drewN ?_ _ | refine blk_drew ?_ | refine blk_alloc ?_ _)); refine blk_far ?_ NB912_925.out _; (with_reducible repeat (first | refine blk_drewN ?_ _ | refine blk_drew ?_ | refine blk_alloc ?_ _)); exact BK912.out⟩
             have n4_ : Aside0 (((((((((w41.setCell ⟨gb925, 0, none⟩ (.string t914)).setCell ⟨gb925, 1, none⟩ (.int .i64 t915)).setCell ⟨gb925, 2, none⟩ (.bool t916)).setCell ⟨gb925, 3, none⟩ (.int .i64 t917)).setCell ⟨gb925, 4, none⟩ (.int .u64 t918)).setCell ⟨gb925, 5, none⟩ (.float .f64 t919)).setCell ⟨gb925, 6, none⟩ (.string t920)).setCell ⟨gb925, 7, none⟩ (.slice Ao44 t921.length co44)).heap[gb925]? = some (.cells #[.string t914, .int .i64 t915, .bool t916, .int .i64 t917, .int .u64 t918, .float .f64 t919, .string t920, .slice Ao44 t921.length co44] 38 (0, 0))) := ⟨by (with_reducible repeat (first | refine blk_drewN ?_ _ | refine blk_drew ?_ | refine blk_alloc ?_ _)); refine blk_put (cs := #[.string t914, .int .i64 t915, .bool t916, .int .i64 t917, .int .u64 t918, .float .f64 t919, .string t920, .slice none 0 0]) ?_ 7 _ rfl; (with_reducible repeat (first | refine blk_drewN ?_ _ | refine blk_drew ?_ | refine blk_alloc ?_ _)); refine blk_put (cs := #[.string t914, .int .i64 t915, .bool t916, .int .i64 t917, .int .u64 t918, .float .f64 t919, .string (⟨#[]⟩ : ByteArray), .slice none 0 0]) ?_ 6 _ rfl; (with_reducible repeat (first | refine blk_drewN ?_ _ | refine blk_drew ?_ | refine blk_alloc ?_ _)); refine blk_put (cs := #[.string t914, .int .i64 t915, .bool t916, .int .i64 t917, .int .u64 t918, .float .f64 0, .string (⟨#[]⟩ : ByteArray), .slice none 0 0]) ?_ 5 _ rfl; (with_reducible repeat (first | refine blk_drewN ?_ _ | refine blk_drew ?_ | refine blk_alloc ?_ _)); refine blk_put (cs := #[.string t914, .int .i64 t915, .bool t916, .int .i64 t917, .int .u64 0, .float .f64 0, .string (⟨#[]⟩ : ByteArray), .slice none 0 0]) ?_ 4 _ rfl; (with_reducible repeat (first | refine blk_drewN ?_ _ | refine blk_drew ?_ | refine blk_alloc ?_ _)); refine blk_put (cs := #[.string t914, .int .i64 t915, .bool t916, .int .i64 0, .int .u64 0, .float .f64 0, .string (⟨#[]⟩ : ByteArray), .slice none 0 0]) ?_ 3 _ rfl; (with_reducible repeat (first | refine blk_drewN ?_ _ | refine blk_drew ?_ | refine blk_alloc ?_ _)); refine blk_put (cs := #[.string t914, .int .i64 t915, .bool false, .int .i64 0, .int .u64 0, .float .f64 0, .string (⟨#[]⟩ : ByteArray), .slice none 0 0]) ?_ 2 _ rfl; (with_reducible repeat (first | refine blk_drewN ?_ _ | refine blk_drew ?_ | refine blk_alloc ?_ _)); refine blk_put (cs := #[.string t914, .int .i64 0, .bool false, .int .i64 0, .int .u64 0, .float .f64 0, .string (⟨#[]⟩ : ByteArray), .slice none 0 0]) ?_ 1 _ rfl; (with_reducible repeat (first | refine blk_drewN ?_ _ | refine blk_drew ?_ | refine blk_alloc ?_ _)); refine blk_put (cs := #[.string (⟨#[]⟩ : ByteArray), .int .i64 0, .bool false, .int .i64 0, .int .u64 0, .float .f64 0, .string (⟨#[]⟩ : ByteArray), .slice none 0 0]) ?_ 0 _ rfl; (with_reducible repeat (first | refine blk_drewN ?_ _ | refine blk_drew ?_ | refine blk_alloc ?_ _)); exact BK925.out⟩
             have n5_ : Aside0 (Below w.heap.size w ((((((((w41.setCell ⟨gb925, 0, none⟩ (.string t914)).setCell ⟨gb925, 1, none⟩ (.int .i64 t915)).setCell ⟨gb925, 2, none⟩ (.bool t916)).setCell ⟨gb925, 3, none⟩ (.int .i64 t917)).setCell ⟨gb925, 4, none⟩ (.int .u64 t918)).setCell ⟨gb925, 5, none⟩ (.float .f64 t919)).setCell ⟨gb925, 6, none⟩ (.string t920)).setCell ⟨gb925, 7, none⟩ (.slice Ao44 t921.length co44))) := ⟨by repeat (first | (with_reducible first | exact HB.out | apply below_alloc | apply pw_below_drewN | apply below_drew1 | refine below_set ?_ GE912.out | refine below_set ?_ GE925.out) | exact HB.out)⟩
             (try clear HO897)
             (try clear HO910)
             (try clear HO923)
             (try clear BK912)
             (try clear BK925)
             (try clear HB)
             generalize ((((((((w41.setCell ⟨gb925, 0, none⟩ (.string t914)).setCell ⟨gb925, 1, none⟩ (.int .i64 t915)).setCell ⟨gb925, 2, none⟩ (.bool t916)).setCell ⟨gb925, 3, none⟩ (.int .i64 t917)).setCell ⟨gb925, 4, none⟩ (.int .u64 t918)).setCell ⟨gb925, 5, none⟩ (.float .f64 t919)).setCell ⟨gb925, 6, none⟩ (.string t920)).setCell ⟨gb925, 7, none⟩ (.slice Ao44 t921.length co44)) = w45 at n0_ n1_ n2_ n3_ n4_ n5_ ⊢
             have HO897 := n0_
             have HO910 := n1_
             have HO923 := n2_
             have BK912 := n3_
             have BK925 := n4_
             have HB := n5_
             clear n0_ n1_ n2_ n3_ n4_ n5_
             have n0_ := Aside0.mk (Kd.V_drew HO897.out)
             have n1_ := Aside0.mk (Kd.R_drew HO910.out)
             have n2_ := Aside0.mk (Kd.V_drew HO923.out)
             have n3_ := Aside0.mk (blk_drew BK912.out)
             have n4_ := Aside0.mk (blk_drew BK925.out)
             have n5_ := Aside0.mk (below_drew1 HB.out)
             clear HO897
             clear HO910
             clear HO923
             clear BK912
             clear BK925
             clear HB
             have HO897 := n0_
             have HO910 := n1_
             have HO923 := n2_
             have BK912 := n3_
             have BK925 := n4_
             have HB := n5_
             clear n0_ n1_ n2_ n3_ n4_ n5_
             refine start_ (n := 16) (S := fun w' => w'.cell? ⟨gb912, 0, none⟩ = some (.string t901) ∧ w'.cell? ⟨gb912, 1, none⟩ = some (.int .i64 t902) ∧ w'.cell? ⟨gb912, 2, none⟩ = some (.bool t903) ∧ w'.cell? ⟨gb912, 3, none⟩ = some (.int .i64 t904) ∧ w'.cell? ⟨gb912, 4, none⟩ = some (.int .u64 t905) ∧ w'.cell? ⟨gb912, 5, none⟩ = some (.float .f64 t906) ∧ w'.cell? ⟨gb912, 6, none⟩ = some (.string t907) ∧ w'.cell? ⟨gb912, 7, none⟩ = some (.slice Ao38 t908.length co38) ∧ w'.cell? ⟨gb925, 0, none⟩ = some (.string t914) ∧ w'.cell? ⟨gb925, 1, none⟩ = some (.int .i64 t915) ∧ w'.cell? ⟨gb925, 2, none⟩ = some (.bool t916) ∧ w'.cell? ⟨gb925, 3, none⟩ = some (.int .i64 t917) ∧ w'.cell? ⟨gb925, 4, none⟩ = some (.int .u64 t918) ∧ w'.cell? ⟨gb925, 5, none⟩ = some (.float .f64 t919) ∧ w'.cell? ⟨gb925, 6, none⟩ = some (.string t920) ∧ w'.cell? ⟨gb925, 7, none⟩ = some (.slice Ao44 t921.length co44)) (ds := []) #[false, false, false, false, false, false, false, false, false, false, false, false, false, false, false, false] (by kernel_rfl) rfl rfl ⟨(blk_cell BK912.out 0).trans rfl, (blk_cell BK912.out 1).trans rfl, (blk_cell BK912.out 2).trans rfl, (blk_cell BK912.out 3).trans rfl, (blk_cell BK912.out 4).trans rfl, (blk_cell BK912.out 5).trans rfl, (blk_cell BK912.out 6).trans rfl, (blk_cell BK912.out 7).trans rfl, (blk_cell BK925.out 0).trans rfl, (blk_cell BK925.out 1).trans rfl, (blk_cell BK925.out 2).trans rfl, (blk_cell BK925.out 3).trans rfl, (blk_cell BK925.out 4).trans rfl, (blk_cell BK925.out 5).trans rfl, (blk_cell BK925.out 6).trans rfl, (blk_cell BK925.out 7).trans rfl⟩ (fun hHeld => ?_); refine with_tabW laws_read_10_11_12.tab10 laws_read_10_11_12.bits10 (fun HT_ HW_ => ?_)
             generalize w45.drew = w46 at HO897 HO910 HO923 BK912 BK925 HB hHeld ⊢
             refine pure_ (i := 0) (N := some 47) (v := ?_) (a' := ?_) #[true, false, false, false, false, false, false, false, false, false, false, false, false, false, false, false] rfl rfl (any_of HT_.out (by kernel_rfl)) (fun _ _ _ h => h) (Or.inl ⟨by rfl, ?_⟩) ?_ ?_
             rotate_left
             · intro w'
               go_simp
               with_reducible rfl
             rotate_left
             · simp only [Act.put, List.setIfInBounds_toArray, List.set_cons_zero, List.set_cons_succ, i64_w, i32_w]
               rfl
             refine pure_ (i := 1) (N := some 48) (v := ?_) (a' := ?_) #[true, true, false, false, false, false, false, false, false, false, false, false, false, false, false, false] rfl rfl (any_of HT_.out (by kernel_rfl)) (fun _ _ _ h => h) (Or.inl ⟨by rfl, ?_⟩) ?_ ?_
             rotate_left
             · intro w'
               go_simp
               with_reducible rfl
             rotate_left
             · simp only [Act.put, List.setIfInBounds_toArray, List.set_cons_zero, List.set_cons_succ, i64_w, i32_w]
               rfl
             refine pure_ (i := 2) (N := some 49) (v := ?_) (a' := ?_) #[true, true, true, false, false, false, false, false, false, false, false, false, false, false, false, false] rfl rfl (any_of HT_.out (by kernel_rfl)) (fun _ _ _ h => h) (Or.inl ⟨by rfl, ?_⟩) ?_ ?_
             rotate_left
             · intro w'
               go_simp
               with_reducible rfl
             rotate_left
             · simp only [Act.put, List.setIfInBounds_toArray, List.set_cons_zero, List.set_cons_succ, i64_w, i32_w]
               rfl
             refine pure_ (i := 3) (N := some 50) (v := ?_) (a' := ?_) #[true, true, true, true, false, false, false, false, false, false, false, false, false, false, false, false] rfl rfl (any_of HT_.out (by kernel_rfl)) (fun _ _ _ h => h) (Or.inl ⟨by rfl, ?_⟩) ?_ ?_
             rotate_left
             · intro w'
               go_simp
               with_reducible rfl
             rotate_left
             · simp only [Act.put, List.setIfInBounds_toArray, List.set_cons_zero, List.set_cons_succ, i64_w, i32_w]
               rfl
             refine pure_ (i := 4) (N := some 51) (v := ?_) (a' := ?_) #[true, true, true, true, true, false, false, false, false, false, false, false, false, false, false, false] rfl rfl (any_of HT_.out (by kernel_rfl)) (fun _ _ _ h => h) (Or.inl ⟨by rfl, ?_⟩) ?_ ?_
             rotate_left
             · intro w'
               go_simp
               with_reducible rfl
             rotate_left
             · simp only [Act.put, List.setIfInBounds_toArray, List.set_cons_zero, List.set_cons_succ, i64_w, i32_w]
               rfl
             refine pure_ (i := 5) (N := some 52) (v := ?_) (a' := ?_) #[true, true, true, true, true, true, false, false, false, false, false, false, false, false, false, false] rfl rfl (any_of HT_.out (by kernel_rfl)) (fun _ _ _ h => h) (Or.inl ⟨by rfl, ?_⟩) ?_ ?_
             rotate_left
             · intro w'
               go_simp
               with_reducible rfl
             rotate_left
             · simp only [Act.put, List.setIfInBounds_toArray, List.set_cons_zero, List.set_cons_succ, i64_w, i32_w]
               rfl
             refine take_ (i := 6) (N := some 53) (v := ?_) (a' := ?_) #[true, true, true, true, true, true, true, false, false, false, false, false, false, false, false, false] rfl rfl (take_ofW HT_.out HW_.out (by kernel_rfl)) (fun _ _ _ h => h) (Or.inl ⟨by rfl, ?_⟩) hHeld ?_ ?_
             rotate_left
             · rintro w' ⟨s0, s1, s2, s3, s4, s5, s6, s7, s8, s9, s10, s11, s12, s13, s14, s15⟩
               go_simp
               with_reducible rfl
             rotate_left
             · simp only [Act.put, List.setIfInBounds_toArray, List.set_cons_zero, List.set_cons_succ, i64_w, i32_w]
               rfl
             refine take_ (i := 8) (N := some 55) (v := ?_) (a' := ?_) #[true, true, true, true, true, true, true, false, true, false, false, false, false, false, false, false] rfl rfl (take_ofW HT_.out HW_.out (by kernel_rfl)) (fun _ _ _ h => h) (Or.inl ⟨by rfl, ?_⟩) hHeld ?_ ?_
             rotate_left
             · rintro w' ⟨s0, s1, s2, s3, s4, s5, s6, s7, s8, s9, s10, s11, s12, s13, s14, s15⟩
               go_simp
               with_reducible rfl
             rotate_left
             · simp only [Act.put, List.setIfInBounds_toArray, List.set_cons_zero, List.set_cons_succ, i64_w, i32_w]
               rfl
             refine one_ (i := 7) (N := some 54) #[true, true, true, true, true, true, true, true, true, false, false, false, false, false, false, false] rfl rfl (one_of HT_.out (by kernel_rfl)) (by decide) (fun K hK => ?_)
             refine goes_ Tryz.func30 (by kernel_rfl) rfl #[.agg #[.string t901, .int .i64 t902, .bool t903, .int .i64 t904, .int .u64 t905, .float .f64 t906, .string t907, .slice Ao38 t908.length co38]] (by rfl) rfl rfl (by (try simp only [List.map_toArray, List.map_cons, List.map_nil]); first | done | rfl | (simp only [List.length_drop, List.length_take]; rfl)) ?_
             with_reducible refine (laws_toNode.calls k t901 t902 t903 t904 t905 t906 t907 _ _ t908 t926 t927 t928 t929 t930 t931 t932 t933 _ ?side1 ?side2 A13.out).mono ?_
             (case side1 => repeat (first | exact (Kd.R_reads' HO910.out).2.2 | (with_reducible refine Kd.C_alloc ?_ _) | (with_reducible refine Kd.C_drewN ?_ _) | (with_reducible refine Kd.C_drew ?_)))
             (case side2 => exact (Kd.R_reads' HO910.out).2.1)
             rintro e w47 ⟨v934, rfl, ho0, hb⟩
             refine ⟨_, rfl, ?_⟩
             have n0_ := Aside0.mk (Kd.V_elder' (by (with_reducible repeat (first | apply Kd.V_alloc | apply Kd.V_drewN | apply Kd.V_drew)); exact HO897.out) (Kd.R_base ho0) hb)
             have n1_ := Aside0.mk (Kd.R_below (by (with_reducible repeat (first | apply Kd.R_alloc | apply Kd.R_drewN | apply Kd.R_drew)); exact HO910.out) hb)
             have n2_ := Aside0.mk (Kd.V_elder' (by (with_reducible repeat (first | apply Kd.V_alloc | apply Kd.V_drewN | apply Kd.V_drew)); exact HO923.out) (Kd.R_base ho0) hb)
             have n3_ := Aside0.mk (Kd.R_lower (Kd.R_newB ho0 (g := gb925) (o := .cells #[.string t914, .int .i64 t915, .bool t916, .int .i64 t917, .int .u64 t918, .float .f64 t919, .string t920, .slice Ao44 t921.length co44] 38 (0, 0)) (by (with_reducible repeat (first | refine blk_drewN ?_ _ | refine blk_drew ?_ | refine blk_alloc ?_ _)); exact BK925.out)) (below_size (by repeat (first | (with_reducible first | exact HB.out | apply below_alloc | apply pw_below_drewN | apply below_drew1 | refine below_set ?_ GE912.out | refine below_set ?_ GE925.out) | exact HB.out))))
             have n4_ := Aside0.mk (blk_below (g := gb912) (o := .cells #[.string t901, .int .i64 t902, .bool t903, .int .i64 t904, .int .u64 t905, .float .f64 t906, .string t907, .slice Ao38 t908.length co38] 34 (0, 0)) (by (with_reducible repeat (first | refine blk_drewN ?_ _ | refine blk_drew ?_ | refine blk_alloc ?_ _)); exact BK912.out) hb)
             have n5_ := Aside0.mk (blk_below (g := gb925) (o := .cells #[.string t914, .int .i64 t915, .bool t916, .int .i64 t917, .int .u64 t918, .float .f64 t919, .string t920, .slice Ao44 t921.length co44] 38 (0, 0)) (by (with_reducible repeat (first | refine blk_drewN ?_ _ | refine blk_drew ?_ | refine blk_alloc ?_ _)); exact BK925.out) hb)
             have n6_ := Aside0.mk (below_step (by repeat (first | (with_reducible first | exact HB.out | apply below_alloc | apply pw_below_drewN | apply below_drew1 | refine below_set ?_ GE912.out | refine below_set ?_ GE925.out) | exact HB.out)) hb)
             clear HO897
             clear HO910
             clear HO923
             clear BK912
             clear BK925
             clear HB
             have HO897 := n0_
             have HO910 := n1_
             have HO923 := n2_
             have HO935 := n3_
             have BK912 := n4_
             have BK925 := n5_
             have HB := n6_
             clear n0_ n1_ n2_ n3_ n4_ n5_ n6_
             (try clear hb)
             (try clear hb2)
             (try clear hk)
             (try clear hi)
             (try clear ho0)
             obtain ⟨Ao48, co48, eo48⟩ := Kd.R_slice HO935.out
             (first | subst eo48 | (injection eo48 with f1_ f2_ f3_; have f4_ := f1_.symm; have f5_ := f3_.symm; clear f1_ f2_ f3_; subst f4_; subst f5_))
             refine hK.out _ _ ⟨(blk_cell BK912.out 0).trans rfl, (blk_cell BK912.out 1).trans rfl, (blk_cell BK912.out 2).trans rfl, (blk_cell BK912.out 3).trans rfl, (blk_cell BK912.out 4).trans rfl, (blk_cell BK912.out 5).trans rfl, (blk_cell BK912.out 6).trans rfl, (blk_cell BK912.out 7).trans rfl, (blk_cell BK925.out 0).trans rfl, (blk_cell BK925.out 1).trans rfl, (blk_cell BK925.out 2).trans rfl, (blk_cell BK925.out 3).trans rfl, (blk_cell BK925.out 4).trans rfl, (blk_cell BK925.out 5).trans rfl, (blk_cell BK925.out 6).trans rfl, (blk_cell BK925.out 7).trans rfl⟩ (fun hHeld => ?_)
             clear hK K
             refine norm_ (a' := ?_) ?_ ?_
             rotate_left
             · show Act.put _ (some 54) _ = _
               simp only [Act.put, List.setIfInBounds_toArray, List.set_cons_zero, List.set_cons_succ, i64_w, i32_w]
               rfl
             refine one_ (i := 9) (N := some 56) #[true, true, true, true, true, true, true, true, true, true, false, false, false, false, false, false] rfl rfl (one_of HT_.out (by kernel_rfl)) (by decide) (fun K hK => ?_)
             refine goes_ Tryz.func29 (by kernel_rfl) rfl #[.agg #[.string t926, .int .i64 t927, .bool t928, .int .i64 t929, .int .u64 t930, .float .f64 t931, .string t932, .slice Ao48 t933.length co48], .agg #[.string t914, .int .i64 t915, .bool t916, .int .i64 t917, .int .u64 t918, .float .f64 t919, .string t920, .slice Ao44 t921.length co44]] (by rfl) rfl rfl (by (try simp only [List.map_toArray, List.map_cons, List.map_nil]); first | done | rfl | (simp only [List.length_drop, List.length_take]; rfl)) ?_
             with_reducible refine (spec_SameNode.calls k t926 t927 t928 t929 t930 t931 t932 _ _ t933 t914 t915 t916 t917 t918 t919 t920 _ _ t921 false _ ?side1 ?side2 ?side3 ?side4 A14.out).mono ?_
             (case side1 => repeat (first | exact (Kd.R_reads' HO935.out).2.2 | (with_reducible refine Kd.C_alloc ?_ _) | (with_reducible refine Kd.C_drewN ?_ _) | (with_reducible refine Kd.C_drew ?_)))
             (case side2 => exact (Kd.R_reads' HO935.out).2.1)
             (case side3 => repeat (first | exact (Kd.V_reads' HO923.out).2.2 | (with_reducible refine Kd.C_alloc ?_ _) | (with_reducible refine Kd.C_drewN ?_ _) | (with_reducible refine Kd.C_drew ?_)))
             (case side4 => exact (Kd.V_reads' HO923.out).2.1)
             rintro e w49 ⟨rfl, hb⟩
             refine ⟨_, rfl, ?_⟩
             have n0_ := Aside0.mk (Kd.V_below (by (with_reducible repeat (first | apply Kd.V_alloc | apply Kd.V_drewN | apply Kd.V_drew)); exact HO897.out) hb)
             have n1_ := Aside0.mk (Kd.R_below (by (with_reducible repeat (first | apply Kd.R_alloc | apply Kd.R_drewN | apply Kd.R_drew)); exact HO910.out) hb)
             have n2_ := Aside0.mk (Kd.V_below (by (with_reducible repeat (first | apply Kd.V_alloc | apply Kd.V_drewN | apply Kd.V_drew)); exact HO923.out) hb)
             have n3_ := Aside0.mk (Kd.R_below (by (with_reducible repeat (first | apply Kd.R_alloc | apply Kd.R_drewN | apply Kd.R_drew)); exact HO935.out) hb)
             have n4_ := Aside0.mk (blk_below (g := gb912) (o := .cells #[.string t901, .int .i64 t902, .bool t903, .int .i64 t904, .int .u64 t905, .float .f64 t906, .string t907, .slice Ao38 t908.length co38] 34 (0, 0)) (by (with_reducible repeat (first | refine blk_drewN ?_ _ | refine blk_drew ?_ | refine blk_alloc ?_ _)); exact BK912.out) hb)
             have n5_ := Aside0.mk (blk_below (g := gb925) (o := .cells #[.string t914, .int .i64 t915, .bool t916, .int .i64 t917, .int .u64 t918, .float .f64 t919, .string t920, .slice Ao44 t921.length co44] 38 (0, 0)) (by (with_reducible repeat (first | refine blk_drewN ?_ _ | refine blk_drew ?_ | refine blk_alloc ?_ _)); exact BK925.out) hb)
             have n6_ := Aside0.mk (below_step (by repeat (first | (with_reducible first | exact HB.out | apply below_alloc | apply pw_below_drewN | apply below_drew1 | refine below_set ?_ GE912.out | refine below_set ?_ GE925.out) | exact HB.out)) hb)
             clear HO897
             clear HO910
             clear HO923
             clear HO935
             clear BK912
             clear BK925
             clear HB
             have HO897 := n0_
             have HO910 := n1_
             have HO923 := n2_
             have HO935 := n3_
             have BK912 := n4_
             have BK925 := n5_
             have HB := n6_
             clear n0_ n1_ n2_ n3_ n4_ n5_ n6_
             (try clear hb)
             (try clear hb2)
             (try clear hk)
             (try clear hi)
             refine hK.out _ _ ⟨(blk_cell BK912.out 0).trans rfl, (blk_cell BK912.out 1).trans rfl, (blk_cell BK912.out 2).trans rfl, (blk_cell BK912.out 3).trans rfl, (blk_cell BK912.out 4).trans rfl, (blk_cell BK912.out 5).trans rfl, (blk_cell BK912.out 6).trans rfl, (blk_cell BK912.out 7).trans rfl, (blk_cell BK925.out 0).trans rfl, (blk_cell BK925.out 1).trans rfl, (blk_cell BK925.out 2).trans rfl, (blk_cell BK925.out 3).trans rfl, (blk_cell BK925.out 4).trans rfl, (blk_cell BK925.out 5).trans rfl, (blk_cell BK925.out 6).trans rfl, (blk_cell BK925.out 7).trans rfl⟩ (fun hHeld => ?_)
             clear hK K
             refine norm_ (a' := ?_) ?_ ?_
             rotate_left
             · show Act.put _ (some 56) _ = _
               simp only [Act.put, List.setIfInBounds_toArray, List.set_cons_zero, List.set_cons_succ, i64_w, i32_w]
               rfl
             refine pure_ (i := 10) (N := some 57) (v := ?_) (a' := ?_) #[true, true, true, true, true, true, true, true, true, true, true, false, false, false, false, false] rfl rfl (any_of HT_.out (by kernel_rfl)) (fun _ _ _ h => h) (Or.inl ⟨by rfl, ?_⟩) ?_ ?_
             rotate_left
             · intro w'
               go_simp
               with_reducible rfl
             rotate_left
             · simp only [Act.put, List.setIfInBounds_toArray, List.set_cons_zero, List.set_cons_succ, i64_w, i32_w]
               rfl
             refine pure_ (i := 11) (N := some 58) (v := ?_) (a' := ?_) #[true, true, true, true, true, true, true, true, true, true, true, true, false, false, false, false] rfl rfl (any_of HT_.out (by kernel_rfl)) (fun _ _ _ h => h) (Or.inl ⟨by rfl, ?_⟩) ?_ ?_
             rotate_left
             · intro w'
               go_simp
               with_reducible rfl
             rotate_left
             · simp only [Act.put, List.setIfInBounds_toArray, List.set_cons_zero, List.set_cons_succ, i64_w, i32_w]
               rfl
             refine pure_ (i := 12) (N := some 59) (v := ?_) (a' := ?_) #[true, true, true, true, true, true, true, true, true, true, true, true, true, false, false, false] rfl rfl (any_of HT_.out (by kernel_rfl)) (fun _ _ _ h => h) (Or.inl ⟨by rfl, ?_⟩) ?_ ?_
             rotate_left
             · intro w'
               go_simp
               with_reducible rfl
             rotate_left
             · simp only [Act.put, List.setIfInBounds_toArray, List.set_cons_zero, List.set_cons_succ, i64_w, i32_w]
               rfl
             refine pure_ (i := 13) (N := some 60) (v := undef) (a' := ?_) #[true, true, true, true, true, true, true, true, true, true, true, true, true, true, false, false] rfl rfl (any_of HT_.out (by kernel_rfl)) (fun _ _ _ h => h) (Or.inr ⟨by rfl, rfl⟩) ?_ ?_
             rotate_left
             · simp only [Act.put, List.setIfInBounds_toArray, List.set_cons_zero, List.set_cons_succ, i64_w, i32_w]
               rfl
             refine pure_ (i := 14) (N := some 61) (v := ?_) (a' := ?_) #[true, true, true, true, true, true, true, true, true, true, true, true, true, true, true, false] rfl rfl (any_of HT_.out (by kernel_rfl)) (fun _ _ _ h => h) (Or.inl ⟨by rfl, ?_⟩) ?_ ?_
             rotate_left
             · intro w'
               go_simp
               with_reducible rfl
             rotate_left
             · simp only [Act.put, List.setIfInBounds_toArray, List.set_cons_zero, List.set_cons_succ, i64_w, i32_w]
               rfl
             refine pure_ (i := 15) (N := some 8) (v := ?_) (a' := ?_) #[true, true, true, true, true, true, true, true, true, true, true, true, true, true, true, true] rfl rfl (any_of HT_.out (by kernel_rfl)) (fun _ _ _ h => h) (Or.inl ⟨by rfl, ?_⟩) ?_ ?_
             rotate_left
             · intro w'
               go_simp
               with_reducible rfl
             rotate_left
             · simp only [Act.put, List.setIfInBounds_toArray, List.set_cons_zero, List.set_cons_succ, i64_w, i32_w]
               rfl
             refine done_ (done_of HT_.out (by kernel_rfl)) ?_
             try go_wp2
             go_ret
             exact ⟨by first | rfl | (simp [errW_none, errW_some] <;> rfl) | (simp [*, errW_none, errW_some] <;> rfl), by repeat (first | (with_reducible first | exact HB.out | apply below_alloc | apply pw_below_drewN | apply below_drew1 | refine below_set ?_ GE912.out | refine below_set ?_ GE925.out) | exact HB.out)⟩
         · rw [if_neg c12] at H
           have c12b0 : (t911 == 0) = false := beq_eq_false_iff_ne.mpr c12
           have c12b1 : (t911 != 0) = true := bne_iff_ne.mpr c12
           obtain rfl := Option.some.inj H
           go_enter Tryz.func9, Tryz.ntmps9
           try go_wp2_with (first | (go_at_call 10; (with_reducible refine (spec_LoadavgRead.calls k a0 t895 true t899 _ A6.out).mono ?_); rintro e w50 ⟨v896, rfl, ho0, hb⟩; have n0_ := Aside0.mk (Kd.V_lower (Kd.V_mono (ok' := fun k_ => True) ho0 (fun k_ hk_ => trivial)) (below_size (by repeat (first | (with_reducible first | exact HB.out | apply below_alloc | apply pw_below_drewN | apply below_drew1) | exact HB.out)))); have n1_ := Aside0.mk (below_step (by repeat (first | (with_reducible first | exact HB.out | apply below_alloc | apply pw_below_drewN | apply below_drew1) | exact HB.out)) hb); clear HB; have HO897 := n0_; have HB := n1_; clear n0_ n1_; (try clear hb); (try clear hb2); (try clear hk); (try clear hi); (try clear ho0)) | (go_at_call 12; (with_reducible refine (impl_Loadavg.calls a0 t901 t902 t903 t904 t905 t906 t907 t908 t911 _ A8.out).mono ?_); rintro e w51 ⟨v909, rfl, ho0, hb⟩; have n0_ := Aside0.mk (Kd.V_elder' (by (with_reducible repeat (first | apply Kd.V_alloc | apply Kd.V_drewN | apply Kd.V_drew)); exact HO897.out) (Kd.R_base ho0) hb); have n1_ := Aside0.mk (Kd.R_lower ho0 (below_size (by repeat (first | (with_reducible first | exact HB.out | apply below_alloc | apply pw_below_drewN | apply below_drew1) | exact HB.out)))); have n2_ := Aside0.mk (below_step (by repeat (first | (with_reducible first | exact HB.out | apply below_alloc | apply pw_below_drewN | apply below_drew1) | exact HB.out)) hb); clear HO897; clear HB; have HO897 := n0_; have HO910 := n1_; have HB := n2_; clear n0_ n1_ n2_; (try clear hb); (try clear hb2); (try clear hk); (try clear hi); (try clear ho0)) | ((with_reducible refine gate_dst (N := 12) rfl ?_); refine box_event ?hg (N := 12) ?hd (cs := #[.string (⟨#[]⟩ : ByteArray), .int .i64 0, .bool false, .int .i64 0, .int .u64 0, .float .f64 0, .string (⟨#[]⟩ : ByteArray), .slice none 0 0]) (t := 34) ?hr ?_; (case hd => rfl); (case hg => rfl); (case hr => first | (go_simp; done) | (go_simp; rfl)); intro gb912 hg w52 hbox hb; have n0_ := Aside0.mk (Kd.V_below (Kd.V_elderB (by (with_reducible repeat (first | apply Kd.V_alloc | apply Kd.V_drewN | apply Kd.V_drew)); exact HO897.out) gb912 (Nat.le_of_eq hg.symm)) hb); have n1_ := Aside0.mk (Kd.R_below (Kd.R_elderB (by (with_reducible repeat (first | apply Kd.R_alloc | apply Kd.R_drewN | apply Kd.R_drew)); exact HO910.out) gb912 (Nat.le_of_eq hg.symm)) hb); have n2_ := Aside0.mk (below_step (by repeat (first | (with_reducible first | exact HB.out | apply below_alloc | apply pw_below_drewN | apply below_drew1) | exact HB.out)) hb); have n3_ := Aside0.mk (hbox); have n4_ := Aside0.mk ((by rw [hg]; exact (below_size (by repeat (first | (with_reducible first | exact HB.out | apply below_alloc | apply pw_below_drewN | apply below_drew1) | exact HB.out))) : w.heap.size ≤ gb912)); have n5_ := Aside0.mk ((by rw [hg]; exact (below_size (by repeat (first | (with_reducible first | exact HB.out | apply below_alloc | apply pw_below_drewN | apply below_drew1) | exact HB.out))) : w.heap.size ≤ gb912)); clear HO897; clear HO910; clear HB; have HO897 := n0_; have HO910 := n1_; have HB := n2_; have BK912 := n3_; have GW912 := n4_; have GE912 := n5_; clear n0_ n1_ n2_ n3_ n4_ n5_; clear hb hbox hg; have hcz53_0 : w52.cell? ⟨gb912, 0, none⟩ = some (.string (⟨#[]⟩ : ByteArray)) := (blk_cell BK912.out 0).trans rfl; have hcz53_1 : w52.cell? ⟨gb912, 1, none⟩ = some (.int .i64 0) := (blk_cell BK912.out 1).trans rfl; have hcz53_2 : w52.cell? ⟨gb912, 2, none⟩ = some (.bool false) := (blk_cell BK912.out 2).trans rfl; have hcz53_3 : w52.cell? ⟨gb912, 3, none⟩ = some (.int .i64 0) := (blk_cell BK912.out 3).trans rfl; have hcz53_4 : w52.cell? ⟨gb912, 4, none⟩ = some (.int .u64 0) := (blk_cell BK912.out 4).trans rfl; have hcz53_5 : w52.cell? ⟨gb912, 5, none⟩ = some (.float .f64 0) := (blk_cell BK912.out 5).trans rfl; have hcz53_6 : w52.cell? ⟨gb912, 6, none⟩ = some (.string (⟨#[]⟩ : ByteArray)) := (blk_cell BK912.out 6).trans rfl; have hcz53_7 : w52.cell? ⟨gb912, 7, none⟩ = some (.slice none 0 0) := (blk_cell BK912.out 7).trans rfl; have hfz53_0 := blk_frozen BK912.out 0; have hfz53_1 := blk_frozen BK912.out 1; have hfz53_2 := blk_frozen BK912.out 2; have hfz53_3 := blk_frozen BK912.out 3; have hfz53_4 := blk_frozen BK912.out 4; have hfz53_5 := blk_frozen BK912.out 5; have hfz53_6 := blk_frozen BK912.out 6; have hfz53_7 := blk_frozen BK912.out 7; obtain ⟨Ao54, co54, eo54⟩ := Kd.R_slice HO910.out; subst eo54; obtain ⟨Ao55, co55, eo55⟩ := Kd.V_slice HO897.out; subst eo55) | (go_at_call 11; (with_reducible refine (spec_LoadavgTree.calls k _ _ t895 t914 t915 t916 t917 t918 t919 t920 t921 t924 _ ?side1 ?side2 A10.out).mono ?_); (case side1 => refine (Kd.V_reads' (e := 48) (base := w.heap.size) (ok := fun k_ => ((True ∧ some k_ ≠ (.slice Ao54 t908.length co54 : Value).ownBlock) ∧ k_ ≠ gb912)) (n := t895.length) (c := co55) ?_).2.2; exact (by (with_reducible repeat (first | apply Kd.V_alloc | apply Kd.V_drewN | apply Kd.V_drew)); exact (Kd.V_mono (Kd.V_far (p := ⟨gb912, 7, none⟩) (Kd.V_far (p := ⟨gb912, 6, none⟩) (Kd.V_far (p := ⟨gb912, 5, none⟩) (Kd.V_far (p := ⟨gb912, 4, none⟩) (Kd.V_far (p := ⟨gb912, 3, none⟩) (Kd.V_far (p := ⟨gb912, 2, none⟩) (Kd.V_far (p := ⟨gb912, 1, none⟩) (Kd.V_far (p := ⟨gb912, 0, none⟩) (Kd.V_mono HO897.out (fun k_ hk => (⟨hk, hk.2⟩ : _ ∧ k_ ≠ gb912))) (fun _ hk => hk.2) (.string t901)) (fun _ hk => hk.2) (.int .i64 t902)) (fun _ hk => hk.2) (.bool t903)) (fun _ hk => hk.2) (.int .i64 t904)) (fun _ hk => hk.2) (.int .u64 t905)) (fun _ hk => hk.2) (.float .f64 t906)) (fun _ hk => hk.2) (.string t907)) (fun _ hk => hk.2) (.slice Ao54 t908.length co54)) (fun _ h_ => h_.1)))); (case side2 => exact (Kd.V_reads' HO897.out).2.1); rintro e w56 ⟨v922, rfl, ho0, hb⟩; have n0_ := Aside0.mk (Kd.V_below (by (with_reducible repeat (first | apply Kd.V_alloc | apply Kd.V_drewN | apply Kd.V_drew)); exact (Kd.V_mono (Kd.V_far (p := ⟨gb912, 7, none⟩) (Kd.V_far (p := ⟨gb912, 6, none⟩) (Kd.V_far (p := ⟨gb912, 5, none⟩) (Kd.V_far (p := ⟨gb912, 4, none⟩) (Kd.V_far (p := ⟨gb912, 3, none⟩) (Kd.V_far (p := ⟨gb912, 2, none⟩) (Kd.V_far (p := ⟨gb912, 1, none⟩) (Kd.V_far (p := ⟨gb912, 0, none⟩) (Kd.V_mono HO897.out (fun k_ hk => (⟨hk, hk.2⟩ : _ ∧ k_ ≠ gb912))) (fun _ hk => hk.2) (.string t901)) (fun _ hk => hk.2) (.int .i64 t902)) (fun _ hk => hk.2) (.bool t903)) (fun _ hk => hk.2) (.int .i64 t904)) (fun _ hk => hk.2) (.int .u64 t905)) (fun _ hk => hk.2) (.float .f64 t906)) (fun _ hk => hk.2) (.string t907)) (fun _ hk => hk.2) (.slice Ao54 t908.length co54)) (fun _ h_ => h_.1))) hb); have n1_ := Aside0.mk (Kd.R_below (by (with_reducible repeat (first | apply Kd.R_alloc | apply Kd.R_drewN | apply Kd.R_drew)); exact (Kd.R_mono (Kd.R_far (p := ⟨gb912, 7, none⟩) (Kd.R_far (p := ⟨gb912, 6, none⟩) (Kd.R_far (p := ⟨gb912, 5, none⟩) (Kd.R_far (p := ⟨gb912, 4, none⟩) (Kd.R_far (p := ⟨gb912, 3, none⟩) (Kd.R_far (p := ⟨gb912, 2, none⟩) (Kd.R_far (p := ⟨gb912, 1, none⟩) (Kd.R_far (p := ⟨gb912, 0, none⟩) (Kd.R_mono HO910.out (fun k_ hk => (⟨hk, hk.2⟩ : _ ∧ k_ ≠ gb912))) (fun _ hk => hk.2) (.string t901)) (fun _ hk => hk.2) (.int .i64 t902)) (fun _ hk => hk.2) (.bool t903)) (fun _ hk => hk.2) (.int .i64 t904)) (fun _ hk => hk.2) (.int .u64 t905)) (fun _ hk => hk.2) (.float .f64 t906)) (fun _ hk => hk.2) (.string t907)) (fun _ hk => hk.2) (.slice Ao54 t908.length co54)) (fun _ h_ => h_.1))) hb); have n2_ := Aside0.mk (Kd.V_lower (Kd.V_mono (ok' := fun k_ => some k_ ≠ (.slice Ao54 t908.length co54 : Value).ownBlock ∧ k_ ≠ gb912) ho0 (fun k_ hk_ => ⟨(Kd.fresh' (Kd.R_lt (by (with_reducible repeat (first | apply Kd.R_alloc | apply Kd.R_drewN | apply Kd.R_drew)); exact (Kd.R_mono (Kd.R_far (p := ⟨gb912, 7, none⟩) (Kd.R_far (p := ⟨gb912, 6, none⟩) (Kd.R_far (p := ⟨gb912, 5, none⟩) (Kd.R_far (p := ⟨gb912, 4, none⟩) (Kd.R_far (p := ⟨gb912, 3, none⟩) (Kd.R_far (p := ⟨gb912, 2, none⟩) (Kd.R_far (p := ⟨gb912, 1, none⟩) (Kd.R_far (p := ⟨gb912, 0, none⟩) (Kd.R_mono HO910.out (fun k_ hk => (⟨hk, hk.2⟩ : _ ∧ k_ ≠ gb912))) (fun _ hk => hk.2) (.string t901)) (fun _ hk => hk.2) (.int .i64 t902)) (fun _ hk => hk.2) (.bool t903)) (fun _ hk => hk.2) (.int .i64 t904)) (fun _ hk => hk.2) (.int .u64 t905)) (fun _ hk => hk.2) (.float .f64 t906)) (fun _ hk => hk.2) (.string t907)) (fun _ hk => hk.2) (.slice Ao54 t908.length co54)) (fun _ h_ => h_.1)))) k_ hk_), (Kd.freshB (g := gb912) (o := .cells #[.string t901, .int .i64 t902, .bool t903, .int .i64 t904, .int .u64 t905, .float .f64 t906, .string t907, .slice Ao54 t908.length co54] 34 (0, 0)) (by (with_reducible repeat (first | refine blk_drewN ?_ _ | refine blk_drew ?_ | refine blk_alloc ?_ _)); refine blk_put (cs := #[.string t901, .int .i64 t902, .bool t903, .int .i64 t904, .int .u64 t905, .float .f64 t906, .string t907, .slice none 0 0]) ?_ 7 _ rfl; (with_reducible repeat (first | refine blk_drewN ?_ _ | refine blk_drew ?_ | refine blk_alloc ?_ _)); refine blk_put (cs := #[.string t901, .int .i64 t902, .bool t903, .int .i64 t904, .int .u64 t905, .float .f64 t906, .string (⟨#[]⟩ : ByteArray), .slice none 0 0]) ?_ 6 _ rfl; (with_reducible repeat (first | refine blk_drewN ?_ _ | refine blk_drew ?_ | refine blk_alloc ?_ _)); refine blk_put (cs := #[.string t901, .int .i64 t902, .bool t903, .int .i64 t904, .int .u64 t905, .float .f64 0, .string (⟨#[]⟩ : ByteArray), .slice none 0 0]) ?_ 5 _ rfl; (with_reducible repeat (first | refine blk_drewN ?_ _ | refine blk_drew ?_ | refine blk_alloc ?_ _)); refine blk_put (cs := #[.string t901, .int .i64 t902, .bool t903, .int .i64 t904, .int .u64 0, .float .f64 0, .string (⟨#[]⟩ : ByteArray), .slice none 0 0]) ?_ 4 _ rfl; (with_reducible repeat (first | refine blk_drewN ?_ _ | refine blk_drew ?_ | refine blk_alloc ?_ _)); refine blk_put (cs := #[.string t901, .int .i64 t902, .bool t903, .int .i64 0, .int .u64 0, .float .f64 0, .string (⟨#[]⟩ : ByteArray), .slice none 0 0]) ?_ 3 _ rfl; (with_reducible repeat (first | refine blk_drewN ?_ _ | refine blk_drew ?_ | refine blk_alloc ?_ _)); refine blk_put (cs := #[.string t901, .int .i64 t902, .bool false, .int .i64 0, .int .u64 0, .float .f64 0, .string (⟨#[]⟩ : ByteArray), .slice none 0 0]) ?_ 2 _ rfl; (with_reducible repeat (first | refine blk_drewN ?_ _ | refine blk_drew ?_ | refine blk_alloc ?_ _)); refine blk_put (cs := #[.string t901, .int .i64 0, .bool false, .int .i64 0, .int .u64 0, .float .f64 0, .string (⟨#[]⟩ : ByteArray), .slice none 0 0]) ?_ 1 _ rfl; (with_reducible repeat (first | refine blk_drewN ?_ _ | refine blk_drew ?_ | refine blk_alloc ?_ _)); refine blk_put (cs := #[.string (⟨#[]⟩ : ByteArray), .int .i64 0, .bool false, .int .i64 0, .int .u64 0, .float .f64 0, .string (⟨#[]⟩ : ByteArray), .slice none 0 0]) ?_ 0 _ rfl; (with_reducible repeat (first | refine blk_drewN ?_ _ | refine blk_drew ?_ | refine blk_alloc ?_ _)); exact BK912.out) k_ hk_)⟩)) (below_size (by repeat (first | (with_reducible first | exact HB.out | apply below_alloc | apply pw_below_drewN | apply below_drew1 | refine below_set ?_ GE912.out) | exact HB.out)))); have n3_ := Aside0.mk (blk_below (g := gb912) (o := .cells #[.string t901, .int .i64 t902, .bool t903, .int .i64 t904, .int .u64 t905, .float .f64 t906, .string t907, .slice Ao54 t908.length co54] 34 (0, 0)) (by (with_reducible repeat (first | refine blk_drewN ?_ _ | refine blk_drew ?_ | refine blk_alloc ?_ _)); refine blk_put (cs := #[.string t901, .int .i64 t902, .bool t903, .int .i64 t904, .int .u64 t905, .float .f64 t906, .string t907, .slice none 0 0]) ?_ 7 _ rfl; (with_reducible repeat (first | refine blk_drewN ?_ _ | refine blk_drew ?_ | refine blk_alloc ?_ _)); refine blk_put (cs := #[.string t901, .int .i64 t902, .bool t903, .int .i64 t904, .int .u64 t905, .float .f64 t906, .string (⟨#[]⟩ : ByteArray), .slice none 0 0]) ?_ 6 _ rfl; (with_reducible repeat (first | refine blk_drewN ?_ _ | refine blk_drew ?_ | refine blk_alloc ?_ _)); refine blk_put (cs := #[.string t901, .int .i64 t902, .bool t903, .int .i64 t904, .int .u64 t905, .float .f64 0, .string (⟨#[]⟩ : ByteArray), .slice none 0 0]) ?_ 5 _ rfl; (with_reducible repeat (first | refine blk_drewN ?_ _ | refine blk_drew ?_ | refine blk_alloc ?_ _)); refine blk_put (cs := #[.string t901, .int .i64 t902, .bool t903, .int .i64 t904, .int .u64 0, .float .f64 0, .string (⟨#[]⟩ : ByteArray), .slice none 0 0]) ?_ 4 _ rfl; (with_reducible repeat (first | refine blk_drewN ?_ _ | refine blk_drew ?_ | refine blk_alloc ?_ _)); refine blk_put (cs := #[.string t901, .int .i64 t902, .bool t903, .int .i64 0, .int .u64 0, .float .f64 0, .string (⟨#[]⟩ : ByteArray), .slice none 0 0]) ?_ 3 _ rfl; (with_reducible repeat (first | refine blk_drewN ?_ _ | refine blk_drew ?_ | refine blk_alloc ?_ _)); refine blk_put (cs := #[.string t901, .int .i64 t902, .bool false, .int .i64 0, .int .u64 0, .float .f64 0, .string (⟨#[]⟩ : ByteArray), .slice none 0 0]) ?_ 2 _ rfl; (with_reducible repeat (first | refine blk_drewN ?_ _ | refine blk_drew ?_ | refine blk_alloc ?_ _)); refine blk_put (cs := #[.string t901, .int .i64 0, .bool false, .int .i64 0, .int .u64 0, .float .f64 0, .string (⟨#[]⟩ : ByteArray), .slice none 0 0]) ?_ 1 _ rfl; (with_reducible repeat (first | refine blk_drewN ?_ _ | refine blk_drew ?_ | refine blk_alloc ?_ _)); refine blk_put (cs := #[.string (⟨#[]⟩ : ByteArray), .int .i64 0, .bool false, .int .i64 0, .int .u64 0, .float .f64 0, .string (⟨#[]⟩ : ByteArray), .slice none 0 0]) ?_ 0 _ rfl; (with_reducible repeat (first | refine blk_drewN ?_ _ | refine blk_drew ?_ | refine blk_alloc ?_ _)); exact BK912.out) hb); have n4_ := Aside0.mk (below_step (by repeat (first | (with_reducible first | exact HB.out | apply below_alloc | apply pw_below_drewN | apply below_drew1 | refine below_set ?_ GE912.out) | exact HB.out)) hb); clear HO897; clear HO910; clear BK912; clear HB; have HO897 := n0_; have HO910 := n1_; have HO923 := n2_; have BK912 := n3_; have HB := n4_; clear n0_ n1_ n2_ n3_ n4_; (try clear hb); (try clear hb2); (try clear hk); (try clear hi); (try clear ho0)) | ((with_reducible refine gate_dst (N := 14) rfl ?_); refine box_event ?hg (N := 14) ?hd (cs := #[.string (⟨#[]⟩ : ByteArray), .int .i64 0, .bool false, .int .i64 0, .int .u64 0, .float .f64 0, .string (⟨#[]⟩ : ByteArray), .slice none 0 0]) (t := 38) ?hr ?_; (case hd => rfl); (case hg => rfl); (case hr => first | (go_simp; done) | (go_simp; rfl)); intro gb925 hg w57 hbox hb; have n0_ := Aside0.mk (Kd.V_below (Kd.V_elderB (by (with_reducible repeat (first | apply Kd.V_alloc | apply Kd.V_drewN | apply Kd.V_drew)); exact HO897.out) gb925 (Nat.le_of_eq hg.symm)) hb); have n1_ := Aside0.mk (Kd.R_below (by (with_reducible repeat (first | apply Kd.R_alloc | apply Kd.R_drewN | apply Kd.R_drew)); exact HO910.out) hb); have n2_ := Aside0.mk (Kd.V_below (Kd.V_elderB (by (with_reducible repeat (first | apply Kd.V_alloc | apply Kd.V_drewN | apply Kd.V_drew)); exact HO923.out) gb925 (Nat.le_of_eq hg.symm)) hb); have n3_ := Aside0.mk (blk_below (g := gb912) (o := .cells #[.string t901, .int .i64 t902, .bool t903, .int .i64 t904, .int .u64 t905, .float .f64 t906, .string t907, .slice Ao54 t908.length co54] 34 (0, 0)) (by (with_reducible repeat (first | refine blk_drewN ?_ _ | refine blk_drew ?_ | refine blk_alloc ?_ _)); exact BK912.out) hb); have n4_ := Aside0.mk (below_step (by repeat (first | (with_reducible first | exact HB.out | apply below_alloc | apply pw_below_drewN | apply below_drew1 | refine below_set ?_ GE912.out) | exact HB.out)) hb); have n5_ := Aside0.mk (hbox); have n6_ := Aside0.mk ((by rw [hg]; exact (below_size (by repeat (first | (with_reducible first | exact HB.out | apply below_alloc | apply pw_below_drewN | apply below_drew1 | refine below_set ?_ GE912.out) | exact HB.out))) : w.heap.size ≤ gb925)); have n7_ := Aside0.mk ((by rw [hg]; exact (below_size (by repeat (first | (with_reducible first | exact HB.out | apply below_alloc | apply pw_below_drewN | apply below_drew1 | refine below_set ?_ GE912.out) | exact HB.out))) : w.heap.size ≤ gb925)); have n8_ := Aside0.mk ((by rw [hg]; exact Nat.ne_of_lt (blk_lt (g := gb912) (o := .cells #[.string t901, .int .i64 t902, .bool t903, .int .i64 t904, .int .u64 t905, .float .f64 t906, .string t907, .slice Ao54 t908.length co54] 34 (0, 0)) (by (with_reducible repeat (first | refine blk_drewN ?_ _ | refine blk_drew ?_ | refine blk_alloc ?_ _)); exact BK912.out)) : gb912 ≠ gb925)); have n9_ := Aside0.mk ((by rw [hg]; exact Nat.ne_of_gt (blk_lt (g := gb912) (o := .cells #[.string t901, .int .i64 t902, .bool t903, .int .i64 t904, .int .u64 t905, .float .f64 t906, .string t907, .slice Ao54 t908.length co54] 34 (0, 0)) (by (with_reducible repeat (first | refine blk_drewN ?_ _ | refine blk_drew ?_ | refine blk_alloc ?_ _)); exact BK912.out)) : gb925 ≠ gb912)); clear HO897; clear HO910; clear HO923; clear BK912; clear HB; have HO897 := n0_; have HO910 := n1_; have HO923 := n2_; have BK912 := n3_; have HB := n4_; have BK925 := n5_; have GW925 := n6_; have GE925 := n7_; have NB912_925 := n8_; have NB925_912 := n9_; clear n0_ n1_ n2_ n3_ n4_ n5_ n6_ n7_ n8_ n9_; clear hb hbox hg; have hnb58 := NB925_912.out; have hnc58 := NB912_925.out; have hcz59_0 : w57.cell? ⟨gb925, 0, none⟩ = some (.string (⟨#[]⟩ : ByteArray)) := (blk_cell BK925.out 0).trans rfl; have hcz59_1 : w57.cell? ⟨gb925, 1, none⟩ = some (.int .i64 0) := (blk_cell BK925.out 1).trans rfl; have hcz59_2 : w57.cell? ⟨gb925, 2, none⟩ = some (.bool false) := (blk_cell BK925.out 2).trans rfl; have hcz59_3 : w57.cell? ⟨gb925, 3, none⟩ = some (.int .i64 0) := (blk_cell BK925.out 3).trans rfl; have hcz59_4 : w57.cell? ⟨gb925, 4, none⟩ = some (.int .u64 0) := (blk_cell BK925.out 4).trans rfl; have hcz59_5 : w57.cell? ⟨gb925, 5, none⟩ = some (.float .f64 0) := (blk_cell BK925.out 5).trans rfl; have hcz59_6 : w57.cell? ⟨gb925, 6, none⟩ = some (.string (⟨#[]⟩ : ByteArray)) := (blk_cell BK925.out 6).trans rfl; have hcz59_7 : w57.cell? ⟨gb925, 7, none⟩ = some (.slice none 0 0) := (blk_cell BK925.out 7).trans rfl; have hfz59_0 := blk_frozen BK925.out 0; have hfz59_1 := blk_frozen BK925.out 1; have hfz59_2 := blk_frozen BK925.out 2; have hfz59_3 := blk_frozen BK925.out 3; have hfz59_4 := blk_frozen BK925.out 4; have hfz59_5 := blk_frozen BK925.out 5; have hfz59_6 := blk_frozen BK925.out 6; have hfz59_7 := blk_frozen BK925.out 7; obtain ⟨Ao60, co60, eo60⟩ := Kd.V_slice HO923.out; subst eo60))
           have n0_ : Aside0 (Kd.V k48 48 ((((((((w57.setCell ⟨gb925, 0, none⟩ (.string t914)).setCell ⟨gb925, 1, none⟩ (.int .i64 t915)).setCell ⟨gb925, 2, none⟩ (.bool t916)).setCell ⟨gb925, 3, none⟩ (.int .i64 t917)).setCell ⟨gb925, 4, none⟩ (.int .u64 t918)).setCell ⟨gb925, 5, none⟩ (.float .f64 t919)).setCell ⟨gb925, 6, none⟩ (.string t920)).setCell ⟨gb925, 7, none⟩ (.slice Ao60 t921.length co60)) w.heap.size (fun k_ => some k_ ≠ (.slice Ao54 t908.length co54 : Value).ownBlock ∧ k_ ≠ gb912 ∧ k_ ≠ gb925) (.slice Ao55 t895.length co55) t895) := ⟨by (with_reducible repeat (first | apply Kd.V_alloc | apply Kd.V_drewN | apply Kd.V_drew)); exact Kd.V_mono (Kd.V_far (p := ⟨gb925, 7, none⟩) (Kd.V_far (p := ⟨gb925, 6, none⟩) (Kd.V_far (p := ⟨gb925, 5, none⟩) (Kd.V_far (p := ⟨gb925, 4, none⟩) (Kd.V_far (p := ⟨gb925, 3, none⟩) (Kd.V_far (p := ⟨gb925, 2, none⟩) (Kd.V_far (p := ⟨gb925, 1, none⟩) (Kd.V_far (p := ⟨gb925, 0, none⟩) (Kd.V_mono HO897.out (fun k_ hk => (⟨hk, hk.2⟩ : _ ∧ k_ ≠ gb925))) (fun _ hk => hk.2) (.string t914)) (fun _ hk => hk.2) (.int .i64 t915)) (fun _ hk => hk.2) (.bool t916)) (fun _ hk => hk.2) (.int .i64 t917)) (fun _ hk => hk.2) (.int .u64 t918)) (fun _ hk => hk.2) (.float .f64 t919)) (fun _ hk => hk.2) (.string t920)) (fun _ hk => hk.2) (.slice Ao60 t921.length co60)) (fun _ hk => ⟨hk.1.1.1.2, ⟨hk.1.1.2, hk.1.2⟩⟩)⟩
           have n1_ : Aside0 (Kd.R k34 34 ((((((((w57.setCell ⟨gb925, 0, none⟩ (.string t914)).setCell ⟨gb925, 1, none⟩ (.int .i64 t915)).setCell ⟨gb925, 2, none⟩ (.bool t916)).setCell ⟨gb925, 3, none⟩ (.int .i64 t917)).setCell ⟨gb925, 4, none⟩ (.int .u64 t918)).setCell ⟨gb925, 5, none⟩ (.float .f64 t919)).setCell ⟨gb925, 6, none⟩ (.string t920)).setCell ⟨gb925, 7, none⟩ (.slice Ao60 t921.length co60)) w.heap.size (fun k_ => k_ ≠ gb912) (.slice Ao54 t908.length co54) t908) := ⟨by (with_reducible repeat (first | apply Kd.R_alloc | apply Kd.R_drewN | apply Kd.R_drew)); exact Kd.R_mono (Kd.R_far (p := ⟨gb925, 7, none⟩) (Kd.R_far (p := ⟨gb925, 6, none⟩) (Kd.R_far (p := ⟨gb925, 5, none⟩) (Kd.R_far (p := ⟨gb925, 4, none⟩) (Kd.R_far (p := ⟨gb925, 3, none⟩) (Kd.R_far (p := ⟨gb925, 2, none⟩) (Kd.R_far (p := ⟨gb925, 1, none⟩) (Kd.R_far (p := ⟨gb925, 0, none⟩) (Kd.R_types HO910.out BK925.out (by decide)) (fun _ hk => hk.2) (.string t914)) (fun _ hk => hk.2) (.int .i64 t915)) (fun _ hk => hk.2) (.bool t916)) (fun _ hk => hk.2) (.int .i64 t917)) (fun _ hk => hk.2) (.int .u64 t918)) (fun _ hk => hk.2) (.float .f64 t919)) (fun _ hk => hk.2) (.string t920)) (fun _ hk => hk.2) (.slice Ao60 t921.length co60)) (fun _ hk => hk.1.2)⟩
           have n2_ : Aside0 (Kd.V k38 38 ((((((((w57.setCell ⟨gb925, 0, none⟩ (.string t914)).setCell ⟨gb925, 1, none⟩ (.int .i64 t915)).setCell ⟨gb925, 2, none⟩ (.bool t916)).setCell ⟨gb925, 3, none⟩ (.int .i64 t917)).setCell ⟨gb925, 4, none⟩ (.int .u64 t918)).setCell ⟨gb925, 5, none⟩ (.float .f64 t919)).setCell ⟨gb925, 6, none⟩ (.string t920)).setCell ⟨gb925, 7, none⟩ (.slice Ao60 t921.length co60)) w.heap.size (fun k_ => some k_ ≠ (.slice Ao54 t908.length co54 : Value).ownBlock ∧ k_ ≠ gb912 ∧ k_ ≠ gb925) (.slice Ao60 t921.length co60) t921) := ⟨by (with_reducible repeat (first | apply Kd.V_alloc | apply Kd.V_drewN | apply Kd.V_drew)); exact Kd.V_mono (Kd.V_far (p := ⟨gb925, 7, none⟩) (Kd.V_far (p := ⟨gb925, 6, none⟩) (Kd.V_far (p := ⟨gb925, 5, none⟩) (Kd.V_far (p := ⟨gb925, 4, none⟩) (Kd.V_far (p := ⟨gb925, 3, none⟩) (Kd.V_far (p := ⟨gb925, 2, none⟩) (Kd.V_far (p := ⟨gb925, 1, none⟩) (Kd.V_far (p := ⟨gb925, 0, none⟩) (Kd.V_mono HO923.out (fun k_ hk => (⟨hk, hk.2⟩ : _ ∧ k_ ≠ gb925))) (fun _ hk => hk.2) (.string t914)) (fun _ hk => hk.2) (.int .i64 t915)) (fun _ hk => hk.2) (.bool t916)) (fun _ hk => hk.2) (.int .i64 t917)) (fun _ hk => hk.2) (.int .u64 t918)) (fun _ hk => hk.2) (.float .f64 t919)) (fun _ hk => hk.2) (.string t920)) (fun _ hk => hk.2) (.slice Ao60 t921.length co60)) (fun _ hk => ⟨hk.1.1.1, ⟨hk.1.1.2, hk.1.2⟩⟩)⟩
           have n3_ : Aside0 (((((((((w57.setCell ⟨gb925, 0, none⟩ (.string t914)).setCell ⟨gb925, 1, none⟩ (.int .i64 t915)).setCell ⟨gb925, 2, none⟩ (.bool t916)).setCell ⟨gb925, 3, none⟩ (.int .i64 t917)).setCell ⟨gb925, 4, none⟩ (.int .u64 t918)).setCell ⟨gb925, 5, none⟩ (.float .f64 t919)).setCell ⟨gb925, 6, none⟩ (.string t920)).setCell ⟨gb925, 7, none⟩ (.slice Ao60 t921.length co60)).heap[gb912]? = some (.cells #[.string t901, .int .i64 t902, .bool t903, .int .i64 t904, .int .u64 t905, .float .f64 t906, .string t907, .slice Ao54 t908.length co54] 34 (0, 0))) := ⟨by (with_reducible repeat (first | refine blk_drewN ?_ _ | refine blk_drew ?_ | refine blk_alloc ?_ _)); refine blk_far ?_ NB912_925.out _; (with_reducible repeat (first | refine blk_drewN ?_ _ | refine blk_drew ?_ | refine blk_alloc ?_ _)); refine blk_far ?_ NB912_925.out _; (with_reducible repeat (first | refine blk_drewN ?_ _ | refine blk_drew ?_ | refine blk_alloc ?_ _)); refine blk_far ?_ NB912_925.out _; (with_reducible repeat (first | refine blk_drewN ?_ _ | refine blk_drew ?_ | refine blk_alloc ?_ _)); refine blk_far ?_ NB912_925.out _; (with_reducible repeat (first | refine blk_drewN ?_ _ | refine blk_drew ?_ | refine blk_alloc ?_ _)); refine blk_far ?_ NB912_925.out _; (with_reducible repeat (first | refine blk_drewN ?_ _ | refine blk_drew ?_ | refine blk_alloc ?_ _)); refine blk_far ?_ NB912_925.out _; (with_reducible repeat (first | refine blk_drewN ?_ _ | refine blk_drew ?_ | refine blk_alloc ?_ _)); refine blk_far ?_ NB912_925.out _; (with_reducible repeat (first | refine blk_drewN ?_ _ | refine blk_drew ?_ | refine blk_alloc ?_ _)); refine blk_far ?_ NB912_925.out _; (with_reducible repeat (first | refine blk_drewN ?_ _ | refine blk_drew ?_ | refine blk_alloc ?_ _)); exact BK912.out⟩
           have n4_ : Aside0 (((((((((w57.setCell ⟨gb925, 0, none⟩ (.string t914)).setCell ⟨gb925, 1, none⟩ (.int .i64 t915)).setCell ⟨gb925, 2, none⟩ (.bool t916)).setCell ⟨gb925, 3, none⟩ (.int .i64 t917)).setCell ⟨gb925, 4, none⟩ (.int .u64 t918)).setCell ⟨gb925, 5, none⟩ (.float .f64 t919)).setCell ⟨gb925, 6, none⟩ (.string t920)).setCell ⟨gb925, 7, none⟩ (.slice Ao60 t921.length co60)).heap[gb925]? = some (.cells #[.string t914, .int .i64 t915, .bool t916, .int .i64 t917, .int .u64 t918, .float .f64 t919, .string t920, .slice Ao60 t921.length co60] 38 (0, 0))) := ⟨by (with_reducible repeat (first | refine blk_drewN ?_ _ | refine blk_drew ?_ | refine blk_alloc ?_ _)); refine blk_put (cs := #[.string t914, .int .i64 t915, .bool t916, .int .i64 t917, .int .u64 t918, .float .f64 t919, .string t920, .slice none 0 0]) ?_ 7 _ rfl; (with_reducible repeat (first | refine blk_drewN ?_ _ | refine blk_drew ?_ | refine blk_alloc ?_ _)); refine blk_put (cs := #[.string t914, .int .i64 t915, .bool t916, .int .i64 t917, .int .u64 t918, .float .f64 t919, .string (⟨#[]⟩ : ByteArray), .slice none 0 0]) ?_ 6 _ rfl; (with_reducible repeat (first | refine blk_drewN ?_ _ | refine blk_drew ?_ | refine blk_alloc ?_ _)); refine blk_put (cs := #[.string t914, .int .i64 t915, .bool t916, .int .i64 t917, .int .u64 t918, .float .f64 0, .string (⟨#[]⟩ : ByteArray), .slice none 0 0]) ?_ 5 _ rfl; (with_reducible repeat (first | refine blk_drewN ?_ _ | refine blk_drew ?_ | refine blk_alloc ?_ _)); refine blk_put (cs := #[.string t914, .int .i64 t915, .bool t916, .int .i64 t917, .int .u64 0, .float .f64 0, .string (⟨#[]⟩ : ByteArray), .slice none 0 0]) ?_ 4 _ rfl; (with_reducible repeat (first | refine blk_drewN ?_ _ | refine blk_drew ?_ | refine blk_alloc ?_ _)); refine blk_put (cs := #[.string t914, .int .i64 t915, .bool t916, .int .i64 0, .int .u64 0, .float .f64 0, .string (⟨#[]⟩ : ByteArray), .slice none 0 0]) ?_ 3 _ rfl; (with_reducible repeat (first | refine blk_drewN ?_ _ | refine blk_drew ?_ | refine blk_alloc ?_ _)); refine blk_put (cs := #[.string t914, .int .i64 t915, .bool false, .int .i64 0, .int .u64 0, .float .f64 0, .string (⟨#[]⟩ : ByteArray), .slice none 0 0]) ?_ 2 _ rfl; (with_reducible repeat (first | refine blk_drewN ?_ _ | refine blk_drew ?_ | refine blk_alloc ?_ _)); refine blk_put (cs := #[.string t914, .int .i64 0, .bool false, .int .i64 0, .int .u64 0, .float .f64 0, .string (⟨#[]⟩ : ByteArray), .slice none 0 0]) ?_ 1 _ rfl; (with_reducible repeat (first | refine blk_drewN ?_ _ | refine blk_drew ?_ | refine blk_alloc ?_ _)); refine blk_put (cs := #[.string (⟨#[]⟩ : ByteArray), .int .i64 0, .bool false, .int .i64 0, .int .u64 0, .float .f64 0, .string (⟨#[]⟩ : ByteArray), .slice none 0 0]) ?_ 0 _ rfl; (with_reducible repeat (first | refine blk_drewN ?_ _ | refine blk_drew ?_ | refine blk_alloc ?_ _)); exact BK925.out⟩
           have n5_ : Aside0 (Below w.heap.size w ((((((((w57.setCell ⟨gb925, 0, none⟩ (.string t914)).setCell ⟨gb925, 1, none⟩ (.int .i64 t915)).setCell ⟨gb925, 2, none⟩ (.bool t916)).setCell ⟨gb925, 3, none⟩ (.int .i64 t917)).setCell ⟨gb925, 4, none⟩ (.int .u64 t918)).setCell ⟨gb925, 5, none⟩ (.float .f64 t919)).setCell ⟨gb925, 6, none⟩ (.string t920)).setCell ⟨gb925, 7, none⟩ (.slice Ao60 t921.length co60))) := ⟨by repeat (first | (with_reducible first | exact HB.out | apply below_alloc | apply pw_below_drewN | apply below_drew1 | refine below_set ?_ GE912.out | refine below_set ?_ GE925.out) | exact HB.out)⟩
           (try clear HO897)
           (try clear HO910)
           (try clear HO923)
           (try clear BK912)
           (try clear BK925)
           (try clear HB)
           generalize ((((((((w57.setCell ⟨gb925, 0, none⟩ (.string t914)).setCell ⟨gb925, 1, none⟩ (.int .i64 t915)).setCell ⟨gb925, 2, none⟩ (.bool t916)).setCell ⟨gb925, 3, none⟩ (.int .i64 t917)).setCell ⟨gb925, 4, none⟩ (.int .u64 t918)).setCell ⟨gb925, 5, none⟩ (.float .f64 t919)).setCell ⟨gb925, 6, none⟩ (.string t920)).setCell ⟨gb925, 7, none⟩ (.slice Ao60 t921.length co60)) = w61 at n0_ n1_ n2_ n3_ n4_ n5_ ⊢
           have HO897 := n0_
           have HO910 := n1_
           have HO923 := n2_
           have BK912 := n3_
           have BK925 := n4_
           have HB := n5_
           clear n0_ n1_ n2_ n3_ n4_ n5_
           have n0_ := Aside0.mk (Kd.V_drew HO897.out)
           have n1_ := Aside0.mk (Kd.R_drew HO910.out)
           have n2_ := Aside0.mk (Kd.V_drew HO923.out)
           have n3_ := Aside0.mk (blk_drew BK912.out)
           have n4_ := Aside0.mk (blk_drew BK925.out)
           have n5_ := Aside0.mk (below_drew1 HB.out)
           clear HO897
           clear HO910
           clear HO923
           clear BK912
           clear BK925
           clear HB
           have HO897 := n0_
           have HO910 := n1_
           have HO923 := n2_
           have BK912 := n3_
           have BK925 := n4_
           have HB := n5_
           clear n0_ n1_ n2_ n3_ n4_ n5_
           refine start_ (n := 16) (S := fun w' => True) (ds := []) #[false, false, false, false, false, false, false, false, false, false, false, false, false, false, false, false] (by kernel_rfl) rfl rfl trivial (fun hHeld => ?_); refine with_tabW laws_read_10_11_12.tab10 laws_read_10_11_12.bits10 (fun HT_ HW_ => ?_)
           generalize w61.drew = w62 at HO897 HO910 HO923 BK912 BK925 HB hHeld ⊢
           refine pure_ (i := 0) (N := some 47) (v := ?_) (a' := ?_) #[true, false, false, false, false, false, false, false, false, false, false, false, false, false, false, false] rfl rfl (any_of HT_.out (by kernel_rfl)) (fun _ _ _ h => h) (Or.inl ⟨by rfl, ?_⟩) ?_ ?_
           rotate_left
           · intro w'
             go_simp
             with_reducible rfl
           rotate_left
           · simp only [Act.put, List.setIfInBounds_toArray, List.set_cons_zero, List.set_cons_succ, i64_w, i32_w]
             rfl
           refine pure_ (i := 1) (N := some 48) (v := ?_) (a' := ?_) #[true, true, false, false, false, false, false, false, false, false, false, false, false, false, false, false] rfl rfl (any_of HT_.out (by kernel_rfl)) (fun _ _ _ h => h) (Or.inl ⟨by rfl, ?_⟩) ?_ ?_
           rotate_left
           · intro w'
             go_simp
             with_reducible rfl
           rotate_left
           · simp only [Act.put, List.setIfInBounds_toArray, List.set_cons_zero, List.set_cons_succ, i64_w, i32_w]
             rfl
           refine pure_ (i := 2) (N := some 49) (v := ?_) (a' := ?_) #[true, true, true, false, false, false, false, false, false, false, false, false, false, false, false, false] rfl rfl (any_of HT_.out (by kernel_rfl)) (fun _ _ _ h => h) (Or.inl ⟨by rfl, ?_⟩) ?_ ?_
           rotate_left
           · intro w'
             go_simp
             with_reducible rfl
           rotate_left
           · simp only [Act.put, List.setIfInBounds_toArray, List.set_cons_zero, List.set_cons_succ, i64_w, i32_w]
             rfl
           refine pure_ (i := 3) (N := some 50) (v := ?_) (a' := ?_) #[true, true, true, true, false, false, false, false, false, false, false, false, false, false, false, false] rfl rfl (any_of HT_.out (by kernel_rfl)) (fun _ _ _ h => h) (Or.inl ⟨by rfl, ?_⟩) ?_ ?_
           rotate_left
           · intro w'
             go_simp
             with_reducible rfl
           rotate_left
           · simp only [Act.put, List.setIfInBounds_toArray, List.set_cons_zero, List.set_cons_succ, i64_w, i32_w]
             rfl
           refine pure_ (i := 4) (N := some 51) (v := ?_) (a' := ?_) #[true, true, true, true, true, false, false, false, false, false, false, false, false, false, false, false] rfl rfl (any_of HT_.out (by kernel_rfl)) (fun _ _ _ h => h) (Or.inl ⟨by rfl, ?_⟩) ?_ ?_
           rotate_left
           · intro w'
             go_simp
             with_reducible rfl
           rotate_left
           · simp only [Act.put, List.setIfInBounds_toArray, List.set_cons_zero, List.set_cons_succ, i64_w, i32_w]
             rfl
           refine pure_ (i := 5) (N := some 52) (v := ?_) (a' := ?_) #[true, true, true, true, true, true, false, false, false, false, false, false, false, false, false, false] rfl rfl (any_of HT_.out (by kernel_rfl)) (fun _ _ _ h => h) (Or.inl ⟨by rfl, ?_⟩) ?_ ?_
           rotate_left
           · intro w'
             go_simp
             with_reducible rfl
           rotate_left
           · simp only [Act.put, List.setIfInBounds_toArray, List.set_cons_zero, List.set_cons_succ, i64_w, i32_w]
             rfl
           refine pure_ (i := 6) (N := some 53) (v := undef) (a' := ?_) #[true, true, true, true, true, true, true, false, false, false, false, false, false, false, false, false] rfl rfl (any_of HT_.out (by kernel_rfl)) (fun _ _ _ h => h) (Or.inr ⟨by rfl, rfl⟩) ?_ ?_
           rotate_left
           · simp only [Act.put, List.setIfInBounds_toArray, List.set_cons_zero, List.set_cons_succ, i64_w, i32_w]
             rfl
           refine pure_ (i := 7) (N := some 54) (v := undef) (a' := ?_) #[true, true, true, true, true, true, true, true, false, false, false, false, false, false, false, false] rfl rfl (any_of HT_.out (by kernel_rfl)) (fun _ _ _ h => h) (Or.inr ⟨by rfl, rfl⟩) ?_ ?_
           rotate_left
           · simp only [Act.put, List.setIfInBounds_toArray, List.set_cons_zero, List.set_cons_succ, i64_w, i32_w]
             rfl
           refine pure_ (i := 8) (N := some 55) (v := undef) (a' := ?_) #[true, true, true, true, true, true, true, true, true, false, false, false, false, false, false, false] rfl rfl (any_of HT_.out (by kernel_rfl)) (fun _ _ _ h => h) (Or.inr ⟨by rfl, rfl⟩) ?_ ?_
           rotate_left
           · simp only [Act.put, List.setIfInBounds_toArray, List.set_cons_zero, List.set_cons_succ, i64_w, i32_w]
             rfl
           refine pure_ (i := 9) (N := some 56) (v := undef) (a' := ?_) #[true, true, true, true, true, true, true, true, true, true, false, false, false, false, false, false] rfl rfl (any_of HT_.out (by kernel_rfl)) (fun _ _ _ h => h) (Or.inr ⟨by rfl, rfl⟩) ?_ ?_
           rotate_left
           · simp only [Act.put, List.setIfInBounds_toArray, List.set_cons_zero, List.set_cons_succ, i64_w, i32_w]
             rfl
           refine pure_ (i := 10) (N := some 57) (v := ?_) (a' := ?_) #[true, true, true, true, true, true, true, true, true, true, true, false, false, false, false, false] rfl rfl (any_of HT_.out (by kernel_rfl)) (fun _ _ _ h => h) (Or.inl ⟨by rfl, ?_⟩) ?_ ?_
           rotate_left
           · intro w'
             go_simp
             with_reducible rfl
           rotate_left
           · simp only [Act.put, List.setIfInBounds_toArray, List.set_cons_zero, List.set_cons_succ, i64_w, i32_w]
             rfl
           refine pure_ (i := 11) (N := some 58) (v := ?_) (a' := ?_) #[true, true, true, true, true, true, true, true, true, true, true, true, false, false, false, false] rfl rfl (any_of HT_.out (by kernel_rfl)) (fun _ _ _ h => h) (Or.inl ⟨by rfl, ?_⟩) ?_ ?_
           rotate_left
           · intro w'
             go_simp
             with_reducible rfl
           rotate_left
           · simp only [Act.put, List.setIfInBounds_toArray, List.set_cons_zero, List.set_cons_succ, i64_w, i32_w]
             rfl
           refine pure_ (i := 12) (N := some 59) (v := ?_) (a' := ?_) #[true, true, true, true, true, true, true, true, true, true, true, true, true, false, false, false] rfl rfl (any_of HT_.out (by kernel_rfl)) (fun _ _ _ h => h) (Or.inl ⟨by rfl, ?_⟩) ?_ ?_
           rotate_left
           · intro w'
             go_simp
             with_reducible rfl
           rotate_left
           · simp only [Act.put, List.setIfInBounds_toArray, List.set_cons_zero, List.set_cons_succ, i64_w, i32_w]
             rfl
           refine pure_ (i := 13) (N := some 60) (v := undef) (a' := ?_) #[true, true, true, true, true, true, true, true, true, true, true, true, true, true, false, false] rfl rfl (any_of HT_.out (by kernel_rfl)) (fun _ _ _ h => h) (Or.inr ⟨by rfl, rfl⟩) ?_ ?_
           rotate_left
           · simp only [Act.put, List.setIfInBounds_toArray, List.set_cons_zero, List.set_cons_succ, i64_w, i32_w]
             rfl
           refine pure_ (i := 14) (N := some 61) (v := ?_) (a' := ?_) #[true, true, true, true, true, true, true, true, true, true, true, true, true, true, true, false] rfl rfl (any_of HT_.out (by kernel_rfl)) (fun _ _ _ h => h) (Or.inl ⟨by rfl, ?_⟩) ?_ ?_
           rotate_left
           · intro w'
             go_simp
             with_reducible rfl
           rotate_left
           · simp only [Act.put, List.setIfInBounds_toArray, List.set_cons_zero, List.set_cons_succ, i64_w, i32_w]
             rfl
           refine pure_ (i := 15) (N := some 8) (v := ?_) (a' := ?_) #[true, true, true, true, true, true, true, true, true, true, true, true, true, true, true, true] rfl rfl (any_of HT_.out (by kernel_rfl)) (fun _ _ _ h => h) (Or.inl ⟨by rfl, ?_⟩) ?_ ?_
           rotate_left
           · intro w'
             go_simp
             with_reducible rfl
           rotate_left
           · simp only [Act.put, List.setIfInBounds_toArray, List.set_cons_zero, List.set_cons_succ, i64_w, i32_w]
             rfl
           refine done_ (done_of HT_.out (by kernel_rfl)) ?_
           try go_wp2
           go_ret
           exact ⟨by first | rfl | (simp [errW_none, errW_some] <;> rfl) | (simp [*, errW_none, errW_some] <;> rfl), by repeat (first | (with_reducible first | exact HB.out | apply below_alloc | apply pw_below_drewN | apply below_drew1 | refine below_set ?_ GE912.out | refine below_set ?_ GE925.out) | exact HB.out)⟩
       · rw [if_neg c11] at H
         have c11b0 : (t924 == 1) = false := beq_eq_false_iff_ne.mpr c11
         have c11b1 : (t924 != 1) = true := bne_iff_ne.mpr c11
         replace H := Option.bind_eq_some_iff.mp H
         obtain ⟨t938, A630, H⟩ := H
         replace H : (some t938) = some r := H
         have A63 := Aside0.mk A630
         clear A630
         obtain rfl := Option.some.inj H
         go_enter Tryz.func9, Tryz.ntmps9
         try go_wp2_with (first | (go_at_call 10; (with_reducible refine (spec_LoadavgRead.calls k a0 t895 true t899 _ A6.out).mono ?_); rintro e w64 ⟨v896, rfl, ho0, hb⟩; have n0_ := Aside0.mk (Kd.V_lower (Kd.V_mono (ok' := fun k_ => True) ho0 (fun k_ hk_ => trivial)) (below_size (by repeat (first | (with_reducible first | exact HB.out | apply below_alloc | apply pw_below_drewN | apply below_drew1) | exact HB.out)))); have n1_ := Aside0.mk (below_step (by repeat (first | (with_reducible first | exact HB.out | apply below_alloc | apply pw_below_drewN | apply below_drew1) | exact HB.out)) hb); clear HB; have HO897 := n0_; have HB := n1_; clear n0_ n1_; (try clear hb); (try clear hb2); (try clear hk); (try clear hi); (try clear ho0)) | (go_at_call 12; (with_reducible refine (impl_Loadavg.calls a0 t901 t902 t903 t904 t905 t906 t907 t908 t911 _ A8.out).mono ?_); rintro e w65 ⟨v909, rfl, ho0, hb⟩; have n0_ := Aside0.mk (Kd.V_elder' (by (with_reducible repeat (first | apply Kd.V_alloc | apply Kd.V_drewN | apply Kd.V_drew)); exact HO897.out) (Kd.R_base ho0) hb); have n1_ := Aside0.mk (Kd.R_lower ho0 (below_size (by repeat (first | (with_reducible first | exact HB.out | apply below_alloc | apply pw_below_drewN | apply below_drew1) | exact HB.out)))); have n2_ := Aside0.mk (below_step (by repeat (first | (with_reducible first | exact HB.out | apply below_alloc | apply pw_below_drewN | apply below_drew1) | exact HB.out)) hb); clear HO897; clear HB; have HO897 := n0_; have HO910 := n1_; have HB := n2_; clear n0_ n1_ n2_; (try clear hb); (try clear hb2); (try clear hk); (try clear hi); (try clear ho0)) | ((with_reducible refine gate_dst (N := 12) rfl ?_); refine box_event ?hg (N := 12) ?hd (cs := #[.string (⟨#[]⟩ : ByteArray), .int .i64 0, .bool false, .int .i64 0, .int .u64 0, .float .f64 0, .string (⟨#[]⟩ : ByteArray), .slice none 0 0]) (t := 34) ?hr ?_; (case hd => rfl); (case hg => rfl); (case hr => first | (go_simp; done) | (go_simp; rfl)); intro gb912 hg w66 hbox hb; have n0_ := Aside0.mk (Kd.V_below (Kd.V_elderB (by (with_reducible repeat (first | apply Kd.V_alloc | apply Kd.V_drewN | apply Kd.V_drew)); exact HO897.out) gb912 (Nat.le_of_eq hg.symm)) hb); have n1_ := Aside0.mk (Kd.R_below (Kd.R_elderB (by (with_reducible repeat (first | apply Kd.R_alloc | apply Kd.R_drewN | apply Kd.R_drew)); exact HO910.out) gb912 (Nat.le_of_eq hg.symm)) hb); have n2_ := Aside0.mk (below_step (by repeat (first | (with_reducible first | exact HB.out | apply below_alloc | apply pw_below_drewN | apply below_drew1) | exact HB.out)) hb); have n3_ := Aside0.mk (hbox); have n4_ := Aside0.mk ((by rw [hg]; exact (below_size (by repeat (first | (with_reducible first | exact HB.out | apply below_alloc | apply pw_below_drewN | apply below_drew1) | exact HB.out))) : w.heap.size ≤ gb912)); have n5_ := Aside0.mk ((by rw [hg]; exact (below_size (by repeat (first | (with_reducible first | exact HB.out | apply below_alloc | apply pw_below_drewN | apply below_drew1) | exact HB.out))) : w.heap.size ≤ gb912)); clear HO897; clear HO910; clear HB; have HO897 := n0_; have HO910 := n1_; have HB := n2_; have BK912 := n3_; have GW912 := n4_; have GE912 := n5_; clear n0_ n1_ n2_ n3_ n4_ n5_; clear hb hbox hg; have hcz67_0 : w66.cell? ⟨gb912, 0, none⟩ = some (.string (⟨#[]⟩ : ByteArray)) := (blk_cell BK912.out 0).trans rfl; have hcz67_1 : w66.cell? ⟨gb912, 1, none⟩ = some (.int .i64 0) := (blk_cell BK912.out 1).trans rfl; have hcz67_2 : w66.cell? ⟨gb912, 2, none⟩ = some (.bool false) := (blk_cell BK912.out 2).trans rfl; have hcz67_3 : w66.cell? ⟨gb912, 3, none⟩ = some (.int .i64 0) := (blk_cell BK912.out 3).trans rfl; have hcz67_4 : w66.cell? ⟨gb912, 4, none⟩ = some (.int .u64 0) := (blk_cell BK912.out 4).trans rfl; have hcz67_5 : w66.cell? ⟨gb912, 5, none⟩ = some (.float .f64 0) := (blk_cell BK912.out 5).trans rfl; have hcz67_6 : w66.cell? ⟨gb912, 6, none⟩ = some (.string (⟨#[]⟩ : ByteArray)) := (blk_cell BK912.out 6).trans rfl; have hcz67_7 : w66.cell? ⟨gb912, 7, none⟩ = some (.slice none 0 0) := (blk_cell BK912.out 7).trans rfl; have hfz67_0 := blk_frozen BK912.out 0; have hfz67_1 := blk_frozen BK912.out 1; have hfz67_2 := blk_frozen BK912.out 2; have hfz67_3 := blk_frozen BK912.out 3; have hfz67_4 := blk_frozen BK912.out 4; have hfz67_5 := blk_frozen BK912.out 5; have hfz67_6 := blk_frozen BK912.out 6; have hfz67_7 := blk_frozen BK912.out 7; obtain ⟨Ao68, co68, eo68⟩ := Kd.R_slice HO910.out; subst eo68; obtain ⟨Ao69, co69, eo69⟩ := Kd.V_slice HO897.out; subst eo69) | (go_at_call 11; (with_reducible refine (spec_LoadavgTree.calls k _ _ t895 t914 t915 t916 t917 t918 t919 t920 t921 t924 _ ?side1 ?side2 A10.out).mono ?_); (case side1 => refine (Kd.V_reads' (e := 48) (base := w.heap.size) (ok := fun k_ => ((True ∧ some k_ ≠ (.slice Ao68 t908.length co68 : Value).ownBlock) ∧ k_ ≠ gb912)) (n := t895.length) (c := co69) ?_).2.2; exact (by (with_reducible repeat (first | apply Kd.V_alloc | apply Kd.V_drewN | apply Kd.V_drew)); exact (Kd.V_mono (Kd.V_far (p := ⟨gb912, 7, none⟩) (Kd.V_far (p := ⟨gb912, 6, none⟩) (Kd.V_far (p := ⟨gb912, 5, none⟩) (Kd.V_far (p := ⟨gb912, 4, none⟩) (Kd.V_far (p := ⟨gb912, 3, none⟩) (Kd.V_far (p := ⟨gb912, 2, none⟩) (Kd.V_far (p := ⟨gb912, 1, none⟩) (Kd.V_far (p := ⟨gb912, 0, none⟩) (Kd.V_mono HO897.out (fun k_ hk => (⟨hk, hk.2⟩ : _ ∧ k_ ≠ gb912))) (fun _ hk => hk.2) (.string t901)) (fun _ hk => hk.2) (.int .i64 t902)) (fun _ hk => hk.2) (.bool t903)) (fun _ hk => hk.2) (.int .i64 t904)) (fun _ hk => hk.2) (.int .u64 t905)) (fun _ hk => hk.2) (.float .f64 t906)) (fun _ hk => hk.2) (.string t907)) (fun _ hk => hk.2) (.slice Ao68 t908.length co68)) (fun _ h_ => h_.1)))); (case side2 => exact (Kd.V_reads' HO897.out).2.1); rintro e w70 ⟨v922, rfl, ho0, hb⟩; have n0_ := Aside0.mk (Kd.V_below (by (with_reducible repeat (first | apply Kd.V_alloc | apply Kd.V_drewN | apply Kd.V_drew)); exact (Kd.V_mono (Kd.V_far (p := ⟨gb912, 7, none⟩) (Kd.V_far (p := ⟨gb912, 6, none⟩) (Kd.V_far (p := ⟨gb912, 5, none⟩) (Kd.V_far (p := ⟨gb912, 4, none⟩) (Kd.V_far (p := ⟨gb912, 3, none⟩) (Kd.V_far (p := ⟨gb912, 2, none⟩) (Kd.V_far (p := ⟨gb912, 1, none⟩) (Kd.V_far (p := ⟨gb912, 0, none⟩) (Kd.V_mono HO897.out (fun k_ hk => (⟨hk, hk.2⟩ : _ ∧ k_ ≠ gb912))) (fun _ hk => hk.2) (.string t901)) (fun _ hk => hk.2) (.int .i64 t902)) (fun _ hk => hk.2) (.bool t903)) (fun _ hk => hk.2) (.int .i64 t904)) (fun _ hk => hk.2) (.int .u64 t905)) (fun _ hk => hk.2) (.float .f64 t906)) (fun _ hk => hk.2) (.string t907)) (fun _ hk => hk.2) (.slice Ao68 t908.length co68)) (fun _ h_ => h_.1))) hb); have n1_ := Aside0.mk (Kd.R_below (by (with_reducible repeat (first | apply Kd.R_alloc | apply Kd.R_drewN | apply Kd.R_drew)); exact (Kd.R_mono (Kd.R_far (p := ⟨gb912, 7, none⟩) (Kd.R_far (p := ⟨gb912, 6, none⟩) (Kd.R_far (p := ⟨gb912, 5, none⟩) (Kd.R_far (p := ⟨gb912, 4, none⟩) (Kd.R_far (p := ⟨gb912, 3, none⟩) (Kd.R_far (p := ⟨gb912, 2, none⟩) (Kd.R_far (p := ⟨gb912, 1, none⟩) (Kd.R_far (p := ⟨gb912, 0, none⟩) (Kd.R_mono HO910.out (fun k_ hk => (⟨hk, hk.2⟩ : _ ∧ k_ ≠ gb912))) (fun _ hk => hk.2) (.string t901)) (fun _ hk => hk.2) (.int .i64 t902)) (fun _ hk => hk.2) (.bool t903)) (fun _ hk => hk.2) (.int .i64 t904)) (fun _ hk => hk.2) (.int .u64 t905)) (fun _ hk => hk.2) (.float .f64 t906)) (fun _ hk => hk.2) (.string t907)) (fun _ hk => hk.2) (.slice Ao68 t908.length co68)) (fun _ h_ => h_.1))) hb); have n2_ := Aside0.mk (Kd.V_lower (Kd.V_mono (ok' := fun k_ => some k_ ≠ (.slice Ao68 t908.length co68 : Value).ownBlock ∧ k_ ≠ gb912) ho0 (fun k_ hk_ => ⟨(Kd.fresh' (Kd.R_lt (by (with_reducible repeat (first | apply Kd.R_alloc | apply Kd.R_drewN | apply Kd.R_drew)); exact (Kd.R_mono (Kd.R_far (p := ⟨gb912, 7, none⟩) (Kd.R_far (p := ⟨gb912, 6, none⟩) (Kd.R_far (p := ⟨gb912, 5, none⟩) (Kd.R_far (p := ⟨gb912, 4, none⟩) (Kd.R_far (p := ⟨gb912, 3, none⟩) (Kd.R_far (p := ⟨gb912, 2, none⟩) (Kd.R_far (p := ⟨gb912, 1, none⟩) (Kd.R_far (p := ⟨gb912, 0, none⟩) (Kd.R_mono HO910.out (fun k_ hk => (⟨hk, hk.2⟩ : _ ∧ k_ ≠ gb912))) (fun _ hk => hk.2) (.string t901)) (fun _ hk => hk.2) (.int .i64 t902)) (fun _ hk => hk.2) (.bool t903)) (fun _ hk => hk.2) (.int .i64 t904)) (fun _ hk => hk.2) (.int .u64 t905)) (fun _ hk => hk.2) (.float .f64 t906)) (fun _ hk => hk.2) (.string t907)) (fun _ hk => hk.2) (.slice Ao68 t908.length co68)) (fun _ h_ => h_.1)))) k_ hk_), (Kd.freshB (g := gb912) (o := .cells #[.string t901, .int .i64 t902, .bool t903, .int .i64 t904, .int .u64 t905, .float .f64 t906, .string t907, .slice Ao68 t908.length co68] 34 (0, 0)) (by (with_reducible repeat (first | refine blk_drewN ?_ _ | refine blk_drew ?_ | refine blk_alloc ?_ _)); refine blk_put (cs := #[.string t901, .int .i64 t902, .bool t903, .int .i64 t904, .int .u64 t905, .float .f64 t906, .string t907, .slice none 0 0]) ?_ 7 _ rfl; (with_reducible repeat (first | refine blk_drewN ?_ _ | refine blk_drew ?_ | refine blk_alloc ?_ _)); refine blk_put (cs := #[.string t901, .int .i64 t902, .bool t903, .int .i64 t904, .int .u64 t905, .float .f64 t906, .string (⟨#[]⟩ : ByteArray), .slice none 0 0]) ?_ 6 _ rfl; (with_reducible repeat (first | refine blk_drewN ?_ _ | refine blk_drew ?_ | refine blk_alloc ?_ _)); refine blk_put (cs := #[.string t901, .int .i64 t902, .bool t903, .int .i64 t904, .int .u64 t905, .float .f64 0, .string (⟨#[]⟩ : ByteArray), .slice none 0 0]) ?_ 5 _ rfl; (with_reducible repeat (first | refine blk_drewN ?_ _ | refine blk_drew ?_ | refine blk_alloc ?_ _)); refine blk_put (cs := #[.string t901, .int .i64 t902, .bool t903, .int .i64 t904, .int .u64 0, .float .f64 0, .string (⟨#[]⟩ : ByteArray), .slice none 0 0]) ?_ 4 _ rfl; (with_reducible repeat (first | refine blk_drewN ?_ _ | refine blk_drew ?_ | refine blk_alloc ?_ _)); refine blk_put (cs := #[.string t901, .int .i64 t902, .bool t903, .int .i64 0, .int .u64 0, .float .f64 0, .string (⟨#[]⟩ : ByteArray), .slice none 0 0]) ?_ 3 _ rfl; (with_reducible repeat (first | refine blk_drewN ?_ _ | refine blk_drew ?_ | refine blk_alloc ?_ _)); refine blk_put (cs := #[.string t901, .int .i64 t902, .bool false, .int .i64 0, .int .u64 0, .float .f64 0, .string (⟨#[]⟩ : ByteArray), .slice none 0 0]) ?_ 2 _ rfl; (with_reducible repeat (first | refine blk_drewN ?_ _ | refine blk_drew ?_ | refine blk_alloc ?_ _)); refine blk_put (cs := #[.string t901, .int .i64 0, .bool false, .int .i64 0, .int .u64 0, .float .f64 0, .string (⟨#[]⟩ : ByteArray), .slice none 0 0]) ?_ 1 _ rfl; (with_reducible repeat (first | refine blk_drewN ?_ _ | refine blk_drew ?_ | refine blk_alloc ?_ _)); refine blk_put (cs := #[.string (⟨#[]⟩ : ByteArray), .int .i64 0, .bool false, .int .i64 0, .int .u64 0, .float .f64 0, .string (⟨#[]⟩ : ByteArray), .slice none 0 0]) ?_ 0 _ rfl; (with_reducible repeat (first | refine blk_drewN ?_ _ | refine blk_drew ?_ | refine blk_alloc ?_ _)); exact BK912.out) k_ hk_)⟩)) (below_size (by repeat (first | (with_reducible first | exact HB.out | apply below_alloc | apply pw_below_drewN | apply below_drew1 | refine below_set ?_ GE912.out) | exact HB.out)))); have n3_ := Aside0.mk (blk_below (g := gb912) (o := .cells #[.string t901, .int .i64 t902, .bool t903, .int .i64 t904, .int .u64 t905, .float .f64 t906, .string t907, .slice Ao68 t908.length co68] 34 (0, 0)) (by (with_reducible repeat (first | refine blk_drewN ?_ _ | refine blk_drew ?_ | refine blk_alloc ?_ _)); refine blk_put (cs := #[.string t901, .int .i64 t902, .bool t903, .int .i64 t904, .int .u64 t905, .float .f64 t906, .string t907, .slice none 0 0]) ?_ 7 _ rfl; (with_reducible repeat (first | refine blk_drewN ?_ _ | refine blk_drew ?_ | refine blk_alloc ?_ _)); refine blk_put (cs := #[.string t901, .int .i64 t902, .bool t903, .int .i64 t904, .int .u64 t905, .float .f64 t906, .string (⟨#[]⟩ : ByteArray), .slice none 0 0]) ?_ 6 _ rfl; (with_reducible repeat (first | refine blk_drewN ?_ _ | refine blk_drew ?_ | refine blk_alloc ?_ _)); refine blk_put (cs := #[.string t901, .int .i64 t902, .bool t903, .int .i64 t904, .int .u64 t905, .float .f64 0, .string (⟨#[]⟩ : ByteArray), .slice none 0 0]) ?_ 5 _ rfl; (with_reducible repeat (first | refine blk_drewN ?_ _ | refine blk_drew ?_ | refine blk_alloc ?_ _)); refine blk_put (cs := #[.string t901, .int .i64 t902, .bool t903, .int .i64 t904, .int .u64 0, .float .f64 0, .string (⟨#[]⟩ : ByteArray), .slice none 0 0]) ?_ 4 _ rfl; (with_reducible repeat (first | refine blk_drewN ?_ _ | refine blk_drew ?_ | refine blk_alloc ?_ _)); refine blk_put (cs := #[.string t901, .int .i64 t902, .bool t903, .int .i64 0, .int .u64 0, .float .f64 0, .string (⟨#[]⟩ : ByteArray), .slice none 0 0]) ?_ 3 _ rfl; (with_reducible repeat (first | refine blk_drewN ?_ _ | refine blk_drew ?_ | refine blk_alloc ?_ _)); refine blk_put (cs := #[.string t901, .int .i64 t902, .bool false, .int .i64 0, .int .u64 0, .float .f64 0, .string (⟨#[]⟩ : ByteArray), .slice none 0 0]) ?_ 2 _ rfl; (with_reducible repeat (first | refine blk_drewN ?_ _ | refine blk_drew ?_ | refine blk_alloc ?_ _)); refine blk_put (cs := #[.string t901, .int .i64 0, .bool false, .int .i64 0, .int .u64 0, .float .f64 0, .string (⟨#[]⟩ : ByteArray), .slice none 0 0]) ?_ 1 _ rfl; (with_reducible repeat (first | refine blk_drewN ?_ _ | refine blk_drew ?_ | refine blk_alloc ?_ _)); refine blk_put (cs := #[.string (⟨#[]⟩ : ByteArray), .int .i64 0, .bool false, .int .i64 0, .int .u64 0, .float .f64 0, .string (⟨#[]⟩ : ByteArray), .slice none 0 0]) ?_ 0 _ rfl; (with_reducible repeat (first | refine blk_drewN ?_ _ | refine blk_drew ?_ | refine blk_alloc ?_ _)); exact BK912.out) hb); have n4_ := Aside0.mk (below_step (by repeat (first | (with_reducible first | exact HB.out | apply below_alloc | apply pw_below_drewN | apply below_drew1 | refine below_set ?_ GE912.out) | exact HB.out)) hb); clear HO897; clear HO910; clear BK912; clear HB; have HO897 := n0_; have HO910 := n1_; have HO923 := n2_; have BK912 := n3_; have HB := n4_; clear n0_ n1_ n2_ n3_ n4_; (try clear hb); (try clear hb2); (try clear hk); (try clear hi); (try clear ho0)) | ((with_reducible refine gate_dst (N := 14) rfl ?_); refine box_event ?hg (N := 14) ?hd (cs := #[.string (⟨#[]⟩ : ByteArray), .int .i64 0, .bool false, .int .i64 0, .int .u64 0, .float .f64 0, .string (⟨#[]⟩ : ByteArray), .slice none 0 0]) (t := 38) ?hr ?_; (case hd => rfl); (case hg => rfl); (case hr => first | (go_simp; done) | (go_simp; rfl)); intro gb925 hg w71 hbox hb; have n0_ := Aside0.mk (Kd.V_below (Kd.V_elderB (by (with_reducible repeat (first | apply Kd.V_alloc | apply Kd.V_drewN | apply Kd.V_drew)); exact HO897.out) gb925 (Nat.le_of_eq hg.symm)) hb); have n1_ := Aside0.mk (Kd.R_below (by (with_reducible repeat (first | apply Kd.R_alloc | apply Kd.R_drewN | apply Kd.R_drew)); exact HO910.out) hb); have n2_ := Aside0.mk (Kd.V_below (Kd.V_elderB (by (with_reducible repeat (first | apply Kd.V_alloc | apply Kd.V_drewN | apply Kd.V_drew)); exact HO923.out) gb925 (Nat.le_of_eq hg.symm)) hb); have n3_ := Aside0.mk (blk_below (g := gb912) (o := .cells #[.string t901, .int .i64 t902, .bool t903, .int .i64 t904, .int .u64 t905, .float .f64 t906, .string t907, .slice Ao68 t908.length co68] 34 (0, 0)) (by (with_reducible repeat (first | refine blk_drewN ?_ _ | refine blk_drew ?_ | refine blk_alloc ?_ _)); exact BK912.out) hb); have n4_ := Aside0.mk (below_step (by repeat (first | (with_reducible first | exact HB.out | apply below_alloc | apply pw_below_drewN | apply below_drew1 | refine below_set ?_ GE912.out) | exact HB.out)) hb); have n5_ := Aside0.mk (hbox); have n6_ := Aside0.mk ((by rw [hg]; exact (below_size (by repeat (first | (with_reducible first | exact HB.out | apply below_alloc | apply pw_below_drewN | apply below_drew1 | refine below_set ?_ GE912.out) | exact HB.out))) : w.heap.size ≤ gb925)); have n7_ := Aside0.mk ((by rw [hg]; exact (below_size (by repeat (first | (with_reducible first | exact HB.out | apply below_alloc | apply pw_below_drewN | apply below_drew1 | refine below_set ?_ GE912.out) | exact HB.out))) : w.heap.size ≤ gb925)); have n8_ := Aside0.mk ((by rw [hg]; exact Nat.ne_of_lt (blk_lt (g := gb912) (o := .cells #[.string t901, .int .i64 t902, .bool t903, .int .i64 t904, .int .u64 t905, .float .f64 t906, .string t907, .slice Ao68 t908.length co68] 34 (0, 0)) (by (with_reducible repeat (first | refine blk_drewN ?_ _ | refine blk_drew ?_ | refine blk_alloc ?_ _)); exact BK912.out)) : gb912 ≠ gb925)); have n9_ := Aside0.mk ((by rw [hg]; exact Nat.ne_of_gt (blk_lt (g := gb912) (o := .cells #[.string t901, .int .i64 t902, .bool t903, .int .i64 t904, .int .u64 t905, .float .f64 t906, .string t907, .slice Ao68 t908.length co68] 34 (0, 0)) (by (with_reducible repeat (first | refine blk_drewN ?_ _ | refine blk_drew ?_ | refine blk_alloc ?_ _)); exact BK912.out)) : gb925 ≠ gb912)); clear HO897; clear HO910; clear HO923; clear BK912; clear HB; have HO897 := n0_; have HO910 := n1_; have HO923 := n2_; have BK912 := n3_; have HB := n4_; have BK925 := n5_; have GW925 := n6_; have GE925 := n7_; have NB912_925 := n8_; have NB925_912 := n9_; clear n0_ n1_ n2_ n3_ n4_ n5_ n6_ n7_ n8_ n9_; clear hb hbox hg; have hnb72 := NB925_912.out; have hnc72 := NB912_925.out; have hcz73_0 : w71.cell? ⟨gb925, 0, none⟩ = some (.string (⟨#[]⟩ : ByteArray)) := (blk_cell BK925.out 0).trans rfl; have hcz73_1 : w71.cell? ⟨gb925, 1, none⟩ = some (.int .i64 0) := (blk_cell BK925.out 1).trans rfl; have hcz73_2 : w71.cell? ⟨gb925, 2, none⟩ = some (.bool false) := (blk_cell BK925.out 2).trans rfl; have hcz73_3 : w71.cell? ⟨gb925, 3, none⟩ = some (.int .i64 0) := (blk_cell BK925.out 3).trans rfl; have hcz73_4 : w71.cell? ⟨gb925, 4, none⟩ = some (.int .u64 0) := (blk_cell BK925.out 4).trans rfl; have hcz73_5 : w71.cell? ⟨gb925, 5, none⟩ = some (.float .f64 0) := (blk_cell BK925.out 5).trans rfl; have hcz73_6 : w71.cell? ⟨gb925, 6, none⟩ = some (.string (⟨#[]⟩ : ByteArray)) := (blk_cell BK925.out 6).trans rfl; have hcz73_7 : w71.cell? ⟨gb925, 7, none⟩ = some (.slice none 0 0) := (blk_cell BK925.out 7).trans rfl; have hfz73_0 := blk_frozen BK925.out 0; have hfz73_1 := blk_frozen BK925.out 1; have hfz73_2 := blk_frozen BK925.out 2; have hfz73_3 := blk_frozen BK925.out 3; have hfz73_4 := blk_frozen BK925.out 4; have hfz73_5 := blk_frozen BK925.out 5; have hfz73_6 := blk_frozen BK925.out 6; have hfz73_7 := blk_frozen BK925.out 7; obtain ⟨Ao74, co74, eo74⟩ := Kd.V_slice HO923.out; subst eo74))
         have n0_ : Aside0 (Kd.V k48 48 ((((((((w71.setCell ⟨gb925, 0, none⟩ (.string t914)).setCell ⟨gb925, 1, none⟩ (.int .i64 t915)).setCell ⟨gb925, 2, none⟩ (.bool t916)).setCell ⟨gb925, 3, none⟩ (.int .i64 t917)).setCell ⟨gb925, 4, none⟩ (.int .u64 t918)).setCell ⟨gb925, 5, none⟩ (.float .f64 t919)).setCell ⟨gb925, 6, none⟩ (.string t920)).setCell ⟨gb925, 7, none⟩ (.slice Ao74 t921.length co74)) w.heap.size (fun k_ => some k_ ≠ (.slice Ao68 t908.length co68 : Value).ownBlock ∧ k_ ≠ gb912 ∧ k_ ≠ gb925) (.slice Ao69 t895.length co69) t895) := ⟨by (with_reducible repeat (first | apply Kd.V_alloc | apply Kd.V_drewN | apply Kd.V_drew)); exact Kd.V_mono (Kd.V_far (p := ⟨gb925, 7, none⟩) (Kd.V_far (p := ⟨gb925, 6, none⟩) (Kd.V_far (p := ⟨gb925, 5, none⟩) (Kd.V_far (p := ⟨gb925, 4, none⟩) (Kd.V_far (p := ⟨gb925, 3, none⟩) (Kd.V_far (p := ⟨gb925, 2, none⟩) (Kd.V_far (p := ⟨gb925, 1, none⟩) (Kd.V_far (p := ⟨gb925, 0, none⟩) (Kd.V_mono HO897.out (fun k_ hk => (⟨hk, hk.2⟩ : _ ∧ k_ ≠ gb925))) (fun _ hk => hk.2) (.string t914)) (fun _ hk => hk.2) (.int .i64 t915)) (fun _ hk => hk.2) (.bool t916)) (fun _ hk => hk.2) (.int .i64 t917)) (fun _ hk => hk.2) (.int .u64 t918)) (fun _ hk => hk.2) (.float .f64 t919)) (fun _ hk => hk.2) (.string t920)) (fun _ hk => hk.2) (.slice Ao74 t921.length co74)) (fun _ hk => ⟨hk.1.1.1.2, ⟨hk.1.1.2, hk.1.2⟩⟩)⟩
         have n1_ : Aside0 (Kd.R k34 34 ((((((((w71.setCell ⟨gb925, 0, none⟩ (.string t914)).setCell ⟨gb925, 1, none⟩ (.int .i64 t915)).setCell ⟨gb925, 2, none⟩ (.bool t916)).setCell ⟨gb925, 3, none⟩ (.int .i64 t917)).setCell ⟨gb925, 4, none⟩ (.int .u64 t918)).setCell ⟨gb925, 5, none⟩ (.float .f64 t919)).setCell ⟨gb925, 6, none⟩ (.string t920)).setCell ⟨gb925, 7, none⟩ (.slice Ao74 t921.length co74)) w.heap.size (fun k_ => k_ ≠ gb912) (.slice Ao68 t908.length co68) t908) := ⟨by (with_reducible repeat (first | apply Kd.R_alloc | apply Kd.R_drewN | apply Kd.R_drew)); exact Kd.R_mono (Kd.R_far (p := ⟨gb925, 7, none⟩) (Kd.R_far (p := ⟨gb925, 6, none⟩) (Kd.R_far (p := ⟨gb925, 5, none⟩) (Kd.R_far (p := ⟨gb925, 4, none⟩) (Kd.R_far (p := ⟨gb925, 3, none⟩) (Kd.R_far (p := ⟨gb925, 2, none⟩) (Kd.R_far (p := ⟨gb925, 1, none⟩) (Kd.R_far (p := ⟨gb925, 0, none⟩) (Kd.R_types HO910.out BK925.out (by decide)) (fun _ hk => hk.2) (.string t914)) (fun _ hk => hk.2) (.int .i64 t915)) (fun _ hk => hk.2) (.bool t916)) (fun _ hk => hk.2) (.int .i64 t917)) (fun _ hk => hk.2) (.int .u64 t918)) (fun _ hk => hk.2) (.float .f64 t919)) (fun _ hk => hk.2) (.string t920)) (fun _ hk => hk.2) (.slice Ao74 t921.length co74)) (fun _ hk => hk.1.2)⟩
         have n2_ : Aside0 (Kd.V k38 38 ((((((((w71.setCell ⟨gb925, 0, none⟩ (.string t914)).setCell ⟨gb925, 1, none⟩ (.int .i64 t915)).setCell ⟨gb925, 2, none⟩ (.bool t916)).setCell ⟨gb925, 3, none⟩ (.int .i64 t917)).setCell ⟨gb925, 4, none⟩ (.int .u64 t918)).setCell ⟨gb925, 5, none⟩ (.float .f64 t919)).setCell ⟨gb925, 6, none⟩ (.string t920)).setCell ⟨gb925, 7, none⟩ (.slice Ao74 t921.length co74)) w.heap.size (fun k_ => some k_ ≠ (.slice Ao68 t908.length co68 : Value).ownBlock ∧ k_ ≠ gb912 ∧ k_ ≠ gb925) (.slice Ao74 t921.length co74) t921) := ⟨by (with_reducible repeat (first | apply Kd.V_alloc | apply Kd.V_drewN | apply Kd.V_drew)); exact Kd.V_mono (Kd.V_far (p := ⟨gb925, 7, none⟩) (Kd.V_far (p := ⟨gb925, 6, none⟩) (Kd.V_far (p := ⟨gb925, 5, none⟩) (Kd.V_far (p := ⟨gb925, 4, none⟩) (Kd.V_far (p := ⟨gb925, 3, none⟩) (Kd.V_far (p := ⟨gb925, 2, none⟩) (Kd.V_far (p := ⟨gb925, 1, none⟩) (Kd.V_far (p := ⟨gb925, 0, none⟩) (Kd.V_mono HO923.out (fun k_ hk => (⟨hk, hk.2⟩ : _ ∧ k_ ≠ gb925))) (fun _ hk => hk.2) (.string t914)) (fun _ hk => hk.2) (.int .i64 t915)) (fun _ hk => hk.2) (.bool t916)) (fun _ hk => hk.2) (.int .i64 t917)) (fun _ hk => hk.2) (.int .u64 t918)) (fun _ hk => hk.2) (.float .f64 t919)) (fun _ hk => hk.2) (.string t920)) (fun _ hk => hk.2) (.slice Ao74 t921.length co74)) (fun _ hk => ⟨hk.1.1.1, ⟨hk.1.1.2, hk.1.2⟩⟩)⟩
         have n3_ : Aside0 (((((((((w71.setCell ⟨gb925, 0, none⟩ (.string t914)).setCell ⟨gb925, 1, none⟩ (.int .i64 t915)).setCell ⟨gb925, 2, none⟩ (.bool t916)).setCell ⟨gb925, 3, none⟩ (.int .i64 t917)).setCell ⟨gb925, 4, none⟩ (.int .u64 t918)).setCell ⟨gb925, 5, none⟩ (.float .f64 t919)).setCell ⟨gb925, 6, none⟩ (.string t920)).setCell ⟨gb925, 7, none⟩ (.slice Ao74 t921.length co74)).heap[gb912]? = some (.cells #[.string t901, .int .i64 t902, .bool t903, .int .i64 t904, .int .u64 t905, .float .f64 t906, .string t907, .slice Ao68 t908.length co68] 34 (0, 0))) := ⟨by (with_reducible repeat (first | refine blk_drewN ?_ _ | refine blk_drew ?_ | refine blk_alloc ?_ _)); refine blk_far ?_ NB912_925.out _; (with_reducible repeat (first | refine blk_drewN ?_ _ | refine blk_drew ?_ | refine blk_alloc ?_ _)); refine blk_far ?_ NB912_925.out _; (with_reducible repeat (first | refine blk_drewN ?_ _ | refine blk_drew ?_ | refine blk_alloc ?_ _)); refine blk_far ?_ NB912_925.out _; (with_reducible repeat (first | refine blk_drewN ?_ _ | refine blk_drew ?_ | refine blk_alloc ?_ _)); refine blk_far ?_ NB912_925.out _; (with_reducible repeat (first | refine blk_drewN ?_ _ | refine blk_drew ?_ | refine blk_alloc ?_ _)); refine blk_far ?_ NB912_925.out _; (with_reducible repeat (first | refine blk_drewN ?_ _ | refine blk_drew ?_ | refine blk_alloc ?_ _)); refine blk_far ?_ NB912_925.out _; (with_reducible repeat (first | refine blk_drewN ?_ _ | refine blk_drew ?_ | refine blk_alloc ?_ _)); refine blk_far ?_ NB912_925.out _; (with_reducible repeat (first | refine blk_drewN ?_ _ | refine blk_drew ?_ | refine blk_alloc ?_ _)); refine blk_far ?_ NB912_925.out _; (with_reducible repeat (first | refine blk_drewN ?_ _ | refine blk_drew ?_ | refine blk_alloc ?_ _)); exact BK912.out⟩
         have n4_ : Aside0 (((((((((w71.setCell ⟨gb925, 0, none⟩ (.string t914)).setCell ⟨gb925, 1, none⟩ (.int .i64 t915)).setCell ⟨gb925, 2, none⟩ (.bool t916)).setCell ⟨gb925, 3, none⟩ (.int .i64 t917)).setCell ⟨gb925, 4, none⟩ (.int .u64 t918)).setCell ⟨gb925, 5, none⟩ (.float .f64 t919)).setCell ⟨gb925, 6, none⟩ (.string t920)).setCell ⟨gb925, 7, none⟩ (.slice Ao74 t921.length co74)).heap[gb925]? = some (.cells #[.string t914, .int .i64 t915, .bool t916, .int .i64 t917, .int .u64 t918, .float .f64 t919, .string t920, .slice Ao74 t921.length co74] 38 (0, 0))) := ⟨by (with_reducible repeat (first | refine blk_drewN ?_ _ | refine blk_drew ?_ | refine blk_alloc ?_ _)); refine blk_put (cs := #[.string t914, .int .i64 t915, .bool t916, .int .i64 t917, .int .u64 t918, .float .f64 t919, .string t920, .slice none 0 0]) ?_ 7 _ rfl; (with_reducible repeat (first | refine blk_drewN ?_ _ | refine blk_drew ?_ | refine blk_alloc ?_ _)); refine blk_put (cs := #[.string t914, .int .i64 t915, .bool t916, .int .i64 t917, .int .u64 t918, .float .f64 t919, .string (⟨#[]⟩ : ByteArray), .slice none 0 0]) ?_ 6 _ rfl; (with_reducible repeat (first | refine blk_drewN ?_ _ | refine blk_drew ?_ | refine blk_alloc ?_ _)); refine blk_put (cs := #[.string t914, .int .i64 t915, .bool t916, .int .i64 t917, .int .u64 t918, .float .f64 0, .string (⟨#[]⟩ : ByteArray), .slice none 0 0]) ?_ 5 _ rfl; (with_reducible repeat (first | refine blk_drewN ?_ _ | refine blk_drew ?_ | refine blk_alloc ?_ _)); refine blk_put (cs := #[.string t914, .int .i64 t915, .bool t916, .int .i64 t917, .int .u64 0, .float .f64 0, .string (⟨#[]⟩ : ByteArray), .slice none 0 0]) ?_ 4 _ rfl; (with_reducible repeat (first | refine blk_drewN ?_ _ | refine blk_drew ?_ | refine blk_alloc ?_ _)); refine blk_put (cs := #[.string t914, .int .i64 t915, .bool t916, .int .i64 0, .int .u64 0, .float .f64 0, .string (⟨#[]⟩ : ByteArray), .slice none 0 0]) ?_ 3 _ rfl; (with_reducible repeat (first | refine blk_drewN ?_ _ | refine blk_drew ?_ | refine blk_alloc ?_ _)); refine blk_put (cs := #[.string t914, .int .i64 t915, .bool false, .int .i64 0, .int .u64 0, .float .f64 0, .string (⟨#[]⟩ : ByteArray), .slice none 0 0]) ?_ 2 _ rfl; (with_reducible repeat (first | refine blk_drewN ?_ _ | refine blk_drew ?_ | refine blk_alloc ?_ _)); refine blk_put (cs := #[.string t914, .int .i64 0, .bool false, .int .i64 0, .int .u64 0, .float .f64 0, .string (⟨#[]⟩ : ByteArray), .slice none 0 0]) ?_ 1 _ rfl; (with_reducible repeat (first | refine blk_drewN ?_ _ | refine blk_drew ?_ | refine blk_alloc ?_ _)); refine blk_put (cs := #[.string (⟨#[]⟩ : ByteArray), .int .i64 0, .bool false, .int .i64 0, .int .u64 0, .float .f64 0, .string (⟨#[]⟩ : ByteArray), .slice none 0 0]) ?_ 0 _ rfl; (with_reducible repeat (first | refine blk_drewN ?_ _ | refine blk_drew ?_ | refine blk_alloc ?_ _)); exact BK925.out⟩
         have n5_ : Aside0 (Below w.heap.size w ((((((((w71.setCell ⟨gb925, 0, none⟩ (.string t914)).setCell ⟨gb925, 1, none⟩ (.int .i64 t915)).setCell ⟨gb925, 2, none⟩ (.bool t916)).setCell ⟨gb925, 3, none⟩ (.int .i64 t917)).setCell ⟨gb925, 4, none⟩ (.int .u64 t918)).setCell ⟨gb925, 5, none⟩ (.float .f64 t919)).setCell ⟨gb925, 6, none⟩ (.string t920)).setCell ⟨gb925, 7, none⟩ (.slice Ao74 t921.length co74))) := ⟨by repeat (first | (with_reducible first | exact HB.out | apply below_alloc | apply pw_below_drewN | apply below_drew1 | refine below_set ?_ GE912.out | refine below_set ?_ GE925.out) | exact HB.out)⟩
         (try clear HO897)
         (try clear HO910)
         (try clear HO923)
         (try clear BK912)
         (try clear BK925)
         (try clear HB)
         generalize ((((((((w71.setCell ⟨gb925, 0, none⟩ (.string t914)).setCell ⟨gb925, 1, none⟩ (.int .i64 t915)).setCell ⟨gb925, 2, none⟩ (.bool t916)).setCell ⟨gb925, 3, none⟩ (.int .i64 t917)).setCell ⟨gb925, 4, none⟩ (.int .u64 t918)).setCell ⟨gb925, 5, none⟩ (.float .f64 t919)).setCell ⟨gb925, 6, none⟩ (.string t920)).setCell ⟨gb925, 7, none⟩ (.slice Ao74 t921.length co74)) = w75 at n0_ n1_ n2_ n3_ n4_ n5_ ⊢
         have HO897 := n0_
         have HO910 := n1_
         have HO923 := n2_
         have BK912 := n3_
         have BK925 := n4_
         have HB := n5_
         clear n0_ n1_ n2_ n3_ n4_ n5_
         have n0_ := Aside0.mk (Kd.V_drew HO897.out)
         have n1_ := Aside0.mk (Kd.R_drew HO910.out)
         have n2_ := Aside0.mk (Kd.V_drew HO923.out)
         have n3_ := Aside0.mk (blk_drew BK912.out)
         have n4_ := Aside0.mk (blk_drew BK925.out)
         have n5_ := Aside0.mk (below_drew1 HB.out)
         clear HO897
         clear HO910
         clear HO923
         clear BK912
         clear BK925
         clear HB
         have HO897 := n0_
         have HO910 := n1_
         have HO923 := n2_
         have BK912 := n3_
         have BK925 := n4_
         have HB := n5_
         clear n0_ n1_ n2_ n3_ n4_ n5_
         refine start_ (n := 16) (S := fun w' => True) (ds := []) #[false, false, false, false, false, false, false, false, false, false, false, false, false, false, false, false] (by kernel_rfl) rfl rfl trivial (fun hHeld => ?_); refine with_tabW laws_read_10_11_12.tab10 laws_read_10_11_12.bits10 (fun HT_ HW_ => ?_)
         generalize w75.drew = w76 at HO897 HO910 HO923 BK912 BK925 HB hHeld ⊢
         refine pure_ (i := 0) (N := some 47) (v := ?_) (a' := ?_) #[true, false, false, false, false, false, false, false, false, false, false, false, false, false, false, false] rfl rfl (any_of HT_.out (by kernel_rfl)) (fun _ _ _ h => h) (Or.inl ⟨by rfl, ?_⟩) ?_ ?_
         rotate_left
         · intro w'
           go_simp
           with_reducible rfl
         rotate_left
         · simp only [Act.put, List.setIfInBounds_toArray, List.set_cons_zero, List.set_cons_succ, i64_w, i32_w]
           rfl
         refine pure_ (i := 1) (N := some 48) (v := ?_) (a' := ?_) #[true, true, false, false, false, false, false, false, false, false, false, false, false, false, false, false] rfl rfl (any_of HT_.out (by kernel_rfl)) (fun _ _ _ h => h) (Or.inl ⟨by rfl, ?_⟩) ?_ ?_
         rotate_left
         · intro w'
           go_simp
           with_reducible rfl
         rotate_left
         · simp only [Act.put, List.setIfInBounds_toArray, List.set_cons_zero, List.set_cons_succ, i64_w, i32_w]
           rfl
         refine pure_ (i := 2) (N := some 49) (v := ?_) (a' := ?_) #[true, true, true, false, false, false, false, false, false, false, false, false, false, false, false, false] rfl rfl (any_of HT_.out (by kernel_rfl)) (fun _ _ _ h => h) (Or.inl ⟨by rfl, ?_⟩) ?_ ?_
         rotate_left
         · intro w'
           go_simp
           with_reducible rfl
         rotate_left
         · simp only [Act.put, List.setIfInBounds_toArray, List.set_cons_zero, List.set_cons_succ, i64_w, i32_w]
           rfl
         refine pure_ (i := 3) (N := some 50) (v := undef) (a' := ?_) #[true, true, true, true, false, false, false, false, false, false, false, false, false, false, false, false] rfl rfl (any_of HT_.out (by kernel_rfl)) (fun _ _ _ h => h) (Or.inr ⟨by rfl, rfl⟩) ?_ ?_
         rotate_left
         · simp only [Act.put, List.setIfInBounds_toArray, List.set_cons_zero, List.set_cons_succ, i64_w, i32_w]
           rfl
         refine pure_ (i := 4) (N := some 51) (v := undef) (a' := ?_) #[true, true, true, true, true, false, false, false, false, false, false, false, false, false, false, false] rfl rfl (any_of HT_.out (by kernel_rfl)) (fun _ _ _ h => h) (Or.inr ⟨by rfl, rfl⟩) ?_ ?_
         rotate_left
         · simp only [Act.put, List.setIfInBounds_toArray, List.set_cons_zero, List.set_cons_succ, i64_w, i32_w]
           rfl
         refine pure_ (i := 5) (N := some 52) (v := undef) (a' := ?_) #[true, true, true, true, true, true, false, false, false, false, false, false, false, false, false, false] rfl rfl (any_of HT_.out (by kernel_rfl)) (fun _ _ _ h => h) (Or.inr ⟨by rfl, rfl⟩) ?_ ?_
         rotate_left
         · simp only [Act.put, List.setIfInBounds_toArray, List.set_cons_zero, List.set_cons_succ, i64_w, i32_w]
           rfl
         refine pure_ (i := 6) (N := some 53) (v := undef) (a' := ?_) #[true, true, true, true, true, true, true, false, false, false, false, false, false, false, false, false] rfl rfl (any_of HT_.out (by kernel_rfl)) (fun _ _ _ h => h) (Or.inr ⟨by rfl, rfl⟩) ?_ ?_
         rotate_left
         · simp only [Act.put, List.setIfInBounds_toArray, List.set_cons_zero, List.set_cons_succ, i64_w, i32_w]
           rfl
         refine pure_ (i := 7) (N := some 54) (v := undef) (a' := ?_) #[true, true, true, true, true, true, true, true, false, false, false, false, false, false, false, false] rfl rfl (any_of HT_.out (by kernel_rfl)) (fun _ _ _ h => h) (Or.inr ⟨by rfl, rfl⟩) ?_ ?_
         rotate_left
         · simp only [Act.put, List.setIfInBounds_toArray, List.set_cons_zero, List.set_cons_succ, i64_w, i32_w]
           rfl
         refine pure_ (i := 8) (N := some 55) (v := undef) (a' := ?_) #[true, true, true, true, true, true, true, true, true, false, false, false, false, false, false, false] rfl rfl (any_of HT_.out (by kernel_rfl)) (fun _ _ _ h => h) (Or.inr ⟨by rfl, rfl⟩) ?_ ?_
         rotate_left
         · simp only [Act.put, List.setIfInBounds_toArray, List.set_cons_zero, List.set_cons_succ, i64_w, i32_w]
           rfl
         refine pure_ (i := 9) (N := some 56) (v := undef) (a' := ?_) #[true, true, true, true, true, true, true, true, true, true, false, false, false, false, false, false] rfl rfl (any_of HT_.out (by kernel_rfl)) (fun _ _ _ h => h) (Or.inr ⟨by rfl, rfl⟩) ?_ ?_
         rotate_left
         · simp only [Act.put, List.setIfInBounds_toArray, List.set_cons_zero, List.set_cons_succ, i64_w, i32_w]
           rfl
         refine pure_ (i := 10) (N := some 57) (v := undef) (a' := ?_) #[true, true, true, true, true, true, true, true, true, true, true, false, false, false, false, false] rfl rfl (any_of HT_.out (by kernel_rfl)) (fun _ _ _ h => h) (Or.inr ⟨by rfl, rfl⟩) ?_ ?_
         rotate_left
         · simp only [Act.put, List.setIfInBounds_toArray, List.set_cons_zero, List.set_cons_succ, i64_w, i32_w]
           rfl
         refine pure_ (i := 11) (N := some 58) (v := ?_) (a' := ?_) #[true, true, true, true, true, true, true, true, true, true, true, true, false, false, false, false] rfl rfl (any_of HT_.out (by kernel_rfl)) (fun _ _ _ h => h) (Or.inl ⟨by rfl, ?_⟩) ?_ ?_
         rotate_left
         · intro w'
           go_simp
           with_reducible rfl
         rotate_left
         · simp only [Act.put, List.setIfInBounds_toArray, List.set_cons_zero, List.set_cons_succ, i64_w, i32_w]
           rfl
         refine pure_ (i := 12) (N := some 59) (v := ?_) (a' := ?_) #[true, true, true, true, true, true, true, true, true, true, true, true, true, false, false, false] rfl rfl (any_of HT_.out (by kernel_rfl)) (fun _ _ _ h => h) (Or.inl ⟨by rfl, ?_⟩) ?_ ?_
         rotate_left
         · intro w'
           go_simp
           with_reducible rfl
         rotate_left
         · simp only [Act.put, List.setIfInBounds_toArray, List.set_cons_zero, List.set_cons_succ, i64_w, i32_w]
           rfl
         refine one_ (i := 13) (N := some 60) #[true, true, true, true, true, true, true, true, true, true, true, true, true, true, false, false] rfl rfl (one_of HT_.out (by kernel_rfl)) (by decide) (fun K hK => ?_)
         refine goes_ Tryz.func28 (by kernel_rfl) rfl #[] (by rfl) rfl rfl (by (try simp only [List.map_toArray, List.map_cons, List.map_nil]); first | done | rfl | (simp only [List.length_drop, List.length_take]; rfl)) ?_
         with_reducible refine (laws_lives.calls  t938 _ A63.out).mono ?_
         rintro e w77 ⟨rfl, hb⟩
         refine ⟨_, rfl, ?_⟩
         have n0_ := Aside0.mk (Kd.V_below (by (with_reducible repeat (first | apply Kd.V_alloc | apply Kd.V_drewN | apply Kd.V_drew)); exact HO897.out) hb)
         have n1_ := Aside0.mk (Kd.R_below (by (with_reducible repeat (first | apply Kd.R_alloc | apply Kd.R_drewN | apply Kd.R_drew)); exact HO910.out) hb)
         have n2_ := Aside0.mk (Kd.V_below (by (with_reducible repeat (first | apply Kd.V_alloc | apply Kd.V_drewN | apply Kd.V_drew)); exact HO923.out) hb)
         have n3_ := Aside0.mk (blk_below (g := gb912) (o := .cells #[.string t901, .int .i64 t902, .bool t903, .int .i64 t904, .int .u64 t905, .float .f64 t906, .string t907, .slice Ao68 t908.length co68] 34 (0, 0)) (by (with_reducible repeat (first | refine blk_drewN ?_ _ | refine blk_drew ?_ | refine blk_alloc ?_ _)); exact BK912.out) hb)
         have n4_ := Aside0.mk (blk_below (g := gb925) (o := .cells #[.string t914, .int .i64 t915, .bool t916, .int .i64 t917, .int .u64 t918, .float .f64 t919, .string t920, .slice Ao74 t921.length co74] 38 (0, 0)) (by (with_reducible repeat (first | refine blk_drewN ?_ _ | refine blk_drew ?_ | refine blk_alloc ?_ _)); exact BK925.out) hb)
         have n5_ := Aside0.mk (below_step (by repeat (first | (with_reducible first | exact HB.out | apply below_alloc | apply pw_below_drewN | apply below_drew1 | refine below_set ?_ GE912.out | refine below_set ?_ GE925.out) | exact HB.out)) hb)
         clear HO897
         clear HO910
         clear HO923
         clear BK912
         clear BK925
         clear HB
         have HO897 := n0_
         have HO910 := n1_
         have HO923 := n2_
         have BK912 := n3_
         have BK925 := n4_
         have HB := n5_
         clear n0_ n1_ n2_ n3_ n4_ n5_
         (try clear hb)
         (try clear hb2)
         (try clear hk)
         (try clear hi)
         refine hK.out _ _ trivial (fun hHeld => ?_)
         clear hK K
         refine norm_ (a' := ?_) ?_ ?_
         rotate_left
         · show Act.put _ (some 60) _ = _
           simp only [Act.put, List.setIfInBounds_toArray, List.set_cons_zero, List.set_cons_succ, i64_w, i32_w]
           rfl
         refine pure_ (i := 14) (N := some 61) (v := ?_) (a' := ?_) #[true, true, true, true, true, true, true, true, true, true, true, true, true, true, true, false] rfl rfl (any_of HT_.out (by kernel_rfl)) (fun _ _ _ h => h) (Or.inl ⟨by rfl, ?_⟩) ?_ ?_
         rotate_left
         · intro w'
           go_simp
           with_reducible rfl
         rotate_left
         · simp only [Act.put, List.setIfInBounds_toArray, List.set_cons_zero, List.set_cons_succ, i64_w, i32_w]
           rfl
         refine pure_ (i := 15) (N := some 8) (v := ?_) (a' := ?_) #[true, true, true, true, true, true, true, true, true, true, true, true, true, true, true, true] rfl rfl (any_of HT_.out (by kernel_rfl)) (fun _ _ _ h => h) (Or.inl ⟨by rfl, ?_⟩) ?_ ?_
         rotate_left
         · intro w'
           go_simp
           with_reducible rfl
         rotate_left
         · simp only [Act.put, List.setIfInBounds_toArray, List.set_cons_zero, List.set_cons_succ, i64_w, i32_w]
           rfl
         refine done_ (done_of HT_.out (by kernel_rfl)) ?_
         try go_wp2
         go_ret
         exact ⟨by first | rfl | (simp [errW_none, errW_some] <;> rfl) | (simp [*, errW_none, errW_some] <;> rfl), by repeat (first | (with_reducible first | exact HB.out | apply below_alloc | apply pw_below_drewN | apply below_drew1 | refine below_set ?_ GE912.out | refine below_set ?_ GE925.out) | exact HB.out)⟩
     · replace c9 := Bool.eq_false_iff.mpr c9
       subst c9
       have H1 : (if t911 = 1 then ((laws_lives.f).bind fun t913 => (some t913)) else (some false)) = some r := by rw [if_neg (show ¬ (false = true) by decide)] at H; exact H
       clear H
       have H := H1
       clear H1
       by_cases c78 : t911 = 1
       · rw [if_pos c78] at H
         have c78b0 : (t911 == 1) = true := beq_iff_eq.mpr c78
         have c78b1 : (t911 != 1) = false := bne_eq_false_iff_eq.mpr c78
         clear c78
         replace H := Option.bind_eq_some_iff.mp H
         obtain ⟨t913, A790, H⟩ := H
         replace H : (some t913) = some r := H
         have A79 := Aside0.mk A790
         clear A790
         obtain rfl := Option.some.inj H
         go_enter Tryz.func9, Tryz.ntmps9
         go_wp2_with (first | (go_at_call 10; (with_reducible refine (spec_LoadavgRead.calls k a0 t895 false t899 _ A6.out).mono ?_); rintro e w80 ⟨v896, rfl, ho0, hb⟩; have n0_ := Aside0.mk (Kd.V_lower (Kd.V_mono (ok' := fun k_ => True) ho0 (fun k_ hk_ => trivial)) (below_size (by repeat (first | (with_reducible first | exact HB.out | apply below_alloc | apply pw_below_drewN | apply below_drew1) | exact HB.out)))); have n1_ := Aside0.mk (below_step (by repeat (first | (with_reducible first | exact HB.out | apply below_alloc | apply pw_below_drewN | apply below_drew1) | exact HB.out)) hb); clear HB; have HO897 := n0_; have HB := n1_; clear n0_ n1_; (try clear hb); (try clear hb2); (try clear hk); (try clear hi); (try clear ho0)) | (go_at_call 12; (with_reducible refine (impl_Loadavg.calls a0 t901 t902 t903 t904 t905 t906 t907 t908 t911 _ A8.out).mono ?_); rintro e w81 ⟨v909, rfl, ho0, hb⟩; have n0_ := Aside0.mk (Kd.V_elder' (by (with_reducible repeat (first | apply Kd.V_alloc | apply Kd.V_drewN | apply Kd.V_drew)); exact HO897.out) (Kd.R_base ho0) hb); have n1_ := Aside0.mk (Kd.R_lower ho0 (below_size (by repeat (first | (with_reducible first | exact HB.out | apply below_alloc | apply pw_below_drewN | apply below_drew1) | exact HB.out)))); have n2_ := Aside0.mk (below_step (by repeat (first | (with_reducible first | exact HB.out | apply below_alloc | apply pw_below_drewN | apply below_drew1) | exact HB.out)) hb); clear HO897; clear HB; have HO897 := n0_; have HO910 := n1_; have HB := n2_; clear n0_ n1_ n2_; (try clear hb); (try clear hb2); (try clear hk); (try clear hi); (try clear ho0)) | ((with_reducible refine gate_dst (N := 12) rfl ?_); refine box_event ?hg (N := 12) ?hd (cs := #[.string (⟨#[]⟩ : ByteArray), .int .i64 0, .bool false, .int .i64 0, .int .u64 0, .float .f64 0, .string (⟨#[]⟩ : ByteArray), .slice none 0 0]) (t := 34) ?hr ?_; (case hd => rfl); (case hg => rfl); (case hr => first | (go_simp; done) | (go_simp; rfl)); intro gb912 hg w82 hbox hb; have n0_ := Aside0.mk (Kd.V_below (Kd.V_elderB (by (with_reducible repeat (first | apply Kd.V_alloc | apply Kd.V_drewN | apply Kd.V_drew)); exact HO897.out) gb912 (Nat.le_of_eq hg.symm)) hb); have n1_ := Aside0.mk (Kd.R_below (Kd.R_elderB (by (with_reducible repeat (first | apply Kd.R_alloc | apply Kd.R_drewN | apply Kd.R_drew)); exact HO910.out) gb912 (Nat.le_of_eq hg.symm)) hb); have n2_ := Aside0.mk (below_step (by repeat (first | (with_reducible first | exact HB.out | apply below_alloc | apply pw_below_drewN | apply below_drew1) | exact HB.out)) hb); have n3_ := Aside0.mk (hbox); have n4_ := Aside0.mk ((by rw [hg]; exact (below_size (by repeat (first | (with_reducible first | exact HB.out | apply below_alloc | apply pw_below_drewN | apply below_drew1) | exact HB.out))) : w.heap.size ≤ gb912)); have n5_ := Aside0.mk ((by rw [hg]; exact (below_size (by repeat (first | (with_reducible first | exact HB.out | apply below_alloc | apply pw_below_drewN | apply below_drew1) | exact HB.out))) : w.heap.size ≤ gb912)); clear HO897; clear HO910; clear HB; have HO897 := n0_; have HO910 := n1_; have HB := n2_; have BK912 := n3_; have GW912 := n4_; have GE912 := n5_; clear n0_ n1_ n2_ n3_ n4_ n5_; clear hb hbox hg; have hcz83_0 : w82.cell? ⟨gb912, 0, none⟩ = some (.string (⟨#[]⟩ : ByteArray)) := (blk_cell BK912.out 0).trans rfl; have hcz83_1 : w82.cell? ⟨gb912, 1, none⟩ = some (.int .i64 0) := (blk_cell BK912.out 1).trans rfl; have hcz83_2 : w82.cell? ⟨gb912, 2, none⟩ = some (.bool false) := (blk_cell BK912.out 2).trans rfl; have hcz83_3 : w82.cell? ⟨gb912, 3, none⟩ = some (.int .i64 0) := (blk_cell BK912.out 3).trans rfl; have hcz83_4 : w82.cell? ⟨gb912, 4, none⟩ = some (.int .u64 0) := (blk_cell BK912.out 4).trans rfl; have hcz83_5 : w82.cell? ⟨gb912, 5, none⟩ = some (.float .f64 0) := (blk_cell BK912.out 5).trans rfl; have hcz83_6 : w82.cell? ⟨gb912, 6, none⟩ = some (.string (⟨#[]⟩ : ByteArray)) := (blk_cell BK912.out 6).trans rfl; have hcz83_7 : w82.cell? ⟨gb912, 7, none⟩ = some (.slice none 0 0) := (blk_cell BK912.out 7).trans rfl; have hfz83_0 := blk_frozen BK912.out 0; have hfz83_1 := blk_frozen BK912.out 1; have hfz83_2 := blk_frozen BK912.out 2; have hfz83_3 := blk_frozen BK912.out 3; have hfz83_4 := blk_frozen BK912.out 4; have hfz83_5 := blk_frozen BK912.out 5; have hfz83_6 := blk_frozen BK912.out 6; have hfz83_7 := blk_frozen BK912.out 7; obtain ⟨Ao84, co84, eo84⟩ := Kd.R_slice HO910.out; subst eo84) | (go_at_call 28; (with_reducible refine (laws_lives.calls  t913 _ A79.out).mono ?_); rintro e w85 ⟨rfl, hb⟩; have n0_ := Aside0.mk (Kd.V_below (by (with_reducible repeat (first | apply Kd.V_alloc | apply Kd.V_drewN | apply Kd.V_drew)); exact (Kd.V_mono (Kd.V_far (p := ⟨gb912, 7, none⟩) (Kd.V_far (p := ⟨gb912, 6, none⟩) (Kd.V_far (p := ⟨gb912, 5, none⟩) (Kd.V_far (p := ⟨gb912, 4, none⟩) (Kd.V_far (p := ⟨gb912, 3, none⟩) (Kd.V_far (p := ⟨gb912, 2, none⟩) (Kd.V_far (p := ⟨gb912, 1, none⟩) (Kd.V_far (p := ⟨gb912, 0, none⟩) (Kd.V_mono HO897.out (fun k_ hk => (⟨hk, hk.2⟩ : _ ∧ k_ ≠ gb912))) (fun _ hk => hk.2) (.string t901)) (fun _ hk => hk.2) (.int .i64 t902)) (fun _ hk => hk.2) (.bool t903)) (fun _ hk => hk.2) (.int .i64 t904)) (fun _ hk => hk.2) (.int .u64 t905)) (fun _ hk => hk.2) (.float .f64 t906)) (fun _ hk => hk.2) (.string t907)) (fun _ hk => hk.2) (.slice Ao84 t908.length co84)) (fun _ h_ => h_.1))) hb); have n1_ := Aside0.mk (Kd.R_below (by (with_reducible repeat (first | apply Kd.R_alloc | apply Kd.R_drewN | apply Kd.R_drew)); exact (Kd.R_mono (Kd.R_far (p := ⟨gb912, 7, none⟩) (Kd.R_far (p := ⟨gb912, 6, none⟩) (Kd.R_far (p := ⟨gb912, 5, none⟩) (Kd.R_far (p := ⟨gb912, 4, none⟩) (Kd.R_far (p := ⟨gb912, 3, none⟩) (Kd.R_far (p := ⟨gb912, 2, none⟩) (Kd.R_far (p := ⟨gb912, 1, none⟩) (Kd.R_far (p := ⟨gb912, 0, none⟩) (Kd.R_mono HO910.out (fun k_ hk => (⟨hk, hk.2⟩ : _ ∧ k_ ≠ gb912))) (fun _ hk => hk.2) (.string t901)) (fun _ hk => hk.2) (.int .i64 t902)) (fun _ hk => hk.2) (.bool t903)) (fun _ hk => hk.2) (.int .i64 t904)) (fun _ hk => hk.2) (.int .u64 t905)) (fun _ hk => hk.2) (.float .f64 t906)) (fun _ hk => hk.2) (.string t907)) (fun _ hk => hk.2) (.slice Ao84 t908.length co84)) (fun _ h_ => h_.1))) hb); have n2_ := Aside0.mk (blk_below (g := gb912) (o := .cells #[.string t901, .int .i64 t902, .bool t903, .int .i64 t904, .int .u64 t905, .float .f64 t906, .string t907, .slice Ao84 t908.length co84] 34 (0, 0)) (by (with_reducible repeat (first | refine blk_drewN ?_ _ | refine blk_drew ?_ | refine blk_alloc ?_ _)); refine blk_put (cs := #[.string t901, .int .i64 t902, .bool t903, .int .i64 t904, .int .u64 t905, .float .f64 t906, .string t907, .slice none 0 0]) ?_ 7 _ rfl; (with_reducible repeat (first | refine blk_drewN ?_ _ | refine blk_drew ?_ | refine blk_alloc ?_ _)); refine blk_put (cs := #[.string t901, .int .i64 t902, .bool t903, .int .i64 t904, .int .u64 t905, .float .f64 t906, .string (⟨#[]⟩ : ByteArray), .slice none 0 0]) ?_ 6 _ rfl; (with_reducible repeat (first | refine blk_drewN ?_ _ | refine blk_drew ?_ | refine blk_alloc ?_ _)); refine blk_put (cs := #[.string t901, .int .i64 t902, .bool t903, .int .i64 t904, .int .u64 t905, .float .f64 0, .string (⟨#[]⟩ : ByteArray), .slice none 0 0]) ?_ 5 _ rfl; (with_reducible repeat (first | refine blk_drewN ?_ _ | refine blk_drew ?_ | refine blk_alloc ?_ _)); refine blk_put (cs := #[.string t901, .int .i64 t902, .bool t903, .int .i64 t904, .int .u64 0, .float .f64 0, .string (⟨#[]⟩ : ByteArray), .slice none 0 0]) ?_ 4 _ rfl; (with_reducible repeat (first | refine blk_drewN ?_ _ | refine blk_drew ?_ | refine blk_alloc ?_ _)); refine blk_put (cs := #[.string t901, .int .i64 t902, .bool t903, .int .i64 0, .int .u64 0, .float .f64 0, .string (⟨#[]⟩ : ByteArray), .slice none 0 0]) ?_ 3 _ rfl; (with_reducible repeat (first | refine blk_drewN ?_ _ | refine blk_drew ?_ | refine blk_alloc ?_ _)); refine blk_put (cs := #[.string t901, .int .i64 t902, .bool false, .int .i64 0, .int .u64 0, .float .f64 0, .string (⟨#[]⟩ : ByteArray), .slice none 0 0]) ?_ 2 _ rfl; (with_reducible repeat (first | refine blk_drewN ?_ _ | refine blk_drew ?_ | refine blk_alloc ?_ _)); refine blk_put (cs := #[.string t901, .int .i64 0, .bool false, .int .i64 0, .int .u64 0, .float .f64 0, .string (⟨#[]⟩ : ByteArray), .slice none 0 0]) ?_ 1 _ rfl; (with_reducible repeat (first | refine blk_drewN ?_ _ | refine blk_drew ?_ | refine blk_alloc ?_ _)); refine blk_put (cs := #[.string (⟨#[]⟩ : ByteArray), .int .i64 0, .bool false, .int .i64 0, .int .u64 0, .float .f64 0, .string (⟨#[]⟩ : ByteArray), .slice none 0 0]) ?_ 0 _ rfl; (with_reducible repeat (first | refine blk_drewN ?_ _ | refine blk_drew ?_ | refine blk_alloc ?_ _)); exact BK912.out) hb); have n3_ := Aside0.mk (below_step (by repeat (first | (with_reducible first | exact HB.out | apply below_alloc | apply pw_below_drewN | apply below_drew1 | refine below_set ?_ GE912.out) | exact HB.out)) hb); clear HO897; clear HO910; clear BK912; clear HB; have HO897 := n0_; have HO910 := n1_; have BK912 := n2_; have HB := n3_; clear n0_ n1_ n2_ n3_; (try clear hb); (try clear hb2); (try clear hk); (try clear hi)))
         go_ret
         exact ⟨by first | rfl | (simp [errW_none, errW_some] <;> rfl) | (simp [*, errW_none, errW_some] <;> rfl), by repeat (first | (with_reducible first | exact HB.out | apply below_alloc | apply pw_below_drewN | apply below_drew1 | refine below_set ?_ GE912.out) | exact HB.out)⟩
       · rw [if_neg c78] at H
         have c78b0 : (t911 == 1) = false := beq_eq_false_iff_ne.mpr c78
         have c78b1 : (t911 != 1) = true := bne_iff_ne.mpr c78
         obtain rfl := Option.some.inj H
         go_enter Tryz.func9, Tryz.ntmps9
         go_wp2_with (first | (go_at_call 10; (with_reducible refine (spec_LoadavgRead.calls k a0 t895 false t899 _ A6.out).mono ?_); rintro e w86 ⟨v896, rfl, ho0, hb⟩; have n0_ := Aside0.mk (Kd.V_lower (Kd.V_mono (ok' := fun k_ => True) ho0 (fun k_ hk_ => trivial)) (below_size (by repeat (first | (with_reducible first | exact HB.out | apply below_alloc | apply pw_below_drewN | apply below_drew1) | exact HB.out)))); have n1_ := Aside0.mk (below_step (by repeat (first | (with_reducible first | exact HB.out | apply below_alloc | apply pw_below_drewN | apply below_drew1) | exact HB.out)) hb); clear HB; have HO897 := n0_; have HB := n1_; clear n0_ n1_; (try clear hb); (try clear hb2); (try clear hk); (try clear hi); (try clear ho0)) | (go_at_call 12; (with_reducible refine (impl_Loadavg.calls a0 t901 t902 t903 t904 t905 t906 t907 t908 t911 _ A8.out).mono ?_); rintro e w87 ⟨v909, rfl, ho0, hb⟩; have n0_ := Aside0.mk (Kd.V_elder' (by (with_reducible repeat (first | apply Kd.V_alloc | apply Kd.V_drewN | apply Kd.V_drew)); exact HO897.out) (Kd.R_base ho0) hb); have n1_ := Aside0.mk (Kd.R_lower ho0 (below_size (by repeat (first | (with_reducible first | exact HB.out | apply below_alloc | apply pw_below_drewN | apply below_drew1) | exact HB.out)))); have n2_ := Aside0.mk (below_step (by repeat (first | (with_reducible first | exact HB.out | apply below_alloc | apply pw_below_drewN | apply below_drew1) | exact HB.out)) hb); clear HO897; clear HB; have HO897 := n0_; have HO910 := n1_; have HB := n2_; clear n0_ n1_ n2_; (try clear hb); (try clear hb2); (try clear hk); (try clear hi); (try clear ho0)) | ((with_reducible refine gate_dst (N := 12) rfl ?_); refine box_event ?hg (N := 12) ?hd (cs := #[.string (⟨#[]⟩ : ByteArray), .int .i64 0, .bool false, .int .i64 0, .int .u64 0, .float .f64 0, .string (⟨#[]⟩ : ByteArray), .slice none 0 0]) (t := 34) ?hr ?_; (case hd => rfl); (case hg => rfl); (case hr => first | (go_simp; done) | (go_simp; rfl)); intro gb912 hg w88 hbox hb; have n0_ := Aside0.mk (Kd.V_below (Kd.V_elderB (by (with_reducible repeat (first | apply Kd.V_alloc | apply Kd.V_drewN | apply Kd.V_drew)); exact HO897.out) gb912 (Nat.le_of_eq hg.symm)) hb); have n1_ := Aside0.mk (Kd.R_below (Kd.R_elderB (by (with_reducible repeat (first | apply Kd.R_alloc | apply Kd.R_drewN | apply Kd.R_drew)); exact HO910.out) gb912 (Nat.le_of_eq hg.symm)) hb); have n2_ := Aside0.mk (below_step (by repeat (first | (with_reducible first | exact HB.out | apply below_alloc | apply pw_below_drewN | apply below_drew1) | exact HB.out)) hb); have n3_ := Aside0.mk (hbox); have n4_ := Aside0.mk ((by rw [hg]; exact (below_size (by repeat (first | (with_reducible first | exact HB.out | apply below_alloc | apply pw_below_drewN | apply below_drew1) | exact HB.out))) : w.heap.size ≤ gb912)); have n5_ := Aside0.mk ((by rw [hg]; exact (below_size (by repeat (first | (with_reducible first | exact HB.out | apply below_alloc | apply pw_below_drewN | apply below_drew1) | exact HB.out))) : w.heap.size ≤ gb912)); clear HO897; clear HO910; clear HB; have HO897 := n0_; have HO910 := n1_; have HB := n2_; have BK912 := n3_; have GW912 := n4_; have GE912 := n5_; clear n0_ n1_ n2_ n3_ n4_ n5_; clear hb hbox hg; have hcz89_0 : w88.cell? ⟨gb912, 0, none⟩ = some (.string (⟨#[]⟩ : ByteArray)) := (blk_cell BK912.out 0).trans rfl; have hcz89_1 : w88.cell? ⟨gb912, 1, none⟩ = some (.int .i64 0) := (blk_cell BK912.out 1).trans rfl; have hcz89_2 : w88.cell? ⟨gb912, 2, none⟩ = some (.bool false) := (blk_cell BK912.out 2).trans rfl; have hcz89_3 : w88.cell? ⟨gb912, 3, none⟩ = some (.int .i64 0) := (blk_cell BK912.out 3).trans rfl; have hcz89_4 : w88.cell? ⟨gb912, 4, none⟩ = some (.int .u64 0) := (blk_cell BK912.out 4).trans rfl; have hcz89_5 : w88.cell? ⟨gb912, 5, none⟩ = some (.float .f64 0) := (blk_cell BK912.out 5).trans rfl; have hcz89_6 : w88.cell? ⟨gb912, 6, none⟩ = some (.string (⟨#[]⟩ : ByteArray)) := (blk_cell BK912.out 6).trans rfl; have hcz89_7 : w88.cell? ⟨gb912, 7, none⟩ = some (.slice none 0 0) := (blk_cell BK912.out 7).trans rfl; have hfz89_0 := blk_frozen BK912.out 0; have hfz89_1 := blk_frozen BK912.out 1; have hfz89_2 := blk_frozen BK912.out 2; have hfz89_3 := blk_frozen BK912.out 3; have hfz89_4 := blk_frozen BK912.out 4; have hfz89_5 := blk_frozen BK912.out 5; have hfz89_6 := blk_frozen BK912.out 6; have hfz89_7 := blk_frozen BK912.out 7; obtain ⟨Ao90, co90, eo90⟩ := Kd.R_slice HO910.out; subst eo90))
         go_ret
         exact ⟨by first | rfl | (simp [errW_none, errW_some] <;> rfl) | (simp [*, errW_none, errW_some] <;> rfl), by repeat (first | (with_reducible first | exact HB.out | apply below_alloc | apply pw_below_drewN | apply below_drew1 | refine below_set ?_ GE912.out) | exact HB.out)⟩
   · rw [if_neg c7] at H
     have c7b0 : (t899 == 1) = false := beq_eq_false_iff_ne.mpr c7
     have c7b1 : (t899 != 1) = true := bne_iff_ne.mpr c7
     replace H := Option.bind_eq_some_iff.mp H
     obtain ⟨t900, A910, H⟩ := H
     replace H : (some t900) = some r := H
     have A91 := Aside0.mk A910
     clear A910
     obtain rfl := Option.some.inj H
     go_enter Tryz.func9, Tryz.ntmps9
     go_wp2_with (first | (go_at_call 10; (with_reducible refine (spec_LoadavgRead.calls k a0 t895 t898 t899 _ A6.out).mono ?_); rintro e w92 ⟨v896, rfl, ho0, hb⟩; have n0_ := Aside0.mk (Kd.V_lower (Kd.V_mono (ok' := fun k_ => True) ho0 (fun k_ hk_ => trivial)) (below_size (by repeat (first | (with_reducible first | exact HB.out | apply below_alloc | apply pw_below_drewN | apply below_drew1) | exact HB.out)))); have n1_ := Aside0.mk (below_step (by repeat (first | (with_reducible first | exact HB.out | apply below_alloc | apply pw_below_drewN | apply below_drew1) | exact HB.out)) hb); clear HB; have HO897 := n0_; have HB := n1_; clear n0_ n1_; (try clear hb); (try clear hb2); (try clear hk); (try clear hi); (try clear ho0)) | ((with_reducible refine gate_callee (f := 28) rfl ?_); refine goesL_ (some 27) rfl rfl Tryz.func28 (by kernel_rfl) rfl #[] rfl (by (try simp only [List.map_toArray, List.map_cons, List.map_nil]); first | done | rfl | (simp only [List.length_drop, List.length_take]; rfl)) ?_; (with_reducible refine (laws_lives.calls  t900 _ A91.out).mono ?_); rintro e w93 ⟨rfl, hb⟩; refine ⟨_, rfl, ?_⟩; have n0_ := Aside0.mk (Kd.V_below (by (with_reducible repeat (first | apply Kd.V_alloc | apply Kd.V_drewN | apply Kd.V_drew)); exact HO897.out) hb); have n1_ := Aside0.mk (below_step (by repeat (first | (with_reducible first | exact HB.out | apply below_alloc | apply pw_below_drewN | apply below_drew1) | exact HB.out)) hb); clear HO897; clear HB; have HO897 := n0_; have HB := n1_; clear n0_ n1_; (try clear hb); (try clear hb2); (try clear hk); (try clear hi)))
     go_ret
     exact ⟨by first | rfl | (simp [errW_none, errW_some] <;> rfl) | (simp [*, errW_none, errW_some] <;> rfl), by repeat (first | (with_reducible first | exact HB.out | apply below_alloc | apply pw_below_drewN | apply below_drew1) | exact HB.out)⟩
end Go.Proofs.YtabfehcpcjcomaaGreatDoor.QA0
namespace Go.Proofs.YtabfehcpcjcomaaGreatDoor.QA0
open Go.RowKit Go.Proofs.YtabfehcpcjcomaaGreatDoorW.PrintWords Go.Proofs.YtabfehcpcjcomaaGreatDoorW.PrintLast Go.Proofs.YtabfehcpcjcomaaGreatDoorW.PrintMore
attribute [local go_sem] max2_int min2_int max_two min_two max_three min_three max_four min_four
set_option linter.unusedVariables false
set_option linter.unusedSimpArgs false
def laws_FnLoadavgRead.f (k : Nat) (a0 : ByteArray) : Option (Bool) := if (a0.size : Int) > 2147483647 then (some true) else ((laws_read_10_11_12.f k a0 () () ()).bind fun t939 => (some t939))
set_option maxHeartbeats 8000000 in
set_option maxRecDepth 100000 in
theorem laws_FnLoadavgRead.calls (k : Nat) (a0 : ByteArray) (r : Bool) (w : World) (h : laws_FnLoadavgRead.f k a0 = some r) (hTabs : R.LTabs w := by first | assumption | exact Aside0.out ‹Aside0 (R.LTabs _)› | exact R.LTabs.below (Aside0.out ‹Aside0 (R.LTabs _)›) (by repeat (first | (with_reducible first | exact Aside0.out ‹Aside0 (Below _ _ _)› | exact Below.refl _ _ | apply below_alloc | apply pw_below_drewN | apply below_drew1)))) :
 Calls Tryz.prog 3 #[.string a0] w fun e w' => e = .returned (.bool r) ∧ Below w.heap.size w w' := by
 have HTabs := Aside0.mk hTabs
 clear hTabs
 have HB := Aside0.mk (Below.refl w.heap.size w)
 have H : (if (a0.size : Int) > 2147483647 then (some true) else ((laws_read_10_11_12.f k a0 () () ()).bind fun t939 => (some t939))) = some r := h
 clear h
 by_cases c2 : (a0.size : Int) > 2147483647
 · rw [if_pos c2] at H
   have c2b0 : decide (2147483647 < (a0.size : Int)) = true := decide_eq_true c2
   have c2b1 : decide (2147483647 < a0.size) = true := decide_eq_true (by omega)
   clear c2
   obtain rfl := Option.some.inj H
   go_enter Tryz.func3, Tryz.ntmps3
   go_wp2
   go_ret
   exact ⟨by first | rfl | (simp [errW_none, errW_some] <;> rfl) | (simp [*, errW_none, errW_some] <;> rfl), by repeat (first | (with_reducible first | exact HB.out | apply below_alloc | apply pw_below_drewN | apply below_drew1) | exact HB.out)⟩
 · rw [if_neg c2] at H
   have c2b0 : decide (2147483647 < (a0.size : Int)) = false := decide_eq_false c2
   have c2b1 : decide (2147483647 < a0.size) = false := decide_eq_false (by omega)
   clear c2
   replace H := Option.bind_eq_some_iff.mp H
   obtain ⟨t939, A30, H⟩ := H
   replace H : (some t939) = some r := H
   have A3 := Aside0.mk A30
   clear A30
   obtain rfl := Option.some.inj H
   go_enter Tryz.func3, Tryz.ntmps3
   go_wp2_with (first | ((with_reducible refine gate_callee (f := 9) rfl ?_); refine goesL_ (some 7) rfl rfl Tryz.func9 (by kernel_rfl) rfl #[.string a0, .func (.func 10) #[] #[], .func (.func 11) #[] #[], .func (.func 12) #[] #[]] rfl (by (try simp only [List.map_toArray, List.map_cons, List.map_nil]); first | done | rfl | (simp only [List.length_drop, List.length_take]; rfl)) ?_; (with_reducible refine (laws_read_10_11_12.calls k a0 () () () t939 _ A3.out).mono ?_); rintro e w4 ⟨rfl, hb⟩; refine ⟨_, rfl, ?_⟩; have n0_ := Aside0.mk (below_step (by repeat (first | (with_reducible first | exact HB.out | apply below_alloc | apply pw_below_drewN | apply below_drew1) | exact HB.out)) hb); clear HB; have HB := n0_; clear n0_; (try clear hb); (try clear hb2); (try clear hk); (try clear hi)))
   go_ret
   exact ⟨by first | rfl | (simp [errW_none, errW_some] <;> rfl) | (simp [*, errW_none, errW_some] <;> rfl), by repeat (first | (with_reducible first | exact HB.out | apply below_alloc | apply pw_below_drewN | apply below_drew1) | exact HB.out)⟩
def laws_FnLoadavgRead.Pure : Prop := ∀ (a0 : ByteArray), a0.size ≤ 140737488351232 → ∃ k, laws_FnLoadavgRead.f k a0 = some true
theorem laws_FnLoadavgRead.walk (P : laws_FnLoadavgRead.Pure) (a0 : ByteArray) (w : World) (w0 : a0.size ≤ 140737488351232) (hTabs : R.LTabs w) :
 Calls Tryz.prog 3 #[.string a0] w fun e w' => e = .returned (.bool true) ∧ Below w.heap.size w w' := by
 obtain ⟨k, h⟩ := P a0 w0
 refine (laws_FnLoadavgRead.calls k a0 true w h).mono ?_
 rintro e w' ⟨rfl, hd⟩
 exact ⟨rfl, hd⟩
end Go.Proofs.YtabfehcpcjcomaaGreatDoor.QA0
namespace Go.Proofs.YtabfehcpcjcomaaGreatDoor.R
open Go.RowKit Go.Proofs.YtabfehcpcjcomaaGreatDoor.QA0 Go.Proofs.YtabfehcpcjcomaaGreatDoorW.PrintWords Go.Proofs.YtabfehcpcjcomaaGreatDoorW.PrintLast Go.Proofs.YtabfehcpcjcomaaGreatDoorW.PrintMore
set_option linter.unusedVariables false
set_option linter.unusedSimpArgs false
def loadKids (q0 q1 q2 : Nat) : List S38 := [⟨⟨#[76, 111, 97, 100, 49]⟩, 4, false, 0, 0, q0, ⟨#[]⟩, []⟩, ⟨⟨#[76, 111, 97, 100, 53]⟩, 4, false, 0, 0, q1, ⟨#[]⟩, []⟩, ⟨⟨#[76, 111, 97, 100, 49, 53]⟩, 4, false, 0, 0, q2, ⟨#[]⟩, []⟩]
def loadKids4 (q0 q1 q2 : Nat) : List S34 := [⟨⟨#[76, 111, 97, 100, 49]⟩, 4, false, 0, 0, q0, ⟨#[]⟩, []⟩, ⟨⟨#[76, 111, 97, 100, 53]⟩, 4, false, 0, 0, q1, ⟨#[]⟩, []⟩, ⟨⟨#[76, 111, 97, 100, 49, 53]⟩, 4, false, 0, 0, q2, ⟨#[]⟩, []⟩]
theorem load_tree (a b c d e f : Int) (hu : ∀ x ∈ [a, b, c, d, e, f], U64 x) (hb : Below40 [a, b, c, d, e, f]) (q0 q1 q2 : Nat) (h0 : hundredthF a = some q0) (h1 : hundredthF b = some q1) (h2 : hundredthF c = some q2) :
    Ev (fun k => spec_LoadavgTree.f k (rowsOf [a, b, c, d, e, f])) ((⟨#[]⟩ : ByteArray), 8, false, 0, 0, 0, (⟨#[]⟩ : ByteArray), loadKids q0 q1 q2, 1) := by
  obtain ⟨r, hr, hp⟩ := loadp_ends [a, b, c, d, e, f] hu
  have hr1 := hp.1 rfl hb
  unfold spec_LoadavgTree.f
  refine Ev.bind hr ?_
  have e1 : ((rowsOf [a, b, c, d, e, f]).length : Int) = 1 := rfl
  have e2 : (rd_T48 (rowsOf [a, b, c, d, e, f]) 0) = ⟨⟨#[]⟩, [a, b, c, d, e, f], []⟩ := rfl
  have hl : (([a, b, c, d, e, f] : List Int).length : Int) = 6 := rfl
  have r0 : rd [a, b, c, d, e, f] 0 = a := rfl
  have r1 : rd [a, b, c, d, e, f] 1 = b := rfl
  have r2 : rd [a, b, c, d, e, f] 2 = c := rfl
  have g0 : spec_hundredth.f a = some q0 := h0
  have g1 : spec_hundredth.f b = some q1 := h1
  have g2 : spec_hundredth.f c = some q2 := h2
  simp only [if_pos hr1, if_pos (show (0 : Int) < ((rowsOf [a, b, c, d, e, f]).length : Int) by rw [e1]; omega), e2, hl, r0, r1, r2, if_pos (show (0 : Int) < 6 by omega), if_pos (show (1 : Int) < 6 by omega), if_pos (show (2 : Int) < 6 by omega), g0, g1, g2, Option.bind_some, spec_floatNode.f, spec_recordNode.f]
  exact Ev.now _
theorem loads_text (T : ByteArray) (hs : T.size ≤ 40000) (a b c d e f : Int) (hT : T = B (loadB [a, b, c, d, e, f])) (q0 q1 q2 : Nat) (h0 : floatF (B (hundB a.toNat)) 64 = some (q0, none)) (h1 : floatF (B (hundB b.toNat)) 64 = some (q1, none)) (h2 : floatF (B (hundB c.toNat)) 64 = some (q2, none)) :
    loadsOf T = some (q0, q1, q2) := by
  have hasc : Asc T = true := by
    unfold Asc
    rw [hT, B_data]
    exact load_asc a b c d e f
  have hfi : fieldsF T = some ([hundB a.toNat, hundB b.toNat, hundB c.toNat, Lib.decDigits d.toNat ++ 47 :: Lib.decDigits e.toNat, Lib.decDigits f.toNat].map bs) := by
    unfold fieldsF
    rw [if_pos ⟨by omega, hasc⟩, hT, B_data, load_fields]
  have g0 : floatF (bs (hundB a.toNat)) 64 = some (q0, none) := h0
  have g1 : floatF (bs (hundB b.toNat)) 64 = some (q1, none) := h1
  have g2 : floatF (bs (hundB c.toNat)) 64 = some (q2, none) := h2
  unfold loadsOf
  simp only [hfi, Option.bind_some, List.map_cons, List.map_nil, firstThree, g0, g1, g2, Option.map_some]
theorem impl_load (T : ByteArray) (q0 q1 q2 : Nat) (h : loadsOf T = some (q0, q1, q2)) : impl_Loadavg.f T = some ((⟨#[]⟩ : ByteArray), 8, false, 0, 0, 0, (⟨#[]⟩ : ByteArray), loadKids4 q0 q1 q2, 0) := by
  unfold impl_Loadavg.f impl_procfsLoadAvg.f
  rw [h]
  rfl
theorem loadavg_pure : laws_FnLoadavgRead.Pure := by
  intro a0 hz
  refine Ev.rounds (g := fun k => laws_FnLoadavgRead.f k a0) ?_
  unfold laws_FnLoadavgRead.f
  by_cases c : (a0.size : Int) > 2147483647
  · simp only [if_pos c]; exact Ev.now _
  · simp only [if_neg c]
    refine Ev.bind ?_ (Ev.now _)
    unfold laws_read_10_11_12.f
    by_cases d : (a0.size : Int) > 40000
    · simp only [if_pos d]; exact Ev.now _
    · simp only [if_neg d]
      have hs : a0.size ≤ 40000 := by omega
      obtain ⟨r, hr, hp⟩ := load_read a0 hs
      refine Ev.bind hr ?_
      by_cases e : r.2.2 = 1
      · obtain ⟨N, h6, hu, hb, hT, h1, h2⟩ := hp e
        obtain ⟨x0, x1, x2, x3, x4, x5, rfl⟩ := len_six h6
        have f0 : ∃ q, floatF (B (hundB x0.toNat)) 64 = some (q, none) ∧ hundredthF x0 = some q := by
          have u := hu x0 (by simp)
          have v := hb x0 (by simp)
          unfold U64 at u
          have g := float_hund x0.toNat (by omega)
          rw [show ((x0.toNat : Nat) : Int) = x0 by omega] at g
          exact g
        have f1 : ∃ q, floatF (B (hundB x1.toNat)) 64 = some (q, none) ∧ hundredthF x1 = some q := by
          have u := hu x1 (by simp)
          have v := hb x1 (by simp)
          unfold U64 at u
          have g := float_hund x1.toNat (by omega)
          rw [show ((x1.toNat : Nat) : Int) = x1 by omega] at g
          exact g
        have f2 : ∃ q, floatF (B (hundB x2.toNat)) 64 = some (q, none) ∧ hundredthF x2 = some q := by
          have u := hu x2 (by simp)
          have v := hb x2 (by simp)
          unfold U64 at u
          have g := float_hund x2.toNat (by omega)
          rw [show ((x2.toNat : Nat) : Int) = x2 by omega] at g
          exact g
        obtain ⟨q0, f0, p0⟩ := f0
        obtain ⟨q1, f1, p1⟩ := f1
        obtain ⟨q2, f2, p2⟩ := f2
        have hi := impl_load a0 q0 q1 q2 (loads_text a0 hs x0 x1 x2 x3 x4 x5 hT q0 q1 q2 f0 f1 f2)
        simp only [if_pos e, hi, Option.bind_some, if_pos h2, h1]
        refine Ev.bind (load_tree x0 x1 x2 x3 x4 x5 hu hb q0 q1 q2 p0 p1 p2) ?_
        simp only [if_true]
        have hn := cast_node (n := ⟨#[]⟩) (kd := 8) (b := false) (i := 0) (u := 0) (f := 0) (s := ⟨#[]⟩) (l := loadKids4 q0 q1 q2) (l' := loadKids q0 q1 q2) (by simp [loadKids4]) (.cons cast_leaf (.cons cast_leaf (.cons cast_leaf .nil)))
        refine Ev.bind hn ?_
        have hm := same_node (n := ⟨#[]⟩) (kd := 8) (b := false) (i := 0) (u := 0) (f := 0) (s := ⟨#[]⟩) (l := loadKids q0 q1 q2) (by simp [loadKids]) (by
          intro x hx
          simp only [loadKids, List.mem_cons, List.not_mem_nil, or_false] at hx
          rcases hx with rfl | rfl | rfl <;> exact same_leaf)
        refine Ev.bind hm ?_
        simp only [if_true, laws_lives.f, Option.bind_some]
        exact Ev.now _
      · simp only [if_neg e, laws_lives.f, Option.bind_some]
        exact Ev.now _
end Go.Proofs.YtabfehcpcjcomaaGreatDoor.R
namespace Go.Proofs.YtabfehcpcjcomaaGreatDoor.fnLoadavgRead
open Go.ChangeShapes Go.WideShapes Go.ChangeAt Go.RowKit
open Go.ChangeMaps (open_string shut_string)
open Go.Proofs.YtabfehcpcjcomaaGreatDoorW.PrintWords Go.Proofs.YtabfehcpcjcomaaGreatDoor.R Go.Proofs.YtabfehcpcjcomaaGreatDoor.Ck
set_option linter.unusedVariables false
set_option linter.unusedSimpArgs false
theorem witness_row (os : Os) {H : Type} (enc : TypeId × Value → H) :
    (OpenSpec.ofChange Rows.fnLoadavgReadSpec).preRow enc Tryz.prog Tryz.f3 Rows.fnLoadavgReadRow.domain false Rows.fnLoadavgReadRow.laid ((laidWorld os).forCall (fun _ _ => 0) ⟨#[], #[.string ⟨#[]⟩], []⟩).memory #[.string ⟨#[]⟩] := by
  have hw : (DataW.whole enc Tryz.prog ((laidWorld os).forCall (fun _ _ => 0) ⟨#[], #[.string ⟨#[]⟩], []⟩).memory Tryz.f3.params.toList Rows.fnLoadavgReadSpec.vars false (#[.string ⟨#[]⟩] : Array Value).toList 8).map (fun x => (x.1, x.2.1)) =
      some ([.lit (.string [])], []) := by kernel_rfl
  obtain ⟨⟨x1, x2, x3⟩, hx, hx1⟩ := Option.map_eq_some_iff.1 hw
  simp only [Prod.mk.injEq] at hx1
  obtain ⟨rfl, rfl⟩ := hx1
  exact OpenSpec.preRow_of_cond 8 hx (by kernel_rfl) (fun k hk => by cases hk) (by kernel_rfl) (laid_met os _)
set_option maxRecDepth 100000 in
theorem lifted (os : Os) (started : os.Started) (H : Type) (enc : TypeId × Value → H) (F : Stop.Interp) :
    ReturnsInHanded {} Tryz.checked os 3 .any ((OpenSpec.ofChange Rows.fnLoadavgReadSpec).preRow enc Tryz.prog Tryz.f3 Rows.fnLoadavgReadRow.domain false Rows.fnLoadavgReadRow.laid) (((OpenSpec.ofChange Rows.fnLoadavgReadSpec).at F).post enc Tryz.prog Tryz.f3 false true false false) := by
  refine returnsInHanded_of_row (C := Tryz.checked) (s := OpenSpec.ofChange Rows.fnLoadavgReadSpec) own started (by kernel_rfl) Tryz.func3
    (witness_row_atRef (enc := enc) (C := Tryz.checked) false (laidWorld os) #[.string ⟨#[]⟩] rfl (vars_ok os _) (by kernel_rfl) (by kernel_rfl) (witness_row os enc)) ?_
  intro W base args ds gs before hval0 hW hcnd _ hsz0 hL hsh _
  have hsz : (DataW.weightsEach Tryz.prog (Tryz.f3.params.toList ++ (OpenSpec.ofChange Rows.fnLoadavgReadSpec).bare.plain.varTypes Tryz.prog) (ds ++ gs)).all (· ≤ reachBytes) = true := hsz0
  have hval : ∀ (j : Nat) t v, Tryz.f3.params[j]? = some t → args[j]? = some v → Value.okWide Tryz.prog W .any base t v := hval0
  have hW' := hW
  obtain ⟨p, q, hA0, hV, rfl, hfz, hnd⟩ := hW
  have hA : DataW.TrodAll enc Tryz.prog W 0 (fun _ => true) true Tryz.f3.params.toList args.toList ds p := hA0
  rw [Tryz.params3] at hA hval hsz
  obtain ⟨v0, vs0, d0, ds0, p0, q0, hargs, rfl, rfl, h0, r0⟩ := trodAll_cons hA
  obtain ⟨rfl, rfl, rfl⟩ := trodAll_nil r0
  obtain rfl : args = #[v0] := by cases args; simp_all
  obtain ⟨rfl, rfl⟩ := trodVars_none hV
  obtain ⟨a0, rfl, rfl, rfl, y0⟩ := open_string Tryz.underlying9 (hval 0 9 v0 rfl rfl) h0
  have w0 : a0.size ≤ 140737488351232 := by
    have z := sized_string hsz (j := 0) (t := 9) rfl rfl
    rw [Array.length_toList] at z
    exact z
  clear hA0 hval0 hsz0 hsz
  refine (QA0.laws_FnLoadavgRead.walk loadavg_pure a0 W w0 (tabs_of (show laidMetH Tryz.prog rowL W from hL))).mono fun e W' ⟨he, bel⟩ => ?_
  subst he
  exact ⟨_, rfl, _, _, _, [], _, [], hW', trodAll_mk1 (shut_bool Tryz.underlying4 _), (trodAll_cons_mk (shut_string Tryz.underlying9 y0) trodAll_mk0), rfl, bel.frame _, fun h => by cases h⟩
theorem said : Rows.FnLoadavgReadSaid :=
  OpenClaim.holds_of_cond 3 Tryz.f3 rfl rfl rfl rfl rfl rfl rfl ⟨rfl, rfl, rfl, rfl, rfl⟩ rfl rfl rfl rfl rfl (by kernel_rfl) Tryz.func3 (by kernel_rfl)
    (of_decide_eq_true (by kernel_rfl)) (by unfold Func.isWrapper; first | (rw [if_pos (by decide +kernel)]; kernel_rfl) | (rw [if_neg (by decide +kernel)]; exact ⟨rfl, rfl⟩))
    (fun os started H enc _ F => by rw [OpenClaim.pre_eq_preRow]; exact lifted os started H enc F)
theorem plain (f : FuncId) (fn : Func) (hf : Tryz.pinned.checked.prog.funcNamed "pub-frontispiece/laws.FnLoadavgRead" = some f) (hfn : Tryz.pinned.checked.prog.funcs[f]? = some fn) :
    true = Tryz.pinned.checked.prog.looks [] ∧ ∀ (j : Nat) t, fn.params[j]? = some t → Tryz.pinned.checked.prog.wantsStandIn t = false := by
  obtain rfl : f = 3 := Option.some.inj ((show Tryz.prog.funcNamed "pub-frontispiece/laws.FnLoadavgRead" = some 3 by kernel_rfl).symm.trans hf) |>.symm
  obtain rfl : fn = Tryz.f3 := (Option.some.inj (Tryz.func3.symm.trans hfn)).symm
  refine ⟨by kernel_rfl, fun j t ht => ?_⟩
  rw [Tryz.params3] at ht
  obtain rfl : t = 9 := by simpa using Array.mem_of_getElem? ht
  exact (show Tryz.prog.wantsStandIn 9 = false by kernel_rfl)
theorem card : Rows.FnLoadavgReadCardSaid :=
  Claim7.holds_tied_plain_at .later [] _ _ _ _ said (fun _ h => by cases h) (by kernel_rfl) (fun _ h => by cases h) fnLoadavgRead_row_tie rfl ⟨rfl, rfl⟩ (by kernel_rfl) rfl plain (by kernel_rfl)
#print axioms card
end Go.Proofs.YtabfehcpcjcomaaGreatDoor.fnLoadavgRead
namespace Go.Proofs.YtabfehcpcjcomaaGreatDoor
theorem fnLoadavgRead_card_holds : Rows.FnLoadavgReadCardSaid := fnLoadavgRead.card
end Go.Proofs.YtabfehcpcjcomaaGreatDoor
