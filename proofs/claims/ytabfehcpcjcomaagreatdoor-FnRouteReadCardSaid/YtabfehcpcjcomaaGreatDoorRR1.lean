/- The texts Pa, Pe, Pg, Ph, Pi, Pb, Pj, Ca, Cb, Ra, Rb, QA0xR, Re, CardFnRouteRead, without what the claims do not use, laid together by a program of this session (wip/tools/bundle.py). Conditions: those of each theorem. -/
import Derived.Test.YtabfehcpcjcomaaGreatDoorRc7
import Derived.Test.YtabfehcpcjcomaaGreatDoorRc9
import Derived.Lib.ItoaLen
import Derived.Lib.Fields
import Derived.ShutString
import Derived.ChangeOld
namespace Go.Proofs.YtabfehcpcjcomaaGreatDoor.R
open Go.RowKit Go.Proofs.YtabfehcpcjcomaaGreatDoor.QA0 Go.Proofs.YtabfehcpcjcomaaGreatDoorW.PrintWords Go.Proofs.YtabfehcpcjcomaaGreatDoorW.PrintLast Go.Proofs.YtabfehcpcjcomaaGreatDoorW.PrintMore
set_option linter.unusedVariables false
set_option linter.unusedSimpArgs false
def Ends {α : Type} (g : Nat → Option α) (P : α → Prop) : Prop := ∃ r, Ev g r ∧ P r
section
variable {α β : Type} {g f : Nat → Option α} {P : α → Prop}
theorem Ends.step (h : ∀ k, g (k + 1) = f k) (k : Ends f P) : Ends g P := by
  obtain ⟨r, k, hp⟩ := k
  exact ⟨r, Ev.step h k, hp⟩
theorem Ends.now {r : α} (h : P r) : Ends (fun _ => some r) P := ⟨r, Ev.now r, h⟩
theorem Ends.bind {Q : β → Prop} {h : Nat → α → Option β} (a : Ends g P) (k : ∀ x, P x → Ends (fun n => h n x) Q) : Ends (fun n => (g n).bind (h n)) Q := by
  obtain ⟨r, e, hp⟩ := a
  obtain ⟨q, e', hq⟩ := k r hp
  exact ⟨q, Ev.bind e e', hq⟩
theorem Ends.mono {Q : α → Prop} (a : Ends g P) (h : ∀ x, P x → Q x) : Ends g Q := by
  obtain ⟨r, e, hp⟩ := a
  exact ⟨r, e, h r hp⟩
theorem Ends.ev {r : α} (h : Ev g r) : Ends g (fun x => x = r) := ⟨r, h, rfl⟩
end
def U64 (n : Int) : Prop := 0 ≤ n ∧ n < 18446744073709551616
theorem wU (z : Int) : U64 (IntKind.u64.wrap z) := by
  unfold U64
  simp [IntKind.wrap, IntKind.bits, IntKind.signed]
  omega
theorem digit_ends (c : Int) : Ends (fun k => spec_digit.f k c) (fun _ => True) := by
  have key : ∀ b : Bool, Ends (fun k => spec_digit.j1 k c b) (fun _ => True) := by
    intro b
    refine Ends.step (fun k => by rw [spec_digit.j1]) ?_
    cases b with
    | true => simp only [if_true]; exact Ends.now trivial
    | false =>
      simp only [Bool.false_eq_true, if_false]
      by_cases d : c ≥ 65
      · simp only [if_pos d]
        by_cases e : c ≤ 70
        · simp only [if_pos e]; exact Ends.now trivial
        · simp only [if_neg e]; exact Ends.now trivial
      · simp only [if_neg d]; exact Ends.now trivial
  have key0 : ∀ b : Bool, Ends (fun k => spec_digit.j0 k c b) (fun _ => True) := by
    intro b
    refine Ends.step (fun k => by rw [spec_digit.j0]) ?_
    cases b with
    | true => simp only [if_true]; exact Ends.now trivial
    | false =>
      simp only [Bool.false_eq_true, if_false]
      by_cases d : c ≥ 97
      · simp only [if_pos d]; exact key _
      · simp only [if_neg d]; exact key _
  unfold spec_digit.f
  by_cases d : c ≥ 48
  · simp only [if_pos d]; exact key0 _
  · simp only [if_neg d]; exact key0 _
theorem number_go (T : ByteArray) (x1 : Int) (h10 : 0 < x1) (hs : T.size ≤ 40000) : ∀ (n : Nat) (x6 x11 : Int), U64 x6 → 0 ≤ x11 → x11 ≤ (T.size : Int) → n = ((T.size : Int) - x11).toNat → Ends (fun k => spec_Number.l0 k T x1 x6 (T.size : Int) x11) (fun r => U64 r.1)
  | 0, x6, x11, hu, h0, h1, hn => by
    refine Ends.step (fun k => by rw [spec_Number.l0]) ?_
    simp only [if_neg (show ¬ (x11 < (T.size : Int)) by omega)]
    exact Ends.now hu
  | n + 1, x6, x11, hu, h0, h1, hn => by
    refine Ends.step (fun k => by rw [spec_Number.l0]) ?_
    have w : wrap64 (x11 + 1) = x11 + 1 := wr64 _ (by omega)
    simp only [if_pos (show x11 < (T.size : Int) by omega), if_pos h0, w]
    refine Ends.bind (digit_ends _) fun d _ => ?_
    by_cases c : d ≥ x1
    · simp only [if_pos c]; exact Ends.now (by unfold U64; omega)
    · simp only [if_neg c, if_neg (show ¬ (x1 = 0) by omega)]
      by_cases e : x6 > (IntKind.u64.wrap (Int.tdiv (IntKind.u64.wrap (18446744073709551615 - d)) x1))
      · simp only [if_pos e]; exact Ends.now (by unfold U64; omega)
      · simp only [if_neg e]
        exact number_go T x1 h10 hs n _ _ (wU _) (by omega) (by omega) (by omega)
def decB (n : Nat) : ByteArray := ⟨(Lib.decDigits n).toArray⟩
theorem decB_size (n : Nat) (h : n < 18446744073709551616) : (decB n).size ≤ 20 := by
  have h1 : (decB n).size = Lib.nDigits n := by rw [← Lib.decDigits_length]; simp [decB, ByteArray.size]
  rw [h1]
  exact Lib.nDigits_le20 n h
theorem pum_app (M : Nat) (r : List UInt8) : ∀ (l : List UInt8) (acc u : Nat), Lib.parseUintM M acc l = .ok u → Lib.parseUintM M acc (l ++ r) = Lib.parseUintM M u r
  | [], acc, u, h => by simp only [Lib.parseUintM] at h; cases h; rfl
  | c :: l, acc, u, h => by
    simp only [Lib.parseUintM, List.cons_append] at h ⊢
    split at h
    · rename_i h1
      rw [if_pos h1]
      split at h
      · cases h
      · rename_i h2
        rw [if_neg h2]
        split at h
        · cases h
        · rename_i h3
          rw [if_neg h3]
          exact pum_app M r l _ u h
    · cases h
theorem dg_nat (d : Nat) (h : d < 10) : (UInt8.ofNat (48 + d)).toNat = 48 + d := by
  rw [UInt8.toNat_ofNat']; omega
theorem dec_ne (n : Nat) : Lib.decDigits n ≠ [] := by
  rw [Lib.decDigits]
  split <;> simp
theorem B_app (a b : Bs) : B a ++ B b = B (a ++ b) := by
  unfold B
  apply ByteArray.ext
  simp
theorem dig_str (d : Nat) (h : d < 10) : strOfNums [bt (⟨#[48, 49, 50, 51, 52, 53, 54, 55, 56, 57, 97, 98, 99, 100, 101, 102]⟩ : ByteArray) (d : Int)] = B [UInt8.ofNat (48 + d)] := by
  match d, h with
  | 0, _ => rfl
  | 1, _ => rfl
  | 2, _ => rfl
  | 3, _ => rfl
  | 4, _ => rfl
  | 5, _ => rfl
  | 6, _ => rfl
  | 7, _ => rfl
  | 8, _ => rfl
  | 9, _ => rfl
theorem digits_ev (n : Nat) (hn : n < 18446744073709551616) : Ev (fun k => spec_Digits.f k (n : Int) 10) (decB n) := by
  induction n using Nat.strongRecOn with
  | _ n ih =>
    refine Ev.step (fun k => by rw [spec_Digits.f]) ?_
    have m : Int.tmod (n : Int) 10 = ((n % 10 : Nat) : Int) := by rw [Int.tmod_eq_emod_of_nonneg (by omega)]; omega
    have q : Int.tdiv (n : Int) 10 = ((n / 10 : Nat) : Int) := by rw [Int.tdiv_eq_ediv_of_nonneg (by omega)]; omega
    simp only [m, q]
    simp only [if_neg (show ¬ ((10 : Int) = 0) by omega), if_pos (show (0 : Int) ≤ ((n % 10 : Nat) : Int) by omega), if_pos (show ((n % 10 : Nat) : Int) < 16 by omega), dig_str (n % 10) (by omega)]
    by_cases c : n < 10
    · simp only [if_pos (show (n : Int) < 10 by omega)]
      have : decB n = B [UInt8.ofNat (48 + n % 10)] := by unfold decB B; rw [Lib.decDigits, dif_pos c, Nat.mod_eq_of_lt c]
      rw [this]
      exact Ev.now _
    · simp only [if_neg (show ¬ ((n : Int) < 10) by omega), u64w ((n / 10 : Nat) : Int) (by omega)]
      refine Ev.bind (ih (n / 10) (by omega) (by omega)) ?_
      simp only [Option.bind_some, dig_str (n % 10) (by omega)]
      have hz := decB_size (n / 10) (by omega)
      have hz1 : (B [UInt8.ofNat (48 + n % 10)]).size = 1 := rfl
      simp only [if_pos (show (decB (n / 10)).size + (B [UInt8.ofNat (48 + n % 10)]).size ≤ 9223372036854775807 by omega)]
      have : decB n = decB (n / 10) ++ B [UInt8.ofNat (48 + n % 10)] := by
        rw [show decB (n / 10) = B (Lib.decDigits (n / 10)) from rfl, B_app]
        unfold decB B; rw [Lib.decDigits, dif_neg c]
      rw [this]
      exact Ev.now _
theorem text_ev (n : Int) (hn : U64 n) : Ev (fun k => spec_Text.f k n) (decB n.toNat) := by
  unfold spec_Text.f U64 at *
  have e : n = (n.toNat : Int) := by omega
  have := digits_ev n.toNat (by omega)
  rw [← e] at this
  exact Ev.bind this (Ev.now _)
theorem rd_mid (A : List ByteArray) (b : ByteArray) (l : List ByteArray) : rdOf ByteArray.empty (A ++ b :: l) (A.length : Int) = b := by
  unfold rdOf
  simp
def decT (n : Int) : ByteArray := decB n.toNat
theorem decT_size (n : Int) (h : U64 n) : (decT n).size ≤ 20 := decB_size _ (by unfold U64 at h; omega)
end Go.Proofs.YtabfehcpcjcomaaGreatDoor.R
namespace Go.Proofs.YtabfehcpcjcomaaGreatDoor.R
open Go.RowKit Go.Proofs.YtabfehcpcjcomaaGreatDoor.QA0 Go.Proofs.YtabfehcpcjcomaaGreatDoorW.PrintWords Go.Proofs.YtabfehcpcjcomaaGreatDoorW.PrintLast Go.Proofs.YtabfehcpcjcomaaGreatDoorW.PrintMore
set_option linter.unusedVariables false
set_option linter.unusedSimpArgs false
theorem B_of (T : ByteArray) : T = B T.data.toList := by cases T; rfl
theorem B_mid (P D R : Bs) (i j : Nat) (hi : i = P.length) (hj : j = P.length + D.length) : (B (P ++ (D ++ R))).extract i j = B D := by
  subst hi; subst hj
  unfold B
  apply ByteArray.ext
  simp [ByteArray.extract, ByteArray.copySlice]
theorem bt_mid (P : Bs) (z : UInt8) (R : Bs) : bt (B (P ++ (z :: R))) (P.length : Int) = (z.toNat : Int) := at_B _ _ _ (by simp)
theorem eq10 (z : UInt8) : ((z.toNat : Int) = 10) ↔ z = 10 := by
  constructor
  · intro h; apply UInt8.toNat_inj.1; have : (10 : UInt8).toNat = 10 := rfl; omega
  · intro h; subst h; rfl
theorem eq32 (z : UInt8) : ((z.toNat : Int) = 32) ↔ z = 32 := by
  constructor
  · intro h; apply UInt8.toNat_inj.1; have : (32 : UInt8).toNat = 32 := rfl; omega
  · intro h; subst h; rfl
theorem eq9 (z : UInt8) : ((z.toNat : Int) = 9) ↔ z = 9 := by
  constructor
  · intro h; apply UInt8.toNat_inj.1; have : (9 : UInt8).toNat = 9 := rfl; omega
  · intro h; subst h; rfl
def linesGo : Bs → Bs → List Bs
  | cur, [] => if cur = [] then [] else [cur]
  | cur, c :: l => if c = 10 then cur :: linesGo [] l else linesGo (cur ++ [c]) l
def linesL (l : Bs) : List Bs := linesGo [] l
def fgo : Bs → Bs → List Bs
  | cur, [] => if cur = [] then [] else [cur]
  | cur, c :: l => if c = 32 ∨ c = 9 then (if cur = [] then fgo [] l else cur :: fgo [] l) else fgo (cur ++ [c]) l
def fieldsL (l : Bs) : List Bs := fgo [] l
theorem lines_ev (rest : Bs) : ∀ (P cur : Bs) (x3 : List ByteArray), (P ++ (cur ++ rest)).length ≤ 1048576 → x3.length ≤ P.length →
    Ev (fun k => spec_Lines.l0 k (B (P ++ (cur ++ rest))) x3 (P.length : Int) ((B (P ++ (cur ++ rest))).size : Int) ((P ++ cur).length : Int)) (x3 ++ (linesGo cur rest).map B) := by
  induction rest with
  | nil =>
    intro P cur x3 hl h3
    refine Ev.step (fun k => by rw [spec_Lines.l0]) ?_
    have hs : (B (P ++ (cur ++ []))).size = P.length + cur.length := by rw [B_size]; simp
    have c : ¬ (((P ++ cur).length : Int) < ((B (P ++ (cur ++ []))).size : Int)) := by rw [hs]; simp
    simp only [if_neg c]
    simp only [List.length_append, List.length_nil] at hl
    by_cases e : cur = []
    · subst e
      have d : ¬ ((P.length : Int) < ((B P).size : Int)) := by rw [B_size]; omega
      simp only [List.append_nil, if_neg d, linesGo, if_true, List.map_nil]
      exact Ev.now _
    · have hc : 0 < cur.length := List.length_pos_iff.2 e
      have d : (P.length : Int) < ((B (P ++ (cur ++ []))).size : Int) := by rw [hs]; omega
      have x : (B (P ++ (cur ++ []))).extract ((P.length : Int)).toNat (B (P ++ (cur ++ []))).size = B cur := B_mid P cur [] _ _ (by simp) hs
      simp only [if_pos d, if_pos (show (0 : Int) ≤ (P.length : Int) by omega), if_pos (show (P.length : Int) ≤ ((B (P ++ (cur ++ []))).size : Int) by omega), if_pos (show x3.length < 8796093022208 by omega), x, linesGo, if_neg e, List.map_cons, List.map_nil]
      exact Ev.now _
  | cons z rest ih =>
    intro P cur x3 hl h3
    refine Ev.step (fun k => by rw [spec_Lines.l0]) ?_
    have hs : (B (P ++ (cur ++ z :: rest))).size = P.length + (cur.length + (rest.length + 1)) := by rw [B_size]; simp
    simp only [List.length_append, List.length_cons] at hl
    have c : ((P ++ cur).length : Int) < ((B (P ++ (cur ++ z :: rest))).size : Int) := by rw [hs]; simp; omega
    have hb : bt (B (P ++ (cur ++ z :: rest))) ((P ++ cur).length : Int) = (z.toNat : Int) := by
      have := bt_mid (P ++ cur) z rest
      rw [List.append_assoc] at this
      exact this
    have w : wrap64 (((P ++ cur).length : Int) + 1) = ((P ++ cur).length : Int) + 1 := wr64 _ (by simp; omega)
    simp only [if_pos c, if_pos (show (0 : Int) ≤ ((P ++ cur).length : Int) by omega), hb, w]
    by_cases e : z = 10
    · have e' := (eq10 z).2 e
      have x : (B (P ++ (cur ++ z :: rest))).extract ((P.length : Int)).toNat (((P ++ cur).length : Int)).toNat = B cur := B_mid P cur (z :: rest) _ _ (by simp) (by simp; omega)
      simp only [if_pos e', if_pos (show (0 : Int) ≤ (P.length : Int) by omega), if_pos (show (P.length : Int) ≤ ((P ++ cur).length : Int) by simp; omega), if_pos (show ((P ++ cur).length : Int) ≤ ((B (P ++ (cur ++ z :: rest))).size : Int) by omega), if_pos (show x3.length < 8796093022208 by omega), x]
      have := ih (P ++ (cur ++ [z])) [] (x3 ++ [B cur]) (by simp; omega) (by simp; omega)
      have e1 : P ++ (cur ++ z :: rest) = P ++ (cur ++ [z]) ++ ([] ++ rest) := by simp
      have e2 : ((P ++ (cur ++ [z]) ++ []).length : Int) = ((P ++ cur).length : Int) + 1 := by simp; omega
      have e3 : ((P ++ (cur ++ [z])).length : Int) = ((P ++ cur).length : Int) + 1 := by simp; omega
      rw [← e1, e2, e3] at this
      simp only [linesGo, if_pos e, List.map_cons]
      rw [List.append_assoc] at this
      exact this
    · have e' : ¬ ((z.toNat : Int) = 10) := fun h => e ((eq10 z).1 h)
      simp only [if_neg e']
      have := ih P (cur ++ [z]) x3 (by simp; omega) h3
      have e1 : P ++ (cur ++ z :: rest) = P ++ ((cur ++ [z]) ++ rest) := by simp
      have e2 : ((P ++ (cur ++ [z])).length : Int) = ((P ++ cur).length : Int) + 1 := by simp; omega
      rw [← e1, e2] at this
      simp only [linesGo, if_neg e]
      exact this
theorem linesL_ev (l : Bs) (hl : l.length ≤ 1048576) : Ev (fun k => spec_Lines.f k (B l)) ((linesL l).map B) := by
  unfold spec_Lines.f
  exact lines_ev l [] [] [] (by simpa using hl) (by simp)
theorem fields_ev (rest : Bs) : ∀ (P cur : Bs) (x3 : List ByteArray), (P ++ (cur ++ rest)).length ≤ 1048576 → x3.length ≤ P.length →
    Ev (fun k => spec_Fields.l0 k (B (P ++ (cur ++ rest))) x3 (if cur = [] then -1 else (P.length : Int)) ((B (P ++ (cur ++ rest))).size : Int) ((P ++ cur).length : Int)) (x3 ++ (fgo cur rest).map B) := by
  induction rest with
  | nil =>
    intro P cur x3 hl h3
    refine Ev.step (fun k => by rw [spec_Fields.l0]) ?_
    have hs : (B (P ++ (cur ++ []))).size = P.length + cur.length := by rw [B_size]; simp
    have c : ¬ (((P ++ cur).length : Int) < ((B (P ++ (cur ++ []))).size : Int)) := by rw [hs]; simp
    simp only [if_neg c]
    simp only [List.length_append, List.length_nil] at hl
    by_cases e : cur = []
    · subst e
      simp only [if_true, if_neg (show ¬ ((-1 : Int) ≥ 0) by omega), fgo, List.map_nil, List.append_nil]
      exact Ev.now _
    · have x : (B (P ++ (cur ++ []))).extract ((P.length : Int)).toNat (B (P ++ (cur ++ []))).size = B cur := B_mid P cur [] _ _ (by simp) hs
      simp only [if_neg e, if_pos (show (P.length : Int) ≥ 0 by omega), if_pos (show (0 : Int) ≤ (P.length : Int) by omega), if_pos (show (P.length : Int) ≤ ((B (P ++ (cur ++ []))).size : Int) by omega), if_pos (show x3.length < 8796093022208 by omega), x, fgo, List.map_cons, List.map_nil]
      exact Ev.now _
  | cons z rest ih =>
    intro P cur x3 hl h3
    refine Ev.step (fun k => by rw [spec_Fields.l0]) ?_
    have hs : (B (P ++ (cur ++ z :: rest))).size = P.length + (cur.length + (rest.length + 1)) := by rw [B_size]; simp
    simp only [List.length_append, List.length_cons] at hl
    have c : ((P ++ cur).length : Int) < ((B (P ++ (cur ++ z :: rest))).size : Int) := by rw [hs]; simp; omega
    have hb : bt (B (P ++ (cur ++ z :: rest))) ((P ++ cur).length : Int) = (z.toNat : Int) := by
      have := bt_mid (P ++ cur) z rest
      rw [List.append_assoc] at this
      exact this
    have w : wrap64 (((P ++ cur).length : Int) + 1) = ((P ++ cur).length : Int) + 1 := wr64 _ (by simp; omega)
    simp only [if_pos c, if_pos (show (0 : Int) ≤ ((P ++ cur).length : Int) by omega), hb]
    have blank : (z = 32 ∨ z = 9) → Ev (fun k => spec_Fields.j1 k (B (P ++ (cur ++ z :: rest))) x3 (if cur = [] then -1 else (P.length : Int)) ((P ++ cur).length : Int) true ((B (P ++ (cur ++ z :: rest))).size : Int) ((P ++ cur).length : Int)) (x3 ++ (fgo cur (z :: rest)).map B) := by
      intro hz
      refine Ev.step (fun k => by rw [spec_Fields.j1]) ?_
      simp only [if_true]
      refine Ev.step (fun k => by rw [spec_Fields.j2]) ?_
      by_cases e : cur = []
      · subst e
        have hd : decide ((-1 : Int) ≥ 0) = false := rfl
        simp only [if_true, hd, Bool.false_eq_true, if_false, w]
        have := ih (P ++ [z]) [] x3 (by simp; omega) (by simp; omega)
        have e1 : P ++ (([] : Bs) ++ z :: rest) = P ++ [z] ++ ([] ++ rest) := by simp
        have e2 : ((P ++ [z] ++ ([] : Bs)).length : Int) = ((P ++ ([] : Bs)).length : Int) + 1 := by simp
        rw [← e1, e2] at this
        simp only [fgo, if_pos hz, if_true] at this ⊢
        exact this
      · have hd : decide ((P.length : Int) ≥ 0) = true := decide_eq_true (by omega)
        have x : (B (P ++ (cur ++ z :: rest))).extract ((P.length : Int)).toNat (((P ++ cur).length : Int)).toNat = B cur := B_mid P cur (z :: rest) _ _ (by simp) (by simp; omega)
        simp only [if_neg e, hd, if_true, if_pos (show (0 : Int) ≤ (P.length : Int) by omega), if_pos (show (P.length : Int) ≤ ((P ++ cur).length : Int) by simp; omega), if_pos (show ((P ++ cur).length : Int) ≤ ((B (P ++ (cur ++ z :: rest))).size : Int) by omega), if_pos (show x3.length < 8796093022208 by omega), x, w]
        have := ih (P ++ (cur ++ [z])) [] (x3 ++ [B cur]) (by simp; omega) (by simp; omega)
        have e1 : P ++ (cur ++ z :: rest) = P ++ (cur ++ [z]) ++ ([] ++ rest) := by simp
        have e2 : ((P ++ (cur ++ [z]) ++ []).length : Int) = ((P ++ cur).length : Int) + 1 := by simp; omega
        rw [← e1, e2] at this
        simp only [fgo, if_pos hz, if_neg e, if_true, List.map_cons] at this ⊢
        rw [List.append_assoc] at this
        exact this
    by_cases e32 : z = 32
    · simp only [if_pos ((eq32 z).2 e32)]
      exact blank (.inl e32)
    · simp only [if_neg (show ¬ ((z.toNat : Int) = 32) from fun h => e32 ((eq32 z).1 h))]
      by_cases e9 : z = 9
      · have : (((z.toNat : Int) == 9) : Bool) = true := beq_iff_eq.2 ((eq9 z).2 e9)
        simp only [this]
        exact blank (.inr e9)
      · have : (((z.toNat : Int) == 9) : Bool) = false := beq_eq_false_iff_ne.2 (fun h => e9 ((eq9 z).1 h))
        simp only [this]
        refine Ev.step (fun k => by rw [spec_Fields.j1]) ?_
        simp only [Bool.false_eq_true, if_false]
        refine Ev.step (fun k => by rw [spec_Fields.j2]) ?_
        simp only [Bool.false_eq_true, if_false, w]
        have := ih P (cur ++ [z]) x3 (by simp; omega) h3
        have e1 : P ++ (cur ++ z :: rest) = P ++ ((cur ++ [z]) ++ rest) := by simp
        have e2 : ((P ++ (cur ++ [z])).length : Int) = ((P ++ cur).length : Int) + 1 := by simp; omega
        have e3 : ¬ (cur ++ [z] = []) := by simp
        have ef : fgo cur (z :: rest) = fgo (cur ++ [z]) rest := by rw [fgo, if_neg (show ¬ (z = 32 ∨ z = 9) by rintro (h | h); exact e32 h; exact e9 h)]
        rw [← e1, e2, if_neg e3] at this
        rw [ef]
        by_cases e : cur = []
        · subst e
          have e4 : ((P ++ ([] : Bs)).length : Int) = (P.length : Int) := by simp
          simp only [if_true, if_pos (show (-1 : Int) < 0 by omega)]
          rw [e4] at this ⊢
          exact this
        · simp only [if_neg e, if_neg (show ¬ ((P.length : Int) < 0) by omega)]
          exact this
theorem fieldsL_ev (l : Bs) (hl : l.length ≤ 1048576) : Ev (fun k => spec_Fields.f k (B l)) ((fieldsL l).map B) := by
  unfold spec_Fields.f
  exact fields_ev l [] [] [] (by simpa using hl) (by simp)
def plainC (c : UInt8) : Bool := c == 9 || (decide (32 ≤ c.toNat) && decide (c.toNat ≤ 126))
theorem fgo_lib : ∀ (l cur : Bs), l.all plainC = true → Lib.fieldsGo cur l = fgo cur l
  | [], cur, _ => by
    cases cur <;> simp [Lib.fieldsGo, fgo]
  | c :: l, cur, h => by
    simp only [List.all_cons, Bool.and_eq_true] at h
    obtain ⟨hc, hl⟩ := h
    by_cases e : c = 32 ∨ c = 9
    · have hs : Lib.isSp c = true := by rcases e with rfl | rfl <;> rfl
      cases cur with
      | nil => rw [Lib.fieldsGo_sp _ _ hs, fgo_lib l [] hl]; simp [fgo, e]
      | cons a r => rw [Lib.fieldsGo_end _ _ _ hs (by simp), fgo_lib l [] hl]; simp [fgo, e]
    · have hs : Lib.isSp c = false := by
        unfold plainC at hc
        simp only [Bool.or_eq_true, beq_iff_eq, Bool.and_eq_true, decide_eq_true_eq] at hc
        have h9 : ¬ c = 9 := fun h => e (.inr h)
        have h32 : ¬ c = 32 := fun h => e (.inl h)
        have key : ∀ m : UInt8, m.toNat < 32 → ¬ (c = m) := by intro m hm he; rw [he] at hc; rcases hc with hc | hc; exact h9 (he.trans hc); omega
        unfold Lib.isSp
        simp [h9, h32, key 10 (by decide), key 11 (by decide), key 12 (by decide), key 13 (by decide)]
      rw [Lib.fieldsGo_more _ _ _ hs, fgo_lib l _ hl]
      simp [fgo, e]
theorem linesGo_eq : ∀ (l cur : Bs), linesGo cur l = if cur = [] ∧ l = [] then [] else (cur ++ l.takeWhile (fun c => c != 10)) :: linesGo [] (l.drop ((l.takeWhile (fun c => c != 10)).length + 1))
  | [], cur => by
    by_cases h : cur = []
    · simp [linesGo, h]
    · simp [linesGo, h]
  | c :: l, cur => by
    by_cases h : c = 10
    · subst h; simp [linesGo]
    · have hb : (c != 10) = true := bne_iff_ne.2 h
      rw [linesGo, if_neg h, linesGo_eq l (cur ++ [c])]
      simp [List.takeWhile_cons, hb]
end Go.Proofs.YtabfehcpcjcomaaGreatDoor.R
namespace Go.Proofs.YtabfehcpcjcomaaGreatDoor.R
open Go.RowKit Go.Proofs.YtabfehcpcjcomaaGreatDoor.QA0 Go.Proofs.YtabfehcpcjcomaaGreatDoorW.PrintWords Go.Proofs.YtabfehcpcjcomaaGreatDoorW.PrintLast Go.Proofs.YtabfehcpcjcomaaGreatDoorW.PrintMore
set_option linter.unusedVariables false
set_option linter.unusedSimpArgs false
theorem digit_ev (c : UInt8) : Ev (fun k => spec_digit.f k (c.toNat : Int)) ((hexV c : Nat) : Int) := by
  refine ⟨2, fun k hk => ?_⟩
  obtain ⟨m, rfl⟩ : ∃ m, k = m + 2 := ⟨k - 2, by omega⟩
  have hlt := c.toNat_lt
  unfold hexV
  generalize c.toNat = n at hlt ⊢
  unfold spec_digit.f
  dsimp only
  by_cases a : 48 ≤ n ∧ n ≤ 57
  · rw [if_pos (show (n : Int) ≥ 48 by omega), if_pos a, spec_digit.j0, decide_eq_true (show (n : Int) ≤ 57 by omega), if_pos rfl]
    congr 1; omega
  · have key : ∀ b : Bool, b = false → spec_digit.j0 (m + 2) (n : Int) b = some (((if 97 ≤ n ∧ n ≤ 102 then n - 87 else if 65 ≤ n ∧ n ≤ 70 then n - 55 else 99 : Nat)) : Int) := by
      intro b hb
      subst hb
      rw [spec_digit.j0, if_neg (by simp)]
      have key1 : ∀ b : Bool, b = false → ¬ (97 ≤ n ∧ n ≤ 102) → spec_digit.j1 (m + 1) (n : Int) b = some (((if 65 ≤ n ∧ n ≤ 70 then n - 55 else 99 : Nat)) : Int) := by
        intro b hb h
        subst hb
        rw [spec_digit.j1, if_neg (by simp)]
        by_cases e : 65 ≤ n ∧ n ≤ 70
        · rw [if_pos (show (n : Int) ≥ 65 by omega), if_pos (show (n : Int) ≤ 70 by omega), if_pos e]
          congr 1; omega
        · rw [if_neg e]
          by_cases f : (n : Int) ≥ 65
          · rw [if_pos f, if_neg (show ¬ (n : Int) ≤ 70 by omega)]; rfl
          · rw [if_neg f]; rfl
      by_cases d : 97 ≤ n ∧ n ≤ 102
      · rw [if_pos (show (n : Int) ≥ 97 by omega), if_pos d, spec_digit.j1, decide_eq_true (show (n : Int) ≤ 102 by omega), if_pos rfl]
        congr 1; omega
      · rw [if_neg d]
        by_cases f : (n : Int) ≥ 97
        · rw [if_pos f]; exact key1 _ (decide_eq_false (by omega)) d
        · rw [if_neg f]; exact key1 _ rfl d
    rw [if_neg a]
    by_cases f : (n : Int) ≥ 48
    · rw [if_pos f]; exact key _ (decide_eq_false (by omega))
    · rw [if_neg f]; exact key _ rfl
theorem number16_go (rest : Bs) : ∀ (P : Bs) (acc : Nat), acc < 18446744073709551616 → (P ++ rest).length ≤ 1048576 →
    Ends (fun k => spec_Number.l0 k (B (P ++ rest)) 16 (acc : Int) ((B (P ++ rest)).size : Int) (P.length : Int)) (fun r => U64 r.1 ∧ (r.2 = true → hexN acc rest = some r.1.toNat ∧ P ++ rest ≠ [])) := by
  induction rest with
  | nil =>
    intro P acc ha hl
    refine Ends.step (fun k => by rw [spec_Number.l0]) ?_
    have hs : (B (P ++ [])).size = P.length := by rw [B_size]; simp
    simp only [if_neg (show ¬ ((P.length : Int) < ((B (P ++ [])).size : Int)) by rw [hs]; omega)]
    refine Ends.now ⟨by unfold U64; omega, fun h => ⟨by simp [hexN], ?_⟩⟩
    intro e
    rw [e] at h
    simp [ByteArray.toList_eq, B] at h
  | cons z rest ih =>
    intro P acc ha hl
    have hs : (B (P ++ z :: rest)).size = P.length + (rest.length + 1) := by rw [B_size]; simp
    have hll : P.length + (rest.length + 1) ≤ 1048576 := by simpa using hl
    refine Ends.step (fun k => by rw [spec_Number.l0]) ?_
    have w : wrap64 ((P.length : Int) + 1) = (P.length : Int) + 1 := wr64 _ (by omega)
    simp only [if_pos (show (P.length : Int) < ((B (P ++ z :: rest)).size : Int) by rw [hs]; omega), if_pos (show (0 : Int) ≤ (P.length : Int) by omega), bt_mid, w]
    refine Ends.bind (Ends.ev (digit_ev z)) fun d hd => ?_
    rw [hd]
    by_cases c : hexV z < 16
    · simp only [if_neg (show ¬ (((hexV z : Nat) : Int) ≥ 16) by omega), if_neg (show ¬ ((16 : Int) = 0) by omega)]
      have q : IntKind.u64.wrap (Int.tdiv (IntKind.u64.wrap (18446744073709551615 - ((hexV z : Nat) : Int))) 16) = (((18446744073709551615 - hexV z) / 16 : Nat) : Int) := by
        rw [u64w (18446744073709551615 - ((hexV z : Nat) : Int)) (by omega), Int.tdiv_eq_ediv_of_nonneg (by omega), u64w _ (by omega)]
        omega
      simp only [q]
      by_cases e : (acc : Int) > (((18446744073709551615 - hexV z) / 16 : Nat) : Int)
      · simp only [if_pos e]
        exact Ends.now ⟨by unfold U64; omega, by simp⟩
      · simp only [if_neg e]
        have v : IntKind.u64.wrap (IntKind.u64.wrap ((acc : Int) * 16) + ((hexV z : Nat) : Int)) = ((acc * 16 + hexV z : Nat) : Int) := by
          rw [u64w ((acc : Int) * 16) (by omega), u64w _ (by omega)]
          omega
        simp only [v]
        have := ih (P ++ [z]) (acc * 16 + hexV z) (by omega) (by simp; omega)
        have e1 : P ++ [z] ++ rest = P ++ z :: rest := by simp
        have e2 : ((P ++ [z]).length : Int) = (P.length : Int) + 1 := by simp
        rw [e1, e2] at this
        refine this.mono fun r hr => ⟨hr.1, fun h => ?_⟩
        obtain ⟨h1, h2⟩ := hr.2 h
        exact ⟨by simp only [hexN, if_pos c]; exact h1, h2⟩
    · simp only [if_pos (show (((hexV z : Nat) : Int) ≥ 16) by omega)]
      exact Ends.now ⟨by unfold U64; omega, by simp⟩
theorem number16 (l : Bs) (hl : l.length ≤ 1048576) : Ends (fun k => spec_Number.f k (B l) 16) (fun r => U64 r.1 ∧ (r.2 = true → hexF l = some r.1.toNat)) := by
  unfold spec_Number.f
  have := number16_go l [] 0 (by omega) (by simpa using hl)
  refine this.mono fun r hr => ⟨hr.1, fun h => ?_⟩
  obtain ⟨h1, h2⟩ := hr.2 h
  unfold hexF
  rw [if_neg (by simpa using h2)]
  exact h1
theorem plain_is (T : ByteArray) : ∀ (n : Nat) (x7 : Int), 0 ≤ x7 → x7 ≤ (T.size : Int) → n = ((T.size : Int) - x7).toNat → T.size ≤ 40000 → Ends (fun k => spec_Plain.l0 k T (T.size : Int) x7) (fun r => r = true → ∀ i : Nat, x7 ≤ (i : Int) → i < T.size → bt T (i : Int) = 9 ∨ bt T (i : Int) = 10 ∨ (32 ≤ bt T (i : Int) ∧ bt T (i : Int) ≤ 126))
  | 0, x7, h0, h1, hn, hs => by
    refine Ends.step (fun k => by rw [spec_Plain.l0]) ?_
    simp only [if_neg (show ¬ (x7 < (T.size : Int)) by omega)]
    exact Ends.now fun _ i hi hi2 => by omega
  | n + 1, x7, h0, h1, hn, hs => by
    refine Ends.step (fun k => by rw [spec_Plain.l0]) ?_
    have w : wrap64 (x7 + 1) = x7 + 1 := wr64 _ (by omega)
    have ih := plain_is T n (x7 + 1) (by omega) (by omega) (by omega) hs
    have on : (bt T x7 = 9 ∨ bt T x7 = 10 ∨ (32 ≤ bt T x7 ∧ bt T x7 ≤ 126)) → Ends (fun k => spec_Plain.l0 k T (T.size : Int) (x7 + 1)) (fun r => r = true → ∀ i : Nat, x7 ≤ (i : Int) → i < T.size → bt T (i : Int) = 9 ∨ bt T (i : Int) = 10 ∨ (32 ≤ bt T (i : Int) ∧ bt T (i : Int) ≤ 126)) := by
      intro hx
      refine ih.mono fun r hr h i hi hi2 => ?_
      by_cases e : x7 = (i : Int)
      · rw [← e]; exact hx
      · exact hr h i (by omega) hi2
    simp only [if_pos (show x7 < (T.size : Int) by omega), if_pos h0, w]
    by_cases c : bt T x7 > 126
    · simp only [if_pos c]; exact Ends.now (by simp)
    · simp only [if_neg c]
      by_cases d : bt T x7 < 32
      · simp only [if_pos d]
        by_cases e : bt T x7 = 10
        · simp only [if_pos e]; exact on (.inr (.inl e))
        · simp only [if_neg e]
          by_cases e : bt T x7 = 9
          · simp only [if_pos e]; exact on (.inl e)
          · simp only [if_neg e]; exact Ends.now (by simp)
      · simp only [if_neg d]; exact on (.inr (.inr (by omega)))
def plainT (c : UInt8) : Bool := c == 10 || plainC c
theorem plain_text (T : ByteArray) (hs : T.size ≤ 40000) : Ends (fun k => spec_Plain.f k T) (fun r => r = true → T.data.toList.all plainT = true) := by
  unfold spec_Plain.f
  refine (plain_is T _ 0 (by omega) (by omega) rfl hs).mono fun r hr h => ?_
  rw [List.all_eq_true]
  intro c hc
  obtain ⟨i, hi, rfl⟩ := List.getElem_of_mem hc
  have hi' : i < T.size := by simpa using hi
  have := hr h i (by omega) hi'
  rw [bt_list T i hi'] at this
  unfold plainT plainC
  simp only [Bool.or_eq_true, beq_iff_eq, Bool.and_eq_true, decide_eq_true_eq]
  rcases this with h | h | h
  · exact .inr (.inl ((eq9 _).1 h))
  · exact .inl ((eq10 _).1 h)
  · exact .inr (.inr ⟨by omega, by omega⟩)
theorem lines_plain : ∀ (l cur : Bs), l.all plainT = true → cur.all plainC = true → ∀ x ∈ linesGo cur l, x.all plainC = true
  | [], cur, _, hc, x, hx => by
    unfold linesGo at hx
    split at hx
    · cases hx
    · rw [List.mem_singleton.1 hx]; exact hc
  | c :: l, cur, h, hc, x, hx => by
    simp only [List.all_cons, Bool.and_eq_true] at h
    unfold linesGo at hx
    split at hx
    · rcases List.mem_cons.1 hx with hx | hx
      · rw [hx]; exact hc
      · exact lines_plain l [] h.2 (by simp) x hx
    · rename_i hn
      have h1 : plainC c = true := by
        have := h.1
        unfold plainT at this
        simp only [Bool.or_eq_true, beq_iff_eq] at this
        exact this.resolve_left hn
      exact lines_plain l (cur ++ [c]) h.2 (by simp [hc, h1]) x hx
theorem lines_len : ∀ (l cur : Bs), ∀ x ∈ linesGo cur l, x.length ≤ cur.length + l.length
  | [], cur, x, hx => by
    unfold linesGo at hx
    split at hx
    · cases hx
    · rw [List.mem_singleton.1 hx]; omega
  | c :: l, cur, x, hx => by
    unfold linesGo at hx
    split at hx
    · rcases List.mem_cons.1 hx with hx | hx
      · rw [hx]; omega
      · have := lines_len l [] x hx; simp only [List.length_cons, List.length_nil] at *; omega
    · have := lines_len l (cur ++ [c]) x hx; simp only [List.length_append, List.length_cons, List.length_nil] at *; omega
theorem lines_n : ∀ (l cur : Bs), (linesGo cur l).length ≤ l.length + (if cur = [] then 0 else 1)
  | [], cur => by
    unfold linesGo
    split <;> simp
  | c :: l, cur => by
    unfold linesGo
    split
    · have := lines_n l []
      simp only [if_true, List.length_cons] at *
      split <;> omega
    · have := lines_n l (cur ++ [c])
      rw [if_neg (by simp)] at this
      simp only [List.length_cons]
      split <;> omega
theorem fgo_len : ∀ (l cur : Bs), ∀ x ∈ fgo cur l, x.length ≤ cur.length + l.length
  | [], cur, x, hx => by
    unfold fgo at hx
    split at hx
    · cases hx
    · rw [List.mem_singleton.1 hx]; omega
  | c :: l, cur, x, hx => by
    unfold fgo at hx
    split at hx
    · split at hx
      · have := fgo_len l [] x hx; simp only [List.length_cons, List.length_nil] at *; omega
      · rcases List.mem_cons.1 hx with hx | hx
        · rw [hx]; omega
        · have := fgo_len l [] x hx; simp only [List.length_cons, List.length_nil] at *; omega
    · have := fgo_len l (cur ++ [c]) x hx; simp only [List.length_append, List.length_cons, List.length_nil] at *; omega
end Go.Proofs.YtabfehcpcjcomaaGreatDoor.R
namespace Go.Proofs.YtabfehcpcjcomaaGreatDoor.R
open Go.RowKit Go.Proofs.YtabfehcpcjcomaaGreatDoor.QA0 Go.Proofs.YtabfehcpcjcomaaGreatDoorW.PrintWords Go.Proofs.YtabfehcpcjcomaaGreatDoorW.PrintLast Go.Proofs.YtabfehcpcjcomaaGreatDoorW.PrintMore
set_option linter.unusedVariables false
set_option linter.unusedSimpArgs false
theorem lim32 : IntKind.u64.wrap (IntKind.u64.wrap (shl .u64 1 (wrap64 (32 - 1)) * 2) - 1) = 4294967295 := by
  rw [show wrap64 (32 - 1) = 31 from wr64 31 (by omega)]
  decide +kernel
theorem rd48_mid (A : List S48) (x : S48) (l : List S48) : rd_T48 (A ++ x :: l) (A.length : Int) = x := by unfold rd_T48; simp
end Go.Proofs.YtabfehcpcjcomaaGreatDoor.R
namespace Go.Proofs.YtabfehcpcjcomaaGreatDoor.R
open Go.RowKit Go.Proofs.YtabfehcpcjcomaaGreatDoor.QA0 Go.Proofs.YtabfehcpcjcomaaGreatDoorW.PrintWords Go.Proofs.YtabfehcpcjcomaaGreatDoorW.PrintLast Go.Proofs.YtabfehcpcjcomaaGreatDoorW.PrintMore
set_option linter.unusedVariables false
set_option linter.unusedSimpArgs false
theorem scan_nil (L : ByteArray) : texts_Lines_Scan.f (B []) L 65536 none = some (false, B [], ⟨#[]⟩, 65536, none) := by
  unfold texts_Lines_Scan.f scanF
  rfl
def lineOf (l : Bs) : Bs := l.takeWhile (fun c => c != 10)
def restOf (l : Bs) : Bs := l.drop ((lineOf l).length + 1)
theorem line_split (l : Bs) : l.take (lineOf l).length = lineOf l := by
  unfold lineOf
  induction l with
  | nil => rfl
  | cons c l ih =>
    rw [List.takeWhile_cons]
    split
    · simp [ih]
    · rfl
theorem line_le (l : Bs) : (lineOf l).length ≤ l.length := by
  have := congrArg List.length (line_split l)
  rw [List.length_take] at this
  omega
theorem B_drop (l : Bs) (i : Nat) : (B l).extract i (B l).size = B (l.drop i) := by
  unfold B
  apply ByteArray.ext
  simp [ByteArray.extract, ByteArray.copySlice, ByteArray.size]
  exact List.take_of_length_le (by rw [List.length_drop]; omega)
theorem B_take (l : Bs) (i : Nat) : (B l).extract 0 i = B (l.take i) := by
  unfold B
  apply ByteArray.ext
  simp [ByteArray.extract, ByteArray.copySlice, ByteArray.size]
theorem chomp_plain (l : Bs) (h : l.all plainC = true) : chomp (B l) = B l := by
  unfold chomp
  rw [if_neg]
  rintro ⟨h0, h1⟩
  rw [B_size] at h0 h1
  have hi : l.length - 1 < (B l).size := by rw [B_size]; omega
  have e : ((l.length : Int) - 1) = ((l.length - 1 : Nat) : Int) := by omega
  rw [e, bt_list (B l) _ hi] at h1
  have hm : (B l).data.toList[l.length - 1]'(by simpa using hi) ∈ l := List.getElem_mem (l := l) _
  have := List.all_eq_true.1 h _ hm
  unfold plainC at this
  simp only [Bool.or_eq_true, beq_iff_eq, Bool.and_eq_true, decide_eq_true_eq] at this
  rcases this with h2 | h2
  · rw [h2] at h1
    have : (9 : UInt8).toNat = 9 := rfl
    omega
  · omega
theorem scan_cons (l : Bs) (L : ByteArray) (h0 : l ≠ []) (hl : l.length ≤ 40000) (hp : (lineOf l).all plainC = true) : texts_Lines_Scan.f (B l) L 65536 none = some (true, B (restOf l), B (lineOf l), 65536, none) := by
  have hpos : 0 < l.length := List.length_pos_iff.2 h0
  have hn : nl (B l) = (lineOf l).length := rfl
  have := line_le l
  unfold texts_Lines_Scan.f scanF
  rw [if_pos ⟨rfl, by rw [B_size]; omega⟩, if_neg (by rw [B_size]; omega), hn, if_pos (by omega), B_drop, B_take, line_split, chomp_plain _ hp]
  rfl
theorem linesL_cons (l : Bs) (h0 : l ≠ []) : linesL l = lineOf l :: linesL (restOf l) := by
  unfold linesL
  rw [linesGo_eq, if_neg (by simpa using h0)]
  rfl
theorem rest_plain (l : Bs) (h : l.all plainT = true) : (restOf l).all plainT = true := by
  rw [List.all_eq_true] at *
  intro c hc
  exact h c (List.mem_of_mem_drop hc)
theorem line_plain (l : Bs) (h0 : l ≠ []) (h : l.all plainT = true) : (lineOf l).all plainC = true := by
  have := lines_plain l [] h (by simp) (lineOf l)
  have e := linesL_cons l h0
  unfold linesL at e
  rw [e] at this
  exact this (by simp)
theorem fields_plain (l : Bs) (h : l.all plainC = true) (hl : l.length ≤ 1048576) : strings_Fields.f (B l) = some ((fieldsL l).map bs) := by
  unfold strings_Fields.f fieldsF
  have ha : Asc (B l) = true := by
    unfold Asc
    rw [B_data, List.all_eq_true]
    intro c hc
    have := List.all_eq_true.1 h c hc
    unfold plainC at this
    simp only [Bool.or_eq_true, beq_iff_eq, Bool.and_eq_true, decide_eq_true_eq] at this
    simp only [decide_eq_true_eq]
    rcases this with h2 | h2
    · rw [h2]; decide
    · omega
  rw [if_pos ⟨by rw [B_size]; exact hl, ha⟩, B_data]
  unfold Lib.fields fieldsL
  rw [fgo_lib l [] h]
end Go.Proofs.YtabfehcpcjcomaaGreatDoor.R
namespace Go.Proofs.YtabfehcpcjcomaaGreatDoor.R
open Go.RowKit Go.Proofs.YtabfehcpcjcomaaGreatDoor.QA0 Go.Proofs.YtabfehcpcjcomaaGreatDoorW.PrintWords Go.Proofs.YtabfehcpcjcomaaGreatDoorW.PrintLast Go.Proofs.YtabfehcpcjcomaaGreatDoorW.PrintMore
set_option linter.unusedVariables false
set_option linter.unusedSimpArgs false
theorem toList_inj {a b : ByteArray} (h : a.toList = b.toList) : a = b := by
  rw [ByteArray.toList_eq, ByteArray.toList_eq] at h
  exact ByteArray.ext (Array.toList_inj.1 h)
def Cast (x : S34) (y : S38) : Prop := Ev (fun k => laws_toNode.f k x.f0 x.f1 x.f2 x.f3 x.f4 x.f5 x.f6 x.f7) (y.f0, y.f1, y.f2, y.f3, y.f4, y.f5, y.f6, y.f7)
inductive Casts : List S34 → List S38 → Prop
  | nil : Casts [] []
  | cons {x y l l'} : Cast x y → Casts l l' → Casts (x :: l) (y :: l')
theorem toNode_go (n : ByteArray) (kd : Int) (b : Bool) (i u : Int) (f : Nat) (s : ByteArray) : ∀ (l : List S34) (l' : List S38) (A : List S34) (acc : List S38), (A ++ l).length ≤ 100000 → acc.length ≤ A.length → Casts l l' →
    Ev (fun k => laws_toNode.l0 k (A ++ l) ((A ++ l).length : Int) (A.length : Int) n kd b i u f s acc) (n, kd, b, i, u, f, s, acc ++ l')
  | [], [], A, acc, hl, ha, _ => by
    refine Ev.step (fun k => by rw [laws_toNode.l0]) ?_
    simp only [List.append_nil, if_neg (show ¬ ((A.length : Int) < (A.length : Int)) by omega)]
    exact Ev.now _
  | [], _ :: _, _, _, _, _, h => nomatch h
  | _ :: _, [], _, _, _, _, h => nomatch h
  | x :: l, y :: l', A, acc, hl, ha, h => by
    obtain ⟨h, hs⟩ : Cast x y ∧ Casts l l' := by cases h with | cons h hs => exact ⟨h, hs⟩
    have hll : A.length + (l.length + 1) ≤ 100000 := by simpa using hl
    refine Ev.step (fun k => by rw [laws_toNode.l0]) ?_
    have w : wrap64 ((A.length : Int) + 1) = ((A ++ [x]).length : Int) := by rw [wr64 _ (by omega)]; simp
    have e : A ++ x :: l = (A ++ [x]) ++ l := by simp
    have r : rd_T34 (A ++ x :: l) (A.length : Int) = x := by unfold rd_T34; simp
    have cl : (A.length : Int) < ((A ++ x :: l).length : Int) := by simp; omega
    simp only [if_pos cl, if_pos (show (0 : Int) ≤ (A.length : Int) by omega), r, w]
    refine Ev.bind h ?_
    simp only [if_pos (show acc.length < 1466015503701 by omega)]
    have := toNode_go n kd b i u f s l l' (A ++ [x]) (acc ++ [y]) (by rw [← e]; exact hl) (by simp; omega) hs
    rw [e]
    rw [List.append_assoc acc, List.singleton_append] at this
    have hy : (⟨y.f0, y.f1, y.f2, y.f3, y.f4, y.f5, y.f6, y.f7⟩ : S38) = y := by cases y; rfl
    simp only [hy]
    exact this
theorem cast_node {n : ByteArray} {kd : Int} {b : Bool} {i u : Int} {f : Nat} {s : ByteArray} {l : List S34} {l' : List S38} (hl : l.length ≤ 100000) (h : Casts l l') : Cast ⟨n, kd, b, i, u, f, s, l⟩ ⟨n, kd, b, i, u, f, s, l'⟩ := by
  unfold Cast
  refine Ev.step (fun k => by rw [laws_toNode.f]) ?_
  exact toNode_go n kd b i u f s l l' [] [] (by simpa using hl) (by simp) h
theorem cast_leaf {n : ByteArray} {kd : Int} {b : Bool} {i u : Int} {f : Nat} {s : ByteArray} : Cast ⟨n, kd, b, i, u, f, s, []⟩ ⟨n, kd, b, i, u, f, s, []⟩ := cast_node (by simp) .nil
def Same (y : S38) : Prop := Ev (fun k => spec_SameNode.f k y.f0 y.f1 y.f2 y.f3 y.f4 y.f5 y.f6 y.f7 y.f0 y.f1 y.f2 y.f3 y.f4 y.f5 y.f6 y.f7) true
theorem same_go (n n' : ByteArray) (kd kd' : Int) (b b' : Bool) (i u i' u' : Int) (f f' : Nat) (s s' : ByteArray) : ∀ (l A : List S38), (A ++ l).length ≤ 100000 → (∀ x ∈ l, Same x) →
    Ev (fun k => spec_SameNode.l0 k ((A ++ l).length : Int) (A.length : Int) n kd b i u f s (A ++ l) n' kd' b' i' u' f' s' (A ++ l)) true
  | [], A, hl, h => by
    refine Ev.step (fun k => by rw [spec_SameNode.l0]) ?_
    simp only [List.append_nil, if_neg (show ¬ ((A.length : Int) < (A.length : Int)) by omega)]
    exact Ev.now _
  | x :: l, A, hl, h => by
    have hll : A.length + (l.length + 1) ≤ 100000 := by simpa using hl
    refine Ev.step (fun k => by rw [spec_SameNode.l0]) ?_
    have w : wrap64 ((A.length : Int) + 1) = ((A ++ [x]).length : Int) := by rw [wr64 _ (by omega)]; simp
    have e : A ++ x :: l = (A ++ [x]) ++ l := by simp
    have r : rd_T38 (A ++ x :: l) (A.length : Int) = x := by unfold rd_T38; simp
    have cl : (A.length : Int) < ((A ++ x :: l).length : Int) := by simp; omega
    simp only [if_pos cl, if_pos (show (0 : Int) ≤ (A.length : Int) by omega), r, w]
    refine Ev.bind (h x (by simp)) ?_
    simp only [if_true]
    have := same_go n n' kd kd' b b' i u i' u' f f' s s' l (A ++ [x]) (by rw [← e]; exact hl) (fun z hz => h z (by simp [hz]))
    rw [e]
    exact this
theorem same_node {n : ByteArray} {kd : Int} {b : Bool} {i u : Int} {f : Nat} {s : ByteArray} {l : List S38} (hl : l.length ≤ 100000) (h : ∀ x ∈ l, Same x) : Same ⟨n, kd, b, i, u, f, s, l⟩ := by
  unfold Same
  refine Ev.step (fun k => by rw [spec_SameNode.f]) ?_
  have hb : ¬ ((b != b) = true) := by simp
  simp only [if_true, if_neg hb]
  exact same_go n n kd kd b b i u i u f f s s l [] (by simpa using hl) h
theorem same_leaf {n : ByteArray} {kd : Int} {b : Bool} {i u : Int} {f : Nat} {s : ByteArray} : Same ⟨n, kd, b, i, u, f, s, []⟩ := same_node (by simp) (by simp)
end Go.Proofs.YtabfehcpcjcomaaGreatDoor.R
namespace Go.Proofs.YtabfehcpcjcomaaGreatDoor.R
open Go.RowKit Go.Proofs.YtabfehcpcjcomaaGreatDoor.QA0 Go.Proofs.YtabfehcpcjcomaaGreatDoorW.PrintWords Go.Proofs.YtabfehcpcjcomaaGreatDoorW.PrintLast Go.Proofs.YtabfehcpcjcomaaGreatDoorW.PrintMore
set_option linter.unusedVariables false
set_option linter.unusedSimpArgs false
def lfU (n : ByteArray) (v : Int) : S38 := ⟨n, 3, false, 0, v, 0, ⟨#[]⟩, []⟩
def lfU4 (n : ByteArray) (v : Int) : S34 := ⟨n, 3, false, 0, v, 0, ⟨#[]⟩, []⟩
theorem rd_wrap (n : List Int) (h0 : ∀ x ∈ n, 0 ≤ x) (h1 : ∀ x ∈ n, x ≤ 4294967295) (i : Nat) (hi : i < n.length) : IntKind.u64.wrap (rd n (i : Int)) = rd n (i : Int) := by
  have e : rd n (i : Int) = n[i] := by unfold rd; rw [Int.toNat_natCast, List.getD_eq_getElem?_getD, List.getElem?_eq_getElem hi]; rfl
  have a := h0 _ (List.getElem_mem hi)
  have b := h1 _ (List.getElem_mem hi)
  rw [e]
  exact u64w _ (by omega)
end Go.Proofs.YtabfehcpcjcomaaGreatDoor.R
namespace Go.Proofs.YtabfehcpcjcomaaGreatDoor.R
open Go.RowKit Go.Proofs.YtabfehcpcjcomaaGreatDoor.QA0 Go.Proofs.YtabfehcpcjcomaaGreatDoorW.PrintWords Go.Proofs.YtabfehcpcjcomaaGreatDoorW.PrintLast Go.Proofs.YtabfehcpcjcomaaGreatDoorW.PrintMore
set_option linter.unusedVariables false
set_option linter.unusedSimpArgs false
theorem counted_len (a : ByteArray) (c : List ByteArray) (n m3 : Int) : ∀ (l A : List Int), (A ++ l).length ≤ 2000000 →
    Ends (fun k => spec_counted.l0 k n 32 m3 (A ++ l) ((A ++ l).length : Int) (A.length : Int) a (A ++ l) c) (fun r => r = true → ((A ++ l).length : Int) = n ∧ ∀ x ∈ l, x ≤ 4294967295)
  | [], A, hl => by
    refine Ends.step (fun k => by rw [spec_counted.l0]) ?_
    simp only [List.append_nil, if_neg (show ¬ ((A.length : Int) < (A.length : Int)) by omega)]
    by_cases e : (A.length : Int) = n
    · simp only [if_pos e]; exact Ends.now fun _ => ⟨e, by simp⟩
    · simp only [if_neg e]; exact Ends.now (by simp)
  | x :: l, A, hl => by
    have hll : A.length + (l.length + 1) ≤ 2000000 := by simpa using hl
    refine Ends.step (fun k => by rw [spec_counted.l0]) ?_
    have w : wrap64 ((A.length : Int) + 1) = ((A ++ [x]).length : Int) := by rw [wr64 _ (by omega)]; simp
    have e : A ++ x :: l = (A ++ [x]) ++ l := by simp
    have r : rd (A ++ x :: l) (A.length : Int) = x := by unfold rd; simp
    have cl : (A.length : Int) < ((A ++ x :: l).length : Int) := by simp; omega
    have h31 : (0 : Int) ≤ wrap64 (32 - 1) := by rw [show wrap64 (32 - 1) = 31 from wr64 31 (by omega)]; omega
    simp only [if_pos cl, if_pos (show (0 : Int) ≤ (A.length : Int) by omega), if_pos h31, r, w, lim32]
    by_cases d : x > 4294967295
    · simp only [if_pos d]; exact Ends.now (by simp)
    · simp only [if_neg d]
      have := counted_len a c n m3 l (A ++ [x]) (by rw [← e]; exact hl)
      rw [← e] at this
      refine this.mono fun r hr h => ⟨(hr h).1, fun y hy => ?_⟩
      rcases List.mem_cons.1 hy with hy | hy
      · rw [hy]; omega
      · exact (hr h).2 y hy
theorem begins_ev (T H : ByteArray) (hs : T.size ≤ 40000) : ∃ r, spec_Begins.f T H = some r ∧ (r = true → H.size ≤ T.size ∧ T.extract 0 H.size = H) := by
  unfold spec_Begins.f
  by_cases c : (T.size : Int) ≥ (H.size : Int)
  · simp only [if_pos c, if_pos (show (0 : Int) ≤ (H.size : Int) by omega), if_pos (show (H.size : Int) ≤ (T.size : Int) from c)]
    refine ⟨_, rfl, fun h => ⟨by omega, ?_⟩⟩
    have := eq_of_beq h
    rw [Int.toNat_natCast] at this
    exact toList_inj this
  · simp only [if_neg c]
    exact ⟨false, rfl, fun h => by cases h⟩
end Go.Proofs.YtabfehcpcjcomaaGreatDoor.R
namespace Go.Proofs.YtabfehcpcjcomaaGreatDoor.R
open Go.RowKit Go.Proofs.YtabfehcpcjcomaaGreatDoor.QA0 Go.Proofs.YtabfehcpcjcomaaGreatDoorW.PrintWords Go.Proofs.YtabfehcpcjcomaaGreatDoorW.PrintLast Go.Proofs.YtabfehcpcjcomaaGreatDoorW.PrintMore
set_option linter.unusedVariables false
set_option linter.unusedSimpArgs false
theorem line_head : ∀ (h r : Bs), (∀ c ∈ h, c ≠ 10) → lineOf (h ++ 10 :: r) = h
  | [], r, _ => by simp [lineOf]
  | c :: h, r, hh => by
    have hc : (c != 10) = true := bne_iff_ne.2 (hh c (by simp))
    have := line_head h r (fun x hx => hh x (by simp [hx]))
    unfold lineOf at this ⊢
    rw [List.cons_append, List.takeWhile_cons, if_pos hc, this]
theorem rest_head (h r : Bs) (hh : ∀ c ∈ h, c ≠ 10) : restOf (h ++ 10 :: r) = r := by
  unfold restOf
  rw [line_head h r hh]
  have e : h ++ 10 :: r = (h ++ [10]) ++ r := by simp
  have l : h.length + 1 = (h ++ [(10 : UInt8)]).length := by simp
  rw [e, l, List.drop_left]
end Go.Proofs.YtabfehcpcjcomaaGreatDoor.R
namespace Go.Proofs.YtabfehcpcjcomaaGreatDoor.R
open Go.RowKit Go.Proofs.YtabfehcpcjcomaaGreatDoor.QA0 Go.Proofs.YtabfehcpcjcomaaGreatDoorW.PrintWords Go.Proofs.YtabfehcpcjcomaaGreatDoorW.PrintLast Go.Proofs.YtabfehcpcjcomaaGreatDoorW.PrintMore
set_option linter.unusedVariables false
set_option linter.unusedSimpArgs false
theorem Ends.ite {α : Type} {c : Prop} [Decidable c] {g f : Nat → Option α} {P : α → Prop} (a : Ends g P) (b : Ends f P) : Ends (fun k => if c then g k else f k) P := by
  by_cases h : c
  · simp only [if_pos h]; exact a
  · simp only [if_neg h]; exact b
theorem Ev.same {α : Type} {g : Nat → Option α} {a b : α} (h : Ev g a) (k : Ev g b) : a = b := by
  obtain ⟨n, h⟩ := h
  obtain ⟨m, k⟩ := k
  have x := h (n + m) (by omega)
  have y := k (n + m) (by omega)
  rw [x] at y
  exact Option.some.inj y
theorem ifn_go (T : ByteArray) (hs : T.size ≤ 40000) : ∀ (n : Nat) (x7 : Int), 0 ≤ x7 → x7 ≤ (T.size : Int) → n = ((T.size : Int) - x7).toNat → Ends (fun k => spec_ifName.l0 k T (T.size : Int) x7) (fun _ => True)
  | 0, x7, h0, h1, hn => by
    refine Ends.step (fun k => by rw [spec_ifName.l0]) ?_
    simp only [if_neg (show ¬ (x7 < (T.size : Int)) by omega)]
    exact Ends.ite (Ends.now trivial) (Ends.now trivial)
  | n + 1, x7, h0, h1, hn => by
    refine Ends.step (fun k => by rw [spec_ifName.l0]) ?_
    have w : wrap64 (x7 + 1) = x7 + 1 := wr64 _ (by omega)
    have ih := ifn_go T hs n (x7 + 1) (by omega) (by omega) (by omega)
    simp only [if_pos (show x7 < (T.size : Int) by omega), if_pos h0, w]
    repeat' (first | exact ih | exact Ends.now trivial | refine Ends.ite ?_ ?_)
theorem ifn_ends (T : ByteArray) (hs : T.size ≤ 40000) : Ends (fun k => spec_ifName.f k T) (fun _ => True) := by
  unfold spec_ifName.f
  exact ifn_go T hs _ 0 (by omega) (by omega) rfl
theorem ifn_star : Ev (fun k => spec_ifName.f k ⟨#[42]⟩) false := by
  unfold spec_ifName.f
  refine Ev.step (fun k => by rw [spec_ifName.l0]) ?_
  have hb : bt (⟨#[42]⟩ : ByteArray) 0 = 42 := rfl
  have hz : ((⟨#[42]⟩ : ByteArray).size : Int) = 1 := rfl
  simp only [hz, hb, if_pos (show (0 : Int) < 1 by omega), if_pos (show (0 : Int) ≤ 0 by omega), if_pos (show (42 : Int) < 97 by omega), if_pos (show (42 : Int) < 65 by omega), if_pos (show (42 : Int) < 48 by omega), if_neg (show ¬ (42 : Int) = 46 by omega), if_neg (show ¬ (42 : Int) = 45 by omega), if_neg (show ¬ (42 : Int) = 95 by omega)]
  exact Ev.now _
def rowR (f0 : Bs) (ns : List Int) : S48 := ⟨B f0, ns, []⟩
def RouteFine (rows : List S48) : Prop := ∀ r ∈ rows, r.f1.length = 10 ∧ (∀ x ∈ r.f1, x ≤ 4294967295) ∧ rd r.f1 2 ≤ 9 ∧ r.f0 ≠ ⟨#[42]⟩
theorem counted10 (a : ByteArray) (l : List Int) (c : List ByteArray) (m3 : Int) (hl : l.length ≤ 2000000) : Ends (fun k => spec_counted.f k a l c 10 32 m3) (fun r => r = true → l.length = 10 ∧ ∀ x ∈ l, x ≤ 4294967295) := by
  unfold spec_counted.f
  exact (counted_len a c 10 m3 l [] (by simpa using hl)).mono fun r hr h => ⟨by have := (hr h).1; simp only [List.nil_append] at this; omega, (hr h).2⟩
theorem rfine_go : ∀ (l A : List S48), (A ++ l).length ≤ 2000000 → (∀ r ∈ l, r.f1.length ≤ 2000000 ∧ r.f0.size ≤ 40000) →
    Ends (fun k => spec_routeFine.l0 k (A ++ l) ((A ++ l).length : Int) (A.length : Int)) (fun r => r = true → RouteFine l)
  | [], A, hl, hx => by
    refine Ends.step (fun k => by rw [spec_routeFine.l0]) ?_
    simp only [List.append_nil, if_neg (show ¬ ((A.length : Int) < (A.length : Int)) by omega)]
    exact Ends.now fun _ r hr => by cases hr
  | x :: l, A, hl, hx => by
    have hll : A.length + (l.length + 1) ≤ 2000000 := by simpa using hl
    obtain ⟨hx1, hx0⟩ := hx x (by simp)
    refine Ends.step (fun k => by rw [spec_routeFine.l0]) ?_
    have w : wrap64 ((A.length : Int) + 1) = ((A ++ [x]).length : Int) := by rw [wr64 _ (by omega)]; simp
    have e : A ++ x :: l = (A ++ [x]) ++ l := by simp
    have cl : (A.length : Int) < ((A ++ x :: l).length : Int) := by simp; omega
    simp only [if_pos cl, if_pos (show (0 : Int) ≤ (A.length : Int) by omega), rd48_mid, w]
    obtain ⟨b, hb, _⟩ := ifn_ends x.f0 hx0
    refine Ends.bind (P := fun y => y = b) ⟨b, hb, rfl⟩ fun y hy => ?_
    subst hy
    by_cases a : y = true
    · subst a
      simp only [if_true]
      have hstar : x.f0 ≠ ⟨#[42]⟩ := by
        intro e0
        rw [e0] at hb
        have := Ev.same hb ifn_star
        cases this
      refine Ends.bind (counted10 x.f0 x.f1 x.f2 0 hx1) fun t ht => ?_
      by_cases c : t = true
      · obtain ⟨h10, hM⟩ := ht c
        simp only [if_pos c, if_pos (show (2 : Int) < (x.f1.length : Int) by omega)]
        by_cases d : rd x.f1 2 > 9
        · simp only [if_pos d]; exact Ends.now (by simp)
        · simp only [if_neg d]
          have := rfine_go l (A ++ [x]) (by rw [← e]; exact hl) (fun r hr => hx r (by simp [hr]))
          rw [← e] at this
          refine this.mono fun r hr h y hy => ?_
          rcases List.mem_cons.1 hy with hy | hy
          · rw [hy]; exact ⟨h10, hM, by omega, hstar⟩
          · exact hr h y hy
      · simp only [if_neg c]; exact Ends.now (by simp)
    · simp only [if_neg a]; exact Ends.now (by simp)
theorem rfine_ends (l : List S48) (hl : l.length ≤ 2000000) (hx : ∀ r ∈ l, r.f1.length ≤ 2000000 ∧ r.f0.size ≤ 40000) : Ends (fun k => spec_routeFine.f k l) (fun r => r = true → RouteFine l) := by
  unfold spec_routeFine.f
  exact rfine_go l [] (by simpa using hl) hx
def NumAt (i : Nat) (f : Bs) (n : Int) : Prop := U64 n ∧ if i < 3 ∨ i = 6 then hexF f = some n.toNat else f = Lib.decDigits n.toNat
inductive NumsAt : Nat → List Bs → List Int → Prop
  | nil {i} : NumsAt i [] []
  | cons {i f n l ns} : NumAt i f n → NumsAt (i + 1) l ns → NumsAt i (f :: l) (n :: ns)
theorem number10_go (T : ByteArray) (hs : T.size ≤ 40000) : Ends (fun k => spec_Number.f k T 10) (fun r => U64 r.1) := by
  unfold spec_Number.f
  exact number_go T 10 (by omega) hs _ 0 0 (by unfold U64; omega) (by omega) (by omega) rfl
theorem route_l1 (x5 : List S48) (LS : List ByteArray) (N19 x19 : Int) (nm : ByteArray) (Q : List Int → (List S48 × Bool × Int) → Prop) (h5 : x5.length < 2199023255552)
    (hk : ∀ ns : List Int, (∀ x ∈ ns, U64 x) → ns.length ≤ 2000000 → Ends (fun k => spec_RouteRead.l0 k (x5 ++ [⟨nm, ns, []⟩]) LS N19 (wrap64 (x19 + 1))) (fun r => r.2.2 = 1 → Q ns r)) :
    ∀ (l A : List Bs) (nums : List Int), (A ++ l).length ≤ 1048576 → (∀ f ∈ A ++ l, f.length ≤ 40000) → nums.length ≤ A.length → (∀ x ∈ nums, U64 x) →
      Ends (fun k => spec_RouteRead.l1 k x5 LS N19 x19 ((A ++ l).map B) (((A ++ l).map B).length : Int) (A.length : Int) nm nums) (fun r => r.2.2 = 1 → ∃ ns, NumsAt A.length l ns ∧ Q (nums ++ ns) r)
  | [], A, nums, hl, hf, hn, hu => by
    refine Ends.step (fun k => by rw [spec_RouteRead.l1]) ?_
    have c : ¬ ((A.length : Int) < (((A ++ []).map B).length : Int)) := by simp
    simp only [List.append_nil] at hl
    simp only [if_neg c, if_pos h5]
    refine (hk nums hu (by omega)).mono fun r hr h => ⟨[], .nil, ?_⟩
    rw [List.append_nil]
    exact hr h
  | f :: l, A, nums, hl, hf, hn, hu => by
    have hll : A.length + (l.length + 1) ≤ 1048576 := by simpa using hl
    refine Ends.step (fun k => by rw [spec_RouteRead.l1]) ?_
    have w : wrap64 ((A.length : Int) + 1) = ((A ++ [f]).length : Int) := by rw [wr64 _ (by omega)]; simp
    have e : A ++ f :: l = (A ++ [f]) ++ l := by simp
    have r : rdOf ByteArray.empty ((A ++ f :: l).map B) (A.length : Int) = B f := by
      have := rd_mid (A.map B) (B f) (l.map B)
      rw [List.length_map] at this
      rw [List.map_append]
      exact this
    have cl : (A.length : Int) < (((A ++ f :: l).map B).length : Int) := by simp; omega
    have hfl := hf f (by simp)
    have next : ∀ v : Int, U64 v → NumAt A.length f v → Ends (fun k => spec_RouteRead.l1 k x5 LS N19 x19 ((A ++ f :: l).map B) (((A ++ f :: l).map B).length : Int) ((A ++ [f]).length : Int) nm (nums ++ [v])) (fun r => r.2.2 = 1 → ∃ ns, NumsAt A.length (f :: l) ns ∧ Q (nums ++ ns) r) := by
      intro v hv hat
      have := route_l1 x5 LS N19 x19 nm Q h5 hk l (A ++ [f]) (nums ++ [v]) (by rw [← e]; exact hl) (by rw [← e]; exact hf) (by simp; omega) (by
        intro x hm
        rcases List.mem_append.1 hm with hm | hm
        · exact hu x hm
        · rw [List.mem_singleton.1 hm]; exact hv)
      rw [← e] at this
      refine this.mono fun r hr h => ?_
      obtain ⟨ns, h1, h2⟩ := hr h
      refine ⟨v :: ns, .cons hat (by simpa using h1), ?_⟩
      rw [List.append_assoc] at h2
      exact h2
    have hex : (A.length < 3 ∨ A.length = 6) → Ends (fun k => spec_RouteRead.j4 k x5 (B f) 16 LS N19 x19 ((A ++ f :: l).map B) (((A ++ f :: l).map B).length : Int) (A.length : Int) nm nums) (fun r => r.2.2 = 1 → ∃ ns, NumsAt A.length (f :: l) ns ∧ Q (nums ++ ns) r) := by
      intro hi
      refine Ends.step (fun k => by rw [spec_RouteRead.j4]) ?_
      refine Ends.bind (number16 f (by omega)) fun t ht => ?_
      by_cases c : t.2 = true
      · simp only [if_pos c, if_neg (show ¬ (16 : Int) = 10 by omega), if_pos (show nums.length < 17592186044416 by omega), w]
        exact next t.1 ht.1 ⟨ht.1, by rw [if_pos hi]; exact ht.2 c⟩
      · simp only [if_neg c]; exact Ends.now (by simp)
    have dec : ¬ (A.length < 3 ∨ A.length = 6) → Ends (fun k => spec_RouteRead.j4 k x5 (B f) 10 LS N19 x19 ((A ++ f :: l).map B) (((A ++ f :: l).map B).length : Int) (A.length : Int) nm nums) (fun r => r.2.2 = 1 → ∃ ns, NumsAt A.length (f :: l) ns ∧ Q (nums ++ ns) r) := by
      intro hi
      refine Ends.step (fun k => by rw [spec_RouteRead.j4]) ?_
      refine Ends.bind (number10_go (B f) (by rw [B_size]; omega)) fun t ht => ?_
      by_cases c : t.2 = true
      · simp only [if_pos c]
        refine Ends.bind (Ends.ev (text_ev t.1 ht)) fun s hs => ?_
        subst hs
        by_cases d : (decB t.1.toNat).toList = (B f).toList
        · simp only [if_true, if_pos d, if_pos (show nums.length < 17592186044416 by omega), w]
          refine next t.1 ht ⟨ht, ?_⟩
          rw [if_neg hi]
          have := toList_inj d
          have h2 : (decB t.1.toNat).data.toList = (B f).data.toList := by rw [this]
          rw [B_data] at h2
          exact h2.symm
        · simp only [if_true, if_neg d]; exact Ends.now (by simp)
      · simp only [if_neg c]; exact Ends.now (by simp)
    simp only [if_pos cl, if_pos (show (0 : Int) ≤ (A.length : Int) by omega), r]
    by_cases h3 : (A.length : Int) < 3
    · simp only [if_pos h3]
      refine Ends.step (fun k => by rw [spec_RouteRead.j3]) ?_
      simp only [if_true]
      exact hex (.inl (by omega))
    · simp only [if_neg h3]
      refine Ends.step (fun k => by rw [spec_RouteRead.j3]) ?_
      by_cases h6 : (A.length : Int) = 6
      · have hb : ((A.length : Int) == 6) = true := beq_iff_eq.2 h6
        simp only [hb, if_true]
        exact hex (.inr (by omega))
      · have hb : ((A.length : Int) == 6) = false := beq_eq_false_iff_ne.2 h6
        simp only [hb, Bool.false_eq_true, if_false]
        exact dec (by omega)
inductive RouteRows : List Bs → List (Bs × List Int) → Prop
  | nil : RouteRows [] []
  | cons {l f0 fl ns L N} : fieldsL l = f0 :: fl → fl.length = 10 → NumsAt 0 fl ns → RouteRows L N → RouteRows (l :: L) ((f0, ns) :: N)
def rowP (p : Bs × List Int) : S48 := rowR p.1 p.2
theorem route_go : ∀ (l A : List Bs) (rows : List (Bs × List Int)), (A ++ l).length ≤ 1048576 → (∀ x ∈ A ++ l, x.length ≤ 40000) → rows.length ≤ A.length → (∀ n ∈ rows, n.2.length ≤ 2000000 ∧ n.1.length ≤ 40000) →
    Ends (fun k => spec_RouteRead.l0 k (rows.map rowP) ((A ++ l).map B) (((A ++ l).map B).length : Int) (A.length : Int))
      (fun r => r.2.2 = 1 → ∃ N, RouteRows l N ∧ r.1 = (rows ++ N).map rowP ∧ r.2.1 = true ∧ RouteFine r.1 ∧ Ev (fun k => spec_routeFine.f k r.1) true)
  | [], A, rows, hl, hx, hr, hn => by
    simp only [List.append_nil] at hl
    refine Ends.step (fun k => by rw [spec_RouteRead.l0]) ?_
    have c : ¬ ((A.length : Int) < (((A ++ []).map B).length : Int)) := by simp
    simp only [if_neg c]
    obtain ⟨t, ht, hp⟩ := rfine_ends (rows.map rowP) (by simp; omega) (by
      intro r hr
      obtain ⟨n, hn', rfl⟩ := List.mem_map.1 hr
      have := hn n hn'
      exact ⟨this.1, by show (B n.1).size ≤ 40000; rw [B_size]; exact this.2⟩)
    refine Ends.bind ⟨t, ht, rfl⟩ (P := fun x => x = t) fun x hx => ?_
    subst hx
    unfold spec_told.f
    by_cases e : x = true
    · simp only [if_pos e, Option.bind_some]
      subst e
      exact Ends.now fun _ => ⟨[], .nil, by simp, rfl, hp rfl, ht⟩
    · simp only [if_neg e, Option.bind_some]
      exact Ends.now (by simp)
  | x :: l, A, rows, hl, hx, hr, hn => by
    have hll : A.length + (l.length + 1) ≤ 1048576 := by simpa using hl
    refine Ends.step (fun k => by rw [spec_RouteRead.l0]) ?_
    have e : A ++ x :: l = (A ++ [x]) ++ l := by simp
    have w : wrap64 ((A.length : Int) + 1) = ((A ++ [x]).length : Int) := by rw [wr64 _ (by omega)]; simp
    have r : rdOf ByteArray.empty ((A ++ x :: l).map B) (A.length : Int) = B x := by
      have := rd_mid (A.map B) (B x) (l.map B)
      rw [List.length_map] at this
      rw [List.map_append]
      exact this
    have cl : (A.length : Int) < (((A ++ x :: l).map B).length : Int) := by simp; omega
    simp only [if_pos cl, if_pos (show (0 : Int) ≤ (A.length : Int) by omega), r]
    have hxl := hx x (by simp)
    refine Ends.bind (Ends.ev (fieldsL_ev x (by omega))) fun fs hfs => ?_
    subst hfs
    have hfl := fgo_len x []
    simp only [List.length_nil, Nat.zero_add] at hfl
    by_cases c11 : (((fieldsL x).map B).length : Int) = 11
    · simp only [if_pos c11, if_pos (show (0 : Int) < (((fieldsL x).map B).length : Int) by omega), if_pos (show (1 : Int) ≤ (((fieldsL x).map B).length : Int) by omega), Option.bind_some]
      have hfe : fieldsL x = fgo [] x := rfl
      rw [← hfe] at hfl
      obtain ⟨F, hFe⟩ : ∃ F, fieldsL x = F := ⟨_, rfl⟩
      rw [hFe] at c11 hfl ⊢
      match F, c11, hfl, hFe with
      | [], c11, _, _ => simp at c11
      | f0 :: fl, c11, hfl, hFe =>
        have h10 : fl.length = 10 := by simp only [List.map_cons, List.length_cons, List.length_map] at c11; omega
        have ed : ((f0 :: fl).map B).drop 1 = fl.map B := rfl
        have er : rdOf ByteArray.empty ((f0 :: fl).map B) 0 = B f0 := rfl
        rw [ed, er]
        have hfn : (f0 :: fl).length ≤ 12 := by simp only [List.length_cons]; omega
        have := route_l1 (rows.map rowP) ((A ++ x :: l).map B) (((A ++ x :: l).map B).length : Int) (A.length : Int) (B f0)
          (fun ns r => ∃ N, RouteRows l N ∧ r.1 = (rows ++ (f0, ns) :: N).map rowP ∧ r.2.1 = true ∧ RouteFine r.1 ∧ Ev (fun k => spec_routeFine.f k r.1) true) (by simp; omega)
          (fun ns hu hns => by
            have := route_go l (A ++ [x]) (rows ++ [(f0, ns)]) (by rw [← e]; exact hl) (by rw [← e]; exact hx) (by simp; omega) (by
              intro n hm
              rcases List.mem_append.1 hm with hm | hm
              · exact hn n hm
              · rw [List.mem_singleton.1 hm]
                have := hfl f0 (by simp)
                exact ⟨hns, by show f0.length ≤ 40000; omega⟩)
            rw [← e, ← w] at this
            simp only [List.map_append, List.map_cons, List.map_nil] at this ⊢
            refine this.mono fun r hr h => ?_
            obtain ⟨N, h1, h2, h3⟩ := hr h
            exact ⟨N, h1, by simpa using h2, h3⟩)
          fl [] [] (by simp; omega) (by
            intro f hf
            have := hfl f (by simp at hf; simp [hf])
            omega) (by simp) (by simp)
        refine this.mono fun r hr h => ?_
        obtain ⟨ns, h1, N, h2, h3⟩ := hr h
        refine ⟨(f0, ns) :: N, .cons hFe h10 h1 h2, h3⟩
    · simp only [if_neg c11]; exact Ends.now (by simp)
theorem route_read (T : ByteArray) (hs : T.size ≤ 40000) (H : ByteArray) (hH : H.size = 128) (hf : ∀ k, spec_RouteRead.f k T = (spec_Plain.f k T).bind fun t1229 => (if t1229 = true then ((spec_Begins.f T H).bind fun t1230 => (spec_RouteRead.j0 k T (!t1230))) else (spec_RouteRead.j0 k T true))) :
    Ends (fun k => spec_RouteRead.f k T)
    (fun r => r.2.2 = 1 → ∃ N, T.data.toList.all plainT = true ∧ T.data.toList = H.data.toList ++ T.data.toList.drop 128 ∧ RouteRows (linesL (T.data.toList.drop 128)) N ∧ r.1 = N.map rowP ∧ r.2.1 = true ∧ RouteFine r.1 ∧ Ev (fun k => spec_routeFine.f k r.1) true) := by
  have no : ∀ (P : List S48 × Bool × Int → Prop), Ends (fun k => spec_RouteRead.j0 k T true) (fun r => r.2.2 = 1 → P r) := by
    intro P
    refine Ends.step (fun k => by rw [spec_RouteRead.j0]) ?_
    simp only [if_true]
    exact Ends.now (fun h => by simp at h)
  simp only [hf]
  refine Ends.bind (plain_text T hs) fun p hp => ?_
  by_cases c : p = true
  · simp only [if_pos c]
    obtain ⟨b, hb, hb2⟩ := begins_ev T H hs
    simp only [hb, Option.bind_some]
    cases b with
    | false => simp only [Bool.not_false]; exact no _
    | true =>
      simp only [Bool.not_true]
      obtain ⟨h1, h2⟩ := hb2 rfl
      refine Ends.step (fun k => by rw [spec_RouteRead.j0]) ?_
      have hz : T.data.toList.length = T.size := by simp
      simp only [Bool.false_eq_true, if_false, if_pos (show (128 : Int) ≤ (T.size : Int) by omega)]
      have hx : T.extract 128 T.size = B (T.data.toList.drop 128) := by
        have := B_drop T.data.toList 128
        rw [← B_of T] at this
        exact this
      have hL := linesL_ev (T.data.toList.drop 128) (by rw [List.length_drop]; omega)
      rw [hx]
      refine Ends.bind (Ends.ev hL) fun ls hls => ?_
      subst hls
      have h3 := lines_n (T.data.toList.drop 128) []
      have h4 := lines_len (T.data.toList.drop 128) []
      simp only [if_true, List.length_nil, Nat.add_zero, Nat.zero_add, List.length_drop] at h3 h4
      have := route_go (linesL (T.data.toList.drop 128)) [] [] (by unfold linesL; simp only [List.nil_append]; omega) (by
        intro x hx
        have := h4 x (by simpa [linesL] using hx)
        omega) (by simp) (by simp)
      refine this.mono fun r hr h => ?_
      obtain ⟨N, a, b⟩ := hr h
      refine ⟨N, hp c, ?_, a, by simpa using b⟩
      have e : T.data.toList.take 128 = H.data.toList := by
        have := B_take T.data.toList 128
        rw [← B_of T] at this
        rw [hH] at h2
        rw [h2] at this
        rw [this, B_data]
      rw [← e]
      exact (List.take_append_drop 128 _).symm
  · simp only [if_neg c]; exact no _
end Go.Proofs.YtabfehcpcjcomaaGreatDoor.R
namespace Go.Proofs.YtabfehcpcjcomaaGreatDoor.R
open Go.RowKit Go.Proofs.YtabfehcpcjcomaaGreatDoor.QA0 Go.Proofs.YtabfehcpcjcomaaGreatDoorW.PrintWords Go.Proofs.YtabfehcpcjcomaaGreatDoorW.PrintLast Go.Proofs.YtabfehcpcjcomaaGreatDoorW.PrintMore
set_option linter.unusedVariables false
set_option linter.unusedSimpArgs false
theorem pum32_one (acc d : Nat) (hd : d < 10) (h : acc * 10 + d < 4294967296) : Lib.parseUintM 4294967295 acc [UInt8.ofNat (48 + d)] = .ok (acc * 10 + d) := by
  simp only [Lib.parseUintM, dg_nat d hd]
  rw [if_pos (by omega), if_neg (by omega), if_neg (by omega)]
  congr 1
  omega
theorem pum32_dec (n : Nat) (hn : n < 4294967296) : Lib.parseUintM 4294967295 0 (Lib.decDigits n) = .ok n := by
  induction n using Nat.strongRecOn with
  | _ n ih =>
    rw [Lib.decDigits]
    by_cases h : n < 10
    · rw [dif_pos h, pum32_one 0 n h (by omega)]
      congr 1; omega
    · rw [dif_neg h, pum_app _ _ _ _ _ (ih (n / 10) (by omega) (by omega)), pum32_one _ _ (by omega) (by omega)]
      congr 1; omega
theorem decI_of (f : Bs) (n : Nat) (hf : f.length ≤ 1048576) (hn : n ≤ 4294967295) (hne : f ≠ []) (h : Lib.parseUintM 4294967295 0 f = .ok n) : decI (bs f) = some (n : Int) := by
  have hz : (bs f).size = f.length := B_size f
  have hp : Lib.parseUintB 32 (bs f).data.toList = .ok n := by
    show Lib.parseUintB 32 f = .ok n
    unfold Lib.parseUintB
    rw [if_neg hne]
    exact h
  unfold decI uintF
  rw [if_neg (by rintro ⟨_, h, _⟩; omega), if_pos ⟨rfl, rfl, by omega⟩, hp]
  simp only [Option.bind_some]
  rw [if_pos ⟨by trivial, by omega, by omega⟩]
theorem decI_dec (n : Int) (h0 : 0 ≤ n) (h1 : n ≤ 4294967295) : decI (bs (Lib.decDigits n.toNat)) = some n := by
  have hl : (Lib.decDigits n.toNat).length ≤ 20 := by
    have := decT_size n (by unfold U64; omega)
    have e : (decT n).size = (Lib.decDigits n.toNat).length := B_size _
    omega
  have := decI_of (Lib.decDigits n.toNat) n.toNat (by omega) (by omega) (dec_ne _) (pum32_dec n.toNat (by omega))
  rw [this]
  congr 1
  omega
theorem hex_small : ∀ (l : Bs) (acc m : Nat), hexN acc l = some m → m ≤ 9 → Lib.parseUintM 4294967295 acc l = .ok m
  | [], acc, m, h, hm => by
    simp only [hexN, Option.some.injEq] at h
    subst h
    simp only [Lib.parseUintM]
  | c :: l, acc, m, h, hm => by
    simp only [hexN] at h
    split at h
    · rename_i hv
      have hge := hexN_ge _ _ _ h
      have hacc : acc = 0 := by omega
      subst hacc
      have hv9 : hexV c ≤ 9 := by omega
      have hc : 48 ≤ c.toNat ∧ c.toNat ≤ 57 ∧ hexV c = c.toNat - 48 := by
        unfold hexV at hv9 ⊢
        by_cases a : 48 ≤ c.toNat ∧ c.toNat ≤ 57
        · rw [if_pos a]; exact ⟨a.1, a.2, rfl⟩
        · rw [if_neg a] at hv9
          by_cases b : 97 ≤ c.toNat ∧ c.toNat ≤ 102
          · rw [if_pos b] at hv9; omega
          · rw [if_neg b] at hv9
            by_cases d : 65 ≤ c.toNat ∧ c.toNat ≤ 70
            · rw [if_pos d] at hv9; omega
            · rw [if_neg d] at hv9; omega
      have ih := hex_small l (0 * 16 + hexV c) m h hm
      simp only [Lib.parseUintM]
      rw [if_pos (by omega), if_neg (by omega), if_neg (by omega)]
      have e : 0 * 16 + hexV c = 0 * 10 + (c.toNat - 48) := by omega
      rw [e] at ih
      exact ih
    · cases h
theorem hexI_of (f : Bs) (n : Int) (hu : U64 n) (hf : f.length ≤ 1048576) (h1 : n ≤ 4294967295) (h : hexF f = some n.toNat) : hexI (bs f) = some n := by
  unfold hexI
  have hz : (bs f).size = f.length := B_size f
  have hd : (bs f).data.toList = f := rfl
  unfold U64 at hu
  rw [if_pos (by omega), hd, h, Option.bind_some, if_pos (by omega)]
  congr 1
  omega
theorem decI_hex (f : Bs) (n : Int) (hu : U64 n) (hf : f.length ≤ 1048576) (h1 : n ≤ 9) (h : hexF f = some n.toNat) : decI (bs f) = some n := by
  unfold U64 at hu
  have hne : f ≠ [] := by
    intro e
    rw [e] at h
    simp [hexF] at h
  have h2 : hexN 0 f = some n.toNat := by
    unfold hexF at h
    rw [if_neg hne] at h
    exact h
  have := decI_of f n.toNat hf (by omega) hne (hex_small f 0 n.toNat h2 (by omega))
  rw [this]
  congr 1
  omega
theorem nums_cons {i : Nat} {f : Bs} {l : List Bs} {ns : List Int} (h : NumsAt i (f :: l) ns) : ∃ n ns', ns = n :: ns' ∧ NumAt i f n ∧ NumsAt (i + 1) l ns' := by
  cases h with
  | cons a b => exact ⟨_, _, rfl, a, b⟩
theorem nums_nil {i : Nat} {ns : List Int} (h : NumsAt i [] ns) : ns = [] := by
  cases h with
  | nil => rfl
def routeOf (p : Bs × List Int) : S124 := ⟨B p.1, rd p.2 0, rd p.2 1, rd p.2 2, rd p.2 3, rd p.2 4, rd p.2 5, rd p.2 6, rd p.2 7, rd p.2 8, rd p.2 9⟩
theorem route_row (f0 : Bs) (fl : List Bs) (ns : List Int) (h10 : fl.length = 10) (h : NumsAt 0 fl ns) (hf : ∀ f ∈ fl, f.length ≤ 1048576) (hM : ∀ x ∈ ns, x ≤ 4294967295) (h9 : rd ns 2 ≤ 9) (hs : B f0 ≠ ⟨#[42]⟩) :
    routeF ((f0 :: fl).map bs) = some (routeOf (f0, ns)) := by
  match fl, h10, h, hf with
  | [f1, f2, f3, f4, f5, f6, f7, f8, f9, f10], _, h, hf =>
    obtain ⟨n1, ns1, rfl, a1, h⟩ := nums_cons h
    obtain ⟨n2, ns2, rfl, a2, h⟩ := nums_cons h
    obtain ⟨n3, ns3, rfl, a3, h⟩ := nums_cons h
    obtain ⟨n4, ns4, rfl, a4, h⟩ := nums_cons h
    obtain ⟨n5, ns5, rfl, a5, h⟩ := nums_cons h
    obtain ⟨n6, ns6, rfl, a6, h⟩ := nums_cons h
    obtain ⟨n7, ns7, rfl, a7, h⟩ := nums_cons h
    obtain ⟨n8, ns8, rfl, a8, h⟩ := nums_cons h
    obtain ⟨n9, ns9, rfl, a9, h⟩ := nums_cons h
    obtain ⟨n10, ns10, rfl, a10, h⟩ := nums_cons h
    obtain rfl := nums_nil h
    have e1 : hexI (bs f1) = some n1 := hexI_of f1 n1 a1.1 (hf f1 (by simp)) (hM n1 (by simp)) (by have := a1.2; rw [if_pos (by omega)] at this; exact this)
    have e2 : hexI (bs f2) = some n2 := hexI_of f2 n2 a2.1 (hf f2 (by simp)) (hM n2 (by simp)) (by have := a2.2; rw [if_pos (by omega)] at this; exact this)
    have e3 : decI (bs f3) = some n3 := decI_hex f3 n3 a3.1 (hf f3 (by simp)) h9 (by have := a3.2; rw [if_pos (by omega)] at this; exact this)
    have e4 : decI (bs f4) = some n4 := by have := a4.2; rw [if_neg (by omega)] at this; rw [this]; exact decI_dec n4 a4.1.1 (hM n4 (by simp))
    have e5 : decI (bs f5) = some n5 := by have := a5.2; rw [if_neg (by omega)] at this; rw [this]; exact decI_dec n5 a5.1.1 (hM n5 (by simp))
    have e6 : decI (bs f6) = some n6 := by have := a6.2; rw [if_neg (by omega)] at this; rw [this]; exact decI_dec n6 a6.1.1 (hM n6 (by simp))
    have e7 : hexI (bs f7) = some n7 := hexI_of f7 n7 a7.1 (hf f7 (by simp)) (hM n7 (by simp)) (by have := a7.2; rw [if_pos (by omega)] at this; exact this)
    have e8 : decI (bs f8) = some n8 := by have := a8.2; rw [if_neg (by omega)] at this; rw [this]; exact decI_dec n8 a8.1.1 (hM n8 (by simp))
    have e9 : decI (bs f9) = some n9 := by have := a9.2; rw [if_neg (by omega)] at this; rw [this]; exact decI_dec n9 a9.1.1 (hM n9 (by simp))
    have e10 : decI (bs f10) = some n10 := by have := a10.2; rw [if_neg (by omega)] at this; rw [this]; exact decI_dec n10 a10.1.1 (hM n10 (by simp))
    have hst : ¬ ((bs f0).toList = [42]) := by
      intro e
      refine hs ?_
      rw [ByteArray.toList_eq] at e
      exact ByteArray.ext (Array.toList_inj.1 e)
    simp only [List.map_cons, List.map_nil, routeF, if_neg hst, e1, e2, e3, e4, e5, e6, e7, e8, e9, e10, Option.bind_some, Option.map_some]
    rfl
def RowOk (p : Bs × List Int) : Prop := (∀ x ∈ p.2, x ≤ 4294967295) ∧ rd p.2 2 ≤ 9 ∧ B p.1 ≠ ⟨#[42]⟩
theorem routeRows_len {L : List Bs} {N : List (Bs × List Int)} (h : RouteRows L N) : N.length = L.length := by
  induction h with
  | nil => rfl
  | cons _ _ _ _ ih => simp [ih]
theorem route_parse : ∀ (n : Nat) (l : Bs) (N : List (Bs × List Int)) (acc : List S124) (L : ByteArray), l.length ≤ n → l.length ≤ 40000 → l.all plainT = true → RouteRows (linesL l) N → (∀ r ∈ N, RowOk r) → acc.length + l.length ≤ 40001 →
    Ev (fun k => routeGo k (B l) L 65536 none acc) (acc ++ N.map routeOf)
  | n, [], N, acc, L, hn, hl, hp, hr, hf, h5 => by
    refine Ev.step (fun k => by rw [routeGo]) ?_
    obtain rfl : N = [] := by
      have := routeRows_len hr
      exact List.eq_nil_of_length_eq_zero (this.trans rfl)
    simp only [scan_nil, Option.bind_some, Bool.false_eq_true, if_false, List.map_nil, List.append_nil]
    exact Ev.now _
  | 0, c :: l, N, acc, L, hn, hl, hp, hr, hf, h5 => by simp at hn
  | n + 1, c :: l, N, acc, L, hn, hl, hp, hr, hf, h5 => by
    have h0 : c :: l ≠ [] := by simp
    have hpl := line_plain _ h0 hp
    have hrp := rest_plain _ hp
    have hll := line_le (c :: l)
    have hrl : (restOf (c :: l)).length ≤ l.length := by unfold restOf; rw [List.length_drop]; simp only [List.length_cons]; omega
    rw [linesL_cons _ h0] at hr
    have hsc := scan_cons (c :: l) L h0 hl hpl
    have hln : (lineOf (c :: l)).length ≤ 1048576 := by omega
    generalize lineOf (c :: l) = ln at *
    generalize restOf (c :: l) = rest at *
    obtain ⟨f0, fl, ns, N', rfl, hF, h10, hN, hr'⟩ : ∃ f0 fl ns N', N = (f0, ns) :: N' ∧ fieldsL ln = f0 :: fl ∧ fl.length = 10 ∧ NumsAt 0 fl ns ∧ RouteRows (linesL rest) N' := by
      cases hr with
      | cons a b c d => exact ⟨_, _, _, _, rfl, a, b, c, d⟩
    obtain ⟨hM, h9, hst⟩ := hf (f0, ns) (by simp)
    have hfl : ∀ f ∈ fl, f.length ≤ 1048576 := by
      intro f hf
      have := fgo_len ln [] f (by show f ∈ fieldsL ln; rw [hF]; simp [hf])
      simp only [List.length_nil, Nat.zero_add] at this
      omega
    have hcf := route_row f0 fl ns h10 hN hfl hM h9 hst
    have hfi := fields_plain ln hpl hln
    rw [hF] at hfi
    have ih := route_parse n rest N' (acc ++ [routeOf (f0, ns)]) (B ln) (by simp only [List.length_cons] at hn; omega) (by simp only [List.length_cons] at hl; omega) hrp hr' (fun r hr => hf r (by simp [hr])) (by simp only [List.length_append, List.length_cons, List.length_nil] at *; omega)
    refine Ev.step (fun k => by rw [routeGo]) ?_
    have hacc : acc.length < 1000000 := by simp only [List.length_cons] at h5; omega
    simp only [hsc, Option.bind_some, if_true, hfi, hcf, if_pos hacc]
    rw [List.append_assoc] at ih
    exact ih
theorem routeT_ev (h rest : Bs) (hh : ∀ c ∈ h, c ≠ 10) (hs : (h ++ 10 :: rest).length ≤ 40000) (N : List (Bs × List Int)) (hp : (h ++ 10 :: rest).all plainT = true) (hr : RouteRows (linesL rest) N) (hf : ∀ r ∈ N, RowOk r) :
    Ev (fun k => routeT k (B (h ++ 10 :: rest))) (N.map routeOf) := by
  have h0 : h ++ 10 :: rest ≠ [] := by simp
  have hsc := scan_cons (h ++ 10 :: rest) ⟨#[]⟩ h0 hs (line_plain _ h0 hp)
  have hrp := rest_plain _ hp
  rw [rest_head h rest hh] at hsc hrp
  unfold routeT
  simp only [hsc, Option.bind_some]
  have hl : rest.length ≤ 40000 := by simp only [List.length_append, List.length_cons] at hs; omega
  exact route_parse rest.length rest N [] (B (lineOf (h ++ 10 :: rest))) (Nat.le_refl _) hl hrp hr hf (by simp only [List.length_nil]; omega)
def routeKids4 (s : S124) : List S34 := [⟨⟨#[73, 102, 97, 99, 101]⟩, 5, false, 0, 0, 0, s.f0, []⟩, lfU4 ⟨#[68, 101, 115, 116, 105, 110, 97, 116, 105, 111, 110]⟩ (IntKind.u64.wrap s.f1), lfU4 ⟨#[71, 97, 116, 101, 119, 97, 121]⟩ (IntKind.u64.wrap s.f2), lfU4 ⟨#[70, 108, 97, 103, 115]⟩ (IntKind.u64.wrap s.f3), lfU4 ⟨#[82, 101, 102, 67, 110, 116]⟩ (IntKind.u64.wrap s.f4), lfU4 ⟨#[85, 115, 101]⟩ (IntKind.u64.wrap s.f5), lfU4 ⟨#[77, 101, 116, 114, 105, 99]⟩ (IntKind.u64.wrap s.f6), lfU4 ⟨#[77, 97, 115, 107]⟩ (IntKind.u64.wrap s.f7), lfU4 ⟨#[77, 84, 85]⟩ (IntKind.u64.wrap s.f8), lfU4 ⟨#[87, 105, 110, 100, 111, 119]⟩ (IntKind.u64.wrap s.f9), lfU4 ⟨#[73, 82, 84, 84]⟩ (IntKind.u64.wrap s.f10)]
def routeNode4 (s : S124) : S34 := ⟨⟨#[]⟩, 8, false, 0, 0, 0, ⟨#[]⟩, routeKids4 s⟩
theorem route_kid (s : S124) : impl_Route_1_1.f s.f0 s.f1 s.f2 s.f3 s.f4 s.f5 s.f6 s.f7 s.f8 s.f9 s.f10 = some ((⟨#[]⟩ : ByteArray), 8, false, 0, 0, 0, (⟨#[]⟩ : ByteArray), routeKids4 s) := by
  unfold impl_Route_1_1.f impl_procfsNetRouteLine.f
  rfl
theorem route93_go (nm : ByteArray) : ∀ (l A : List S124) (acc : List S34), (A ++ l).length ≤ 1000000 → acc.length ≤ A.length →
    Ev (fun k => procfs_NetRouteLine_93.l0 k (A ++ l) ((A ++ l).length : Int) (A.length : Int) nm 6 false 0 0 0 ⟨#[]⟩ acc) (nm, 6, false, 0, 0, 0, (⟨#[]⟩ : ByteArray), acc ++ l.map routeNode4)
  | [], A, acc, hl, ha => by
    refine Ev.step (fun k => by rw [procfs_NetRouteLine_93.l0]) ?_
    simp only [List.append_nil, if_neg (show ¬ ((A.length : Int) < (A.length : Int)) by omega), List.map_nil]
    exact Ev.now _
  | x :: l, A, acc, hl, ha => by
    have hll : A.length + (l.length + 1) ≤ 1000000 := by simpa using hl
    refine Ev.step (fun k => by rw [procfs_NetRouteLine_93.l0]) ?_
    have w : wrap64 ((A.length : Int) + 1) = ((A ++ [x]).length : Int) := by rw [wr64 _ (by omega)]; simp
    have e : A ++ x :: l = (A ++ [x]) ++ l := by simp
    have r : rd_T124 (A ++ x :: l) (A.length : Int) = x := by unfold rd_T124; simp
    have cl : (A.length : Int) < ((A ++ x :: l).length : Int) := by simp; omega
    simp only [if_pos cl, if_pos (show (0 : Int) ≤ (A.length : Int) by omega), r, w, route_kid, Option.bind_some, if_pos (show acc.length < 1466015503701 by omega)]
    have := route93_go nm l (A ++ [x]) (acc ++ [routeNode4 x]) (by rw [← e]; exact hl) (by simp; omega)
    rw [e]
    rw [List.append_assoc acc] at this
    exact this
theorem route_impl (T : ByteArray) (hs : T.size ≤ 40000) (l : List S124) (hl : l.length ≤ 1000000) (h : Ev (fun k => routeT k T) l) :
    Ev (fun k => impl_Route.f k T) ((⟨#[]⟩ : ByteArray), 6, false, 0, 0, 0, (⟨#[]⟩ : ByteArray), l.map routeNode4, 0) := by
  unfold impl_Route.f
  simp only [if_pos (show T.size ≤ 1048576 by omega)]
  refine Ev.bind h ?_
  have h1 : Ev (fun k => impl_Route_1.f k l) ((⟨#[]⟩ : ByteArray), 6, false, 0, 0, 0, (⟨#[]⟩ : ByteArray), l.map routeNode4) := by
    unfold impl_Route_1.f procfs_NetRouteLine_93.f
    refine Ev.bind (route93_go ⟨#[]⟩ l [] [] (by simpa using hl) (by simp)) ?_
    exact Ev.now _
  obtain ⟨K, hK⟩ := h1
  refine ⟨K, fun k hk => ?_⟩
  have h2 : impl_Route_1.f k l = _ := hK k hk
  show Option.map _ (impl_Route_1.f k l) = _
  rw [h2]
  rfl
def routeKids (p : Bs × List Int) : List S38 := [⟨⟨#[73, 102, 97, 99, 101]⟩, 5, false, 0, 0, 0, B p.1, []⟩, lfU ⟨#[68, 101, 115, 116, 105, 110, 97, 116, 105, 111, 110]⟩ (rd p.2 0), lfU ⟨#[71, 97, 116, 101, 119, 97, 121]⟩ (rd p.2 1), lfU ⟨#[70, 108, 97, 103, 115]⟩ (rd p.2 2), lfU ⟨#[82, 101, 102, 67, 110, 116]⟩ (rd p.2 3), lfU ⟨#[85, 115, 101]⟩ (rd p.2 4), lfU ⟨#[77, 101, 116, 114, 105, 99]⟩ (rd p.2 5), lfU ⟨#[77, 97, 115, 107]⟩ (rd p.2 6), lfU ⟨#[77, 84, 85]⟩ (rd p.2 7), lfU ⟨#[87, 105, 110, 100, 111, 119]⟩ (rd p.2 8), lfU ⟨#[73, 82, 84, 84]⟩ (rd p.2 9)]
def routeNode (p : Bs × List Int) : S38 := ⟨⟨#[]⟩, 8, false, 0, 0, 0, ⟨#[]⟩, routeKids p⟩
def routeNames : List ByteArray := [⟨#[68, 101, 115, 116, 105, 110, 97, 116, 105, 111, 110]⟩, ⟨#[71, 97, 116, 101, 119, 97, 121]⟩, ⟨#[70, 108, 97, 103, 115]⟩, ⟨#[82, 101, 102, 67, 110, 116]⟩, ⟨#[85, 115, 101]⟩, ⟨#[77, 101, 116, 114, 105, 99]⟩, ⟨#[77, 97, 115, 107]⟩, ⟨#[77, 84, 85]⟩, ⟨#[87, 105, 110, 100, 111, 119]⟩, ⟨#[73, 82, 84, 84]⟩]
theorem route_t1 (x4 : List S38) (rows : List S48) (x15 x16 : Int) (f0 : Bs) (n : List Int) (hn : n.length = 10) (h4 : x4.length ≤ 1000000) (f2 : List ByteArray) {r : ByteArray × Int × Bool × Int × Int × Nat × ByteArray × (List (S38)) × Int}
    (hk : Ev (fun k => spec_RouteTree.l0 k (x4 ++ [routeNode (f0, n)]) rows x15 (wrap64 (x16 + 1))) r) :
    Ev (fun k => spec_RouteTree.l1 k x4 [(⟨⟨#[73, 102, 97, 99, 101]⟩, 5, false, 0, 0, 0, B f0, []⟩ : S38)] rows x15 x16 routeNames (routeNames.length : Int) 0 (B f0) n f2) r := by
  have hlen : (routeNames.length : Int) = 10 := rfl
  have st : ∀ (i : Int) (y : List S38), 0 ≤ i → i < 10 → y.length ≤ 40 → ∀ k, spec_RouteTree.l1 (k + 1) x4 y rows x15 x16 routeNames (routeNames.length : Int) i (B f0) n f2 = spec_RouteTree.l1 k x4 (y ++ [lfU (rdOf ByteArray.empty routeNames i) (rd n i)]) rows x15 x16 routeNames (routeNames.length : Int) (i + 1) (B f0) n f2 := by
    intro i y h0 h1 hy k
    have w : wrap64 (i + 1) = i + 1 := wr64 _ (by omega)
    rw [spec_RouteTree.l1, if_pos (by rw [hlen]; omega), if_pos h0, if_pos (by rw [hlen]; omega), if_pos (show i < (n.length : Int) by omega)]
    simp only [spec_uintNode.f, Option.bind_some, if_pos (show y.length < 1466015503701 by omega), w]
    rfl
  refine Ev.step (st 0 _ (by omega) (by omega) (by simp)) ?_
  refine Ev.step (st _ _ (by omega) (by omega) (by simp)) ?_
  refine Ev.step (st _ _ (by omega) (by omega) (by simp)) ?_
  refine Ev.step (st _ _ (by omega) (by omega) (by simp)) ?_
  refine Ev.step (st _ _ (by omega) (by omega) (by simp)) ?_
  refine Ev.step (st _ _ (by omega) (by omega) (by simp)) ?_
  refine Ev.step (st _ _ (by omega) (by omega) (by simp)) ?_
  refine Ev.step (st _ _ (by omega) (by omega) (by simp)) ?_
  refine Ev.step (st _ _ (by omega) (by omega) (by simp)) ?_
  refine Ev.step (st _ _ (by omega) (by omega) (by simp)) ?_
  refine Ev.step (fun k => by rw [spec_RouteTree.l1]) ?_
  have hc : ¬ ((0 : Int) + 1 + 1 + 1 + 1 + 1 + 1 + 1 + 1 + 1 + 1 < (routeNames.length : Int)) := by rw [hlen]; omega
  simp only [if_neg hc, spec_recordNode.f, Option.bind_some, if_pos (show x4.length < 1466015503701 by omega)]
  exact hk
theorem route_t0 : ∀ (l A : List (Bs × List Int)) (acc : List S38), (A ++ l).length ≤ 1000000 → acc.length ≤ A.length → (∀ n ∈ l, n.2.length = 10) →
    Ev (fun k => spec_RouteTree.l0 k acc ((A ++ l).map rowP) (((A ++ l).map rowP).length : Int) (A.length : Int)) ((⟨#[]⟩ : ByteArray), 6, false, 0, 0, 0, (⟨#[]⟩ : ByteArray), acc ++ l.map routeNode, 1)
  | [], A, acc, hl, ha, hn => by
    refine Ev.step (fun k => by rw [spec_RouteTree.l0]) ?_
    simp only [List.append_nil, List.length_map, if_neg (show ¬ ((A.length : Int) < (A.length : Int)) by omega), spec_listNode.f, Option.bind_some, List.map_nil]
    exact Ev.now _
  | x :: l, A, acc, hl, ha, hn => by
    have hll : A.length + (l.length + 1) ≤ 1000000 := by simpa using hl
    refine Ev.step (fun k => by rw [spec_RouteTree.l0]) ?_
    have w : wrap64 ((A.length : Int) + 1) = ((A ++ [x]).length : Int) := by rw [wr64 _ (by omega)]; simp
    have e : A ++ x :: l = (A ++ [x]) ++ l := by simp
    have r : rd_T48 ((A ++ x :: l).map rowP) (A.length : Int) = rowP x := by
      have := rd48_mid (A.map rowP) (rowP x) (l.map rowP)
      rw [List.length_map] at this
      rw [List.map_append]
      exact this
    have cl : (A.length : Int) < (((A ++ x :: l).map rowP).length : Int) := by simp; omega
    have hnm : spec_routeNames.f = some (⟨#[73, 102, 97, 99, 101]⟩ :: routeNames) := rfl
    simp only [if_pos cl, if_pos (show (0 : Int) ≤ (A.length : Int) by omega), r, hnm, spec_textNode.f, Option.bind_some]
    have hd : ((⟨#[73, 102, 97, 99, 101]⟩ : ByteArray) :: routeNames).drop 1 = routeNames := rfl
    have h1 : (1 : Int) ≤ (((⟨#[73, 102, 97, 99, 101]⟩ : ByteArray) :: routeNames).length : Int) := by decide
    simp only [if_pos h1, hd]
    have := route_t0 l (A ++ [x]) (acc ++ [routeNode x]) (by rw [← e]; exact hl) (by simp; omega) (fun n h => hn n (by simp [h]))
    rw [List.append_assoc acc] at this
    rw [← e] at this
    exact route_t1 acc ((A ++ x :: l).map rowP) (((A ++ x :: l).map rowP).length : Int) (A.length : Int) x.1 x.2 (hn x (by simp)) (by omega) [] (by rw [w]; exact this)
theorem route_tree (N : List (Bs × List Int)) (hl : N.length ≤ 1000000) (hn : ∀ n ∈ N, n.2.length = 10) (hfi : Ev (fun k => spec_routeFine.f k (N.map rowP)) true) :
    Ev (fun k => spec_RouteTree.f k (N.map rowP)) ((⟨#[]⟩ : ByteArray), 6, false, 0, 0, 0, (⟨#[]⟩ : ByteArray), N.map routeNode, 1) := by
  unfold spec_RouteTree.f
  refine Ev.bind hfi ?_
  simp only [if_true]
  exact route_t0 N [] [] (by simpa using hl) (by simp) hn
theorem numsAt_nonneg : ∀ {i : Nat} {fs : List Bs} {ns : List Int}, NumsAt i fs ns → ∀ x ∈ ns, 0 ≤ x := by
  intro i fs ns h
  induction h with
  | nil => intro x hx; cases hx
  | cons a _ ih =>
    intro x hx
    rcases List.mem_cons.1 hx with hx | hx
    · rw [hx]; exact a.1.1
    · exact ih x hx
theorem routeRows_nonneg {L : List Bs} {N : List (Bs × List Int)} (h : RouteRows L N) : ∀ n ∈ N, ∀ x ∈ n.2, 0 ≤ x := by
  induction h with
  | nil => intro n hn; cases hn
  | cons _ _ c _ ih =>
    intro n hn
    rcases List.mem_cons.1 hn with hn | hn
    · rw [hn]; exact numsAt_nonneg c
    · exact ih n hn
theorem route_cast (p : Bs × List Int) (hn : p.2.length = 10) (h0 : ∀ x ∈ p.2, 0 ≤ x) (h1 : ∀ x ∈ p.2, x ≤ 4294967295) : Cast (routeNode4 (routeOf p)) (routeNode p) := by
  have w := rd_wrap p.2 h0 h1
  have e : routeKids4 (routeOf p) = [⟨⟨#[73, 102, 97, 99, 101]⟩, 5, false, 0, 0, 0, B p.1, []⟩, lfU4 ⟨#[68, 101, 115, 116, 105, 110, 97, 116, 105, 111, 110]⟩ (rd p.2 0), lfU4 ⟨#[71, 97, 116, 101, 119, 97, 121]⟩ (rd p.2 1), lfU4 ⟨#[70, 108, 97, 103, 115]⟩ (rd p.2 2), lfU4 ⟨#[82, 101, 102, 67, 110, 116]⟩ (rd p.2 3), lfU4 ⟨#[85, 115, 101]⟩ (rd p.2 4), lfU4 ⟨#[77, 101, 116, 114, 105, 99]⟩ (rd p.2 5), lfU4 ⟨#[77, 97, 115, 107]⟩ (rd p.2 6), lfU4 ⟨#[77, 84, 85]⟩ (rd p.2 7), lfU4 ⟨#[87, 105, 110, 100, 111, 119]⟩ (rd p.2 8), lfU4 ⟨#[73, 82, 84, 84]⟩ (rd p.2 9)] := by
    unfold routeKids4 routeOf
    dsimp only
    rw [show IntKind.u64.wrap (rd p.2 0) = rd p.2 0 from w 0 (by omega), show IntKind.u64.wrap (rd p.2 1) = rd p.2 1 from w 1 (by omega), show IntKind.u64.wrap (rd p.2 2) = rd p.2 2 from w 2 (by omega), show IntKind.u64.wrap (rd p.2 3) = rd p.2 3 from w 3 (by omega), show IntKind.u64.wrap (rd p.2 4) = rd p.2 4 from w 4 (by omega), show IntKind.u64.wrap (rd p.2 5) = rd p.2 5 from w 5 (by omega), show IntKind.u64.wrap (rd p.2 6) = rd p.2 6 from w 6 (by omega), show IntKind.u64.wrap (rd p.2 7) = rd p.2 7 from w 7 (by omega), show IntKind.u64.wrap (rd p.2 8) = rd p.2 8 from w 8 (by omega), show IntKind.u64.wrap (rd p.2 9) = rd p.2 9 from w 9 (by omega)]
  unfold routeNode4
  rw [e]
  exact cast_node (by simp) (.cons cast_leaf (.cons cast_leaf (.cons cast_leaf (.cons cast_leaf (.cons cast_leaf (.cons cast_leaf (.cons cast_leaf (.cons cast_leaf (.cons cast_leaf (.cons cast_leaf (.cons cast_leaf (.nil))))))))))))
theorem route_casts : ∀ N : List (Bs × List Int), (∀ n ∈ N, n.2.length = 10) → (∀ n ∈ N, ∀ x ∈ n.2, 0 ≤ x) → (∀ n ∈ N, ∀ x ∈ n.2, x ≤ 4294967295) → Casts ((N.map routeOf).map routeNode4) (N.map routeNode)
  | [], _, _, _ => .nil
  | n :: N, h, h0, h1 => .cons (route_cast n (h n (by simp)) (h0 n (by simp)) (h1 n (by simp))) (route_casts N (fun m hm => h m (by simp [hm])) (fun m hm => h0 m (by simp [hm])) (fun m hm => h1 m (by simp [hm])))
theorem route_same (p : Bs × List Int) : Same (routeNode p) := same_node (by simp [routeKids]) (by
  intro x hx
  simp only [routeKids, List.mem_cons, List.not_mem_nil, or_false] at hx
  rcases hx with rfl | rfl | rfl | rfl | rfl | rfl | rfl | rfl | rfl | rfl | rfl <;> exact same_leaf)
end Go.Proofs.YtabfehcpcjcomaaGreatDoor.R
namespace Go.Proofs.YtabfehcpcjcomaaGreatDoor.QA0
open Go.RowKit Go.Proofs.YtabfehcpcjcomaaGreatDoorW.PrintWords Go.Proofs.YtabfehcpcjcomaaGreatDoorW.PrintLast Go.Proofs.YtabfehcpcjcomaaGreatDoorW.PrintMore
attribute [local go_sem] max2_int min2_int max_two min_two max_three min_three max_four min_four
set_option linter.unusedVariables false
set_option linter.unusedSimpArgs false
def laws_FnRouteRead.f (k : Nat) (a0 : ByteArray) : Option (Bool) := if (a0.size : Int) > 2147483647 then (some true) else ((laws_read_25_26_27.f k a0 () () ()).bind fun t1225 => (some t1225))
set_option maxHeartbeats 8000000 in
set_option maxRecDepth 100000 in
theorem laws_FnRouteRead.calls (k : Nat) (a0 : ByteArray) (r : Bool) (w : World) (h : laws_FnRouteRead.f k a0 = some r) (hTabs : R.LTabs w := by first | assumption | exact Aside0.out ‹Aside0 (R.LTabs _)› | exact R.LTabs.below (Aside0.out ‹Aside0 (R.LTabs _)›) (by repeat (first | (with_reducible first | exact Aside0.out ‹Aside0 (Below _ _ _)› | exact Below.refl _ _ | apply below_alloc | apply pw_below_drewN | apply below_drew1)))) :
 Calls Tryz.prog 8 #[.string a0] w fun e w' => e = .returned (.bool r) ∧ Below w.heap.size w w' := by
 have HTabs := Aside0.mk hTabs; clear hTabs; have HB := Aside0.mk (Below.refl w.heap.size w); have H : (if (a0.size : Int) > 2147483647 then (some true) else ((laws_read_25_26_27.f k a0 () () ()).bind fun t1225 => (some t1225))) = some r := h; clear h
 by_cases c2 : (a0.size : Int) > 2147483647
 · rw [if_pos c2] at H; have c2b0 : decide (2147483647 < (a0.size : Int)) = true := decide_eq_true c2; have c2b1 : decide (2147483647 < a0.size) = true := decide_eq_true (by omega); clear c2; obtain rfl := Option.some.inj H
   go_enter Tryz.func8, Tryz.ntmps8
   go_wp2
   go_ret
   exact ⟨by first | rfl | (simp [errW_none, errW_some] <;> rfl) | (simp [*, errW_none, errW_some] <;> rfl), by repeat (first | (with_reducible first | exact HB.out | apply below_alloc | apply pw_below_drewN | apply below_drew1) | exact HB.out)⟩
 · rw [if_neg c2] at H; have c2b0 : decide (2147483647 < (a0.size : Int)) = false := decide_eq_false c2; have c2b1 : decide (2147483647 < a0.size) = false := decide_eq_false (by omega); clear c2; replace H := Option.bind_eq_some_iff.mp H; obtain ⟨t1225, A30, H⟩ := H; replace H : (some t1225) = some r := H; have A3 := Aside0.mk A30; clear A30; obtain rfl := Option.some.inj H
   go_enter Tryz.func8, Tryz.ntmps8
   go_wp2_with (first | ((with_reducible refine gate_callee (f := 9) rfl ?_); refine goesL_ (some 7) rfl rfl Tryz.func9 (by kernel_rfl) rfl #[.string a0, .func (.func 25) #[] #[], .func (.func 26) #[] #[], .func (.func 27) #[] #[]] rfl (by (try simp only [List.map_toArray, List.map_cons, List.map_nil]); first | done | rfl | (simp only [List.length_drop, List.length_take]; rfl)) ?_; (with_reducible refine (laws_read_25_26_27.calls k a0 () () () t1225 _ A3.out).mono ?_); rintro e w4 ⟨rfl, hb⟩; refine ⟨_, rfl, ?_⟩; have n0_ := Aside0.mk (below_step (by repeat (first | (with_reducible first | exact HB.out | apply below_alloc | apply pw_below_drewN | apply below_drew1) | exact HB.out)) hb); clear HB; have HB := n0_; clear n0_; (try clear hb); (try clear hb2); (try clear hk); (try clear hi)))
   go_ret
   exact ⟨by first | rfl | (simp [errW_none, errW_some] <;> rfl) | (simp [*, errW_none, errW_some] <;> rfl), by repeat (first | (with_reducible first | exact HB.out | apply below_alloc | apply pw_below_drewN | apply below_drew1) | exact HB.out)⟩
def laws_FnRouteRead.Pure : Prop := ∀ (a0 : ByteArray), a0.size ≤ 140737488351232 → ∃ k, laws_FnRouteRead.f k a0 = some true
theorem laws_FnRouteRead.walk (P : laws_FnRouteRead.Pure) (a0 : ByteArray) (w : World) (w0 : a0.size ≤ 140737488351232) (hTabs : R.LTabs w) :
 Calls Tryz.prog 8 #[.string a0] w fun e w' => e = .returned (.bool true) ∧ Below w.heap.size w w' := by
 obtain ⟨k, h⟩ := P a0 w0; refine (laws_FnRouteRead.calls k a0 true w h).mono ?_; rintro e w' ⟨rfl, hd⟩; exact ⟨rfl, hd⟩
end Go.Proofs.YtabfehcpcjcomaaGreatDoor.QA0
namespace Go.Proofs.YtabfehcpcjcomaaGreatDoor.R
open Go.RowKit Go.Proofs.YtabfehcpcjcomaaGreatDoor.QA0 Go.Proofs.YtabfehcpcjcomaaGreatDoorW.PrintWords Go.Proofs.YtabfehcpcjcomaaGreatDoorW.PrintLast Go.Proofs.YtabfehcpcjcomaaGreatDoorW.PrintMore
set_option linter.unusedVariables false
set_option linter.unusedSimpArgs false
def routeHL : Bs := [73, 102, 97, 99, 101, 9, 68, 101, 115, 116, 105, 110, 97, 116, 105, 111, 110, 9, 71, 97, 116, 101, 119, 97, 121, 32, 9, 70, 108, 97, 103, 115, 9, 82, 101, 102, 67, 110, 116, 9, 85, 115, 101, 9, 77, 101, 116, 114, 105, 99, 9, 77, 97, 115, 107, 9, 9, 77, 84, 85, 9, 87, 105, 110, 100, 111, 119, 9, 73, 82, 84, 84, 32, 32, 32, 32, 32, 32, 32, 32, 32, 32, 32, 32, 32, 32, 32, 32, 32, 32, 32, 32, 32, 32, 32, 32, 32, 32, 32, 32, 32, 32, 32, 32, 32, 32, 32, 32, 32, 32, 32, 32, 32, 32, 32, 32, 32, 32, 32, 32, 32, 32, 32, 32, 32, 32, 32]
def routeHead : ByteArray := ⟨(routeHL ++ [10]).toArray⟩
set_option maxRecDepth 100000 in
theorem routeHead_list : routeHead.data.toList = routeHL ++ [10] := rfl
set_option maxRecDepth 100000 in
theorem routeHead_size : routeHead.size = 128 := rfl
set_option maxRecDepth 100000 in
theorem routeHL_no : ∀ c ∈ routeHL, c ≠ 10 := by decide
set_option maxRecDepth 100000 in
theorem route_read_f (T : ByteArray) (k : Nat) : spec_RouteRead.f k T = (spec_Plain.f k T).bind fun t1229 => (if t1229 = true then ((spec_Begins.f T routeHead).bind fun t1230 => (spec_RouteRead.j0 k T (!t1230))) else (spec_RouteRead.j0 k T true)) := rfl
theorem route_pure : laws_FnRouteRead.Pure := by
  intro a0 hz
  refine Ev.rounds (g := fun k => laws_FnRouteRead.f k a0) ?_
  unfold laws_FnRouteRead.f
  by_cases c : (a0.size : Int) > 2147483647
  · simp only [if_pos c]; exact Ev.now _
  · simp only [if_neg c]
    refine Ev.bind ?_ (Ev.now _)
    unfold laws_read_25_26_27.f
    by_cases d : (a0.size : Int) > 40000
    · simp only [if_pos d]; exact Ev.now _
    · simp only [if_neg d]
      have hs : a0.size ≤ 40000 := by omega
      obtain ⟨r, hr, hp⟩ := route_read a0 hs routeHead routeHead_size (route_read_f a0)
      refine Ev.bind hr ?_
      by_cases e : r.2.2 = 1
      · obtain ⟨N, hpl, hsp, hrows, h1, h2, hfine, hev⟩ := hp e
        rw [h1] at hfine hev
        have hf : ∀ n ∈ N, n.2.length = 10 ∧ (∀ x ∈ n.2, x ≤ 4294967295) ∧ rd n.2 2 ≤ 9 ∧ B n.1 ≠ ⟨#[42]⟩ := fun n hn => hfine (rowP n) (List.mem_map.2 ⟨n, hn, rfl⟩)
        have hzl : a0.data.toList.length = a0.size := by simp
        have hlen : N.length ≤ 40001 := by
          rw [routeRows_len hrows]
          have := lines_n (a0.data.toList.drop 128) []
          simp only [if_true, Nat.add_zero, List.length_drop] at this
          unfold linesL
          omega
        rw [routeHead_list] at hsp
        generalize a0.data.toList.drop 128 = rest at hsp hrows
        have hsp2 : a0.data.toList = routeHL ++ 10 :: rest := by rw [hsp]; simp
        have hTB : a0 = B (routeHL ++ 10 :: rest) := by rw [← hsp2]; exact B_of a0
        have hct := routeT_ev routeHL rest routeHL_no (by rw [← hsp2]; omega) N (by rw [← hsp2]; exact hpl) hrows (fun n hn => (hf n hn).2)
        rw [← hTB] at hct
        simp only [if_pos e, if_pos h2, h1]
        refine Ev.bind (route_impl a0 hs (N.map routeOf) (by simp; omega) hct) ?_
        refine Ev.bind (route_tree N (by omega) (fun n hn => (hf n hn).1) hev) ?_
        simp only [if_true]
        have hn := cast_node (n := ⟨#[]⟩) (kd := 6) (b := false) (i := 0) (u := 0) (f := 0) (s := ⟨#[]⟩) (l := (N.map routeOf).map routeNode4) (by simp; omega) (route_casts N (fun n hn => (hf n hn).1) (routeRows_nonneg hrows) (fun n hn => (hf n hn).2.1))
        refine Ev.bind hn ?_
        have hm := same_node (n := ⟨#[]⟩) (kd := 6) (b := false) (i := 0) (u := 0) (f := 0) (s := ⟨#[]⟩) (l := N.map routeNode) (by simp; omega) (by
          intro x hx
          obtain ⟨n, _, rfl⟩ := List.mem_map.1 hx
          exact route_same n)
        refine Ev.bind hm ?_
        simp only [if_true, laws_lives.f, Option.bind_some]
        exact Ev.now _
      · simp only [if_neg e, laws_lives.f, Option.bind_some]
        exact Ev.now _
end Go.Proofs.YtabfehcpcjcomaaGreatDoor.R
namespace Go.Proofs.YtabfehcpcjcomaaGreatDoor.fnRouteRead
open Go.ChangeShapes Go.WideShapes Go.ChangeAt Go.RowKit
open Go.ChangeMaps (open_string shut_string)
open Go.Proofs.YtabfehcpcjcomaaGreatDoorW.PrintWords Go.Proofs.YtabfehcpcjcomaaGreatDoor.R Go.Proofs.YtabfehcpcjcomaaGreatDoor.Ck
set_option linter.unusedVariables false
set_option linter.unusedSimpArgs false
theorem witness_row (os : Os) {H : Type} (enc : TypeId × Value → H) :
    (OpenSpec.ofChange Rows.fnRouteReadSpec).preRow enc Tryz.prog Tryz.f8 Rows.fnRouteReadRow.domain false Rows.fnRouteReadRow.laid ((laidWorld os).forCall (fun _ _ => 0) ⟨#[], #[.string ⟨#[]⟩], []⟩).memory #[.string ⟨#[]⟩] := by
  have hw : (DataW.whole enc Tryz.prog ((laidWorld os).forCall (fun _ _ => 0) ⟨#[], #[.string ⟨#[]⟩], []⟩).memory Tryz.f8.params.toList Rows.fnRouteReadSpec.vars false (#[.string ⟨#[]⟩] : Array Value).toList 8).map (fun x => (x.1, x.2.1)) =
      some ([.lit (.string [])], []) := by kernel_rfl
  obtain ⟨⟨x1, x2, x3⟩, hx, hx1⟩ := Option.map_eq_some_iff.1 hw
  simp only [Prod.mk.injEq] at hx1
  obtain ⟨rfl, rfl⟩ := hx1
  exact OpenSpec.preRow_of_cond 8 hx (by kernel_rfl) (fun k hk => by cases hk) (by kernel_rfl) (laid_met os _)
set_option maxRecDepth 100000 in
theorem lifted (os : Os) (started : os.Started) (H : Type) (enc : TypeId × Value → H) (F : Stop.Interp) :
    ReturnsInHanded {} Tryz.checked os 8 .any ((OpenSpec.ofChange Rows.fnRouteReadSpec).preRow enc Tryz.prog Tryz.f8 Rows.fnRouteReadRow.domain false Rows.fnRouteReadRow.laid) (((OpenSpec.ofChange Rows.fnRouteReadSpec).at F).post enc Tryz.prog Tryz.f8 false true false false) := by
  refine returnsInHanded_of_row (C := Tryz.checked) (s := OpenSpec.ofChange Rows.fnRouteReadSpec) own started (by kernel_rfl) Tryz.func8
    (witness_row_atRef (enc := enc) (C := Tryz.checked) false (laidWorld os) #[.string ⟨#[]⟩] rfl (vars_ok os _) (by kernel_rfl) (by kernel_rfl) (witness_row os enc)) ?_
  intro W base args ds gs before hval0 hW hcnd _ hsz0 hL hsh _
  have hsz : (DataW.weightsEach Tryz.prog (Tryz.f8.params.toList ++ (OpenSpec.ofChange Rows.fnRouteReadSpec).bare.plain.varTypes Tryz.prog) (ds ++ gs)).all (· ≤ reachBytes) = true := hsz0
  have hval : ∀ (j : Nat) t v, Tryz.f8.params[j]? = some t → args[j]? = some v → Value.okWide Tryz.prog W .any base t v := hval0
  have hW' := hW
  obtain ⟨p, q, hA0, hV, rfl, hfz, hnd⟩ := hW
  have hA : DataW.TrodAll enc Tryz.prog W 0 (fun _ => true) true Tryz.f8.params.toList args.toList ds p := hA0
  rw [Tryz.params8] at hA hval hsz
  obtain ⟨v0, vs0, d0, ds0, p0, q0, hargs, rfl, rfl, h0, r0⟩ := trodAll_cons hA
  obtain ⟨rfl, rfl, rfl⟩ := trodAll_nil r0
  obtain rfl : args = #[v0] := by cases args; simp_all
  obtain ⟨rfl, rfl⟩ := trodVars_none hV
  obtain ⟨a0, rfl, rfl, rfl, y0⟩ := open_string Tryz.underlying9 (hval 0 9 v0 rfl rfl) h0
  have w0 : a0.size ≤ 140737488351232 := by
    have z := sized_string hsz (j := 0) (t := 9) rfl rfl
    rw [Array.length_toList] at z
    exact z
  clear hA0 hval0 hsz0 hsz
  refine (QA0.laws_FnRouteRead.walk route_pure a0 W w0 (tabs_of (show laidMetH Tryz.prog rowL W from hL))).mono fun e W' ⟨he, bel⟩ => ?_
  subst he
  exact ⟨_, rfl, _, _, _, [], _, [], hW', trodAll_mk1 (shut_bool Tryz.underlying4 _), (trodAll_cons_mk (shut_string Tryz.underlying9 y0) trodAll_mk0), rfl, bel.frame _, fun h => by cases h⟩
theorem said : Rows.FnRouteReadSaid :=
  OpenClaim.holds_of_cond 8 Tryz.f8 rfl rfl rfl rfl rfl rfl rfl ⟨rfl, rfl, rfl, rfl, rfl⟩ rfl rfl rfl rfl rfl (by kernel_rfl) Tryz.func8 (by kernel_rfl)
    (of_decide_eq_true (by kernel_rfl)) (by unfold Func.isWrapper; first | (rw [if_pos (by decide +kernel)]; kernel_rfl) | (rw [if_neg (by decide +kernel)]; exact ⟨rfl, rfl⟩))
    (fun os started H enc _ F => by rw [OpenClaim.pre_eq_preRow]; exact lifted os started H enc F)
theorem plain (f : FuncId) (fn : Func) (hf : Tryz.pinned.checked.prog.funcNamed "pub-frontispiece/laws.FnRouteRead" = some f) (hfn : Tryz.pinned.checked.prog.funcs[f]? = some fn) :
    true = Tryz.pinned.checked.prog.looks [] ∧ ∀ (j : Nat) t, fn.params[j]? = some t → Tryz.pinned.checked.prog.wantsStandIn t = false := by
  obtain rfl : f = 8 := Option.some.inj ((show Tryz.prog.funcNamed "pub-frontispiece/laws.FnRouteRead" = some 8 by kernel_rfl).symm.trans hf) |>.symm
  obtain rfl : fn = Tryz.f8 := (Option.some.inj (Tryz.func8.symm.trans hfn)).symm
  refine ⟨by kernel_rfl, fun j t ht => ?_⟩
  rw [Tryz.params8] at ht
  obtain rfl : t = 9 := by simpa using Array.mem_of_getElem? ht
  exact (show Tryz.prog.wantsStandIn 9 = false by kernel_rfl)
theorem card : Rows.FnRouteReadCardSaid :=
  Claim7.holds_tied_plain_at .later [] _ _ _ _ said (fun _ h => by cases h) (by kernel_rfl) (fun _ h => by cases h) fnRouteRead_row_tie rfl ⟨rfl, rfl⟩ (by kernel_rfl) rfl plain (by kernel_rfl)
#print axioms card
end Go.Proofs.YtabfehcpcjcomaaGreatDoor.fnRouteRead
namespace Go.Proofs.YtabfehcpcjcomaaGreatDoor
theorem fnRouteRead_card_holds : Rows.FnRouteReadCardSaid := fnRouteRead.card
end Go.Proofs.YtabfehcpcjcomaaGreatDoor
