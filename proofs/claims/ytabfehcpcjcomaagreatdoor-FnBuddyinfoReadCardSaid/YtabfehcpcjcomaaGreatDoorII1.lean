/- The texts Pa, Pb, La, Lb, Ba, Pe, Pg, Ph, Pi, Bb, Bc, Bd, Be, CardFnBuddyinfoRead, without what the claims do not use, laid together by a program of this session (wip/tools/bundle.py). Conditions: those of each theorem. -/
import Derived.Test.YtabfehcpcjcomaaGreatDoorIc7
import Derived.Test.YtabfehcpcjcomaaGreatDoorIcc
import Derived.Lib.ItoaLen
import Derived.Lib.Fields
import Derived.ShutString
import Derived.ChangeOld
namespace Go.Proofs.YtabfehcpcjcomaaGreatDoor.R
open Go.RowKit Go.Proofs.YtabfehcpcjcomaaGreatDoor.QA0 Go.Proofs.YtabfehcpcjcomaaGreatDoorW.PrintWords Go.Proofs.YtabfehcpcjcomaaGreatDoorW.PrintLast Go.Proofs.YtabfehcpcjcomaaGreatDoorW.PrintMore
set_option linter.unusedVariables false
set_option linter.unusedSimpArgs false
def Ends {α : Type} (g : Nat → Option α) (P : α → Prop) : Prop := ∃ r, Ev g r ∧ P r
section
variable {α β : Type} {g f : Nat → Option α} {P : α → Prop}
theorem Ends.step (h : ∀ k, g (k + 1) = f k) (k : Ends f P) : Ends g P := by
  obtain ⟨r, k, hp⟩ := k
  exact ⟨r, Ev.step h k, hp⟩
theorem Ends.now {r : α} (h : P r) : Ends (fun _ => some r) P := ⟨r, Ev.now r, h⟩
theorem Ends.bind {Q : β → Prop} {h : Nat → α → Option β} (a : Ends g P) (k : ∀ x, P x → Ends (fun n => h n x) Q) : Ends (fun n => (g n).bind (h n)) Q := by
  obtain ⟨r, e, hp⟩ := a
  obtain ⟨q, e', hq⟩ := k r hp
  exact ⟨q, Ev.bind e e', hq⟩
theorem Ends.mono {Q : α → Prop} (a : Ends g P) (h : ∀ x, P x → Q x) : Ends g Q := by
  obtain ⟨r, e, hp⟩ := a
  exact ⟨r, e, h r hp⟩
theorem Ends.ev {r : α} (h : Ev g r) : Ends g (fun x => x = r) := ⟨r, h, rfl⟩
end
def U64 (n : Int) : Prop := 0 ≤ n ∧ n < 18446744073709551616
theorem wU (z : Int) : U64 (IntKind.u64.wrap z) := by
  unfold U64
  simp [IntKind.wrap, IntKind.bits, IntKind.signed]
  omega
theorem digit_ends (c : Int) : Ends (fun k => spec_digit.f k c) (fun _ => True) := by
  have key : ∀ b : Bool, Ends (fun k => spec_digit.j1 k c b) (fun _ => True) := by
    intro b
    refine Ends.step (fun k => by rw [spec_digit.j1]) ?_
    cases b with
    | true => simp only [if_true]; exact Ends.now trivial
    | false =>
      simp only [Bool.false_eq_true, if_false]
      by_cases d : c ≥ 65
      · simp only [if_pos d]
        by_cases e : c ≤ 70
        · simp only [if_pos e]; exact Ends.now trivial
        · simp only [if_neg e]; exact Ends.now trivial
      · simp only [if_neg d]; exact Ends.now trivial
  have key0 : ∀ b : Bool, Ends (fun k => spec_digit.j0 k c b) (fun _ => True) := by
    intro b
    refine Ends.step (fun k => by rw [spec_digit.j0]) ?_
    cases b with
    | true => simp only [if_true]; exact Ends.now trivial
    | false =>
      simp only [Bool.false_eq_true, if_false]
      by_cases d : c ≥ 97
      · simp only [if_pos d]; exact key _
      · simp only [if_neg d]; exact key _
  unfold spec_digit.f
  by_cases d : c ≥ 48
  · simp only [if_pos d]; exact key0 _
  · simp only [if_neg d]; exact key0 _
theorem number_go (T : ByteArray) (x1 : Int) (h10 : 0 < x1) (hs : T.size ≤ 40000) : ∀ (n : Nat) (x6 x11 : Int), U64 x6 → 0 ≤ x11 → x11 ≤ (T.size : Int) → n = ((T.size : Int) - x11).toNat → Ends (fun k => spec_Number.l0 k T x1 x6 (T.size : Int) x11) (fun r => U64 r.1)
  | 0, x6, x11, hu, h0, h1, hn => by
    refine Ends.step (fun k => by rw [spec_Number.l0]) ?_
    simp only [if_neg (show ¬ (x11 < (T.size : Int)) by omega)]
    exact Ends.now hu
  | n + 1, x6, x11, hu, h0, h1, hn => by
    refine Ends.step (fun k => by rw [spec_Number.l0]) ?_
    have w : wrap64 (x11 + 1) = x11 + 1 := wr64 _ (by omega)
    simp only [if_pos (show x11 < (T.size : Int) by omega), if_pos h0, w]
    refine Ends.bind (digit_ends _) fun d _ => ?_
    by_cases c : d ≥ x1
    · simp only [if_pos c]; exact Ends.now (by unfold U64; omega)
    · simp only [if_neg c, if_neg (show ¬ (x1 = 0) by omega)]
      by_cases e : x6 > (IntKind.u64.wrap (Int.tdiv (IntKind.u64.wrap (18446744073709551615 - d)) x1))
      · simp only [if_pos e]; exact Ends.now (by unfold U64; omega)
      · simp only [if_neg e]
        exact number_go T x1 h10 hs n _ _ (wU _) (by omega) (by omega) (by omega)
theorem dec_ends (T : ByteArray) (hs : T.size ≤ 40000) : Ends (fun k => spec_Dec.f k T) (fun r => U64 r.1) := by
  unfold spec_Dec.f spec_Number.f
  refine Ends.bind (number_go T 10 (by omega) hs _ 0 0 (by unfold U64; omega) (by omega) (by omega) rfl) fun r hr => ?_
  exact Ends.now hr
def decB (n : Nat) : ByteArray := ⟨(Lib.decDigits n).toArray⟩
theorem decB_size (n : Nat) (h : n < 18446744073709551616) : (decB n).size ≤ 20 := by
  have h1 : (decB n).size = Lib.nDigits n := by rw [← Lib.decDigits_length]; simp [decB, ByteArray.size]
  rw [h1]
  exact Lib.nDigits_le20 n h
theorem dg_nat (d : Nat) (h : d < 10) : (UInt8.ofNat (48 + d)).toNat = 48 + d := by
  rw [UInt8.toNat_ofNat']; omega
theorem dec_ne (n : Nat) : Lib.decDigits n ≠ [] := by
  rw [Lib.decDigits]
  split <;> simp
theorem dec_dig (n : Nat) : ∀ c ∈ Lib.decDigits n, 48 ≤ c.toNat ∧ c.toNat ≤ 57 := by
  induction n using Nat.strongRecOn with
  | _ n ih =>
    rw [Lib.decDigits]
    by_cases h : n < 10
    · rw [dif_pos h]
      intro c hc
      rw [List.mem_singleton.1 hc, dg_nat n h]
      omega
    · rw [dif_neg h]
      intro c hc
      rcases List.mem_append.1 hc with hc | hc
      · exact ih (n / 10) (by omega) c hc
      · rw [List.mem_singleton.1 hc, dg_nat _ (by omega)]
        omega
theorem B_app (a b : Bs) : B a ++ B b = B (a ++ b) := by
  unfold B
  apply ByteArray.ext
  simp
theorem dig_str (d : Nat) (h : d < 10) : strOfNums [bt (⟨#[48, 49, 50, 51, 52, 53, 54, 55, 56, 57, 97, 98, 99, 100, 101, 102]⟩ : ByteArray) (d : Int)] = B [UInt8.ofNat (48 + d)] := by
  match d, h with
  | 0, _ => rfl
  | 1, _ => rfl
  | 2, _ => rfl
  | 3, _ => rfl
  | 4, _ => rfl
  | 5, _ => rfl
  | 6, _ => rfl
  | 7, _ => rfl
  | 8, _ => rfl
  | 9, _ => rfl
theorem digits_ev (n : Nat) (hn : n < 18446744073709551616) : Ev (fun k => spec_Digits.f k (n : Int) 10) (decB n) := by
  induction n using Nat.strongRecOn with
  | _ n ih =>
    refine Ev.step (fun k => by rw [spec_Digits.f]) ?_
    have m : Int.tmod (n : Int) 10 = ((n % 10 : Nat) : Int) := by rw [Int.tmod_eq_emod_of_nonneg (by omega)]; omega
    have q : Int.tdiv (n : Int) 10 = ((n / 10 : Nat) : Int) := by rw [Int.tdiv_eq_ediv_of_nonneg (by omega)]; omega
    simp only [m, q]
    simp only [if_neg (show ¬ ((10 : Int) = 0) by omega), if_pos (show (0 : Int) ≤ ((n % 10 : Nat) : Int) by omega), if_pos (show ((n % 10 : Nat) : Int) < 16 by omega), dig_str (n % 10) (by omega)]
    by_cases c : n < 10
    · simp only [if_pos (show (n : Int) < 10 by omega)]
      have : decB n = B [UInt8.ofNat (48 + n % 10)] := by unfold decB B; rw [Lib.decDigits, dif_pos c, Nat.mod_eq_of_lt c]
      rw [this]
      exact Ev.now _
    · simp only [if_neg (show ¬ ((n : Int) < 10) by omega), u64w ((n / 10 : Nat) : Int) (by omega)]
      refine Ev.bind (ih (n / 10) (by omega) (by omega)) ?_
      simp only [Option.bind_some, dig_str (n % 10) (by omega)]
      have hz := decB_size (n / 10) (by omega)
      have hz1 : (B [UInt8.ofNat (48 + n % 10)]).size = 1 := rfl
      simp only [if_pos (show (decB (n / 10)).size + (B [UInt8.ofNat (48 + n % 10)]).size ≤ 9223372036854775807 by omega)]
      have : decB n = decB (n / 10) ++ B [UInt8.ofNat (48 + n % 10)] := by
        rw [show decB (n / 10) = B (Lib.decDigits (n / 10)) from rfl, B_app]
        unfold decB B; rw [Lib.decDigits, dif_neg c]
      rw [this]
      exact Ev.now _
theorem text_ev (n : Int) (hn : U64 n) : Ev (fun k => spec_Text.f k n) (decB n.toNat) := by
  unfold spec_Text.f U64 at *
  have e : n = (n.toNat : Int) := by omega
  have := digits_ev n.toNat (by omega)
  rw [← e] at this
  exact Ev.bind this (Ev.now _)
theorem rd_mid (A : List ByteArray) (b : ByteArray) (l : List ByteArray) : rdOf ByteArray.empty (A ++ b :: l) (A.length : Int) = b := by
  unfold rdOf
  simp
def decT (n : Int) : ByteArray := decB n.toNat
theorem decT_size (n : Int) (h : U64 n) : (decT n).size ≤ 20 := decB_size _ (by unfold U64 at h; omega)
end Go.Proofs.YtabfehcpcjcomaaGreatDoor.R
namespace Go.Proofs.YtabfehcpcjcomaaGreatDoor.R
open Go.RowKit Go.Proofs.YtabfehcpcjcomaaGreatDoor.QA0 Go.Proofs.YtabfehcpcjcomaaGreatDoorW.PrintWords Go.Proofs.YtabfehcpcjcomaaGreatDoorW.PrintLast Go.Proofs.YtabfehcpcjcomaaGreatDoorW.PrintMore
set_option linter.unusedVariables false
set_option linter.unusedSimpArgs false
theorem toList_inj {a b : ByteArray} (h : a.toList = b.toList) : a = b := by
  rw [ByteArray.toList_eq, ByteArray.toList_eq] at h
  exact ByteArray.ext (Array.toList_inj.1 h)
def Cast (x : S34) (y : S38) : Prop := Ev (fun k => laws_toNode.f k x.f0 x.f1 x.f2 x.f3 x.f4 x.f5 x.f6 x.f7) (y.f0, y.f1, y.f2, y.f3, y.f4, y.f5, y.f6, y.f7)
inductive Casts : List S34 → List S38 → Prop
  | nil : Casts [] []
  | cons {x y l l'} : Cast x y → Casts l l' → Casts (x :: l) (y :: l')
theorem toNode_go (n : ByteArray) (kd : Int) (b : Bool) (i u : Int) (f : Nat) (s : ByteArray) : ∀ (l : List S34) (l' : List S38) (A : List S34) (acc : List S38), (A ++ l).length ≤ 100000 → acc.length ≤ A.length → Casts l l' →
    Ev (fun k => laws_toNode.l0 k (A ++ l) ((A ++ l).length : Int) (A.length : Int) n kd b i u f s acc) (n, kd, b, i, u, f, s, acc ++ l')
  | [], [], A, acc, hl, ha, _ => by
    refine Ev.step (fun k => by rw [laws_toNode.l0]) ?_
    simp only [List.append_nil, if_neg (show ¬ ((A.length : Int) < (A.length : Int)) by omega)]
    exact Ev.now _
  | [], _ :: _, _, _, _, _, h => nomatch h
  | _ :: _, [], _, _, _, _, h => nomatch h
  | x :: l, y :: l', A, acc, hl, ha, h => by
    obtain ⟨h, hs⟩ : Cast x y ∧ Casts l l' := by cases h with | cons h hs => exact ⟨h, hs⟩
    have hll : A.length + (l.length + 1) ≤ 100000 := by simpa using hl
    refine Ev.step (fun k => by rw [laws_toNode.l0]) ?_
    have w : wrap64 ((A.length : Int) + 1) = ((A ++ [x]).length : Int) := by rw [wr64 _ (by omega)]; simp
    have e : A ++ x :: l = (A ++ [x]) ++ l := by simp
    have r : rd_T34 (A ++ x :: l) (A.length : Int) = x := by unfold rd_T34; simp
    have cl : (A.length : Int) < ((A ++ x :: l).length : Int) := by simp; omega
    simp only [if_pos cl, if_pos (show (0 : Int) ≤ (A.length : Int) by omega), r, w]
    refine Ev.bind h ?_
    simp only [if_pos (show acc.length < 1466015503701 by omega)]
    have := toNode_go n kd b i u f s l l' (A ++ [x]) (acc ++ [y]) (by rw [← e]; exact hl) (by simp; omega) hs
    rw [e]
    rw [List.append_assoc acc, List.singleton_append] at this
    have hy : (⟨y.f0, y.f1, y.f2, y.f3, y.f4, y.f5, y.f6, y.f7⟩ : S38) = y := by cases y; rfl
    simp only [hy]
    exact this
theorem cast_node {n : ByteArray} {kd : Int} {b : Bool} {i u : Int} {f : Nat} {s : ByteArray} {l : List S34} {l' : List S38} (hl : l.length ≤ 100000) (h : Casts l l') : Cast ⟨n, kd, b, i, u, f, s, l⟩ ⟨n, kd, b, i, u, f, s, l'⟩ := by
  unfold Cast
  refine Ev.step (fun k => by rw [laws_toNode.f]) ?_
  exact toNode_go n kd b i u f s l l' [] [] (by simpa using hl) (by simp) h
theorem cast_leaf {n : ByteArray} {kd : Int} {b : Bool} {i u : Int} {f : Nat} {s : ByteArray} : Cast ⟨n, kd, b, i, u, f, s, []⟩ ⟨n, kd, b, i, u, f, s, []⟩ := cast_node (by simp) .nil
def Same (y : S38) : Prop := Ev (fun k => spec_SameNode.f k y.f0 y.f1 y.f2 y.f3 y.f4 y.f5 y.f6 y.f7 y.f0 y.f1 y.f2 y.f3 y.f4 y.f5 y.f6 y.f7) true
theorem same_go (n n' : ByteArray) (kd kd' : Int) (b b' : Bool) (i u i' u' : Int) (f f' : Nat) (s s' : ByteArray) : ∀ (l A : List S38), (A ++ l).length ≤ 100000 → (∀ x ∈ l, Same x) →
    Ev (fun k => spec_SameNode.l0 k ((A ++ l).length : Int) (A.length : Int) n kd b i u f s (A ++ l) n' kd' b' i' u' f' s' (A ++ l)) true
  | [], A, hl, h => by
    refine Ev.step (fun k => by rw [spec_SameNode.l0]) ?_
    simp only [List.append_nil, if_neg (show ¬ ((A.length : Int) < (A.length : Int)) by omega)]
    exact Ev.now _
  | x :: l, A, hl, h => by
    have hll : A.length + (l.length + 1) ≤ 100000 := by simpa using hl
    refine Ev.step (fun k => by rw [spec_SameNode.l0]) ?_
    have w : wrap64 ((A.length : Int) + 1) = ((A ++ [x]).length : Int) := by rw [wr64 _ (by omega)]; simp
    have e : A ++ x :: l = (A ++ [x]) ++ l := by simp
    have r : rd_T38 (A ++ x :: l) (A.length : Int) = x := by unfold rd_T38; simp
    have cl : (A.length : Int) < ((A ++ x :: l).length : Int) := by simp; omega
    simp only [if_pos cl, if_pos (show (0 : Int) ≤ (A.length : Int) by omega), r, w]
    refine Ev.bind (h x (by simp)) ?_
    simp only [if_true]
    have := same_go n n' kd kd' b b' i u i' u' f f' s s' l (A ++ [x]) (by rw [← e]; exact hl) (fun z hz => h z (by simp [hz]))
    rw [e]
    exact this
theorem same_node {n : ByteArray} {kd : Int} {b : Bool} {i u : Int} {f : Nat} {s : ByteArray} {l : List S38} (hl : l.length ≤ 100000) (h : ∀ x ∈ l, Same x) : Same ⟨n, kd, b, i, u, f, s, l⟩ := by
  unfold Same
  refine Ev.step (fun k => by rw [spec_SameNode.f]) ?_
  have hb : ¬ ((b != b) = true) := by simp
  simp only [if_true, if_neg hb]
  exact same_go n n kd kd b b i u i u f f s s l [] (by simpa using hl) h
theorem same_leaf {n : ByteArray} {kd : Int} {b : Bool} {i u : Int} {f : Nat} {s : ByteArray} : Same ⟨n, kd, b, i, u, f, s, []⟩ := same_node (by simp) (by simp)
end Go.Proofs.YtabfehcpcjcomaaGreatDoor.R
namespace Go.Proofs.YtabfehcpcjcomaaGreatDoor.R
open Go.RowKit Go.Proofs.YtabfehcpcjcomaaGreatDoor.QA0 Go.Proofs.YtabfehcpcjcomaaGreatDoorW.PrintWords Go.Proofs.YtabfehcpcjcomaaGreatDoorW.PrintLast Go.Proofs.YtabfehcpcjcomaaGreatDoorW.PrintMore
set_option linter.unusedVariables false
set_option linter.unusedSimpArgs false
theorem dec_len (d : Nat) : ∀ n : Nat, n < 10 ^ (d + 1) → (Lib.decDigits n).length ≤ d + 1 := by
  induction d with
  | zero =>
    intro n h
    have h' : n < 10 := by simpa using h
    rw [Lib.decDigits, dif_pos h']
    simp
  | succ d ih =>
    intro n h
    rw [Lib.decDigits]
    by_cases c : n < 10
    · rw [dif_pos c]; simp
    · rw [dif_neg c, List.length_append]
      have h' : n / 10 < 10 ^ (d + 1) := Nat.div_lt_of_lt_mul (by rw [Nat.mul_comm, ← Nat.pow_succ]; exact h)
      have := ih (n / 10) h'
      simp only [List.length_cons, List.length_nil]
      omega
theorem step_dig (r : RS) (d : Nat) (hd : d < 10) (h0 : 0 < r.nd ∨ 0 < d) : stepR r (UInt8.ofNat (48 + d)) = { r with dig := true, nd := r.nd + 1, m := r.m * 10 + d } := by
  have hn := dg_nat d hd
  have h1 : ¬ (UInt8.ofNat (48 + d) = 46) := fun e => by
    rw [e] at hn
    have : (46 : UInt8).toNat = 46 := rfl
    omega
  have h2 : ¬ (UInt8.ofNat (48 + d) = 48 ∧ r.nd = 0) := fun e => by
    rw [e.1] at hn
    have : (48 : UInt8).toNat = 48 := rfl
    omega
  unfold stepR
  rw [if_neg h1, if_neg h2, hn, Nat.add_sub_cancel_left]
theorem rf_dec (n : Nat) (h : 0 < n) : (rf (Lib.decDigits n)).m = n ∧ 0 < (rf (Lib.decDigits n)).nd ∧ (rf (Lib.decDigits n)).dot = false := by
  induction n using Nat.strongRecOn with
  | _ n ih =>
    rw [Lib.decDigits]
    by_cases c : n < 10
    · rw [dif_pos c]
      have e : rf [UInt8.ofNat (48 + n)] = stepR RS.zero (UInt8.ofNat (48 + n)) := rfl
      rw [e, step_dig _ n c (.inr h)]
      refine ⟨?_, ?_, rfl⟩
      · show 0 * 10 + n = n; omega
      · show 0 < 0 + 1; omega
    · rw [dif_neg c]
      obtain ⟨a, b, d⟩ := ih (n / 10) (by omega) (by omega)
      rw [rf_snoc, step_dig _ (n % 10) (by omega) (.inl b)]
      refine ⟨?_, ?_, d⟩
      · show (rf (Lib.decDigits (n / 10))).m * 10 + n % 10 = n
        rw [a]; omega
      · show 0 < (rf (Lib.decDigits (n / 10))).nd + 1; omega
theorem dec_zero : Lib.decDigits 0 = [48] := by rw [Lib.decDigits, dif_pos (by omega)]; rfl
theorem dec_no46 (n : Nat) : (Lib.decDigits n).filter (· == 46) = [] := by
  rw [List.filter_eq_nil_iff]
  intro c hc e
  have h1 := dec_dig n c hc
  rw [beq_iff_eq] at e
  rw [e] at h1
  exact absurd h1 (by decide)
theorem float_dec (n : Nat) (h : n < 1099511627776) : floatF (B (Lib.decDigits n)) 64 = some (floatOfInt .f64 (n : Int), none) := by
  have hl := dec_len 12 n (by omega)
  have hk : numOk (B (Lib.decDigits n)).data.toList = true := by
    rw [B_data]
    unfold numOk
    simp only [Bool.and_eq_true, decide_eq_true_eq]
    refine ⟨⟨⟨?_, by omega⟩, by rw [dec_no46]; simp⟩, ?_⟩
    · rw [List.all_eq_true]
      intro c hc
      have := dec_dig n c hc
      simp only [Bool.or_eq_true, beq_iff_eq, Bool.and_eq_true, decide_eq_true_eq]
      exact .inr this
    · rw [List.any_eq_true]
      obtain ⟨c, hc⟩ := List.exists_mem_of_ne_nil _ (dec_ne n)
      exact ⟨c, hc, by simpa using dec_dig n c hc⟩
  unfold floatF
  rw [B_data] at hk ⊢
  rcases Nat.eq_zero_or_pos n with h0 | h0
  · subst h0
    have e1 : (rf (Lib.decDigits 0)).m = 0 := by rw [dec_zero]; rfl
    have e2 : rfExp (Lib.decDigits 0) = 0 := by unfold rfExp; rw [if_pos e1]
    rw [if_pos ⟨rfl, hk, by omega, by omega, by omega⟩, e1, e2]
    have e3 : floatOfInt .f64 ((0 : Nat) : Int) = 0 := by decide +kernel
    rw [e3]
    rfl
  · obtain ⟨a, b, d⟩ := rf_dec n h0
    have e2 : rfExp (Lib.decDigits n) = 0 := by unfold rfExp rfDp; rw [if_neg (by omega), d]; simp
    rw [if_pos ⟨rfl, hk, by omega, by omega, by omega⟩, a, e2]
    unfold fval
    rw [if_neg (by omega), if_pos rfl]
    rfl
end Go.Proofs.YtabfehcpcjcomaaGreatDoor.R
namespace Go.Proofs.YtabfehcpcjcomaaGreatDoor.R
open Go.RowKit Go.Proofs.YtabfehcpcjcomaaGreatDoor.QA0 Go.Proofs.YtabfehcpcjcomaaGreatDoorW.PrintWords Go.Proofs.YtabfehcpcjcomaaGreatDoorW.PrintLast Go.Proofs.YtabfehcpcjcomaaGreatDoorW.PrintMore
set_option linter.unusedVariables false
set_option linter.unusedSimpArgs false
theorem small_go (x0 : Int) : ∀ (l A : List Int), (A ++ l).length ≤ 100000 → Ends (fun k => spec_small.l0 k x0 (A ++ l) ((A ++ l).length : Int) (A.length : Int)) (fun r => r = true ↔ ∀ x ∈ l, x < x0)
  | [], A, hl => by
    refine Ends.step (fun k => by rw [spec_small.l0]) ?_
    simp only [List.append_nil, if_neg (show ¬ ((A.length : Int) < (A.length : Int)) by omega)]
    exact Ends.now (by simp)
  | x :: l, A, hl => by
    have hll : A.length + (l.length + 1) ≤ 100000 := by simpa using hl
    refine Ends.step (fun k => by rw [spec_small.l0]) ?_
    have w : wrap64 ((A.length : Int) + 1) = ((A ++ [x]).length : Int) := by rw [wr64 _ (by omega)]; simp
    have e : A ++ x :: l = (A ++ [x]) ++ l := by simp
    have r : rd (A ++ x :: l) (A.length : Int) = x := by unfold rd; simp
    have cl : (A.length : Int) < ((A ++ x :: l).length : Int) := by simp; omega
    simp only [if_pos cl, if_pos (show (0 : Int) ≤ (A.length : Int) by omega), r, w]
    by_cases d : x ≥ x0
    · simp only [if_pos d]
      refine Ends.now ⟨by simp, fun h => ?_⟩
      have := h x (by simp)
      omega
    · simp only [if_neg d]
      have := small_go x0 l (A ++ [x]) (by rw [← e]; exact hl)
      rw [← e] at this
      refine this.mono fun r hr => ⟨fun h y hy => ?_, fun h => hr.2 fun y hy => h y (by simp [hy])⟩
      rcases List.mem_cons.1 hy with hy | hy
      · rw [hy]; omega
      · exact hr.1 h y hy
theorem small_ends (x0 : Int) (l : List Int) (hl : l.length ≤ 100000) : Ends (fun k => spec_small.f k x0 l) (fun r => r = true ↔ ∀ x ∈ l, x < x0) := by
  unfold spec_small.f
  exact small_go x0 l [] (by simpa using hl)
end Go.Proofs.YtabfehcpcjcomaaGreatDoor.R
namespace Go.Proofs.YtabfehcpcjcomaaGreatDoor.R
open Go.RowKit Go.Proofs.YtabfehcpcjcomaaGreatDoor.QA0 Go.Proofs.YtabfehcpcjcomaaGreatDoorW.PrintWords Go.Proofs.YtabfehcpcjcomaaGreatDoorW.PrintLast Go.Proofs.YtabfehcpcjcomaaGreatDoorW.PrintMore
set_option linter.unusedVariables false
set_option linter.unusedSimpArgs false
theorem word_go (T : ByteArray) (hs : T.size ≤ 40000) : ∀ (n : Nat) (x6 : Int), 0 ≤ x6 → x6 ≤ (T.size : Int) → n = ((T.size : Int) - x6).toNat → Ends (fun k => spec_Word.l0 k T (T.size : Int) x6) (fun _ => True)
  | 0, x6, h0, h1, hn => by
    refine Ends.step (fun k => by rw [spec_Word.l0]) ?_
    simp only [if_neg (show ¬ (x6 < (T.size : Int)) by omega)]
    exact Ends.now trivial
  | n + 1, x6, h0, h1, hn => by
    refine Ends.step (fun k => by rw [spec_Word.l0]) ?_
    have w : wrap64 (x6 + 1) = x6 + 1 := wr64 _ (by omega)
    simp only [if_pos (show x6 < (T.size : Int) by omega), if_pos h0, w]
    by_cases c : bt T x6 ≤ 32
    · simp only [if_pos c]; exact Ends.now trivial
    · simp only [if_neg c]
      by_cases d : bt T x6 > 126
      · simp only [if_pos d]; exact Ends.now trivial
      · simp only [if_neg d]; exact word_go T hs n _ (by omega) (by omega) (by omega)
theorem word_ends (T : ByteArray) (hs : T.size ≤ 40000) : Ends (fun k => spec_Word.f k T) (fun _ => True) := by
  unfold spec_Word.f
  exact word_go T hs _ 0 (by omega) (by omega) rfl
theorem words_go : ∀ (l A : List ByteArray), (A ++ l).length ≤ 100000 → (∀ x ∈ l, x.size ≤ 40000) → Ends (fun k => spec_words.l0 k (A ++ l) ((A ++ l).length : Int) (A.length : Int)) (fun _ => True)
  | [], A, hl, hx => by
    refine Ends.step (fun k => by rw [spec_words.l0]) ?_
    simp only [List.append_nil, if_neg (show ¬ ((A.length : Int) < (A.length : Int)) by omega)]
    exact Ends.now trivial
  | x :: l, A, hl, hx => by
    have hll : A.length + (l.length + 1) ≤ 100000 := by simpa using hl
    refine Ends.step (fun k => by rw [spec_words.l0]) ?_
    have w : wrap64 ((A.length : Int) + 1) = ((A ++ [x]).length : Int) := by rw [wr64 _ (by omega)]; simp
    have e : A ++ x :: l = (A ++ [x]) ++ l := by simp
    have cl : (A.length : Int) < ((A ++ x :: l).length : Int) := by simp; omega
    simp only [if_pos cl, if_pos (show (0 : Int) ≤ (A.length : Int) by omega), rd_mid, w]
    refine Ends.bind (word_ends x (hx x (by simp))) fun t _ => ?_
    by_cases c : t = true
    · simp only [if_pos c]
      have := words_go l (A ++ [x]) (by rw [← e]; exact hl) (fun y hy => hx y (by simp [hy]))
      rw [← e] at this
      exact this
    · simp only [if_neg c]; exact Ends.now trivial
theorem words_ends (l : List ByteArray) (hl : l.length ≤ 100000) (hx : ∀ x ∈ l, x.size ≤ 40000) : Ends (fun k => spec_words.f k l) (fun _ => True) := by
  unfold spec_words.f
  exact words_go l [] (by simpa using hl) hx
theorem right_go (least : Nat) (hle : least ≤ 20) : ∀ (n : Nat) (T : ByteArray), n = least - T.size → T.size ≤ 100000 → Ends (fun k => spec_Right.l0 k T (least : Int)) (fun r => r.size ≤ T.size + n)
  | 0, T, hn, hs => by
    refine Ends.step (fun k => by rw [spec_Right.l0]) ?_
    simp only [if_neg (show ¬ ((T.size : Int) < (least : Int)) by omega)]
    exact Ends.now (by omega)
  | n + 1, T, hn, hs => by
    refine Ends.step (fun k => by rw [spec_Right.l0]) ?_
    simp only [if_pos (show (T.size : Int) < (least : Int) by omega), if_pos (show 1 + T.size ≤ 9223372036854775807 by omega)]
    have hz : ((⟨#[32]⟩ : ByteArray) ++ T).size = 1 + T.size := by rw [ByteArray.size_append]; rfl
    exact (right_go least hle n ((⟨#[32]⟩ : ByteArray) ++ T) (by omega) (by omega)).mono fun r hr => by omega
theorem right_ends (least : Nat) (hle : least ≤ 20) (T : ByteArray) (hs : T.size ≤ 100000) : Ends (fun k => spec_Right.f k T (least : Int)) (fun r => r.size ≤ T.size + 20) := by
  unfold spec_Right.f
  exact (right_go least hle _ T rfl hs).mono fun r hr => by omega
theorem where_no (T : ByteArray) (x1 : Int) (hs : T.size ≤ 40000) : ∀ (n : Nat) (x8 : Int), 0 ≤ x8 → x8 ≤ (T.size : Int) → n = ((T.size : Int) - x8).toNat → Ends (fun k => spec_Where.l0 k T x1 (T.size : Int) x8) (fun r => r < 0 → ∀ i : Nat, x8 ≤ (i : Int) → i < T.size → bt T (i : Int) ≠ x1)
  | 0, x8, h0, h1, hn => by
    refine Ends.step (fun k => by rw [spec_Where.l0]) ?_
    simp only [if_neg (show ¬ (x8 < (T.size : Int)) by omega)]
    exact Ends.now fun _ i hi hi2 => by omega
  | n + 1, x8, h0, h1, hn => by
    refine Ends.step (fun k => by rw [spec_Where.l0]) ?_
    have w : wrap64 (x8 + 1) = x8 + 1 := wr64 _ (by omega)
    simp only [if_pos (show x8 < (T.size : Int) by omega), if_pos h0, w]
    by_cases d : bt T x8 = x1
    · simp only [if_pos d]; exact Ends.now fun h => by omega
    · simp only [if_neg d]
      refine (where_no T x1 hs n (x8 + 1) (by omega) (by omega) (by omega)).mono fun r hr h i hi hi2 => ?_
      by_cases e : x8 = (i : Int)
      · rw [← e]; exact d
      · exact hr h i (by omega) hi2
theorem where_none (T : ByteArray) (x1 : Int) (hs : T.size ≤ 40000) : Ends (fun k => spec_Where.f k T x1) (fun r => r < 0 → ∀ i : Nat, i < T.size → bt T (i : Int) ≠ x1) := by
  unfold spec_Where.f
  exact (where_no T x1 hs _ 0 (by omega) (by omega) rfl).mono fun r hr h i hi => hr h i (by omega) hi
end Go.Proofs.YtabfehcpcjcomaaGreatDoor.R
namespace Go.Proofs.YtabfehcpcjcomaaGreatDoor.R
open Go.RowKit Go.Proofs.YtabfehcpcjcomaaGreatDoor.QA0 Go.Proofs.YtabfehcpcjcomaaGreatDoorW.PrintWords Go.Proofs.YtabfehcpcjcomaaGreatDoorW.PrintLast Go.Proofs.YtabfehcpcjcomaaGreatDoorW.PrintMore
set_option linter.unusedVariables false
set_option linter.unusedSimpArgs false
theorem B_of (T : ByteArray) : T = B T.data.toList := by cases T; rfl
theorem B_mid (P D R : Bs) (i j : Nat) (hi : i = P.length) (hj : j = P.length + D.length) : (B (P ++ (D ++ R))).extract i j = B D := by
  subst hi; subst hj
  unfold B
  apply ByteArray.ext
  simp [ByteArray.extract, ByteArray.copySlice]
theorem bt_mid (P : Bs) (z : UInt8) (R : Bs) : bt (B (P ++ (z :: R))) (P.length : Int) = (z.toNat : Int) := at_B _ _ _ (by simp)
theorem eq10 (z : UInt8) : ((z.toNat : Int) = 10) ↔ z = 10 := by
  constructor
  · intro h; apply UInt8.toNat_inj.1; have : (10 : UInt8).toNat = 10 := rfl; omega
  · intro h; subst h; rfl
theorem eq32 (z : UInt8) : ((z.toNat : Int) = 32) ↔ z = 32 := by
  constructor
  · intro h; apply UInt8.toNat_inj.1; have : (32 : UInt8).toNat = 32 := rfl; omega
  · intro h; subst h; rfl
theorem eq9 (z : UInt8) : ((z.toNat : Int) = 9) ↔ z = 9 := by
  constructor
  · intro h; apply UInt8.toNat_inj.1; have : (9 : UInt8).toNat = 9 := rfl; omega
  · intro h; subst h; rfl
def linesGo : Bs → Bs → List Bs
  | cur, [] => if cur = [] then [] else [cur]
  | cur, c :: l => if c = 10 then cur :: linesGo [] l else linesGo (cur ++ [c]) l
def linesL (l : Bs) : List Bs := linesGo [] l
def fgo : Bs → Bs → List Bs
  | cur, [] => if cur = [] then [] else [cur]
  | cur, c :: l => if c = 32 ∨ c = 9 then (if cur = [] then fgo [] l else cur :: fgo [] l) else fgo (cur ++ [c]) l
def fieldsL (l : Bs) : List Bs := fgo [] l
theorem lines_ev (rest : Bs) : ∀ (P cur : Bs) (x3 : List ByteArray), (P ++ (cur ++ rest)).length ≤ 1048576 → x3.length ≤ P.length →
    Ev (fun k => spec_Lines.l0 k (B (P ++ (cur ++ rest))) x3 (P.length : Int) ((B (P ++ (cur ++ rest))).size : Int) ((P ++ cur).length : Int)) (x3 ++ (linesGo cur rest).map B) := by
  induction rest with
  | nil =>
    intro P cur x3 hl h3
    refine Ev.step (fun k => by rw [spec_Lines.l0]) ?_
    have hs : (B (P ++ (cur ++ []))).size = P.length + cur.length := by rw [B_size]; simp
    have c : ¬ (((P ++ cur).length : Int) < ((B (P ++ (cur ++ []))).size : Int)) := by rw [hs]; simp
    simp only [if_neg c]
    simp only [List.length_append, List.length_nil] at hl
    by_cases e : cur = []
    · subst e
      have d : ¬ ((P.length : Int) < ((B P).size : Int)) := by rw [B_size]; omega
      simp only [List.append_nil, if_neg d, linesGo, if_true, List.map_nil]
      exact Ev.now _
    · have hc : 0 < cur.length := List.length_pos_iff.2 e
      have d : (P.length : Int) < ((B (P ++ (cur ++ []))).size : Int) := by rw [hs]; omega
      have x : (B (P ++ (cur ++ []))).extract ((P.length : Int)).toNat (B (P ++ (cur ++ []))).size = B cur := B_mid P cur [] _ _ (by simp) hs
      simp only [if_pos d, if_pos (show (0 : Int) ≤ (P.length : Int) by omega), if_pos (show (P.length : Int) ≤ ((B (P ++ (cur ++ []))).size : Int) by omega), if_pos (show x3.length < 8796093022208 by omega), x, linesGo, if_neg e, List.map_cons, List.map_nil]
      exact Ev.now _
  | cons z rest ih =>
    intro P cur x3 hl h3
    refine Ev.step (fun k => by rw [spec_Lines.l0]) ?_
    have hs : (B (P ++ (cur ++ z :: rest))).size = P.length + (cur.length + (rest.length + 1)) := by rw [B_size]; simp
    simp only [List.length_append, List.length_cons] at hl
    have c : ((P ++ cur).length : Int) < ((B (P ++ (cur ++ z :: rest))).size : Int) := by rw [hs]; simp; omega
    have hb : bt (B (P ++ (cur ++ z :: rest))) ((P ++ cur).length : Int) = (z.toNat : Int) := by
      have := bt_mid (P ++ cur) z rest
      rw [List.append_assoc] at this
      exact this
    have w : wrap64 (((P ++ cur).length : Int) + 1) = ((P ++ cur).length : Int) + 1 := wr64 _ (by simp; omega)
    simp only [if_pos c, if_pos (show (0 : Int) ≤ ((P ++ cur).length : Int) by omega), hb, w]
    by_cases e : z = 10
    · have e' := (eq10 z).2 e
      have x : (B (P ++ (cur ++ z :: rest))).extract ((P.length : Int)).toNat (((P ++ cur).length : Int)).toNat = B cur := B_mid P cur (z :: rest) _ _ (by simp) (by simp; omega)
      simp only [if_pos e', if_pos (show (0 : Int) ≤ (P.length : Int) by omega), if_pos (show (P.length : Int) ≤ ((P ++ cur).length : Int) by simp; omega), if_pos (show ((P ++ cur).length : Int) ≤ ((B (P ++ (cur ++ z :: rest))).size : Int) by omega), if_pos (show x3.length < 8796093022208 by omega), x]
      have := ih (P ++ (cur ++ [z])) [] (x3 ++ [B cur]) (by simp; omega) (by simp; omega)
      have e1 : P ++ (cur ++ z :: rest) = P ++ (cur ++ [z]) ++ ([] ++ rest) := by simp
      have e2 : ((P ++ (cur ++ [z]) ++ []).length : Int) = ((P ++ cur).length : Int) + 1 := by simp; omega
      have e3 : ((P ++ (cur ++ [z])).length : Int) = ((P ++ cur).length : Int) + 1 := by simp; omega
      rw [← e1, e2, e3] at this
      simp only [linesGo, if_pos e, List.map_cons]
      rw [List.append_assoc] at this
      exact this
    · have e' : ¬ ((z.toNat : Int) = 10) := fun h => e ((eq10 z).1 h)
      simp only [if_neg e']
      have := ih P (cur ++ [z]) x3 (by simp; omega) h3
      have e1 : P ++ (cur ++ z :: rest) = P ++ ((cur ++ [z]) ++ rest) := by simp
      have e2 : ((P ++ (cur ++ [z])).length : Int) = ((P ++ cur).length : Int) + 1 := by simp; omega
      rw [← e1, e2] at this
      simp only [linesGo, if_neg e]
      exact this
theorem linesL_ev (l : Bs) (hl : l.length ≤ 1048576) : Ev (fun k => spec_Lines.f k (B l)) ((linesL l).map B) := by
  unfold spec_Lines.f
  exact lines_ev l [] [] [] (by simpa using hl) (by simp)
theorem fields_ev (rest : Bs) : ∀ (P cur : Bs) (x3 : List ByteArray), (P ++ (cur ++ rest)).length ≤ 1048576 → x3.length ≤ P.length →
    Ev (fun k => spec_Fields.l0 k (B (P ++ (cur ++ rest))) x3 (if cur = [] then -1 else (P.length : Int)) ((B (P ++ (cur ++ rest))).size : Int) ((P ++ cur).length : Int)) (x3 ++ (fgo cur rest).map B) := by
  induction rest with
  | nil =>
    intro P cur x3 hl h3
    refine Ev.step (fun k => by rw [spec_Fields.l0]) ?_
    have hs : (B (P ++ (cur ++ []))).size = P.length + cur.length := by rw [B_size]; simp
    have c : ¬ (((P ++ cur).length : Int) < ((B (P ++ (cur ++ []))).size : Int)) := by rw [hs]; simp
    simp only [if_neg c]
    simp only [List.length_append, List.length_nil] at hl
    by_cases e : cur = []
    · subst e
      simp only [if_true, if_neg (show ¬ ((-1 : Int) ≥ 0) by omega), fgo, List.map_nil, List.append_nil]
      exact Ev.now _
    · have x : (B (P ++ (cur ++ []))).extract ((P.length : Int)).toNat (B (P ++ (cur ++ []))).size = B cur := B_mid P cur [] _ _ (by simp) hs
      simp only [if_neg e, if_pos (show (P.length : Int) ≥ 0 by omega), if_pos (show (0 : Int) ≤ (P.length : Int) by omega), if_pos (show (P.length : Int) ≤ ((B (P ++ (cur ++ []))).size : Int) by omega), if_pos (show x3.length < 8796093022208 by omega), x, fgo, List.map_cons, List.map_nil]
      exact Ev.now _
  | cons z rest ih =>
    intro P cur x3 hl h3
    refine Ev.step (fun k => by rw [spec_Fields.l0]) ?_
    have hs : (B (P ++ (cur ++ z :: rest))).size = P.length + (cur.length + (rest.length + 1)) := by rw [B_size]; simp
    simp only [List.length_append, List.length_cons] at hl
    have c : ((P ++ cur).length : Int) < ((B (P ++ (cur ++ z :: rest))).size : Int) := by rw [hs]; simp; omega
    have hb : bt (B (P ++ (cur ++ z :: rest))) ((P ++ cur).length : Int) = (z.toNat : Int) := by
      have := bt_mid (P ++ cur) z rest
      rw [List.append_assoc] at this
      exact this
    have w : wrap64 (((P ++ cur).length : Int) + 1) = ((P ++ cur).length : Int) + 1 := wr64 _ (by simp; omega)
    simp only [if_pos c, if_pos (show (0 : Int) ≤ ((P ++ cur).length : Int) by omega), hb]
    have blank : (z = 32 ∨ z = 9) → Ev (fun k => spec_Fields.j1 k (B (P ++ (cur ++ z :: rest))) x3 (if cur = [] then -1 else (P.length : Int)) ((P ++ cur).length : Int) true ((B (P ++ (cur ++ z :: rest))).size : Int) ((P ++ cur).length : Int)) (x3 ++ (fgo cur (z :: rest)).map B) := by
      intro hz
      refine Ev.step (fun k => by rw [spec_Fields.j1]) ?_
      simp only [if_true]
      refine Ev.step (fun k => by rw [spec_Fields.j2]) ?_
      by_cases e : cur = []
      · subst e
        have hd : decide ((-1 : Int) ≥ 0) = false := rfl
        simp only [if_true, hd, Bool.false_eq_true, if_false, w]
        have := ih (P ++ [z]) [] x3 (by simp; omega) (by simp; omega)
        have e1 : P ++ (([] : Bs) ++ z :: rest) = P ++ [z] ++ ([] ++ rest) := by simp
        have e2 : ((P ++ [z] ++ ([] : Bs)).length : Int) = ((P ++ ([] : Bs)).length : Int) + 1 := by simp
        rw [← e1, e2] at this
        simp only [fgo, if_pos hz, if_true] at this ⊢
        exact this
      · have hd : decide ((P.length : Int) ≥ 0) = true := decide_eq_true (by omega)
        have x : (B (P ++ (cur ++ z :: rest))).extract ((P.length : Int)).toNat (((P ++ cur).length : Int)).toNat = B cur := B_mid P cur (z :: rest) _ _ (by simp) (by simp; omega)
        simp only [if_neg e, hd, if_true, if_pos (show (0 : Int) ≤ (P.length : Int) by omega), if_pos (show (P.length : Int) ≤ ((P ++ cur).length : Int) by simp; omega), if_pos (show ((P ++ cur).length : Int) ≤ ((B (P ++ (cur ++ z :: rest))).size : Int) by omega), if_pos (show x3.length < 8796093022208 by omega), x, w]
        have := ih (P ++ (cur ++ [z])) [] (x3 ++ [B cur]) (by simp; omega) (by simp; omega)
        have e1 : P ++ (cur ++ z :: rest) = P ++ (cur ++ [z]) ++ ([] ++ rest) := by simp
        have e2 : ((P ++ (cur ++ [z]) ++ []).length : Int) = ((P ++ cur).length : Int) + 1 := by simp; omega
        rw [← e1, e2] at this
        simp only [fgo, if_pos hz, if_neg e, if_true, List.map_cons] at this ⊢
        rw [List.append_assoc] at this
        exact this
    by_cases e32 : z = 32
    · simp only [if_pos ((eq32 z).2 e32)]
      exact blank (.inl e32)
    · simp only [if_neg (show ¬ ((z.toNat : Int) = 32) from fun h => e32 ((eq32 z).1 h))]
      by_cases e9 : z = 9
      · have : (((z.toNat : Int) == 9) : Bool) = true := beq_iff_eq.2 ((eq9 z).2 e9)
        simp only [this]
        exact blank (.inr e9)
      · have : (((z.toNat : Int) == 9) : Bool) = false := beq_eq_false_iff_ne.2 (fun h => e9 ((eq9 z).1 h))
        simp only [this]
        refine Ev.step (fun k => by rw [spec_Fields.j1]) ?_
        simp only [Bool.false_eq_true, if_false]
        refine Ev.step (fun k => by rw [spec_Fields.j2]) ?_
        simp only [Bool.false_eq_true, if_false, w]
        have := ih P (cur ++ [z]) x3 (by simp; omega) h3
        have e1 : P ++ (cur ++ z :: rest) = P ++ ((cur ++ [z]) ++ rest) := by simp
        have e2 : ((P ++ (cur ++ [z])).length : Int) = ((P ++ cur).length : Int) + 1 := by simp; omega
        have e3 : ¬ (cur ++ [z] = []) := by simp
        have ef : fgo cur (z :: rest) = fgo (cur ++ [z]) rest := by rw [fgo, if_neg (show ¬ (z = 32 ∨ z = 9) by rintro (h | h); exact e32 h; exact e9 h)]
        rw [← e1, e2, if_neg e3] at this
        rw [ef]
        by_cases e : cur = []
        · subst e
          have e4 : ((P ++ ([] : Bs)).length : Int) = (P.length : Int) := by simp
          simp only [if_true, if_pos (show (-1 : Int) < 0 by omega)]
          rw [e4] at this ⊢
          exact this
        · simp only [if_neg e, if_neg (show ¬ ((P.length : Int) < 0) by omega)]
          exact this
theorem fieldsL_ev (l : Bs) (hl : l.length ≤ 1048576) : Ev (fun k => spec_Fields.f k (B l)) ((fieldsL l).map B) := by
  unfold spec_Fields.f
  exact fields_ev l [] [] [] (by simpa using hl) (by simp)
def plainC (c : UInt8) : Bool := c == 9 || (decide (32 ≤ c.toNat) && decide (c.toNat ≤ 126))
theorem fgo_lib : ∀ (l cur : Bs), l.all plainC = true → Lib.fieldsGo cur l = fgo cur l
  | [], cur, _ => by
    cases cur <;> simp [Lib.fieldsGo, fgo]
  | c :: l, cur, h => by
    simp only [List.all_cons, Bool.and_eq_true] at h
    obtain ⟨hc, hl⟩ := h
    by_cases e : c = 32 ∨ c = 9
    · have hs : Lib.isSp c = true := by rcases e with rfl | rfl <;> rfl
      cases cur with
      | nil => rw [Lib.fieldsGo_sp _ _ hs, fgo_lib l [] hl]; simp [fgo, e]
      | cons a r => rw [Lib.fieldsGo_end _ _ _ hs (by simp), fgo_lib l [] hl]; simp [fgo, e]
    · have hs : Lib.isSp c = false := by
        unfold plainC at hc
        simp only [Bool.or_eq_true, beq_iff_eq, Bool.and_eq_true, decide_eq_true_eq] at hc
        have h9 : ¬ c = 9 := fun h => e (.inr h)
        have h32 : ¬ c = 32 := fun h => e (.inl h)
        have key : ∀ m : UInt8, m.toNat < 32 → ¬ (c = m) := by intro m hm he; rw [he] at hc; rcases hc with hc | hc; exact h9 (he.trans hc); omega
        unfold Lib.isSp
        simp [h9, h32, key 10 (by decide), key 11 (by decide), key 12 (by decide), key 13 (by decide)]
      rw [Lib.fieldsGo_more _ _ _ hs, fgo_lib l _ hl]
      simp [fgo, e]
theorem linesGo_eq : ∀ (l cur : Bs), linesGo cur l = if cur = [] ∧ l = [] then [] else (cur ++ l.takeWhile (fun c => c != 10)) :: linesGo [] (l.drop ((l.takeWhile (fun c => c != 10)).length + 1))
  | [], cur => by
    by_cases h : cur = []
    · simp [linesGo, h]
    · simp [linesGo, h]
  | c :: l, cur => by
    by_cases h : c = 10
    · subst h; simp [linesGo]
    · have hb : (c != 10) = true := bne_iff_ne.2 h
      rw [linesGo, if_neg h, linesGo_eq l (cur ++ [c])]
      simp [List.takeWhile_cons, hb]
end Go.Proofs.YtabfehcpcjcomaaGreatDoor.R
namespace Go.Proofs.YtabfehcpcjcomaaGreatDoor.R
open Go.RowKit Go.Proofs.YtabfehcpcjcomaaGreatDoor.QA0 Go.Proofs.YtabfehcpcjcomaaGreatDoorW.PrintWords Go.Proofs.YtabfehcpcjcomaaGreatDoorW.PrintLast Go.Proofs.YtabfehcpcjcomaaGreatDoorW.PrintMore
set_option linter.unusedVariables false
set_option linter.unusedSimpArgs false
theorem plain_is (T : ByteArray) : ∀ (n : Nat) (x7 : Int), 0 ≤ x7 → x7 ≤ (T.size : Int) → n = ((T.size : Int) - x7).toNat → T.size ≤ 40000 → Ends (fun k => spec_Plain.l0 k T (T.size : Int) x7) (fun r => r = true → ∀ i : Nat, x7 ≤ (i : Int) → i < T.size → bt T (i : Int) = 9 ∨ bt T (i : Int) = 10 ∨ (32 ≤ bt T (i : Int) ∧ bt T (i : Int) ≤ 126))
  | 0, x7, h0, h1, hn, hs => by
    refine Ends.step (fun k => by rw [spec_Plain.l0]) ?_
    simp only [if_neg (show ¬ (x7 < (T.size : Int)) by omega)]
    exact Ends.now fun _ i hi hi2 => by omega
  | n + 1, x7, h0, h1, hn, hs => by
    refine Ends.step (fun k => by rw [spec_Plain.l0]) ?_
    have w : wrap64 (x7 + 1) = x7 + 1 := wr64 _ (by omega)
    have ih := plain_is T n (x7 + 1) (by omega) (by omega) (by omega) hs
    have on : (bt T x7 = 9 ∨ bt T x7 = 10 ∨ (32 ≤ bt T x7 ∧ bt T x7 ≤ 126)) → Ends (fun k => spec_Plain.l0 k T (T.size : Int) (x7 + 1)) (fun r => r = true → ∀ i : Nat, x7 ≤ (i : Int) → i < T.size → bt T (i : Int) = 9 ∨ bt T (i : Int) = 10 ∨ (32 ≤ bt T (i : Int) ∧ bt T (i : Int) ≤ 126)) := by
      intro hx
      refine ih.mono fun r hr h i hi hi2 => ?_
      by_cases e : x7 = (i : Int)
      · rw [← e]; exact hx
      · exact hr h i (by omega) hi2
    simp only [if_pos (show x7 < (T.size : Int) by omega), if_pos h0, w]
    by_cases c : bt T x7 > 126
    · simp only [if_pos c]; exact Ends.now (by simp)
    · simp only [if_neg c]
      by_cases d : bt T x7 < 32
      · simp only [if_pos d]
        by_cases e : bt T x7 = 10
        · simp only [if_pos e]; exact on (.inr (.inl e))
        · simp only [if_neg e]
          by_cases e : bt T x7 = 9
          · simp only [if_pos e]; exact on (.inl e)
          · simp only [if_neg e]; exact Ends.now (by simp)
      · simp only [if_neg d]; exact on (.inr (.inr (by omega)))
def plainT (c : UInt8) : Bool := c == 10 || plainC c
theorem plain_text (T : ByteArray) (hs : T.size ≤ 40000) : Ends (fun k => spec_Plain.f k T) (fun r => r = true → T.data.toList.all plainT = true) := by
  unfold spec_Plain.f
  refine (plain_is T _ 0 (by omega) (by omega) rfl hs).mono fun r hr h => ?_
  rw [List.all_eq_true]
  intro c hc
  obtain ⟨i, hi, rfl⟩ := List.getElem_of_mem hc
  have hi' : i < T.size := by simpa using hi
  have := hr h i (by omega) hi'
  rw [bt_list T i hi'] at this
  unfold plainT plainC
  simp only [Bool.or_eq_true, beq_iff_eq, Bool.and_eq_true, decide_eq_true_eq]
  rcases this with h | h | h
  · exact .inr (.inl ((eq9 _).1 h))
  · exact .inl ((eq10 _).1 h)
  · exact .inr (.inr ⟨by omega, by omega⟩)
theorem lines_plain : ∀ (l cur : Bs), l.all plainT = true → cur.all plainC = true → ∀ x ∈ linesGo cur l, x.all plainC = true
  | [], cur, _, hc, x, hx => by
    unfold linesGo at hx
    split at hx
    · cases hx
    · rw [List.mem_singleton.1 hx]; exact hc
  | c :: l, cur, h, hc, x, hx => by
    simp only [List.all_cons, Bool.and_eq_true] at h
    unfold linesGo at hx
    split at hx
    · rcases List.mem_cons.1 hx with hx | hx
      · rw [hx]; exact hc
      · exact lines_plain l [] h.2 (by simp) x hx
    · rename_i hn
      have h1 : plainC c = true := by
        have := h.1
        unfold plainT at this
        simp only [Bool.or_eq_true, beq_iff_eq] at this
        exact this.resolve_left hn
      exact lines_plain l (cur ++ [c]) h.2 (by simp [hc, h1]) x hx
theorem lines_len : ∀ (l cur : Bs), ∀ x ∈ linesGo cur l, x.length ≤ cur.length + l.length
  | [], cur, x, hx => by
    unfold linesGo at hx
    split at hx
    · cases hx
    · rw [List.mem_singleton.1 hx]; omega
  | c :: l, cur, x, hx => by
    unfold linesGo at hx
    split at hx
    · rcases List.mem_cons.1 hx with hx | hx
      · rw [hx]; omega
      · have := lines_len l [] x hx; simp only [List.length_cons, List.length_nil] at *; omega
    · have := lines_len l (cur ++ [c]) x hx; simp only [List.length_append, List.length_cons, List.length_nil] at *; omega
theorem lines_n : ∀ (l cur : Bs), (linesGo cur l).length ≤ l.length + (if cur = [] then 0 else 1)
  | [], cur => by
    unfold linesGo
    split <;> simp
  | c :: l, cur => by
    unfold linesGo
    split
    · have := lines_n l []
      simp only [if_true, List.length_cons] at *
      split <;> omega
    · have := lines_n l (cur ++ [c])
      rw [if_neg (by simp)] at this
      simp only [List.length_cons]
      split <;> omega
theorem fgo_n : ∀ (l cur : Bs), (fgo cur l).length ≤ l.length + (if cur = [] then 0 else 1)
  | [], cur => by
    unfold fgo
    split <;> simp
  | c :: l, cur => by
    unfold fgo
    split
    · have := fgo_n l []
      simp only [if_true] at this
      split
      · simp only [List.length_cons]; omega
      · simp only [List.length_cons]; omega
    · have := fgo_n l (cur ++ [c])
      rw [if_neg (by simp)] at this
      simp only [List.length_cons]
      split <;> omega
theorem fgo_len : ∀ (l cur : Bs), ∀ x ∈ fgo cur l, x.length ≤ cur.length + l.length
  | [], cur, x, hx => by
    unfold fgo at hx
    split at hx
    · cases hx
    · rw [List.mem_singleton.1 hx]; omega
  | c :: l, cur, x, hx => by
    unfold fgo at hx
    split at hx
    · split at hx
      · have := fgo_len l [] x hx; simp only [List.length_cons, List.length_nil] at *; omega
      · rcases List.mem_cons.1 hx with hx | hx
        · rw [hx]; omega
        · have := fgo_len l [] x hx; simp only [List.length_cons, List.length_nil] at *; omega
    · have := fgo_len l (cur ++ [c]) x hx; simp only [List.length_append, List.length_cons, List.length_nil] at *; omega
end Go.Proofs.YtabfehcpcjcomaaGreatDoor.R
namespace Go.Proofs.YtabfehcpcjcomaaGreatDoor.R
open Go.RowKit Go.Proofs.YtabfehcpcjcomaaGreatDoor.QA0 Go.Proofs.YtabfehcpcjcomaaGreatDoorW.PrintWords Go.Proofs.YtabfehcpcjcomaaGreatDoorW.PrintLast Go.Proofs.YtabfehcpcjcomaaGreatDoorW.PrintMore
set_option linter.unusedVariables false
set_option linter.unusedSimpArgs false
theorem rd48_mid (A : List S48) (x : S48) (l : List S48) : rd_T48 (A ++ x :: l) (A.length : Int) = x := by unfold rd_T48; simp
end Go.Proofs.YtabfehcpcjcomaaGreatDoor.R
namespace Go.Proofs.YtabfehcpcjcomaaGreatDoor.R
open Go.RowKit Go.Proofs.YtabfehcpcjcomaaGreatDoor.QA0 Go.Proofs.YtabfehcpcjcomaaGreatDoorW.PrintWords Go.Proofs.YtabfehcpcjcomaaGreatDoorW.PrintLast Go.Proofs.YtabfehcpcjcomaaGreatDoorW.PrintMore
set_option linter.unusedVariables false
set_option linter.unusedSimpArgs false
theorem scan_nil (L : ByteArray) : texts_Lines_Scan.f (B []) L 65536 none = some (false, B [], ⟨#[]⟩, 65536, none) := by
  unfold texts_Lines_Scan.f scanF
  rfl
def lineOf (l : Bs) : Bs := l.takeWhile (fun c => c != 10)
def restOf (l : Bs) : Bs := l.drop ((lineOf l).length + 1)
theorem line_split (l : Bs) : l.take (lineOf l).length = lineOf l := by
  unfold lineOf
  induction l with
  | nil => rfl
  | cons c l ih =>
    rw [List.takeWhile_cons]
    split
    · simp [ih]
    · rfl
theorem line_le (l : Bs) : (lineOf l).length ≤ l.length := by
  have := congrArg List.length (line_split l)
  rw [List.length_take] at this
  omega
theorem B_drop (l : Bs) (i : Nat) : (B l).extract i (B l).size = B (l.drop i) := by
  unfold B
  apply ByteArray.ext
  simp [ByteArray.extract, ByteArray.copySlice, ByteArray.size]
  exact List.take_of_length_le (by rw [List.length_drop]; omega)
theorem B_take (l : Bs) (i : Nat) : (B l).extract 0 i = B (l.take i) := by
  unfold B
  apply ByteArray.ext
  simp [ByteArray.extract, ByteArray.copySlice, ByteArray.size]
theorem chomp_plain (l : Bs) (h : l.all plainC = true) : chomp (B l) = B l := by
  unfold chomp
  rw [if_neg]
  rintro ⟨h0, h1⟩
  rw [B_size] at h0 h1
  have hi : l.length - 1 < (B l).size := by rw [B_size]; omega
  have e : ((l.length : Int) - 1) = ((l.length - 1 : Nat) : Int) := by omega
  rw [e, bt_list (B l) _ hi] at h1
  have hm : (B l).data.toList[l.length - 1]'(by simpa using hi) ∈ l := List.getElem_mem (l := l) _
  have := List.all_eq_true.1 h _ hm
  unfold plainC at this
  simp only [Bool.or_eq_true, beq_iff_eq, Bool.and_eq_true, decide_eq_true_eq] at this
  rcases this with h2 | h2
  · rw [h2] at h1
    have : (9 : UInt8).toNat = 9 := rfl
    omega
  · omega
theorem scan_cons (l : Bs) (L : ByteArray) (h0 : l ≠ []) (hl : l.length ≤ 40000) (hp : (lineOf l).all plainC = true) : texts_Lines_Scan.f (B l) L 65536 none = some (true, B (restOf l), B (lineOf l), 65536, none) := by
  have hpos : 0 < l.length := List.length_pos_iff.2 h0
  have hn : nl (B l) = (lineOf l).length := rfl
  have := line_le l
  unfold texts_Lines_Scan.f scanF
  rw [if_pos ⟨rfl, by rw [B_size]; omega⟩, if_neg (by rw [B_size]; omega), hn, if_pos (by omega), B_drop, B_take, line_split, chomp_plain _ hp]
  rfl
theorem linesL_cons (l : Bs) (h0 : l ≠ []) : linesL l = lineOf l :: linesL (restOf l) := by
  unfold linesL
  rw [linesGo_eq, if_neg (by simpa using h0)]
  rfl
theorem rest_plain (l : Bs) (h : l.all plainT = true) : (restOf l).all plainT = true := by
  rw [List.all_eq_true] at *
  intro c hc
  exact h c (List.mem_of_mem_drop hc)
theorem line_plain (l : Bs) (h0 : l ≠ []) (h : l.all plainT = true) : (lineOf l).all plainC = true := by
  have := lines_plain l [] h (by simp) (lineOf l)
  have e := linesL_cons l h0
  unfold linesL at e
  rw [e] at this
  exact this (by simp)
theorem fields_plain (l : Bs) (h : l.all plainC = true) (hl : l.length ≤ 1048576) : strings_Fields.f (B l) = some ((fieldsL l).map bs) := by
  unfold strings_Fields.f fieldsF
  have ha : Asc (B l) = true := by
    unfold Asc
    rw [B_data, List.all_eq_true]
    intro c hc
    have := List.all_eq_true.1 h c hc
    unfold plainC at this
    simp only [Bool.or_eq_true, beq_iff_eq, Bool.and_eq_true, decide_eq_true_eq] at this
    simp only [decide_eq_true_eq]
    rcases this with h2 | h2
    · rw [h2]; decide
    · omega
  rw [if_pos ⟨by rw [B_size]; exact hl, ha⟩, B_data]
  unfold Lib.fields fieldsL
  rw [fgo_lib l [] h]
end Go.Proofs.YtabfehcpcjcomaaGreatDoor.R
namespace Go.Proofs.YtabfehcpcjcomaaGreatDoor.R
open Go.RowKit Go.Proofs.YtabfehcpcjcomaaGreatDoor.QA0 Go.Proofs.YtabfehcpcjcomaaGreatDoorW.PrintWords Go.Proofs.YtabfehcpcjcomaaGreatDoorW.PrintLast Go.Proofs.YtabfehcpcjcomaaGreatDoorW.PrintMore
set_option linter.unusedVariables false
set_option linter.unusedSimpArgs false
def rowB (p : Bs × Bs × List Int) : S48 := ⟨⟨#[]⟩, p.2.2, [B p.1, B p.2.1]⟩
def RowB (p : Bs × Bs × List Int) : Prop := p.1.length ≤ 40000 ∧ p.2.1.length ≤ 40000 ∧ p.2.2.length ≤ 40001 ∧ ∀ x ∈ p.2.2, U64 x
def FineB (n : Nat) (p : Bs × Bs × List Int) : Prop := 1 ≤ p.2.2.length ∧ p.2.2.length = n ∧ (∀ x ∈ p.2.2, x < 1099511627776) ∧ (∀ c ∈ p.1, c ≠ 44) ∧ (∀ c ∈ p.2.1, c ≠ 44)
theorem where_B (l : Bs) (hl : l.length ≤ 40000) : Ends (fun k => spec_Where.f k (B l) 44) (fun r => r < 0 → ∀ c ∈ l, c ≠ 44) := by
  refine (where_none (B l) 44 (by rw [B_size]; exact hl)).mono fun r hr h c hc e => ?_
  subst e
  obtain ⟨i, hi, he⟩ := List.getElem_of_mem hc
  have := hr h i (by rw [B_size]; exact hi)
  rw [at_B l i 44 (by rw [List.getElem?_eq_getElem hi, he])] at this
  exact this rfl
theorem bp_l1 (x0 x9 : List S48) (x10 x11 : Int) (M : Nat) (hM : M ≤ 100000000000000) (Q : ByteArray × Int → Prop)
    (hk : ∀ s : ByteArray, s.size ≤ M + 1 → Ends (fun k => spec_BuddyinfoPrint.l0 k x0 s x9 x10 (wrap64 (x11 + 1))) Q) :
    ∀ (l A : List Int) (x4 : ByteArray), (A ++ l).length ≤ 40001 → (∀ x ∈ l, U64 x) → x4.size + 41 * l.length ≤ M →
      Ends (fun k => spec_BuddyinfoPrint.l1 k x0 x4 x9 x10 x11 (A ++ l) ((A ++ l).length : Int) (A.length : Int)) Q
  | [], A, x4, hl, hu, hs => by
    refine Ends.step (fun k => by rw [spec_BuddyinfoPrint.l1]) ?_
    simp only [List.length_nil, Nat.mul_zero, Nat.add_zero] at hs
    simp only [List.append_nil, if_neg (show ¬ ((A.length : Int) < (A.length : Int)) by omega), if_pos (show x4.size + 1 ≤ 9223372036854775807 by omega)]
    refine hk _ ?_
    rw [ByteArray.size_append]
    show x4.size + 1 ≤ M + 1
    omega
  | x :: l, A, x4, hl, hu, hs => by
    have hll : A.length + (l.length + 1) ≤ 40001 := by simpa using hl
    simp only [List.length_cons] at hs
    refine Ends.step (fun k => by rw [spec_BuddyinfoPrint.l1]) ?_
    have w : wrap64 ((A.length : Int) + 1) = ((A ++ [x]).length : Int) := by rw [wr64 _ (by omega)]; simp
    have e : A ++ x :: l = (A ++ [x]) ++ l := by simp
    have r : rd (A ++ x :: l) (A.length : Int) = x := by unfold rd; simp
    have cl : (A.length : Int) < ((A ++ x :: l).length : Int) := by simp; omega
    simp only [if_pos cl, if_pos (show (0 : Int) ≤ (A.length : Int) by omega), r, w]
    have hux := hu x (by simp)
    refine Ends.bind (Ends.ev (text_ev x hux)) fun t ht => ?_
    have hts : t.size ≤ 20 := by rw [ht]; exact decT_size x hux
    refine Ends.bind (right_ends 6 (by omega) t (by omega)) fun q hq => ?_
    have hz : (q ++ (⟨#[32]⟩ : ByteArray)).size = q.size + 1 := by rw [ByteArray.size_append]; rfl
    simp only [if_pos (show q.size + 1 ≤ 9223372036854775807 by omega), if_pos (show x4.size + (q ++ (⟨#[32]⟩ : ByteArray)).size ≤ 9223372036854775807 by omega)]
    have := bp_l1 x0 x9 x10 x11 M hM Q hk l (A ++ [x]) (x4 ++ (q ++ (⟨#[32]⟩ : ByteArray))) (by rw [← e]; exact hl) (fun y hy => hu y (by simp [hy])) (by rw [ByteArray.size_append, hz]; omega)
    rw [← e] at this
    exact this
theorem bp_go (x0 : List S48) : ∀ (l A : List (Bs × Bs × List Int)) (x4 : ByteArray), (A ++ l).length ≤ 40001 → (∀ p ∈ l, RowB p) → (0 < l.length → 0 < x0.length) → x4.size ≤ 2000000 * A.length →
    Ends (fun k => spec_BuddyinfoPrint.l0 k x0 x4 ((A ++ l).map rowB) (((A ++ l).map rowB).length : Int) (A.length : Int)) (fun r => r.2 = 1 → ∀ p ∈ l, FineB ((rd_T48 x0 0).f1).length p)
  | [], A, x4, hl, hp, h0, hs => by
    refine Ends.step (fun k => by rw [spec_BuddyinfoPrint.l0]) ?_
    simp only [List.append_nil, List.length_map, if_neg (show ¬ ((A.length : Int) < (A.length : Int)) by omega)]
    exact Ends.now fun _ p h => by cases h
  | p :: l, A, x4, hl, hp, h0, hs => by
    have hll : A.length + (l.length + 1) ≤ 40001 := by simpa using hl
    have hx0 := h0 (by simp)
    obtain ⟨hX, hZ, hn, hu⟩ := hp p (by simp)
    refine Ends.step (fun k => by rw [spec_BuddyinfoPrint.l0]) ?_
    have w : wrap64 ((A.length : Int) + 1) = ((A ++ [p]).length : Int) := by rw [wr64 _ (by omega)]; simp
    have e : A ++ p :: l = (A ++ [p]) ++ l := by simp
    have r : rd_T48 ((A ++ p :: l).map rowB) (A.length : Int) = rowB p := by
      have := rd48_mid (A.map rowB) (rowB p) (l.map rowB)
      rw [List.length_map] at this
      rw [List.map_append]
      exact this
    have cl : (A.length : Int) < (((A ++ p :: l).map rowB).length : Int) := by simp; omega
    have e1 : (rowB p).f1 = p.2.2 := rfl
    have e2 : (rowB p).f2 = [B p.1, B p.2.1] := rfl
    have c2 : (([B p.1, B p.2.1] : List ByteArray).length : Int) = 2 := rfl
    have d0 : rdOf ByteArray.empty ([B p.1, B p.2.1] : List ByteArray) 0 = B p.1 := rfl
    have d1 : rdOf ByteArray.empty ([B p.1, B p.2.1] : List ByteArray) 1 = B p.2.1 := rfl
    have no : ∀ (f0 : ByteArray) (P : Prop), Ends (fun k => spec_BuddyinfoPrint.j1 k x0 x4 ((A ++ p :: l).map rowB) (((A ++ p :: l).map rowB).length : Int) (A.length : Int) true f0 p.2.2 [B p.1, B p.2.1]) (fun r => r.2 = 1 → P) := by
      intro f0 P
      refine Ends.step (fun k => by rw [spec_BuddyinfoPrint.j1]) ?_
      simp only [if_true]
      exact Ends.now (fun h => by simp at h)
    simp only [if_pos cl, if_pos (show (0 : Int) ≤ (A.length : Int) by omega), r, e1, e2, c2, d0, d1, if_true, if_pos (show (0 : Int) < 2 by omega), if_pos (show (1 : Int) < 2 by omega)]
    refine Ends.bind (words_ends [B p.1, B p.2.1] (by simp) (by
      intro x hx
      simp only [List.mem_cons, List.not_mem_nil, or_false] at hx
      rcases hx with rfl | rfl <;> rw [B_size] <;> assumption)) fun t _ => ?_
    by_cases ct : t = true
    · simp only [if_pos ct]
      refine Ends.bind (where_B p.1 hX) fun a ha => ?_
      by_cases ca : a ≥ 0
      · simp only [if_pos ca]; exact no _ _
      · simp only [if_neg ca]
        refine Ends.bind (where_B p.2.1 hZ) fun b hb => ?_
        by_cases cb : b ≥ 0
        · simp only [if_pos cb]; exact no _ _
        · simp only [if_neg cb]
          by_cases c1 : ((p.2.2).length : Int) < 1
          · simp only [if_pos c1]; exact no _ _
          · simp only [if_neg c1, if_pos (show (0 : Int) < (x0.length : Int) by omega)]
            by_cases cn : ((p.2.2).length : Int) = (((rd_T48 x0 0).f1).length : Int)
            · simp only [if_pos cn]
              refine Ends.bind (small_ends 1099511627776 p.2.2 (by omega)) fun s hs2 => ?_
              cases s with
              | false => simp only [Bool.not_false]; exact no _ _
              | true =>
                have hlt := hs2.1 rfl
                simp only [Bool.not_true]
                refine Ends.step (fun k => by rw [spec_BuddyinfoPrint.j1]) ?_
                have z1 : (B p.1).size ≤ 40000 := by rw [B_size]; exact hX
                have z2 : (B p.2.1).size ≤ 40000 := by rw [B_size]; exact hZ
                have s1 : ((⟨#[78, 111, 100, 101, 32]⟩ : ByteArray) ++ B p.1).size = 5 + (B p.1).size := by rw [ByteArray.size_append]; rfl
                have s2 : (((⟨#[78, 111, 100, 101, 32]⟩ : ByteArray) ++ B p.1) ++ (⟨#[44, 32, 122, 111, 110, 101, 32]⟩ : ByteArray)).size = 12 + (B p.1).size := by rw [ByteArray.size_append, s1]; show 5 + (B p.1).size + 7 = _; omega
                simp only [Bool.false_eq_true, if_false, c2, d0, d1, if_pos (show (0 : Int) < 2 by omega), if_pos (show (1 : Int) < 2 by omega), if_pos (show 5 + (B p.1).size ≤ 9223372036854775807 by omega), if_pos (show ((⟨#[78, 111, 100, 101, 32]⟩ : ByteArray) ++ B p.1).size + 7 ≤ 9223372036854775807 by omega)]
                refine Ends.bind (right_ends 8 (by omega) (B p.2.1) (by omega)) fun q hq => ?_
                have s3 : ((((⟨#[78, 111, 100, 101, 32]⟩ : ByteArray) ++ B p.1) ++ (⟨#[44, 32, 122, 111, 110, 101, 32]⟩ : ByteArray)) ++ q).size = 12 + (B p.1).size + q.size := by rw [ByteArray.size_append, s2]
                have s4 : (((((⟨#[78, 111, 100, 101, 32]⟩ : ByteArray) ++ B p.1) ++ (⟨#[44, 32, 122, 111, 110, 101, 32]⟩ : ByteArray)) ++ q) ++ (⟨#[32]⟩ : ByteArray)).size = 13 + (B p.1).size + q.size := by rw [ByteArray.size_append, s3]; show _ + 1 = _; omega
                simp only [if_pos (show (((⟨#[78, 111, 100, 101, 32]⟩ : ByteArray) ++ B p.1) ++ (⟨#[44, 32, 122, 111, 110, 101, 32]⟩ : ByteArray)).size + q.size ≤ 9223372036854775807 by omega), if_pos (show ((((⟨#[78, 111, 100, 101, 32]⟩ : ByteArray) ++ B p.1) ++ (⟨#[44, 32, 122, 111, 110, 101, 32]⟩ : ByteArray)) ++ q).size + 1 ≤ 9223372036854775807 by omega), if_pos (show x4.size + (((((⟨#[78, 111, 100, 101, 32]⟩ : ByteArray) ++ B p.1) ++ (⟨#[44, 32, 122, 111, 110, 101, 32]⟩ : ByteArray)) ++ q) ++ (⟨#[32]⟩ : ByteArray)).size ≤ 9223372036854775807 by omega)]
                have key := bp_l1 x0 ((A ++ p :: l).map rowB) (((A ++ p :: l).map rowB).length : Int) (A.length : Int) (2000000 * A.length + 1900000) (by omega) (fun r => r.2 = 1 → ∀ y ∈ p :: l, FineB ((rd_T48 x0 0).f1).length y)
                  (fun s hsz => by
                    have := bp_go x0 l (A ++ [p]) s (by rw [← e]; exact hl) (fun y hy => hp y (by simp [hy])) (fun _ => hx0) (by simp; omega)
                    rw [← e, ← w] at this
                    refine this.mono fun r hr h y hy => ?_
                    rcases List.mem_cons.1 hy with hy | hy
                    · rw [hy]; exact ⟨by omega, by omega, hlt, ha (by omega), hb (by omega)⟩
                    · exact hr h y hy) p.2.2 [] (x4 ++ (((((⟨#[78, 111, 100, 101, 32]⟩ : ByteArray) ++ B p.1) ++ (⟨#[44, 32, 122, 111, 110, 101, 32]⟩ : ByteArray)) ++ q) ++ (⟨#[32]⟩ : ByteArray))) (by simpa using hn) (by simpa using hu) (by rw [ByteArray.size_append, s4]; omega)
                exact key
            · simp only [if_neg cn]; exact no _ _
    · simp only [if_neg ct]; exact no _ _
theorem bprint_ends (N : List (Bs × Bs × List Int)) (hl : N.length ≤ 40001) (hp : ∀ p ∈ N, RowB p) : Ends (fun k => spec_BuddyinfoPrint.f k (N.map rowB)) (fun r => r.2 = 1 → ∃ n, ∀ p ∈ N, FineB n p) := by
  unfold spec_BuddyinfoPrint.f
  exact (bp_go (N.map rowB) N [] ⟨#[]⟩ (by simpa using hl) hp (by simp) (by show 0 ≤ _; omega)).mono fun r hr h => ⟨_, hr h⟩
end Go.Proofs.YtabfehcpcjcomaaGreatDoor.R
namespace Go.Proofs.YtabfehcpcjcomaaGreatDoor.R
open Go.RowKit Go.Proofs.YtabfehcpcjcomaaGreatDoor.QA0 Go.Proofs.YtabfehcpcjcomaaGreatDoorW.PrintWords Go.Proofs.YtabfehcpcjcomaaGreatDoorW.PrintLast Go.Proofs.YtabfehcpcjcomaaGreatDoorW.PrintMore
set_option linter.unusedVariables false
set_option linter.unusedSimpArgs false
theorem Ends.either {α : Type} {c : Prop} [Decidable c] {g f : Nat → Option α} {P : α → Prop} (a : Ends g P) (b : Ends f P) : Ends (fun k => if c then g k else f k) P := by
  by_cases h : c
  · simp only [if_pos h]; exact a
  · simp only [if_neg h]; exact b
def decL (n : Int) : Bs := Lib.decDigits n.toNat
def BInfo (N : List (Bs × Bs × List Int)) : Prop := (∃ n, ∀ p ∈ N, FineB n p) ∧ ∃ s, Ev (fun k => spec_BuddyinfoPrint.f k (N.map rowB)) (s, 1)
theorem B_inj {a b : Bs} (h : B a = B b) : a = b := by
  have h2 : (B a).data.toList = (B b).data.toList := by rw [h]
  rw [B_data, B_data] at h2
  exact h2
theorem decs_go : ∀ (l A : List Bs) (x4 : List Int), (A ++ l).length ≤ 1048576 → (∀ f ∈ l, f.length ≤ 40000) → x4.length ≤ A.length → (∀ x ∈ x4, U64 x) →
    Ends (fun k => spec_decimals.l0 k x4 ((A ++ l).map B) (((A ++ l).map B).length : Int) (A.length : Int)) (fun r => r.2 = true → ∃ ns, l = ns.map decL ∧ r.1 = x4 ++ ns ∧ ∀ x ∈ x4 ++ ns, U64 x)
  | [], A, x4, hl, hf, hx, hu => by
    refine Ends.step (fun k => by rw [spec_decimals.l0]) ?_
    simp only [List.append_nil, List.length_map, if_neg (show ¬ ((A.length : Int) < (A.length : Int)) by omega)]
    exact Ends.now fun _ => ⟨[], rfl, by simp, by simpa using hu⟩
  | f :: l, A, x4, hl, hf, hx, hu => by
    have hll : A.length + (l.length + 1) ≤ 1048576 := by simpa using hl
    refine Ends.step (fun k => by rw [spec_decimals.l0]) ?_
    have w : wrap64 ((A.length : Int) + 1) = ((A ++ [f]).length : Int) := by rw [wr64 _ (by omega)]; simp
    have e : A ++ f :: l = (A ++ [f]) ++ l := by simp
    have r : rdOf ByteArray.empty ((A ++ f :: l).map B) (A.length : Int) = B f := by
      have := rd_mid (A.map B) (B f) (l.map B)
      rw [List.length_map] at this
      rw [List.map_append]
      exact this
    have cl : (A.length : Int) < (((A ++ f :: l).map B).length : Int) := by simp; omega
    simp only [if_pos cl, if_pos (show (0 : Int) ≤ (A.length : Int) by omega), r, w]
    refine Ends.bind (dec_ends (B f) (by rw [B_size]; exact hf f (by simp))) fun t ht => ?_
    by_cases c : t.2 = true
    · simp only [if_pos c]
      refine Ends.bind (Ends.ev (text_ev t.1 ht)) fun s hs => ?_
      subst hs
      by_cases d : (decB t.1.toNat).toList = (B f).toList
      · simp only [if_pos d, if_pos (show x4.length < 17592186044416 by omega)]
        have hfd : f = decL t.1 := by
          have := toList_inj d
          have h2 : (decB t.1.toNat).data.toList = (B f).data.toList := by rw [this]
          rw [B_data] at h2
          exact h2.symm
        have := decs_go l (A ++ [f]) (x4 ++ [t.1]) (by rw [← e]; exact hl) (fun y hy => hf y (by simp [hy])) (by simp; omega) (by
          intro x hm
          rcases List.mem_append.1 hm with hm | hm
          · exact hu x hm
          · rw [List.mem_singleton.1 hm]; exact ht)
        rw [← e] at this
        refine this.mono fun r hr h => ?_
        obtain ⟨ns, h1, h2, h3⟩ := hr h
        rw [List.append_assoc] at h2 h3
        exact ⟨t.1 :: ns, by rw [List.map_cons, ← h1, ← hfd], h2, h3⟩
      · simp only [if_neg d]; exact Ends.now (by simp)
    · simp only [if_neg c]; exact Ends.now (by simp)
theorem decs_ends (l : List Bs) (hl : l.length ≤ 1048576) (hf : ∀ f ∈ l, f.length ≤ 40000) : Ends (fun k => spec_decimals.f k (l.map B)) (fun r => r.2 = true → l = r.1.map decL ∧ ∀ x ∈ r.1, U64 x) := by
  unfold spec_decimals.f
  refine (decs_go l [] [] (by simpa using hl) hf (by simp) (by simp)).mono fun r hr h => ?_
  obtain ⟨ns, h1, h2, h3⟩ := hr h
  rw [List.nil_append] at h2 h3
  rw [h2]
  exact ⟨h1, h3⟩
theorem bmeant_ends (T : ByteArray) (hs : T.size ≤ 40000) (N : List (Bs × Bs × List Int)) (hl : N.length ≤ 40001) (hp : ∀ p ∈ N, RowB p) :
    Ends (fun k => spec_meant_49.f k T (N.map rowB) true () false) (fun r => r.2.2 = 1 → T.data.toList.all plainT = true ∧ r.1 = N.map rowB ∧ r.2.1 = true ∧ BInfo N) := by
  have key : ∀ b : Bool, (b = false → T.data.toList.all plainT = true) → Ends (fun k => spec_meant_49.j0 k T (N.map rowB) false b) (fun r => r.2.2 = 1 → T.data.toList.all plainT = true ∧ r.1 = N.map rowB ∧ r.2.1 = true ∧ BInfo N) := by
    intro b hb
    refine Ends.step (fun k => by rw [spec_meant_49.j0]) ?_
    cases b with
    | true => simp only [if_true]; exact Ends.now (fun h => by simp at h)
    | false =>
      simp only [Bool.false_eq_true, if_false]
      obtain ⟨r, hr, hq⟩ := bprint_ends N hl hp
      refine Ends.bind ⟨r, hr, rfl⟩ (P := fun x => x = r) fun x hx => ?_
      subst hx
      by_cases c : x.2 = 1
      · simp only [if_pos c]
        have hB : BInfo N := ⟨hq c, x.1, by rw [← c]; exact hr⟩
        by_cases d : x.1.toList = T.toList
        · simp only [if_pos d]
          exact Ends.now fun _ => ⟨hb rfl, rfl, rfl, hB⟩
        · simp only [if_neg d]
          exact Ends.now (fun h => by simp at h)
      · simp only [if_neg c]
        exact Ends.now (fun h => by simp at h)
  unfold spec_meant_49.f
  simp only [if_true]
  refine Ends.bind (plain_text T hs) fun p hpl => ?_
  exact key _ (fun h => hpl (by simpa using h))
theorem bends_ev (f w : ByteArray) (hs : f.size ≤ 40000) : ∃ r, spec_Ends.f f w = some r ∧ (r = true → w.size ≤ f.size ∧ f.extract (f.size - w.size) f.size = w) := by
  unfold spec_Ends.f
  by_cases c : (f.size : Int) ≥ (w.size : Int)
  · have hw : wrap64 ((f.size : Int) - (w.size : Int)) = ((f.size - w.size : Nat) : Int) := by rw [wr64 _ (by omega)]; omega
    simp only [if_pos c, hw, if_pos (show (0 : Int) ≤ ((f.size - w.size : Nat) : Int) by omega), if_pos (show ((f.size - w.size : Nat) : Int) ≤ (f.size : Int) by omega)]
    refine ⟨_, rfl, fun h => ⟨by omega, ?_⟩⟩
    have := eq_of_beq h
    rw [Int.toNat_natCast] at this
    exact toList_inj this
  · simp only [if_neg c]
    exact ⟨false, rfl, fun h => by cases h⟩
theorem bends_comma (f : Bs) (hs : f.length ≤ 40000) : ∃ r, spec_Ends.f (B f) ⟨#[44]⟩ = some r ∧ (r = true → ∃ X, f = X ++ [44]) := by
  obtain ⟨r, h1, h2⟩ := bends_ev (B f) ⟨#[44]⟩ (by rw [B_size]; exact hs)
  refine ⟨r, h1, fun h => ?_⟩
  obtain ⟨a, b⟩ := h2 h
  have hz : (⟨#[44]⟩ : ByteArray).size = 1 := rfl
  rw [hz, B_drop] at b
  have hb : f.drop ((B f).size - 1) = [44] := B_inj b
  exact ⟨f.take ((B f).size - 1), by rw [← hb]; exact (List.take_append_drop _ _).symm⟩
inductive BRows : List Bs → List (Bs × Bs × List Int) → Prop
  | nil : BRows [] []
  | cons {l a X b Z ns L N} : fieldsL l = a :: (X ++ [44]) :: b :: Z :: ns.map decL → (∀ x ∈ ns, U64 x) → BRows L N → BRows (l :: L) ((X, Z, ns) :: N)
theorem bread_go (T : ByteArray) (hs : T.size ≤ 40000) : ∀ (l A : List Bs) (rows : List (Bs × Bs × List Int)), (A ++ l).length ≤ 40001 → (∀ x ∈ A ++ l, x.length ≤ 40000) → rows.length ≤ A.length → (∀ p ∈ rows, RowB p) →
    Ends (fun k => spec_BuddyinfoRead.l0 k T (rows.map rowB) ((A ++ l).map B) (((A ++ l).map B).length : Int) (A.length : Int))
      (fun r => r.2.2 = 1 → ∃ N, BRows l N ∧ T.data.toList.all plainT = true ∧ r.1 = (rows ++ N).map rowB ∧ r.2.1 = true ∧ BInfo (rows ++ N))
  | [], A, rows, hl, hx, hr, hp => by
    simp only [List.append_nil] at hl
    refine Ends.step (fun k => by rw [spec_BuddyinfoRead.l0]) ?_
    have c : ¬ ((A.length : Int) < (((A ++ []).map B).length : Int)) := by simp
    simp only [if_neg c]
    refine Ends.bind (bmeant_ends T hs rows (by omega) hp) fun r hr => ?_
    refine Ends.now fun h => ?_
    obtain ⟨h1, h2, h3, h4⟩ := hr h
    exact ⟨[], .nil, h1, by simpa using h2, h3, by simpa using h4⟩
  | x :: l, A, rows, hl, hx, hr, hp => by
    have hll : A.length + (l.length + 1) ≤ 40001 := by simpa using hl
    refine Ends.step (fun k => by rw [spec_BuddyinfoRead.l0]) ?_
    have e : A ++ x :: l = (A ++ [x]) ++ l := by simp
    have w : wrap64 ((A.length : Int) + 1) = ((A ++ [x]).length : Int) := by rw [wr64 _ (by omega)]; simp
    have r : rdOf ByteArray.empty ((A ++ x :: l).map B) (A.length : Int) = B x := by
      have := rd_mid (A.map B) (B x) (l.map B)
      rw [List.length_map] at this
      rw [List.map_append]
      exact this
    have cl : (A.length : Int) < (((A ++ x :: l).map B).length : Int) := by simp; omega
    have no : ∀ (fs : List ByteArray) (P : List S48 × Bool × Int → Prop), Ends (fun k => spec_BuddyinfoRead.j1 k T (rows.map rowB) fs ((A ++ x :: l).map B) (((A ++ x :: l).map B).length : Int) (A.length : Int) true) (fun r => r.2.2 = 1 → P r) := by
      intro fs P
      refine Ends.step (fun k => by rw [spec_BuddyinfoRead.j1]) ?_
      simp only [if_true]
      exact Ends.now (fun h => by simp at h)
    simp only [if_pos cl, if_pos (show (0 : Int) ≤ (A.length : Int) by omega), r]
    have hxl := hx x (by simp)
    refine Ends.bind (Ends.ev (fieldsL_ev x (by omega))) fun fs hfs => ?_
    subst hfs
    have hfl := fgo_len x []
    have hfn := fgo_n x []
    simp only [List.length_nil, Nat.zero_add, if_true, Nat.add_zero] at hfl hfn
    have hfe : fieldsL x = fgo [] x := rfl
    rw [← hfe] at hfl hfn
    obtain ⟨F, hFe⟩ : ∃ F, fieldsL x = F := ⟨_, rfl⟩
    rw [hFe] at hfl hfn ⊢
    by_cases c5 : ((F.map B).length : Int) < 5
    · simp only [if_pos c5]; exact no _ _
    · simp only [if_neg c5]
      match F, c5, hfl, hfn, hFe with
      | [], c5, _, _, _ => simp at c5
      | [_], c5, _, _, _ => simp at c5
      | [_, _], c5, _, _, _ => simp at c5
      | [_, _, _], c5, _, _, _ => simp at c5
      | f0 :: f1 :: f2 :: f3 :: fl, c5, hfl, hfn, hFe =>
        have d0 : rdOf ByteArray.empty ((f0 :: f1 :: f2 :: f3 :: fl).map B) 0 = B f0 := rfl
        have d1 : rdOf ByteArray.empty ((f0 :: f1 :: f2 :: f3 :: fl).map B) 1 = B f1 := rfl
        have d2 : rdOf ByteArray.empty ((f0 :: f1 :: f2 :: f3 :: fl).map B) 2 = B f2 := rfl
        have d3 : rdOf ByteArray.empty ((f0 :: f1 :: f2 :: f3 :: fl).map B) 3 = B f3 := rfl
        have d4 : ((f0 :: f1 :: f2 :: f3 :: fl).map B).drop 4 = fl.map B := rfl
        have hL : ((f0 :: f1 :: f2 :: f3 :: fl).map B).length = fl.length + 4 := by simp
        have hfn2 : fl.length + 4 ≤ 40000 := by simp only [List.length_cons] at hfn; omega
        have z1 := hfl f1 (by simp)
        have z3 := hfl f3 (by simp)
        simp only [hL, d0, d1, d2, if_pos (show (0 : Int) < ((fl.length + 4 : Nat) : Int) by omega), if_pos (show (1 : Int) < ((fl.length + 4 : Nat) : Int) by omega), if_pos (show (2 : Int) < ((fl.length + 4 : Nat) : Int) by omega)]
        refine Ends.either ?_ (no _ _)
        obtain ⟨b, hb1, hb2⟩ := bends_comma f1 (by omega)
        simp only [hb1, Option.bind_some]
        by_cases cb : b = true
        · simp only [if_pos cb]
          obtain ⟨X, hX⟩ := hb2 cb
          have hXl : X.length + 1 = f1.length := by rw [hX]; simp
          generalize ((B f2).toList != ([122, 111, 110, 101] : List UInt8)) = q
          cases q with
          | true => exact no _ _
          | false =>
            refine Ends.step (fun k => by rw [spec_BuddyinfoRead.j1]) ?_
            have hz1 : (B f1).size = X.length + 1 := by rw [B_size]; omega
            have hw1 : wrap64 (((X.length + 1 : Nat) : Int) - 1) = (X.length : Int) := by rw [wr64 _ (by omega)]; omega
            have hxt : (B f1).extract 0 X.length = B X := by rw [B_take, hX, List.take_left' rfl]
            simp only [Bool.false_eq_true, if_false, hL, d1, d3, d4, hz1, hw1, Int.toNat_natCast, hxt, if_pos (show (4 : Int) ≤ ((fl.length + 4 : Nat) : Int) by omega), if_pos (show (1 : Int) < ((fl.length + 4 : Nat) : Int) by omega), if_pos (show (3 : Int) < ((fl.length + 4 : Nat) : Int) by omega), if_pos (show (0 : Int) ≤ (X.length : Int) by omega), if_pos (show (X.length : Int) ≤ ((X.length + 1 : Nat) : Int) by omega)]
            refine Ends.bind (decs_ends fl (by omega) (fun f hf => by have := hfl f (by simp [hf]); omega)) fun n hn => ?_
            by_cases cn : n.2 = true
            · obtain ⟨hd, hu⟩ := hn cn
              have hnl : n.1.length = fl.length := by rw [hd]; simp
              simp only [if_pos cn, if_pos (show (rows.map rowB).length < 2199023255552 by simp; omega), w]
              have hrow : RowB (X, f3, n.1) := ⟨by show X.length ≤ 40000; omega, by show f3.length ≤ 40000; omega, by show n.1.length ≤ 40001; omega, hu⟩
              have := bread_go T hs l (A ++ [x]) (rows ++ [(X, f3, n.1)]) (by rw [← e]; exact hl) (by rw [← e]; exact hx) (by simp; omega) (by
                intro p hm
                rcases List.mem_append.1 hm with hm | hm
                · exact hp p hm
                · rw [List.mem_singleton.1 hm]; exact hrow)
              rw [← e, List.map_append] at this
              refine this.mono fun r hr h => ?_
              obtain ⟨N, h1, h2, h3, h4, h5⟩ := hr h
              rw [List.append_assoc] at h3 h5
              refine ⟨(X, f3, n.1) :: N, .cons (a := f0) (b := f2) ?_ hu h1, h2, h3, h4, h5⟩
              rw [hFe, ← hd, ← hX]
            · simp only [if_neg cn]; exact Ends.now (fun h => by simp at h)
        · simp only [if_neg cb]; exact no _ _
theorem bread_ends (T : ByteArray) (hs : T.size ≤ 40000) : Ends (fun k => spec_BuddyinfoRead.f k T)
    (fun r => r.2.2 = 1 → ∃ N, BRows (linesL T.data.toList) N ∧ T.data.toList.all plainT = true ∧ r.1 = N.map rowB ∧ r.2.1 = true ∧ BInfo N) := by
  unfold spec_BuddyinfoRead.f
  have hz : T.data.toList.length = T.size := by simp
  have hL := linesL_ev T.data.toList (by omega)
  rw [← B_of T] at hL
  refine Ends.bind (Ends.ev hL) fun ls hls => ?_
  subst hls
  have h1 := lines_n T.data.toList []
  have h2 := lines_len T.data.toList []
  simp only [if_true, List.length_nil, Nat.add_zero, Nat.zero_add] at h1 h2
  have := bread_go T hs (linesL T.data.toList) [] [] (by unfold linesL; simp only [List.nil_append]; omega) (by
    intro x hx
    have := h2 x (by simpa [linesL] using hx)
    omega) (by simp) (by simp)
  exact this
end Go.Proofs.YtabfehcpcjcomaaGreatDoor.R
namespace Go.Proofs.YtabfehcpcjcomaaGreatDoor.R
open Go.RowKit Go.Proofs.YtabfehcpcjcomaaGreatDoor.QA0 Go.Proofs.YtabfehcpcjcomaaGreatDoorW.PrintWords Go.Proofs.YtabfehcpcjcomaaGreatDoorW.PrintLast Go.Proofs.YtabfehcpcjcomaaGreatDoorW.PrintMore
set_option linter.unusedVariables false
set_option linter.unusedSimpArgs false
def fl64 (n : Int) : Nat := floatOfInt .f64 n
theorem float_decL (n : Int) (hu : U64 n) (h : n < 1099511627776) : strconv_ParseFloat.f (B (decL n)) 64 = some (fl64 n, none) := by
  unfold U64 at hu
  have e : ((n.toNat : Nat) : Int) = n := by omega
  have := float_dec n.toNat (by omega)
  rw [e] at this
  exact this
theorem trim_comma (X : Bs) (hl : X.length ≤ 40000) : strings_TrimSuffix.f (B (X ++ [44])) ⟨#[44]⟩ = some (B X) := by
  have hz : (B (X ++ [44])).size = X.length + 1 := by rw [B_size]; simp
  have hz1 : (⟨#[44]⟩ : ByteArray).size = 1 := rfl
  have hw : wrap64 (((X.length + 1 : Nat) : Int) - ((1 : Nat) : Int)) = (X.length : Int) := by rw [wr64 _ (by omega)]; omega
  have hd : (B (X ++ [44])).extract X.length (X.length + 1) = ⟨#[44]⟩ := by
    have := B_drop (X ++ [44]) X.length
    rw [hz, List.drop_left' rfl] at this
    exact this
  have ht : (B (X ++ [44])).extract 0 X.length = B X := by rw [B_take, List.take_left' rfl]
  unfold strings_TrimSuffix.f stringslite_TrimSuffix.f stringslite_HasSuffix.f
  simp only [hz, hz1, hw, Int.toNat_natCast, hd, ht, if_pos (show ((X.length + 1 : Nat) : Int) ≥ ((1 : Nat) : Int) by omega), if_pos (show (0 : Int) ≤ (X.length : Int) by omega), if_pos (show (X.length : Int) ≤ ((X.length + 1 : Nat) : Int) by omega), Option.bind_some, beq_self_eq_true, if_true]
theorem snoc_of : ∀ Z : Bs, Z ≠ [] → ∃ Y c, Z = Y ++ [c]
  | [], h => absurd rfl h
  | [c], _ => ⟨[], c, rfl⟩
  | a :: b :: l, _ => by
    obtain ⟨Y, c, h⟩ := snoc_of (b :: l) (by simp)
    exact ⟨a :: Y, c, by rw [h]; rfl⟩
theorem trim_none (Z : Bs) (hl : Z.length ≤ 40000) (h : ∀ c ∈ Z, c ≠ 44) : strings_TrimSuffix.f (B Z) ⟨#[44]⟩ = some (B Z) := by
  by_cases h0 : Z = []
  · subst h0; rfl
  · obtain ⟨Y, c, rfl⟩ := snoc_of Z h0
    have hl2 : Y.length + 1 ≤ 40000 := by simpa using hl
    have hz : (B (Y ++ [c])).size = Y.length + 1 := by rw [B_size]; simp
    have hz1 : (⟨#[44]⟩ : ByteArray).size = 1 := rfl
    have hw : wrap64 (((Y.length + 1 : Nat) : Int) - ((1 : Nat) : Int)) = (Y.length : Int) := by rw [wr64 _ (by omega)]; omega
    have hd : (B (Y ++ [c])).extract Y.length (Y.length + 1) = B [c] := by
      have := B_drop (Y ++ [c]) Y.length
      rw [hz, List.drop_left' rfl] at this
      exact this
    have hb : ((B [c]).toList == (⟨#[44]⟩ : ByteArray).toList) = false := by
      refine beq_eq_false_iff_ne.2 fun e => ?_
      have e2 : B [c] = B [44] := toList_inj e
      have e3 := B_inj e2
      injection e3 with e4
      exact h c (by simp) e4
    unfold strings_TrimSuffix.f stringslite_TrimSuffix.f stringslite_HasSuffix.f
    simp only [hz, hz1, hw, Int.toNat_natCast, hd, hb, if_pos (show ((Y.length + 1 : Nat) : Int) ≥ ((1 : Nat) : Int) by omega), if_pos (show (0 : Int) ≤ (Y.length : Int) by omega), if_pos (show (Y.length : Int) ≤ ((Y.length + 1 : Nat) : Int) by omega), Option.bind_some, Bool.false_eq_true, if_false]
def buddyOf (p : Bs × Bs × List Int) : S79 := ⟨B p.1, B p.2.1, p.2.2.map fl64⟩
def decBf (n : Int) : ByteArray := B (decL n)
theorem blib_l1 (x4 : List S79) (x6 : Int) (h : List ByteArray) (hh : h.length = 4) (x10 x11 : ByteArray) (s0 s1 : ByteArray) (s2 : Int) (s3 : Option Int) (h4 : x4.length ≤ 1000000) {r : List S79 × Option Int} :
    ∀ (l A : List Int), (A ++ l).length ≤ 1000000 → (∀ x ∈ l, U64 x ∧ x < 1099511627776) →
      Ev (fun k => procfs_parseBuddyInfo.l0 k (x4 ++ [⟨x10, x11, (A ++ l).map fl64⟩]) x6 s0 s1 s2 s3) r →
      Ev (fun k => procfs_parseBuddyInfo.l1 k x4 x6 (h ++ (A ++ l).map decBf) x10 x11 (A.map fl64 ++ List.replicate l.length 0) ((A ++ l).length : Int) (A.length : Int) s0 s1 s2 s3) r
  | [], A, hl, hu, hk => by
    refine Ev.step (fun k => by rw [procfs_parseBuddyInfo.l1]) ?_
    simp only [List.append_nil] at hk
    simp only [List.append_nil, List.length_nil, List.replicate_zero, if_neg (show ¬ ((A.length : Int) < (A.length : Int)) by omega), if_pos (show x4.length < 2513169434916 by omega)]
    exact hk
  | x :: l, A, hl, hu, hk => by
    have hll : A.length + (l.length + 1) ≤ 1000000 := by simpa using hl
    refine Ev.step (fun k => by rw [procfs_parseBuddyInfo.l1]) ?_
    have w4 : wrap64 ((A.length : Int) + 4) = ((4 + A.length : Nat) : Int) := by rw [wr64 _ (by omega)]; omega
    have w1 : wrap64 ((A.length : Int) + 1) = ((A ++ [x]).length : Int) := by rw [wr64 _ (by omega)]; simp
    have e : A ++ x :: l = (A ++ [x]) ++ l := by simp
    have r0 : rdOf ByteArray.empty (h ++ (A ++ x :: l).map decBf) ((4 + A.length : Nat) : Int) = B (decL x) := by
      have := rd_mid (h ++ A.map decBf) (decBf x) (l.map decBf)
      rw [List.length_append, List.length_map, hh] at this
      rw [List.map_append, List.map_cons, ← List.append_assoc]
      exact this
    have c0 : (A.length : Int) < ((A ++ x :: l).length : Int) := by simp; omega
    have c9 : ((4 + A.length : Nat) : Int) < ((h ++ (A ++ x :: l).map decBf).length : Int) := by rw [List.length_append, hh]; simp; omega
    have cx : (A.length : Int) < ((A.map fl64 ++ List.replicate (x :: l).length 0).length : Int) := by simp; omega
    have hset : (A.map fl64 ++ List.replicate (x :: l).length 0).set A.length (fl64 x) = (A ++ [x]).map fl64 ++ List.replicate l.length 0 := by
      rw [List.length_cons, List.replicate_succ, List.set_append_right _ _ (by simp)]
      simp
    obtain ⟨hx, hx2⟩ := hu x (by simp)
    simp only [if_pos c0, w4, w1, if_pos (show (0 : Int) ≤ ((4 + A.length : Nat) : Int) by omega), if_pos c9, r0, float_decL x hx hx2, Option.bind_some, if_pos (show (0 : Int) ≤ (A.length : Int) by omega), if_pos cx, Option.isNone_none, if_true, Int.toNat_natCast, hset]
    have := blib_l1 x4 x6 h hh x10 x11 s0 s1 s2 s3 h4 l (A ++ [x]) (by rw [← e]; exact hl) (fun y hy => hu y (by simp [hy])) (by rw [← e]; exact hk)
    rw [← e] at this
    exact this
theorem brows_len {L : List Bs} {N : List (Bs × Bs × List Int)} (h : BRows L N) : N.length = L.length := by
  induction h with
  | nil => rfl
  | cons _ _ _ ih => simp [ih]
theorem bparse_go (n0 : Nat) : ∀ (n : Nat) (l : Bs) (N : List (Bs × Bs × List Int)) (x4 : List S79) (x6 : Int) (L : ByteArray), l.length ≤ n → l.length ≤ 40000 → l.all plainT = true → BRows (linesL l) N → (∀ p ∈ N, FineB n0 p) → x4.length + l.length ≤ 40001 → (x6 = -1 ∨ x6 = (n0 : Int)) →
    Ev (fun k => procfs_parseBuddyInfo.l0 k x4 x6 (B l) L 65536 none) (x4 ++ N.map buddyOf, none)
  | n, [], N, x4, x6, L, hn, hl, hp, hr, hf, h5, h6 => by
    refine Ev.step (fun k => by rw [procfs_parseBuddyInfo.l0]) ?_
    obtain rfl : N = [] := by
      have := brows_len hr
      exact List.eq_nil_of_length_eq_zero (this.trans rfl)
    simp only [scan_nil, Option.bind_some, Bool.false_eq_true, if_false, List.map_nil, List.append_nil, texts_Lines_Err.f]
    exact Ev.now _
  | 0, c :: l, N, x4, x6, L, hn, hl, hp, hr, hf, h5, h6 => by simp at hn
  | n + 1, c :: l, N, x4, x6, L, hn, hl, hp, hr, hf, h5, h6 => by
    have h0 : c :: l ≠ [] := by simp
    have hpl := line_plain _ h0 hp
    have hrp := rest_plain _ hp
    have hll := line_le (c :: l)
    have hrl : (restOf (c :: l)).length ≤ l.length := by unfold restOf; rw [List.length_drop]; simp only [List.length_cons]; omega
    rw [linesL_cons _ h0] at hr
    have hsc := scan_cons (c :: l) L h0 hl hpl
    have hln : (lineOf (c :: l)).length ≤ 40000 := by omega
    generalize lineOf (c :: l) = ln at *
    generalize restOf (c :: l) = rest at *
    obtain ⟨a, X, b, Z, ns, N', rfl, hF, hu, hr'⟩ : ∃ a X b Z ns N', N = (X, Z, ns) :: N' ∧ fieldsL ln = a :: (X ++ [44]) :: b :: Z :: ns.map decL ∧ (∀ x ∈ ns, U64 x) ∧ BRows (linesL rest) N' := by
      cases hr with
      | cons a b c => exact ⟨_, _, _, _, _, _, rfl, a, b, c⟩
    obtain ⟨g1, g2, g3, gX, gZ⟩ := hf (X, Z, ns) (by simp)
    have g2 : ns.length = n0 := g2
    have g3 : ∀ x ∈ ns, x < 1099511627776 := g3
    have gZ : ∀ c ∈ Z, c ≠ 44 := gZ
    have hlX : (X ++ [44]).length ≤ 40000 := by
      have := fgo_len ln [] (X ++ [44]) (by show _ ∈ fieldsL ln; rw [hF]; simp)
      simp only [List.length_nil, Nat.zero_add] at this
      omega
    have hlZ : Z.length ≤ 40000 := by
      have := fgo_len ln [] Z (by show _ ∈ fieldsL ln; rw [hF]; simp)
      simp only [List.length_nil, Nat.zero_add] at this
      omega
    have hlN : ns.length ≤ 40000 := by
      have h1 := fgo_n ln []
      have h2 : (fgo [] ln).length = ns.length + 4 := by rw [show fgo [] ln = fieldsL ln from rfl, hF]; simp
      simp only [if_true, Nat.add_zero] at h1
      omega
    have hfi := fields_plain ln hpl (by omega)
    have hFm : (fieldsL ln).map bs = [B a, B (X ++ [44]), B b, B Z] ++ ns.map decBf := by
      rw [hF]
      simp only [List.map_cons, List.map_map]
      rfl
    rw [hFm] at hfi
    have d1 : rdOf ByteArray.empty ([B a, B (X ++ [44]), B b, B Z] ++ ns.map decBf) 1 = B (X ++ [44]) := rfl
    have d3 : rdOf ByteArray.empty ([B a, B (X ++ [44]), B b, B Z] ++ ns.map decBf) 3 = B Z := rfl
    have d4 : ([B a, B (X ++ [44]), B b, B Z] ++ ns.map decBf).drop 4 = ns.map decBf := rfl
    have hL : ([B a, B (X ++ [44]), B b, B Z] ++ ns.map decBf).length = ns.length + 4 := by rw [List.length_append, List.length_map]; simp only [List.length_cons, List.length_nil]; omega
    have t1 := trim_comma X (by simp only [List.length_append, List.length_cons, List.length_nil] at hlX; omega)
    have t3 := trim_none Z hlZ gZ
    have h5' : x4.length + rest.length + 1 ≤ 40001 := by simp only [List.length_cons] at h5; omega
    have ih := bparse_go n0 n rest N' (x4 ++ [buddyOf (X, Z, ns)]) (ns.length : Int) (B ln) (by simp only [List.length_cons] at hn; omega) (by simp only [List.length_cons] at hl; omega) hrp hr' (fun r hr => hf r (by simp [hr])) (by simp only [List.length_append, List.length_cons, List.length_nil]; omega) (.inr (by rw [g2]))
    rw [List.append_assoc] at ih
    have key : Ev (fun k => procfs_parseBuddyInfo.j1 k x4 (ns.length : Int) ([B a, B (X ++ [44]), B b, B Z] ++ ns.map decBf) (B X) (B Z) (ns.length : Int) (B rest) (B ln) 65536 none) (x4 ++ ((X, Z, ns) :: N').map buddyOf, none) := by
      refine Ev.step (fun k => by rw [procfs_parseBuddyInfo.j1]) ?_
      simp only [Int.toNat_natCast, if_pos (show (0 : Int) ≤ (ns.length : Int) by omega), if_pos (show ns.length ≤ 35184372088832 by omega)]
      exact blib_l1 x4 (ns.length : Int) [B a, B (X ++ [44]), B b, B Z] rfl (B X) (B Z) (B rest) (B ln) 65536 none (by omega) ns [] (by simp; omega) (fun x hx => ⟨hu x hx, g3 x hx⟩) ih
    refine Ev.step (fun k => by rw [procfs_parseBuddyInfo.l0]) ?_
    have tt : texts_Lines_Text.f (B rest) (B ln) 65536 none = some (B ln, B rest, B ln, 65536, none) := rfl
    simp only [hsc, Option.bind_some, if_true, tt, hfi, hL, d1, d3, d4, t1, t3, List.length_map, if_neg (show ¬ (((ns.length + 4 : Nat) : Int) < 4) by omega), if_pos (show (1 : Int) < ((ns.length + 4 : Nat) : Int) by omega), if_pos (show (3 : Int) < ((ns.length + 4 : Nat) : Int) by omega), if_pos (show (4 : Int) ≤ ((ns.length + 4 : Nat) : Int) by omega)]
    rcases h6 with h6 | h6
    · simp only [if_pos h6]
      exact key
    · have h7 : x6 = (ns.length : Int) := by rw [h6, g2]
      simp only [h7, if_neg (show ¬ ((ns.length : Int) = -1) by omega), if_true]
      exact key
theorem bparse_ev (T : ByteArray) (hs : T.size ≤ 40000) (N : List (Bs × Bs × List Int)) (hp : T.data.toList.all plainT = true) (hr : BRows (linesL T.data.toList) N) (n0 : Nat) (hf : ∀ p ∈ N, FineB n0 p) :
    Ev (fun k => procfs_parseBuddyInfo.f k T) (N.map buddyOf, none) := by
  have hz : T.data.toList.length = T.size := by simp
  unfold procfs_parseBuddyInfo.f texts_NewLines.f
  simp only [Option.bind_some]
  have := bparse_go n0 T.data.toList.length T.data.toList N [] (-1) ⟨#[]⟩ (Nat.le_refl _) (by omega) hp hr hf (by simp only [List.length_nil]; omega) (.inl rfl)
  rw [← B_of T] at this
  exact this
def flN4 (n : Nat) : S34 := ⟨⟨#[]⟩, 4, false, 0, 0, n, ⟨#[]⟩, []⟩
theorem list114_go (nm : ByteArray) : ∀ (l A : List Nat) (acc : List S34), (A ++ l).length ≤ 1000000 → acc.length ≤ A.length →
    Ev (fun k => impl_list_float64_114.l0 k (A ++ l) ((A ++ l).length : Int) (A.length : Int) nm 6 false 0 0 0 ⟨#[]⟩ acc) (nm, 6, false, 0, 0, 0, (⟨#[]⟩ : ByteArray), acc ++ l.map flN4)
  | [], A, acc, hl, ha => by
    refine Ev.step (fun k => by rw [impl_list_float64_114.l0]) ?_
    simp only [List.append_nil, if_neg (show ¬ ((A.length : Int) < (A.length : Int)) by omega), List.map_nil]
    exact Ev.now _
  | x :: l, A, acc, hl, ha => by
    have hll : A.length + (l.length + 1) ≤ 1000000 := by simpa using hl
    refine Ev.step (fun k => by rw [impl_list_float64_114.l0]) ?_
    have w : wrap64 ((A.length : Int) + 1) = ((A ++ [x]).length : Int) := by rw [wr64 _ (by omega)]; simp
    have e : A ++ x :: l = (A ++ [x]) ++ l := by simp
    have r : rdOf 0 (A ++ x :: l) (A.length : Int) = x := by unfold rdOf; simp
    have cl : (A.length : Int) < ((A ++ x :: l).length : Int) := by simp; omega
    simp only [if_pos cl, if_pos (show (0 : Int) ≤ (A.length : Int) by omega), r, w, impl_procfsBuddyInfo_1.f, Option.bind_some, if_pos (show acc.length < 1466015503701 by omega)]
    have := list114_go nm l (A ++ [x]) (acc ++ [flN4 x]) (by rw [← e]; exact hl) (by simp; omega)
    rw [e]
    rw [List.append_assoc acc] at this
    exact this
def buddyKids4 (s : S79) : List S34 := [⟨⟨#[78, 111, 100, 101]⟩, 5, false, 0, 0, 0, s.f0, []⟩, ⟨⟨#[90, 111, 110, 101]⟩, 5, false, 0, 0, 0, s.f1, []⟩, ⟨⟨#[83, 105, 122, 101, 115]⟩, 6, false, 0, 0, 0, ⟨#[]⟩, s.f2.map flN4⟩]
def buddyNode4 (s : S79) : S34 := ⟨⟨#[]⟩, 8, false, 0, 0, 0, ⟨#[]⟩, buddyKids4 s⟩
theorem buddy_kid (s : S79) (h : s.f2.length ≤ 1000000) : Ev (fun k => impl_Buddyinfo_1_1.f k s.f0 s.f1 s.f2) ((⟨#[]⟩ : ByteArray), 8, false, 0, 0, 0, (⟨#[]⟩ : ByteArray), buddyKids4 s) := by
  have h1 : Ev (fun k => impl_list_float64_114.f k (⟨#[83, 105, 122, 101, 115]⟩ : ByteArray) s.f2 ()) ((⟨#[83, 105, 122, 101, 115]⟩ : ByteArray), 6, false, 0, 0, 0, (⟨#[]⟩ : ByteArray), s.f2.map flN4) := by
    unfold impl_list_float64_114.f
    have := list114_go ⟨#[83, 105, 122, 101, 115]⟩ s.f2 [] [] (by simpa using h) (by simp)
    exact this
  obtain ⟨K, hK⟩ := h1
  refine ⟨K, fun k hk => ?_⟩
  have h2 : impl_list_float64_114.f k (⟨#[83, 105, 122, 101, 115]⟩ : ByteArray) s.f2 () = _ := hK k hk
  show impl_Buddyinfo_1_1.f k s.f0 s.f1 s.f2 = _
  unfold impl_Buddyinfo_1_1.f impl_procfsBuddyInfo.f
  rw [if_pos (by simp), Option.bind_some, if_pos (by simp), Option.bind_some, h2, Option.bind_some, if_pos (by simp)]
  rfl
theorem buddy56_go (nm : ByteArray) : ∀ (l A : List S79) (acc : List S34), (A ++ l).length ≤ 1000000 → acc.length ≤ A.length → (∀ s ∈ l, s.f2.length ≤ 1000000) →
    Ev (fun k => procfs_BuddyInfo_56.l0 k (A ++ l) ((A ++ l).length : Int) (A.length : Int) nm 6 false 0 0 0 ⟨#[]⟩ acc) (nm, 6, false, 0, 0, 0, (⟨#[]⟩ : ByteArray), acc ++ l.map buddyNode4)
  | [], A, acc, hl, ha, hk => by
    refine Ev.step (fun k => by rw [procfs_BuddyInfo_56.l0]) ?_
    simp only [List.append_nil, if_neg (show ¬ ((A.length : Int) < (A.length : Int)) by omega), List.map_nil]
    exact Ev.now _
  | x :: l, A, acc, hl, ha, hk => by
    have hll : A.length + (l.length + 1) ≤ 1000000 := by simpa using hl
    refine Ev.step (fun k => by rw [procfs_BuddyInfo_56.l0]) ?_
    have w : wrap64 ((A.length : Int) + 1) = ((A ++ [x]).length : Int) := by rw [wr64 _ (by omega)]; simp
    have e : A ++ x :: l = (A ++ [x]) ++ l := by simp
    have r : rd_T79 (A ++ x :: l) (A.length : Int) = x := by unfold rd_T79; simp
    have cl : (A.length : Int) < ((A ++ x :: l).length : Int) := by simp; omega
    simp only [if_pos cl, if_pos (show (0 : Int) ≤ (A.length : Int) by omega), r, w]
    refine Ev.bind (buddy_kid x (hk x (by simp))) ?_
    simp only [if_pos (show acc.length < 1466015503701 by omega)]
    have := buddy56_go nm l (A ++ [x]) (acc ++ [buddyNode4 x]) (by rw [← e]; exact hl) (by simp; omega) (fun s hs => hk s (by simp [hs]))
    rw [e]
    rw [List.append_assoc acc] at this
    exact this
theorem buddy_impl (T : ByteArray) (l : List S79) (hl : l.length ≤ 1000000) (hk : ∀ s ∈ l, s.f2.length ≤ 1000000) (h : Ev (fun k => procfs_parseBuddyInfo.f k T) (l, none)) :
    Ev (fun k => impl_Buddyinfo.f k T) ((⟨#[]⟩ : ByteArray), 6, false, 0, 0, 0, (⟨#[]⟩ : ByteArray), l.map buddyNode4, 0) := by
  unfold impl_Buddyinfo.f
  refine Ev.bind h ?_
  simp only [if_true]
  have h1 : Ev (fun k => impl_Buddyinfo_1.f k l) ((⟨#[]⟩ : ByteArray), 6, false, 0, 0, 0, (⟨#[]⟩ : ByteArray), l.map buddyNode4) := by
    unfold impl_Buddyinfo_1.f procfs_BuddyInfo_56.f
    refine Ev.bind (buddy56_go ⟨#[]⟩ l [] [] (by simpa using hl) (by simp) hk) ?_
    exact Ev.now _
  obtain ⟨K, hK⟩ := h1
  refine ⟨K, fun k hk => ?_⟩
  have h2 : impl_Buddyinfo_1.f k l = _ := hK k hk
  show Option.map _ (impl_Buddyinfo_1.f k l) = _
  rw [h2]
  rfl
def flN (n : Int) : S38 := ⟨⟨#[]⟩, 4, false, 0, 0, fl64 n, ⟨#[]⟩, []⟩
def buddyKids (p : Bs × Bs × List Int) : List S38 := [⟨⟨#[78, 111, 100, 101]⟩, 5, false, 0, 0, 0, B p.1, []⟩, ⟨⟨#[90, 111, 110, 101]⟩, 5, false, 0, 0, 0, B p.2.1, []⟩, ⟨⟨#[83, 105, 122, 101, 115]⟩, 6, false, 0, 0, 0, ⟨#[]⟩, p.2.2.map flN⟩]
def buddyNode (p : Bs × Bs × List Int) : S38 := ⟨⟨#[]⟩, 8, false, 0, 0, 0, ⟨#[]⟩, buddyKids p⟩
theorem btree_l1 (x6 : List S38) (x20 : List S48) (x21 x22 : Int) (f0 : ByteArray) (f1 : List Int) (p : Bs × Bs × List Int) (h6 : x6.length ≤ 1000000) {r : ByteArray × Int × Bool × Int × Int × Nat × ByteArray × (List (S38)) × Int}
    (hk : Ev (fun k => spec_BuddyinfoTree.l0 k (x6 ++ [buddyNode p]) x20 x21 (wrap64 (x22 + 1))) r) : ∀ (l A : List Int), A ++ l = p.2.2 → (A ++ l).length ≤ 1000000 →
    Ev (fun k => spec_BuddyinfoTree.l1 k x6 (A.map flN) x20 x21 x22 (A ++ l) ((A ++ l).length : Int) (A.length : Int) f0 f1 [B p.1, B p.2.1]) r
  | [], A, hA, hl => by
    refine Ev.step (fun k => by rw [spec_BuddyinfoTree.l1]) ?_
    have c2 : (([B p.1, B p.2.1] : List ByteArray).length : Int) = 2 := rfl
    have d0 : rdOf ByteArray.empty ([B p.1, B p.2.1] : List ByteArray) 0 = B p.1 := rfl
    have d1 : rdOf ByteArray.empty ([B p.1, B p.2.1] : List ByteArray) 1 = B p.2.1 := rfl
    simp only [List.append_nil] at hA
    simp only [List.append_nil, if_neg (show ¬ ((A.length : Int) < (A.length : Int)) by omega), c2, d0, d1, if_pos (show (0 : Int) < 2 by omega), if_pos (show (1 : Int) < 2 by omega), spec_textNode.f, spec_listNode.f, spec_recordNode.f, Option.bind_some, if_pos (show x6.length < 1466015503701 by omega)]
    rw [hA]
    exact hk
  | x :: l, A, hA, hl => by
    have hll : A.length + (l.length + 1) ≤ 1000000 := by simpa using hl
    refine Ev.step (fun k => by rw [spec_BuddyinfoTree.l1]) ?_
    have w : wrap64 ((A.length : Int) + 1) = ((A ++ [x]).length : Int) := by rw [wr64 _ (by omega)]; simp
    have e : A ++ x :: l = (A ++ [x]) ++ l := by simp
    have r : rd (A ++ x :: l) (A.length : Int) = x := by unfold rd; simp
    have cl : (A.length : Int) < ((A ++ x :: l).length : Int) := by simp; omega
    simp only [if_pos cl, if_pos (show (0 : Int) ≤ (A.length : Int) by omega), r, w, spec_floatNode.f, Option.bind_some, if_pos (show (A.map flN).length < 1466015503701 by rw [List.length_map]; omega)]
    have := btree_l1 x6 x20 x21 x22 f0 f1 p h6 hk l (A ++ [x]) (by rw [← e]; exact hA) (by rw [← e]; exact hl)
    rw [← e, List.map_append] at this
    exact this
theorem btree_go : ∀ (l A : List (Bs × Bs × List Int)) (acc : List S38), (A ++ l).length ≤ 1000000 → acc.length ≤ A.length → (∀ p ∈ l, p.2.2.length ≤ 1000000) →
    Ev (fun k => spec_BuddyinfoTree.l0 k acc ((A ++ l).map rowB) (((A ++ l).map rowB).length : Int) (A.length : Int)) ((⟨#[]⟩ : ByteArray), 6, false, 0, 0, 0, (⟨#[]⟩ : ByteArray), acc ++ l.map buddyNode, 1)
  | [], A, acc, hl, ha, hn => by
    refine Ev.step (fun k => by rw [spec_BuddyinfoTree.l0]) ?_
    simp only [List.append_nil, List.length_map, if_neg (show ¬ ((A.length : Int) < (A.length : Int)) by omega), spec_listNode.f, Option.bind_some, List.map_nil]
    exact Ev.now _
  | x :: l, A, acc, hl, ha, hn => by
    have hll : A.length + (l.length + 1) ≤ 1000000 := by simpa using hl
    refine Ev.step (fun k => by rw [spec_BuddyinfoTree.l0]) ?_
    have w : wrap64 ((A.length : Int) + 1) = ((A ++ [x]).length : Int) := by rw [wr64 _ (by omega)]; simp
    have e : A ++ x :: l = (A ++ [x]) ++ l := by simp
    have r : rd_T48 ((A ++ x :: l).map rowB) (A.length : Int) = rowB x := by
      have := rd48_mid (A.map rowB) (rowB x) (l.map rowB)
      rw [List.length_map] at this
      rw [List.map_append]
      exact this
    have cl : (A.length : Int) < (((A ++ x :: l).map rowB).length : Int) := by simp; omega
    simp only [if_pos cl, if_pos (show (0 : Int) ≤ (A.length : Int) by omega), r]
    have := btree_go l (A ++ [x]) (acc ++ [buddyNode x]) (by rw [← e]; exact hl) (by simp; omega) (fun n h => hn n (by simp [h]))
    rw [List.append_assoc acc] at this
    rw [← e] at this
    exact btree_l1 acc ((A ++ x :: l).map rowB) (((A ++ x :: l).map rowB).length : Int) (A.length : Int) ⟨#[]⟩ x.2.2 x (by omega) (by rw [w]; exact this) x.2.2 [] rfl (hn x (by simp))
theorem buddy_tree (N : List (Bs × Bs × List Int)) (hl : N.length ≤ 1000000) (hn : ∀ p ∈ N, p.2.2.length ≤ 1000000) (hev : ∃ s, Ev (fun k => spec_BuddyinfoPrint.f k (N.map rowB)) (s, 1)) :
    Ev (fun k => spec_BuddyinfoTree.f k (N.map rowB)) ((⟨#[]⟩ : ByteArray), 6, false, 0, 0, 0, (⟨#[]⟩ : ByteArray), N.map buddyNode, 1) := by
  obtain ⟨s, hs⟩ := hev
  unfold spec_BuddyinfoTree.f
  refine Ev.bind hs ?_
  simp only [if_true]
  exact btree_go N [] [] (by simpa using hl) (by simp) hn
theorem casts_map : ∀ ns : List Int, Casts ((ns.map fl64).map flN4) (ns.map flN)
  | [] => .nil
  | n :: ns => .cons cast_leaf (casts_map ns)
theorem buddy_cast (p : Bs × Bs × List Int) (h : p.2.2.length ≤ 100000) : Cast (buddyNode4 (buddyOf p)) (buddyNode p) :=
  cast_node (by simp [buddyKids4]) (.cons cast_leaf (.cons cast_leaf (.cons (cast_node (by simpa [buddyOf] using h) (casts_map p.2.2)) .nil)))
theorem buddy_casts : ∀ N : List (Bs × Bs × List Int), (∀ p ∈ N, p.2.2.length ≤ 100000) → Casts ((N.map buddyOf).map buddyNode4) (N.map buddyNode)
  | [], _ => .nil
  | p :: N, h => .cons (buddy_cast p (h p (by simp))) (buddy_casts N (fun q hq => h q (by simp [hq])))
theorem buddy_same (p : Bs × Bs × List Int) (h : p.2.2.length ≤ 100000) : Same (buddyNode p) := same_node (by simp [buddyKids]) (by
  intro x hx
  simp only [buddyKids, List.mem_cons, List.not_mem_nil, or_false] at hx
  rcases hx with rfl | rfl | rfl
  · exact same_leaf
  · exact same_leaf
  · exact same_node (by simpa using h) (by
      intro y hy
      obtain ⟨n, _, rfl⟩ := List.mem_map.1 hy
      exact same_leaf))
end Go.Proofs.YtabfehcpcjcomaaGreatDoor.R
namespace Go.Proofs.YtabfehcpcjcomaaGreatDoor.R
open Go.RowKit Go.Proofs.YtabfehcpcjcomaaGreatDoor.QA0 Go.Proofs.YtabfehcpcjcomaaGreatDoorW.PrintWords Go.Proofs.YtabfehcpcjcomaaGreatDoorW.PrintLast Go.Proofs.YtabfehcpcjcomaaGreatDoorW.PrintMore
set_option linter.unusedVariables false
set_option linter.unusedSimpArgs false
theorem brows_small {L : List Bs} {N : List (Bs × Bs × List Int)} (h : BRows L N) : (∀ l ∈ L, l.length ≤ 40000) → ∀ p ∈ N, p.2.2.length ≤ 40001 := by
  induction h with
  | nil => intro _ p hp; cases hp
  | @cons l a X b Z ns L N hF _ _ ih =>
    intro hL p hp
    rcases List.mem_cons.1 hp with hp | hp
    · rw [hp]
      have h1 := fgo_n l []
      have h2 : (fgo [] l).length = 4 + ns.length := by rw [show fgo [] l = fieldsL l from rfl, hF]; simp; omega
      have h3 := hL l (by simp)
      simp only [if_true, Nat.add_zero] at h1
      show ns.length ≤ 40001
      omega
    · exact ih (fun x hx => hL x (by simp [hx])) p hp
theorem buddyinfo_pure : laws_FnBuddyinfoRead.Pure := by
  intro a0 hz
  refine Ev.rounds (g := fun k => laws_FnBuddyinfoRead.f k a0) ?_
  unfold laws_FnBuddyinfoRead.f
  by_cases c : (a0.size : Int) > 2147483647
  · simp only [if_pos c]; exact Ev.now _
  · simp only [if_neg c]
    refine Ev.bind ?_ (Ev.now _)
    unfold laws_read_13_14_15.f
    by_cases d : (a0.size : Int) > 40000
    · simp only [if_pos d]; exact Ev.now _
    · simp only [if_neg d]
      have hs : a0.size ≤ 40000 := by omega
      obtain ⟨r, hr, hp⟩ := bread_ends a0 hs
      refine Ev.bind hr ?_
      by_cases e : r.2.2 = 1
      · obtain ⟨N, hrows, hpl, h1, h2, ⟨n, hfine⟩, hev⟩ := hp e
        have hzl : a0.data.toList.length = a0.size := by simp
        have hlen : N.length ≤ 40001 := by
          rw [brows_len hrows]
          have := lines_n a0.data.toList []
          simp only [if_true, Nat.add_zero] at this
          unfold linesL
          omega
        have hsm : ∀ p ∈ N, p.2.2.length ≤ 40001 := brows_small hrows (fun l hl => by
          have := lines_len a0.data.toList [] l hl
          simp only [List.length_nil, Nat.zero_add] at this
          omega)
        simp only [if_pos e, if_pos h2, h1]
        refine Ev.bind (buddy_impl a0 (N.map buddyOf) (by simp; omega) (fun s hm => ?_) (bparse_ev a0 hs N hpl hrows n hfine)) ?_
        · obtain ⟨p, hpN, rfl⟩ := List.mem_map.1 hm
          have := hsm p hpN
          simp only [buddyOf, List.length_map]
          omega
        refine Ev.bind (buddy_tree N (by omega) (fun p hpN => by have := hsm p hpN; omega) hev) ?_
        simp only [if_true]
        have hn := cast_node (n := ⟨#[]⟩) (kd := 6) (b := false) (i := 0) (u := 0) (f := 0) (s := ⟨#[]⟩) (l := (N.map buddyOf).map buddyNode4) (by simp; omega) (buddy_casts N (fun p hpN => by have := hsm p hpN; omega))
        refine Ev.bind hn ?_
        have hm := same_node (n := ⟨#[]⟩) (kd := 6) (b := false) (i := 0) (u := 0) (f := 0) (s := ⟨#[]⟩) (l := N.map buddyNode) (by simp; omega) (by
          intro x hx
          obtain ⟨p, hpN, rfl⟩ := List.mem_map.1 hx
          exact buddy_same p (by have := hsm p hpN; omega))
        refine Ev.bind hm ?_
        simp only [if_true, laws_lives.f, Option.bind_some]
        exact Ev.now _
      · simp only [if_neg e, laws_lives.f, Option.bind_some]
        exact Ev.now _
end Go.Proofs.YtabfehcpcjcomaaGreatDoor.R
namespace Go.Proofs.YtabfehcpcjcomaaGreatDoor.fnBuddyinfoRead
open Go.ChangeShapes Go.WideShapes Go.ChangeAt Go.RowKit
open Go.ChangeMaps (open_string shut_string)
open Go.Proofs.YtabfehcpcjcomaaGreatDoorW.PrintWords Go.Proofs.YtabfehcpcjcomaaGreatDoor.R Go.Proofs.YtabfehcpcjcomaaGreatDoor.Ck
set_option linter.unusedVariables false
set_option linter.unusedSimpArgs false
theorem witness_row (os : Os) {H : Type} (enc : TypeId × Value → H) :
    (OpenSpec.ofChange Rows.fnBuddyinfoReadSpec).preRow enc Tryz.prog Tryz.f4 Rows.fnBuddyinfoReadRow.domain false Rows.fnBuddyinfoReadRow.laid ((laidWorld os).forCall (fun _ _ => 0) ⟨#[], #[.string ⟨#[]⟩], []⟩).memory #[.string ⟨#[]⟩] := by
  have hw : (DataW.whole enc Tryz.prog ((laidWorld os).forCall (fun _ _ => 0) ⟨#[], #[.string ⟨#[]⟩], []⟩).memory Tryz.f4.params.toList Rows.fnBuddyinfoReadSpec.vars false (#[.string ⟨#[]⟩] : Array Value).toList 8).map (fun x => (x.1, x.2.1)) =
      some ([.lit (.string [])], []) := by kernel_rfl
  obtain ⟨⟨x1, x2, x3⟩, hx, hx1⟩ := Option.map_eq_some_iff.1 hw
  simp only [Prod.mk.injEq] at hx1
  obtain ⟨rfl, rfl⟩ := hx1
  exact OpenSpec.preRow_of_cond 8 hx (by kernel_rfl) (fun k hk => by cases hk) (by kernel_rfl) (laid_met os _)
set_option maxRecDepth 100000 in
theorem lifted (os : Os) (started : os.Started) (H : Type) (enc : TypeId × Value → H) (F : Stop.Interp) :
    ReturnsInHanded {} Tryz.checked os 4 .any ((OpenSpec.ofChange Rows.fnBuddyinfoReadSpec).preRow enc Tryz.prog Tryz.f4 Rows.fnBuddyinfoReadRow.domain false Rows.fnBuddyinfoReadRow.laid) (((OpenSpec.ofChange Rows.fnBuddyinfoReadSpec).at F).post enc Tryz.prog Tryz.f4 false true false false) := by
  refine returnsInHanded_of_row (C := Tryz.checked) (s := OpenSpec.ofChange Rows.fnBuddyinfoReadSpec) own started (by kernel_rfl) Tryz.func4
    (witness_row_atRef (enc := enc) (C := Tryz.checked) false (laidWorld os) #[.string ⟨#[]⟩] rfl (vars_ok os _) (by kernel_rfl) (by kernel_rfl) (witness_row os enc)) ?_
  intro W base args ds gs before hval0 hW hcnd _ hsz0 hL hsh _
  have hsz : (DataW.weightsEach Tryz.prog (Tryz.f4.params.toList ++ (OpenSpec.ofChange Rows.fnBuddyinfoReadSpec).bare.plain.varTypes Tryz.prog) (ds ++ gs)).all (· ≤ reachBytes) = true := hsz0
  have hval : ∀ (j : Nat) t v, Tryz.f4.params[j]? = some t → args[j]? = some v → Value.okWide Tryz.prog W .any base t v := hval0
  have hW' := hW
  obtain ⟨p, q, hA0, hV, rfl, hfz, hnd⟩ := hW
  have hA : DataW.TrodAll enc Tryz.prog W 0 (fun _ => true) true Tryz.f4.params.toList args.toList ds p := hA0
  rw [Tryz.params4] at hA hval hsz
  obtain ⟨v0, vs0, d0, ds0, p0, q0, hargs, rfl, rfl, h0, r0⟩ := trodAll_cons hA
  obtain ⟨rfl, rfl, rfl⟩ := trodAll_nil r0
  obtain rfl : args = #[v0] := by cases args; simp_all
  obtain ⟨rfl, rfl⟩ := trodVars_none hV
  obtain ⟨a0, rfl, rfl, rfl, y0⟩ := open_string Tryz.underlying9 (hval 0 9 v0 rfl rfl) h0
  have w0 : a0.size ≤ 140737488351232 := by
    have z := sized_string hsz (j := 0) (t := 9) rfl rfl
    rw [Array.length_toList] at z
    exact z
  clear hA0 hval0 hsz0 hsz
  refine (QA0.laws_FnBuddyinfoRead.walk buddyinfo_pure a0 W w0 (tabs_of (show laidMetH Tryz.prog rowL W from hL))).mono fun e W' ⟨he, bel⟩ => ?_
  subst he
  exact ⟨_, rfl, _, _, _, [], _, [], hW', trodAll_mk1 (shut_bool Tryz.underlying4 _), (trodAll_cons_mk (shut_string Tryz.underlying9 y0) trodAll_mk0), rfl, bel.frame _, fun h => by cases h⟩
theorem said : Rows.FnBuddyinfoReadSaid :=
  OpenClaim.holds_of_cond 4 Tryz.f4 rfl rfl rfl rfl rfl rfl rfl ⟨rfl, rfl, rfl, rfl, rfl⟩ rfl rfl rfl rfl rfl (by kernel_rfl) Tryz.func4 (by kernel_rfl)
    (of_decide_eq_true (by kernel_rfl)) (by unfold Func.isWrapper; first | (rw [if_pos (by decide +kernel)]; kernel_rfl) | (rw [if_neg (by decide +kernel)]; exact ⟨rfl, rfl⟩))
    (fun os started H enc _ F => by rw [OpenClaim.pre_eq_preRow]; exact lifted os started H enc F)
theorem plain (f : FuncId) (fn : Func) (hf : Tryz.pinned.checked.prog.funcNamed "pub-frontispiece/laws.FnBuddyinfoRead" = some f) (hfn : Tryz.pinned.checked.prog.funcs[f]? = some fn) :
    true = Tryz.pinned.checked.prog.looks [] ∧ ∀ (j : Nat) t, fn.params[j]? = some t → Tryz.pinned.checked.prog.wantsStandIn t = false := by
  obtain rfl : f = 4 := Option.some.inj ((show Tryz.prog.funcNamed "pub-frontispiece/laws.FnBuddyinfoRead" = some 4 by kernel_rfl).symm.trans hf) |>.symm
  obtain rfl : fn = Tryz.f4 := (Option.some.inj (Tryz.func4.symm.trans hfn)).symm
  refine ⟨by kernel_rfl, fun j t ht => ?_⟩
  rw [Tryz.params4] at ht
  obtain rfl : t = 9 := by simpa using Array.mem_of_getElem? ht
  exact (show Tryz.prog.wantsStandIn 9 = false by kernel_rfl)
theorem card : Rows.FnBuddyinfoReadCardSaid :=
  Claim7.holds_tied_plain_at .later [] _ _ _ _ said (fun _ h => by cases h) (by kernel_rfl) (fun _ h => by cases h) fnBuddyinfoRead_row_tie rfl ⟨rfl, rfl⟩ (by kernel_rfl) rfl plain (by kernel_rfl)
#print axioms card
end Go.Proofs.YtabfehcpcjcomaaGreatDoor.fnBuddyinfoRead
namespace Go.Proofs.YtabfehcpcjcomaaGreatDoor
theorem fnBuddyinfoRead_card_holds : Rows.FnBuddyinfoReadCardSaid := fnBuddyinfoRead.card
end Go.Proofs.YtabfehcpcjcomaaGreatDoor
