/- The texts Pa, Pe, Pg, Ph, Pi, Pb, Pj, Ca, Cb, QA0x37, Ce, CardFnConntrackRead, without what the claims do not use, laid together by a program of this session (wip/tools/bundle.py). Conditions: those of each theorem. -/
import Derived.Test.YtabfehcpcjcomaaGreatDoorKc7
import Derived.Test.YtabfehcpcjcomaaGreatDoorKc9
import Derived.Lib.ItoaLen
import Derived.Lib.Fields
import Derived.ShutString
import Derived.ChangeOld
namespace Go.Proofs.YtabfehcpcjcomaaGreatDoor.R
open Go.RowKit Go.Proofs.YtabfehcpcjcomaaGreatDoor.QA0 Go.Proofs.YtabfehcpcjcomaaGreatDoorW.PrintWords Go.Proofs.YtabfehcpcjcomaaGreatDoorW.PrintLast Go.Proofs.YtabfehcpcjcomaaGreatDoorW.PrintMore
set_option linter.unusedVariables false
set_option linter.unusedSimpArgs false
def Ends {α : Type} (g : Nat → Option α) (P : α → Prop) : Prop := ∃ r, Ev g r ∧ P r
section
variable {α β : Type} {g f : Nat → Option α} {P : α → Prop}
theorem Ends.step (h : ∀ k, g (k + 1) = f k) (k : Ends f P) : Ends g P := by
  obtain ⟨r, k, hp⟩ := k
  exact ⟨r, Ev.step h k, hp⟩
theorem Ends.now {r : α} (h : P r) : Ends (fun _ => some r) P := ⟨r, Ev.now r, h⟩
theorem Ends.bind {Q : β → Prop} {h : Nat → α → Option β} (a : Ends g P) (k : ∀ x, P x → Ends (fun n => h n x) Q) : Ends (fun n => (g n).bind (h n)) Q := by
  obtain ⟨r, e, hp⟩ := a
  obtain ⟨q, e', hq⟩ := k r hp
  exact ⟨q, Ev.bind e e', hq⟩
theorem Ends.mono {Q : α → Prop} (a : Ends g P) (h : ∀ x, P x → Q x) : Ends g Q := by
  obtain ⟨r, e, hp⟩ := a
  exact ⟨r, e, h r hp⟩
theorem Ends.ev {r : α} (h : Ev g r) : Ends g (fun x => x = r) := ⟨r, h, rfl⟩
end
def U64 (n : Int) : Prop := 0 ≤ n ∧ n < 18446744073709551616
theorem rd_mid (A : List ByteArray) (b : ByteArray) (l : List ByteArray) : rdOf ByteArray.empty (A ++ b :: l) (A.length : Int) = b := by
  unfold rdOf
  simp
end Go.Proofs.YtabfehcpcjcomaaGreatDoor.R
namespace Go.Proofs.YtabfehcpcjcomaaGreatDoor.R
open Go.RowKit Go.Proofs.YtabfehcpcjcomaaGreatDoor.QA0 Go.Proofs.YtabfehcpcjcomaaGreatDoorW.PrintWords Go.Proofs.YtabfehcpcjcomaaGreatDoorW.PrintLast Go.Proofs.YtabfehcpcjcomaaGreatDoorW.PrintMore
set_option linter.unusedVariables false
set_option linter.unusedSimpArgs false
theorem B_of (T : ByteArray) : T = B T.data.toList := by cases T; rfl
theorem B_mid (P D R : Bs) (i j : Nat) (hi : i = P.length) (hj : j = P.length + D.length) : (B (P ++ (D ++ R))).extract i j = B D := by
  subst hi; subst hj
  unfold B
  apply ByteArray.ext
  simp [ByteArray.extract, ByteArray.copySlice]
theorem bt_mid (P : Bs) (z : UInt8) (R : Bs) : bt (B (P ++ (z :: R))) (P.length : Int) = (z.toNat : Int) := at_B _ _ _ (by simp)
theorem eq10 (z : UInt8) : ((z.toNat : Int) = 10) ↔ z = 10 := by
  constructor
  · intro h; apply UInt8.toNat_inj.1; have : (10 : UInt8).toNat = 10 := rfl; omega
  · intro h; subst h; rfl
theorem eq32 (z : UInt8) : ((z.toNat : Int) = 32) ↔ z = 32 := by
  constructor
  · intro h; apply UInt8.toNat_inj.1; have : (32 : UInt8).toNat = 32 := rfl; omega
  · intro h; subst h; rfl
theorem eq9 (z : UInt8) : ((z.toNat : Int) = 9) ↔ z = 9 := by
  constructor
  · intro h; apply UInt8.toNat_inj.1; have : (9 : UInt8).toNat = 9 := rfl; omega
  · intro h; subst h; rfl
def linesGo : Bs → Bs → List Bs
  | cur, [] => if cur = [] then [] else [cur]
  | cur, c :: l => if c = 10 then cur :: linesGo [] l else linesGo (cur ++ [c]) l
def linesL (l : Bs) : List Bs := linesGo [] l
def fgo : Bs → Bs → List Bs
  | cur, [] => if cur = [] then [] else [cur]
  | cur, c :: l => if c = 32 ∨ c = 9 then (if cur = [] then fgo [] l else cur :: fgo [] l) else fgo (cur ++ [c]) l
def fieldsL (l : Bs) : List Bs := fgo [] l
theorem lines_ev (rest : Bs) : ∀ (P cur : Bs) (x3 : List ByteArray), (P ++ (cur ++ rest)).length ≤ 1048576 → x3.length ≤ P.length →
    Ev (fun k => spec_Lines.l0 k (B (P ++ (cur ++ rest))) x3 (P.length : Int) ((B (P ++ (cur ++ rest))).size : Int) ((P ++ cur).length : Int)) (x3 ++ (linesGo cur rest).map B) := by
  induction rest with
  | nil =>
    intro P cur x3 hl h3
    refine Ev.step (fun k => by rw [spec_Lines.l0]) ?_
    have hs : (B (P ++ (cur ++ []))).size = P.length + cur.length := by rw [B_size]; simp
    have c : ¬ (((P ++ cur).length : Int) < ((B (P ++ (cur ++ []))).size : Int)) := by rw [hs]; simp
    simp only [if_neg c]
    simp only [List.length_append, List.length_nil] at hl
    by_cases e : cur = []
    · subst e
      have d : ¬ ((P.length : Int) < ((B P).size : Int)) := by rw [B_size]; omega
      simp only [List.append_nil, if_neg d, linesGo, if_true, List.map_nil]
      exact Ev.now _
    · have hc : 0 < cur.length := List.length_pos_iff.2 e
      have d : (P.length : Int) < ((B (P ++ (cur ++ []))).size : Int) := by rw [hs]; omega
      have x : (B (P ++ (cur ++ []))).extract ((P.length : Int)).toNat (B (P ++ (cur ++ []))).size = B cur := B_mid P cur [] _ _ (by simp) hs
      simp only [if_pos d, if_pos (show (0 : Int) ≤ (P.length : Int) by omega), if_pos (show (P.length : Int) ≤ ((B (P ++ (cur ++ []))).size : Int) by omega), if_pos (show x3.length < 8796093022208 by omega), x, linesGo, if_neg e, List.map_cons, List.map_nil]
      exact Ev.now _
  | cons z rest ih =>
    intro P cur x3 hl h3
    refine Ev.step (fun k => by rw [spec_Lines.l0]) ?_
    have hs : (B (P ++ (cur ++ z :: rest))).size = P.length + (cur.length + (rest.length + 1)) := by rw [B_size]; simp
    simp only [List.length_append, List.length_cons] at hl
    have c : ((P ++ cur).length : Int) < ((B (P ++ (cur ++ z :: rest))).size : Int) := by rw [hs]; simp; omega
    have hb : bt (B (P ++ (cur ++ z :: rest))) ((P ++ cur).length : Int) = (z.toNat : Int) := by
      have := bt_mid (P ++ cur) z rest
      rw [List.append_assoc] at this
      exact this
    have w : wrap64 (((P ++ cur).length : Int) + 1) = ((P ++ cur).length : Int) + 1 := wr64 _ (by simp; omega)
    simp only [if_pos c, if_pos (show (0 : Int) ≤ ((P ++ cur).length : Int) by omega), hb, w]
    by_cases e : z = 10
    · have e' := (eq10 z).2 e
      have x : (B (P ++ (cur ++ z :: rest))).extract ((P.length : Int)).toNat (((P ++ cur).length : Int)).toNat = B cur := B_mid P cur (z :: rest) _ _ (by simp) (by simp; omega)
      simp only [if_pos e', if_pos (show (0 : Int) ≤ (P.length : Int) by omega), if_pos (show (P.length : Int) ≤ ((P ++ cur).length : Int) by simp; omega), if_pos (show ((P ++ cur).length : Int) ≤ ((B (P ++ (cur ++ z :: rest))).size : Int) by omega), if_pos (show x3.length < 8796093022208 by omega), x]
      have := ih (P ++ (cur ++ [z])) [] (x3 ++ [B cur]) (by simp; omega) (by simp; omega)
      have e1 : P ++ (cur ++ z :: rest) = P ++ (cur ++ [z]) ++ ([] ++ rest) := by simp
      have e2 : ((P ++ (cur ++ [z]) ++ []).length : Int) = ((P ++ cur).length : Int) + 1 := by simp; omega
      have e3 : ((P ++ (cur ++ [z])).length : Int) = ((P ++ cur).length : Int) + 1 := by simp; omega
      rw [← e1, e2, e3] at this
      simp only [linesGo, if_pos e, List.map_cons]
      rw [List.append_assoc] at this
      exact this
    · have e' : ¬ ((z.toNat : Int) = 10) := fun h => e ((eq10 z).1 h)
      simp only [if_neg e']
      have := ih P (cur ++ [z]) x3 (by simp; omega) h3
      have e1 : P ++ (cur ++ z :: rest) = P ++ ((cur ++ [z]) ++ rest) := by simp
      have e2 : ((P ++ (cur ++ [z])).length : Int) = ((P ++ cur).length : Int) + 1 := by simp; omega
      rw [← e1, e2] at this
      simp only [linesGo, if_neg e]
      exact this
theorem linesL_ev (l : Bs) (hl : l.length ≤ 1048576) : Ev (fun k => spec_Lines.f k (B l)) ((linesL l).map B) := by
  unfold spec_Lines.f
  exact lines_ev l [] [] [] (by simpa using hl) (by simp)
theorem fields_ev (rest : Bs) : ∀ (P cur : Bs) (x3 : List ByteArray), (P ++ (cur ++ rest)).length ≤ 1048576 → x3.length ≤ P.length →
    Ev (fun k => spec_Fields.l0 k (B (P ++ (cur ++ rest))) x3 (if cur = [] then -1 else (P.length : Int)) ((B (P ++ (cur ++ rest))).size : Int) ((P ++ cur).length : Int)) (x3 ++ (fgo cur rest).map B) := by
  induction rest with
  | nil =>
    intro P cur x3 hl h3
    refine Ev.step (fun k => by rw [spec_Fields.l0]) ?_
    have hs : (B (P ++ (cur ++ []))).size = P.length + cur.length := by rw [B_size]; simp
    have c : ¬ (((P ++ cur).length : Int) < ((B (P ++ (cur ++ []))).size : Int)) := by rw [hs]; simp
    simp only [if_neg c]
    simp only [List.length_append, List.length_nil] at hl
    by_cases e : cur = []
    · subst e
      simp only [if_true, if_neg (show ¬ ((-1 : Int) ≥ 0) by omega), fgo, List.map_nil, List.append_nil]
      exact Ev.now _
    · have x : (B (P ++ (cur ++ []))).extract ((P.length : Int)).toNat (B (P ++ (cur ++ []))).size = B cur := B_mid P cur [] _ _ (by simp) hs
      simp only [if_neg e, if_pos (show (P.length : Int) ≥ 0 by omega), if_pos (show (0 : Int) ≤ (P.length : Int) by omega), if_pos (show (P.length : Int) ≤ ((B (P ++ (cur ++ []))).size : Int) by omega), if_pos (show x3.length < 8796093022208 by omega), x, fgo, List.map_cons, List.map_nil]
      exact Ev.now _
  | cons z rest ih =>
    intro P cur x3 hl h3
    refine Ev.step (fun k => by rw [spec_Fields.l0]) ?_
    have hs : (B (P ++ (cur ++ z :: rest))).size = P.length + (cur.length + (rest.length + 1)) := by rw [B_size]; simp
    simp only [List.length_append, List.length_cons] at hl
    have c : ((P ++ cur).length : Int) < ((B (P ++ (cur ++ z :: rest))).size : Int) := by rw [hs]; simp; omega
    have hb : bt (B (P ++ (cur ++ z :: rest))) ((P ++ cur).length : Int) = (z.toNat : Int) := by
      have := bt_mid (P ++ cur) z rest
      rw [List.append_assoc] at this
      exact this
    have w : wrap64 (((P ++ cur).length : Int) + 1) = ((P ++ cur).length : Int) + 1 := wr64 _ (by simp; omega)
    simp only [if_pos c, if_pos (show (0 : Int) ≤ ((P ++ cur).length : Int) by omega), hb]
    have blank : (z = 32 ∨ z = 9) → Ev (fun k => spec_Fields.j1 k (B (P ++ (cur ++ z :: rest))) x3 (if cur = [] then -1 else (P.length : Int)) ((P ++ cur).length : Int) true ((B (P ++ (cur ++ z :: rest))).size : Int) ((P ++ cur).length : Int)) (x3 ++ (fgo cur (z :: rest)).map B) := by
      intro hz
      refine Ev.step (fun k => by rw [spec_Fields.j1]) ?_
      simp only [if_true]
      refine Ev.step (fun k => by rw [spec_Fields.j2]) ?_
      by_cases e : cur = []
      · subst e
        have hd : decide ((-1 : Int) ≥ 0) = false := rfl
        simp only [if_true, hd, Bool.false_eq_true, if_false, w]
        have := ih (P ++ [z]) [] x3 (by simp; omega) (by simp; omega)
        have e1 : P ++ (([] : Bs) ++ z :: rest) = P ++ [z] ++ ([] ++ rest) := by simp
        have e2 : ((P ++ [z] ++ ([] : Bs)).length : Int) = ((P ++ ([] : Bs)).length : Int) + 1 := by simp
        rw [← e1, e2] at this
        simp only [fgo, if_pos hz, if_true] at this ⊢
        exact this
      · have hd : decide ((P.length : Int) ≥ 0) = true := decide_eq_true (by omega)
        have x : (B (P ++ (cur ++ z :: rest))).extract ((P.length : Int)).toNat (((P ++ cur).length : Int)).toNat = B cur := B_mid P cur (z :: rest) _ _ (by simp) (by simp; omega)
        simp only [if_neg e, hd, if_true, if_pos (show (0 : Int) ≤ (P.length : Int) by omega), if_pos (show (P.length : Int) ≤ ((P ++ cur).length : Int) by simp; omega), if_pos (show ((P ++ cur).length : Int) ≤ ((B (P ++ (cur ++ z :: rest))).size : Int) by omega), if_pos (show x3.length < 8796093022208 by omega), x, w]
        have := ih (P ++ (cur ++ [z])) [] (x3 ++ [B cur]) (by simp; omega) (by simp; omega)
        have e1 : P ++ (cur ++ z :: rest) = P ++ (cur ++ [z]) ++ ([] ++ rest) := by simp
        have e2 : ((P ++ (cur ++ [z]) ++ []).length : Int) = ((P ++ cur).length : Int) + 1 := by simp; omega
        rw [← e1, e2] at this
        simp only [fgo, if_pos hz, if_neg e, if_true, List.map_cons] at this ⊢
        rw [List.append_assoc] at this
        exact this
    by_cases e32 : z = 32
    · simp only [if_pos ((eq32 z).2 e32)]
      exact blank (.inl e32)
    · simp only [if_neg (show ¬ ((z.toNat : Int) = 32) from fun h => e32 ((eq32 z).1 h))]
      by_cases e9 : z = 9
      · have : (((z.toNat : Int) == 9) : Bool) = true := beq_iff_eq.2 ((eq9 z).2 e9)
        simp only [this]
        exact blank (.inr e9)
      · have : (((z.toNat : Int) == 9) : Bool) = false := beq_eq_false_iff_ne.2 (fun h => e9 ((eq9 z).1 h))
        simp only [this]
        refine Ev.step (fun k => by rw [spec_Fields.j1]) ?_
        simp only [Bool.false_eq_true, if_false]
        refine Ev.step (fun k => by rw [spec_Fields.j2]) ?_
        simp only [Bool.false_eq_true, if_false, w]
        have := ih P (cur ++ [z]) x3 (by simp; omega) h3
        have e1 : P ++ (cur ++ z :: rest) = P ++ ((cur ++ [z]) ++ rest) := by simp
        have e2 : ((P ++ (cur ++ [z])).length : Int) = ((P ++ cur).length : Int) + 1 := by simp; omega
        have e3 : ¬ (cur ++ [z] = []) := by simp
        have ef : fgo cur (z :: rest) = fgo (cur ++ [z]) rest := by rw [fgo, if_neg (show ¬ (z = 32 ∨ z = 9) by rintro (h | h); exact e32 h; exact e9 h)]
        rw [← e1, e2, if_neg e3] at this
        rw [ef]
        by_cases e : cur = []
        · subst e
          have e4 : ((P ++ ([] : Bs)).length : Int) = (P.length : Int) := by simp
          simp only [if_true, if_pos (show (-1 : Int) < 0 by omega)]
          rw [e4] at this ⊢
          exact this
        · simp only [if_neg e, if_neg (show ¬ ((P.length : Int) < 0) by omega)]
          exact this
theorem fieldsL_ev (l : Bs) (hl : l.length ≤ 1048576) : Ev (fun k => spec_Fields.f k (B l)) ((fieldsL l).map B) := by
  unfold spec_Fields.f
  exact fields_ev l [] [] [] (by simpa using hl) (by simp)
def plainC (c : UInt8) : Bool := c == 9 || (decide (32 ≤ c.toNat) && decide (c.toNat ≤ 126))
theorem fgo_lib : ∀ (l cur : Bs), l.all plainC = true → Lib.fieldsGo cur l = fgo cur l
  | [], cur, _ => by
    cases cur <;> simp [Lib.fieldsGo, fgo]
  | c :: l, cur, h => by
    simp only [List.all_cons, Bool.and_eq_true] at h
    obtain ⟨hc, hl⟩ := h
    by_cases e : c = 32 ∨ c = 9
    · have hs : Lib.isSp c = true := by rcases e with rfl | rfl <;> rfl
      cases cur with
      | nil => rw [Lib.fieldsGo_sp _ _ hs, fgo_lib l [] hl]; simp [fgo, e]
      | cons a r => rw [Lib.fieldsGo_end _ _ _ hs (by simp), fgo_lib l [] hl]; simp [fgo, e]
    · have hs : Lib.isSp c = false := by
        unfold plainC at hc
        simp only [Bool.or_eq_true, beq_iff_eq, Bool.and_eq_true, decide_eq_true_eq] at hc
        have h9 : ¬ c = 9 := fun h => e (.inr h)
        have h32 : ¬ c = 32 := fun h => e (.inl h)
        have key : ∀ m : UInt8, m.toNat < 32 → ¬ (c = m) := by intro m hm he; rw [he] at hc; rcases hc with hc | hc; exact h9 (he.trans hc); omega
        unfold Lib.isSp
        simp [h9, h32, key 10 (by decide), key 11 (by decide), key 12 (by decide), key 13 (by decide)]
      rw [Lib.fieldsGo_more _ _ _ hs, fgo_lib l _ hl]
      simp [fgo, e]
theorem linesGo_eq : ∀ (l cur : Bs), linesGo cur l = if cur = [] ∧ l = [] then [] else (cur ++ l.takeWhile (fun c => c != 10)) :: linesGo [] (l.drop ((l.takeWhile (fun c => c != 10)).length + 1))
  | [], cur => by
    by_cases h : cur = []
    · simp [linesGo, h]
    · simp [linesGo, h]
  | c :: l, cur => by
    by_cases h : c = 10
    · subst h; simp [linesGo]
    · have hb : (c != 10) = true := bne_iff_ne.2 h
      rw [linesGo, if_neg h, linesGo_eq l (cur ++ [c])]
      simp [List.takeWhile_cons, hb]
end Go.Proofs.YtabfehcpcjcomaaGreatDoor.R
namespace Go.Proofs.YtabfehcpcjcomaaGreatDoor.R
open Go.RowKit Go.Proofs.YtabfehcpcjcomaaGreatDoor.QA0 Go.Proofs.YtabfehcpcjcomaaGreatDoorW.PrintWords Go.Proofs.YtabfehcpcjcomaaGreatDoorW.PrintLast Go.Proofs.YtabfehcpcjcomaaGreatDoorW.PrintMore
set_option linter.unusedVariables false
set_option linter.unusedSimpArgs false
theorem digit_ev (c : UInt8) : Ev (fun k => spec_digit.f k (c.toNat : Int)) ((hexV c : Nat) : Int) := by
  refine ⟨2, fun k hk => ?_⟩
  obtain ⟨m, rfl⟩ : ∃ m, k = m + 2 := ⟨k - 2, by omega⟩
  have hlt := c.toNat_lt
  unfold hexV
  generalize c.toNat = n at hlt ⊢
  unfold spec_digit.f
  dsimp only
  by_cases a : 48 ≤ n ∧ n ≤ 57
  · rw [if_pos (show (n : Int) ≥ 48 by omega), if_pos a, spec_digit.j0, decide_eq_true (show (n : Int) ≤ 57 by omega), if_pos rfl]
    congr 1; omega
  · have key : ∀ b : Bool, b = false → spec_digit.j0 (m + 2) (n : Int) b = some (((if 97 ≤ n ∧ n ≤ 102 then n - 87 else if 65 ≤ n ∧ n ≤ 70 then n - 55 else 99 : Nat)) : Int) := by
      intro b hb
      subst hb
      rw [spec_digit.j0, if_neg (by simp)]
      have key1 : ∀ b : Bool, b = false → ¬ (97 ≤ n ∧ n ≤ 102) → spec_digit.j1 (m + 1) (n : Int) b = some (((if 65 ≤ n ∧ n ≤ 70 then n - 55 else 99 : Nat)) : Int) := by
        intro b hb h
        subst hb
        rw [spec_digit.j1, if_neg (by simp)]
        by_cases e : 65 ≤ n ∧ n ≤ 70
        · rw [if_pos (show (n : Int) ≥ 65 by omega), if_pos (show (n : Int) ≤ 70 by omega), if_pos e]
          congr 1; omega
        · rw [if_neg e]
          by_cases f : (n : Int) ≥ 65
          · rw [if_pos f, if_neg (show ¬ (n : Int) ≤ 70 by omega)]; rfl
          · rw [if_neg f]; rfl
      by_cases d : 97 ≤ n ∧ n ≤ 102
      · rw [if_pos (show (n : Int) ≥ 97 by omega), if_pos d, spec_digit.j1, decide_eq_true (show (n : Int) ≤ 102 by omega), if_pos rfl]
        congr 1; omega
      · rw [if_neg d]
        by_cases f : (n : Int) ≥ 97
        · rw [if_pos f]; exact key1 _ (decide_eq_false (by omega)) d
        · rw [if_neg f]; exact key1 _ rfl d
    rw [if_neg a]
    by_cases f : (n : Int) ≥ 48
    · rw [if_pos f]; exact key _ (decide_eq_false (by omega))
    · rw [if_neg f]; exact key _ rfl
theorem number16_go (rest : Bs) : ∀ (P : Bs) (acc : Nat), acc < 18446744073709551616 → (P ++ rest).length ≤ 1048576 →
    Ends (fun k => spec_Number.l0 k (B (P ++ rest)) 16 (acc : Int) ((B (P ++ rest)).size : Int) (P.length : Int)) (fun r => U64 r.1 ∧ (r.2 = true → hexN acc rest = some r.1.toNat ∧ P ++ rest ≠ [])) := by
  induction rest with
  | nil =>
    intro P acc ha hl
    refine Ends.step (fun k => by rw [spec_Number.l0]) ?_
    have hs : (B (P ++ [])).size = P.length := by rw [B_size]; simp
    simp only [if_neg (show ¬ ((P.length : Int) < ((B (P ++ [])).size : Int)) by rw [hs]; omega)]
    refine Ends.now ⟨by unfold U64; omega, fun h => ⟨by simp [hexN], ?_⟩⟩
    intro e
    rw [e] at h
    simp [ByteArray.toList_eq, B] at h
  | cons z rest ih =>
    intro P acc ha hl
    have hs : (B (P ++ z :: rest)).size = P.length + (rest.length + 1) := by rw [B_size]; simp
    have hll : P.length + (rest.length + 1) ≤ 1048576 := by simpa using hl
    refine Ends.step (fun k => by rw [spec_Number.l0]) ?_
    have w : wrap64 ((P.length : Int) + 1) = (P.length : Int) + 1 := wr64 _ (by omega)
    simp only [if_pos (show (P.length : Int) < ((B (P ++ z :: rest)).size : Int) by rw [hs]; omega), if_pos (show (0 : Int) ≤ (P.length : Int) by omega), bt_mid, w]
    refine Ends.bind (Ends.ev (digit_ev z)) fun d hd => ?_
    rw [hd]
    by_cases c : hexV z < 16
    · simp only [if_neg (show ¬ (((hexV z : Nat) : Int) ≥ 16) by omega), if_neg (show ¬ ((16 : Int) = 0) by omega)]
      have q : IntKind.u64.wrap (Int.tdiv (IntKind.u64.wrap (18446744073709551615 - ((hexV z : Nat) : Int))) 16) = (((18446744073709551615 - hexV z) / 16 : Nat) : Int) := by
        rw [u64w (18446744073709551615 - ((hexV z : Nat) : Int)) (by omega), Int.tdiv_eq_ediv_of_nonneg (by omega), u64w _ (by omega)]
        omega
      simp only [q]
      by_cases e : (acc : Int) > (((18446744073709551615 - hexV z) / 16 : Nat) : Int)
      · simp only [if_pos e]
        exact Ends.now ⟨by unfold U64; omega, by simp⟩
      · simp only [if_neg e]
        have v : IntKind.u64.wrap (IntKind.u64.wrap ((acc : Int) * 16) + ((hexV z : Nat) : Int)) = ((acc * 16 + hexV z : Nat) : Int) := by
          rw [u64w ((acc : Int) * 16) (by omega), u64w _ (by omega)]
          omega
        simp only [v]
        have := ih (P ++ [z]) (acc * 16 + hexV z) (by omega) (by simp; omega)
        have e1 : P ++ [z] ++ rest = P ++ z :: rest := by simp
        have e2 : ((P ++ [z]).length : Int) = (P.length : Int) + 1 := by simp
        rw [e1, e2] at this
        refine this.mono fun r hr => ⟨hr.1, fun h => ?_⟩
        obtain ⟨h1, h2⟩ := hr.2 h
        exact ⟨by simp only [hexN, if_pos c]; exact h1, h2⟩
    · simp only [if_pos (show (((hexV z : Nat) : Int) ≥ 16) by omega)]
      exact Ends.now ⟨by unfold U64; omega, by simp⟩
theorem number16 (l : Bs) (hl : l.length ≤ 1048576) : Ends (fun k => spec_Number.f k (B l) 16) (fun r => U64 r.1 ∧ (r.2 = true → hexF l = some r.1.toNat)) := by
  unfold spec_Number.f
  have := number16_go l [] 0 (by omega) (by simpa using hl)
  refine this.mono fun r hr => ⟨hr.1, fun h => ?_⟩
  obtain ⟨h1, h2⟩ := hr.2 h
  unfold hexF
  rw [if_neg (by simpa using h2)]
  exact h1
theorem plain_is (T : ByteArray) : ∀ (n : Nat) (x7 : Int), 0 ≤ x7 → x7 ≤ (T.size : Int) → n = ((T.size : Int) - x7).toNat → T.size ≤ 40000 → Ends (fun k => spec_Plain.l0 k T (T.size : Int) x7) (fun r => r = true → ∀ i : Nat, x7 ≤ (i : Int) → i < T.size → bt T (i : Int) = 9 ∨ bt T (i : Int) = 10 ∨ (32 ≤ bt T (i : Int) ∧ bt T (i : Int) ≤ 126))
  | 0, x7, h0, h1, hn, hs => by
    refine Ends.step (fun k => by rw [spec_Plain.l0]) ?_
    simp only [if_neg (show ¬ (x7 < (T.size : Int)) by omega)]
    exact Ends.now fun _ i hi hi2 => by omega
  | n + 1, x7, h0, h1, hn, hs => by
    refine Ends.step (fun k => by rw [spec_Plain.l0]) ?_
    have w : wrap64 (x7 + 1) = x7 + 1 := wr64 _ (by omega)
    have ih := plain_is T n (x7 + 1) (by omega) (by omega) (by omega) hs
    have on : (bt T x7 = 9 ∨ bt T x7 = 10 ∨ (32 ≤ bt T x7 ∧ bt T x7 ≤ 126)) → Ends (fun k => spec_Plain.l0 k T (T.size : Int) (x7 + 1)) (fun r => r = true → ∀ i : Nat, x7 ≤ (i : Int) → i < T.size → bt T (i : Int) = 9 ∨ bt T (i : Int) = 10 ∨ (32 ≤ bt T (i : Int) ∧ bt T (i : Int) ≤ 126)) := by
      intro hx
      refine ih.mono fun r hr h i hi hi2 => ?_
      by_cases e : x7 = (i : Int)
      · rw [← e]; exact hx
      · exact hr h i (by omega) hi2
    simp only [if_pos (show x7 < (T.size : Int) by omega), if_pos h0, w]
    by_cases c : bt T x7 > 126
    · simp only [if_pos c]; exact Ends.now (by simp)
    · simp only [if_neg c]
      by_cases d : bt T x7 < 32
      · simp only [if_pos d]
        by_cases e : bt T x7 = 10
        · simp only [if_pos e]; exact on (.inr (.inl e))
        · simp only [if_neg e]
          by_cases e : bt T x7 = 9
          · simp only [if_pos e]; exact on (.inl e)
          · simp only [if_neg e]; exact Ends.now (by simp)
      · simp only [if_neg d]; exact on (.inr (.inr (by omega)))
def plainT (c : UInt8) : Bool := c == 10 || plainC c
theorem plain_text (T : ByteArray) (hs : T.size ≤ 40000) : Ends (fun k => spec_Plain.f k T) (fun r => r = true → T.data.toList.all plainT = true) := by
  unfold spec_Plain.f
  refine (plain_is T _ 0 (by omega) (by omega) rfl hs).mono fun r hr h => ?_
  rw [List.all_eq_true]
  intro c hc
  obtain ⟨i, hi, rfl⟩ := List.getElem_of_mem hc
  have hi' : i < T.size := by simpa using hi
  have := hr h i (by omega) hi'
  rw [bt_list T i hi'] at this
  unfold plainT plainC
  simp only [Bool.or_eq_true, beq_iff_eq, Bool.and_eq_true, decide_eq_true_eq]
  rcases this with h | h | h
  · exact .inr (.inl ((eq9 _).1 h))
  · exact .inl ((eq10 _).1 h)
  · exact .inr (.inr ⟨by omega, by omega⟩)
theorem lines_plain : ∀ (l cur : Bs), l.all plainT = true → cur.all plainC = true → ∀ x ∈ linesGo cur l, x.all plainC = true
  | [], cur, _, hc, x, hx => by
    unfold linesGo at hx
    split at hx
    · cases hx
    · rw [List.mem_singleton.1 hx]; exact hc
  | c :: l, cur, h, hc, x, hx => by
    simp only [List.all_cons, Bool.and_eq_true] at h
    unfold linesGo at hx
    split at hx
    · rcases List.mem_cons.1 hx with hx | hx
      · rw [hx]; exact hc
      · exact lines_plain l [] h.2 (by simp) x hx
    · rename_i hn
      have h1 : plainC c = true := by
        have := h.1
        unfold plainT at this
        simp only [Bool.or_eq_true, beq_iff_eq] at this
        exact this.resolve_left hn
      exact lines_plain l (cur ++ [c]) h.2 (by simp [hc, h1]) x hx
theorem lines_len : ∀ (l cur : Bs), ∀ x ∈ linesGo cur l, x.length ≤ cur.length + l.length
  | [], cur, x, hx => by
    unfold linesGo at hx
    split at hx
    · cases hx
    · rw [List.mem_singleton.1 hx]; omega
  | c :: l, cur, x, hx => by
    unfold linesGo at hx
    split at hx
    · rcases List.mem_cons.1 hx with hx | hx
      · rw [hx]; omega
      · have := lines_len l [] x hx; simp only [List.length_cons, List.length_nil] at *; omega
    · have := lines_len l (cur ++ [c]) x hx; simp only [List.length_append, List.length_cons, List.length_nil] at *; omega
theorem lines_n : ∀ (l cur : Bs), (linesGo cur l).length ≤ l.length + (if cur = [] then 0 else 1)
  | [], cur => by
    unfold linesGo
    split <;> simp
  | c :: l, cur => by
    unfold linesGo
    split
    · have := lines_n l []
      simp only [if_true, List.length_cons] at *
      split <;> omega
    · have := lines_n l (cur ++ [c])
      rw [if_neg (by simp)] at this
      simp only [List.length_cons]
      split <;> omega
theorem fgo_n : ∀ (l cur : Bs), (fgo cur l).length ≤ l.length + (if cur = [] then 0 else 1)
  | [], cur => by
    unfold fgo
    split <;> simp
  | c :: l, cur => by
    unfold fgo
    split
    · have := fgo_n l []
      simp only [if_true] at this
      split
      · simp only [List.length_cons]; omega
      · simp only [List.length_cons]; omega
    · have := fgo_n l (cur ++ [c])
      rw [if_neg (by simp)] at this
      simp only [List.length_cons]
      split <;> omega
theorem fgo_len : ∀ (l cur : Bs), ∀ x ∈ fgo cur l, x.length ≤ cur.length + l.length
  | [], cur, x, hx => by
    unfold fgo at hx
    split at hx
    · cases hx
    · rw [List.mem_singleton.1 hx]; omega
  | c :: l, cur, x, hx => by
    unfold fgo at hx
    split at hx
    · split at hx
      · have := fgo_len l [] x hx; simp only [List.length_cons, List.length_nil] at *; omega
      · rcases List.mem_cons.1 hx with hx | hx
        · rw [hx]; omega
        · have := fgo_len l [] x hx; simp only [List.length_cons, List.length_nil] at *; omega
    · have := fgo_len l (cur ++ [c]) x hx; simp only [List.length_append, List.length_cons, List.length_nil] at *; omega
end Go.Proofs.YtabfehcpcjcomaaGreatDoor.R
namespace Go.Proofs.YtabfehcpcjcomaaGreatDoor.R
open Go.RowKit Go.Proofs.YtabfehcpcjcomaaGreatDoor.QA0 Go.Proofs.YtabfehcpcjcomaaGreatDoorW.PrintWords Go.Proofs.YtabfehcpcjcomaaGreatDoorW.PrintLast Go.Proofs.YtabfehcpcjcomaaGreatDoorW.PrintMore
set_option linter.unusedVariables false
set_option linter.unusedSimpArgs false
def hexAll : List Bs → Option (List Int)
  | [] => some []
  | f :: fs => (hexF f).bind fun m => (hexAll fs).map fun r => (m : Int) :: r
def rowN (ns : List Int) : S48 := ⟨⟨#[]⟩, ns, []⟩
inductive HexRows : List Bs → List (List Int) → Prop
  | nil : HexRows [] []
  | cons {l n L N} : hexAll (fieldsL l) = some n → HexRows L N → HexRows (l :: L) (n :: N)
theorem lim32 : IntKind.u64.wrap (IntKind.u64.wrap (shl .u64 1 (wrap64 (32 - 1)) * 2) - 1) = 4294967295 := by
  rw [show wrap64 (32 - 1) = 31 from wr64 31 (by omega)]
  decide +kernel
theorem rd48_mid (A : List S48) (x : S48) (l : List S48) : rd_T48 (A ++ x :: l) (A.length : Int) = x := by unfold rd_T48; simp
end Go.Proofs.YtabfehcpcjcomaaGreatDoor.R
namespace Go.Proofs.YtabfehcpcjcomaaGreatDoor.R
open Go.RowKit Go.Proofs.YtabfehcpcjcomaaGreatDoor.QA0 Go.Proofs.YtabfehcpcjcomaaGreatDoorW.PrintWords Go.Proofs.YtabfehcpcjcomaaGreatDoorW.PrintLast Go.Proofs.YtabfehcpcjcomaaGreatDoorW.PrintMore
set_option linter.unusedVariables false
set_option linter.unusedSimpArgs false
theorem scan_nil (L : ByteArray) : texts_Lines_Scan.f (B []) L 65536 none = some (false, B [], ⟨#[]⟩, 65536, none) := by
  unfold texts_Lines_Scan.f scanF
  rfl
def lineOf (l : Bs) : Bs := l.takeWhile (fun c => c != 10)
def restOf (l : Bs) : Bs := l.drop ((lineOf l).length + 1)
theorem line_split (l : Bs) : l.take (lineOf l).length = lineOf l := by
  unfold lineOf
  induction l with
  | nil => rfl
  | cons c l ih =>
    rw [List.takeWhile_cons]
    split
    · simp [ih]
    · rfl
theorem line_le (l : Bs) : (lineOf l).length ≤ l.length := by
  have := congrArg List.length (line_split l)
  rw [List.length_take] at this
  omega
theorem B_drop (l : Bs) (i : Nat) : (B l).extract i (B l).size = B (l.drop i) := by
  unfold B
  apply ByteArray.ext
  simp [ByteArray.extract, ByteArray.copySlice, ByteArray.size]
  exact List.take_of_length_le (by rw [List.length_drop]; omega)
theorem B_take (l : Bs) (i : Nat) : (B l).extract 0 i = B (l.take i) := by
  unfold B
  apply ByteArray.ext
  simp [ByteArray.extract, ByteArray.copySlice, ByteArray.size]
theorem chomp_plain (l : Bs) (h : l.all plainC = true) : chomp (B l) = B l := by
  unfold chomp
  rw [if_neg]
  rintro ⟨h0, h1⟩
  rw [B_size] at h0 h1
  have hi : l.length - 1 < (B l).size := by rw [B_size]; omega
  have e : ((l.length : Int) - 1) = ((l.length - 1 : Nat) : Int) := by omega
  rw [e, bt_list (B l) _ hi] at h1
  have hm : (B l).data.toList[l.length - 1]'(by simpa using hi) ∈ l := List.getElem_mem (l := l) _
  have := List.all_eq_true.1 h _ hm
  unfold plainC at this
  simp only [Bool.or_eq_true, beq_iff_eq, Bool.and_eq_true, decide_eq_true_eq] at this
  rcases this with h2 | h2
  · rw [h2] at h1
    have : (9 : UInt8).toNat = 9 := rfl
    omega
  · omega
theorem scan_cons (l : Bs) (L : ByteArray) (h0 : l ≠ []) (hl : l.length ≤ 40000) (hp : (lineOf l).all plainC = true) : texts_Lines_Scan.f (B l) L 65536 none = some (true, B (restOf l), B (lineOf l), 65536, none) := by
  have hpos : 0 < l.length := List.length_pos_iff.2 h0
  have hn : nl (B l) = (lineOf l).length := rfl
  have := line_le l
  unfold texts_Lines_Scan.f scanF
  rw [if_pos ⟨rfl, by rw [B_size]; omega⟩, if_neg (by rw [B_size]; omega), hn, if_pos (by omega), B_drop, B_take, line_split, chomp_plain _ hp]
  rfl
theorem linesL_cons (l : Bs) (h0 : l ≠ []) : linesL l = lineOf l :: linesL (restOf l) := by
  unfold linesL
  rw [linesGo_eq, if_neg (by simpa using h0)]
  rfl
theorem rest_plain (l : Bs) (h : l.all plainT = true) : (restOf l).all plainT = true := by
  rw [List.all_eq_true] at *
  intro c hc
  exact h c (List.mem_of_mem_drop hc)
theorem line_plain (l : Bs) (h0 : l ≠ []) (h : l.all plainT = true) : (lineOf l).all plainC = true := by
  have := lines_plain l [] h (by simp) (lineOf l)
  have e := linesL_cons l h0
  unfold linesL at e
  rw [e] at this
  exact this (by simp)
theorem fields_plain (l : Bs) (h : l.all plainC = true) (hl : l.length ≤ 1048576) : strings_Fields.f (B l) = some ((fieldsL l).map bs) := by
  unfold strings_Fields.f fieldsF
  have ha : Asc (B l) = true := by
    unfold Asc
    rw [B_data, List.all_eq_true]
    intro c hc
    have := List.all_eq_true.1 h c hc
    unfold plainC at this
    simp only [Bool.or_eq_true, beq_iff_eq, Bool.and_eq_true, decide_eq_true_eq] at this
    simp only [decide_eq_true_eq]
    rcases this with h2 | h2
    · rw [h2]; decide
    · omega
  rw [if_pos ⟨by rw [B_size]; exact hl, ha⟩, B_data]
  unfold Lib.fields fieldsL
  rw [fgo_lib l [] h]
theorem hexAll_len : ∀ (fs : List Bs) (n : List Int), hexAll fs = some n → n.length = fs.length
  | [], n, h => by obtain rfl := Option.some.inj h; rfl
  | f :: fs, n, h => by
    obtain ⟨m, hm, h⟩ := Option.bind_eq_some_iff.mp h
    obtain ⟨r, hr, rfl⟩ := Option.map_eq_some_iff.1 h
    simp [hexAll_len fs r hr]
theorem hexs_of : ∀ (fs : List Bs) (n : List Int), hexAll fs = some n → (∀ x ∈ n, x ≤ 4294967295) → (∀ f ∈ fs, f.length ≤ 1048576) → hexsL (fs.map bs) = some n
  | [], n, h, _, _ => by obtain rfl := Option.some.inj h; rfl
  | f :: fs, n, h, hn, hf => by
    obtain ⟨m, hm, h⟩ := Option.bind_eq_some_iff.mp h
    obtain ⟨r, hr, rfl⟩ := Option.map_eq_some_iff.1 h
    have h1 : hexI (bs f) = some (m : Int) := by
      unfold hexI
      have hz : (bs f).size ≤ 1048576 := by
        have := hf f (by simp)
        have e : (bs f).size = f.length := B_size f
        omega
      have hd : (bs f).data.toList = f := rfl
      have hm2 : m ≤ 4294967295 := by have := hn (m : Int) (by simp); omega
      rw [if_pos hz, hd, hm, Option.bind_some, if_pos hm2]
    simp only [List.map_cons, hexsL, h1, Option.bind_some, hexs_of fs r hr (fun x hx => hn x (by simp [hx])) (fun x hx => hf x (by simp [hx])), Option.map_some]
theorem hexRows_len {L : List Bs} {N : List (List Int)} (h : HexRows L N) : N.length = L.length := by
  induction h with
  | nil => rfl
  | cons _ _ ih => simp [ih]
end Go.Proofs.YtabfehcpcjcomaaGreatDoor.R
namespace Go.Proofs.YtabfehcpcjcomaaGreatDoor.R
open Go.RowKit Go.Proofs.YtabfehcpcjcomaaGreatDoor.QA0 Go.Proofs.YtabfehcpcjcomaaGreatDoorW.PrintWords Go.Proofs.YtabfehcpcjcomaaGreatDoorW.PrintLast Go.Proofs.YtabfehcpcjcomaaGreatDoorW.PrintMore
set_option linter.unusedVariables false
set_option linter.unusedSimpArgs false
theorem toList_inj {a b : ByteArray} (h : a.toList = b.toList) : a = b := by
  rw [ByteArray.toList_eq, ByteArray.toList_eq] at h
  exact ByteArray.ext (Array.toList_inj.1 h)
def Cast (x : S34) (y : S38) : Prop := Ev (fun k => laws_toNode.f k x.f0 x.f1 x.f2 x.f3 x.f4 x.f5 x.f6 x.f7) (y.f0, y.f1, y.f2, y.f3, y.f4, y.f5, y.f6, y.f7)
inductive Casts : List S34 → List S38 → Prop
  | nil : Casts [] []
  | cons {x y l l'} : Cast x y → Casts l l' → Casts (x :: l) (y :: l')
theorem toNode_go (n : ByteArray) (kd : Int) (b : Bool) (i u : Int) (f : Nat) (s : ByteArray) : ∀ (l : List S34) (l' : List S38) (A : List S34) (acc : List S38), (A ++ l).length ≤ 100000 → acc.length ≤ A.length → Casts l l' →
    Ev (fun k => laws_toNode.l0 k (A ++ l) ((A ++ l).length : Int) (A.length : Int) n kd b i u f s acc) (n, kd, b, i, u, f, s, acc ++ l')
  | [], [], A, acc, hl, ha, _ => by
    refine Ev.step (fun k => by rw [laws_toNode.l0]) ?_
    simp only [List.append_nil, if_neg (show ¬ ((A.length : Int) < (A.length : Int)) by omega)]
    exact Ev.now _
  | [], _ :: _, _, _, _, _, h => nomatch h
  | _ :: _, [], _, _, _, _, h => nomatch h
  | x :: l, y :: l', A, acc, hl, ha, h => by
    obtain ⟨h, hs⟩ : Cast x y ∧ Casts l l' := by cases h with | cons h hs => exact ⟨h, hs⟩
    have hll : A.length + (l.length + 1) ≤ 100000 := by simpa using hl
    refine Ev.step (fun k => by rw [laws_toNode.l0]) ?_
    have w : wrap64 ((A.length : Int) + 1) = ((A ++ [x]).length : Int) := by rw [wr64 _ (by omega)]; simp
    have e : A ++ x :: l = (A ++ [x]) ++ l := by simp
    have r : rd_T34 (A ++ x :: l) (A.length : Int) = x := by unfold rd_T34; simp
    have cl : (A.length : Int) < ((A ++ x :: l).length : Int) := by simp; omega
    simp only [if_pos cl, if_pos (show (0 : Int) ≤ (A.length : Int) by omega), r, w]
    refine Ev.bind h ?_
    simp only [if_pos (show acc.length < 1466015503701 by omega)]
    have := toNode_go n kd b i u f s l l' (A ++ [x]) (acc ++ [y]) (by rw [← e]; exact hl) (by simp; omega) hs
    rw [e]
    rw [List.append_assoc acc, List.singleton_append] at this
    have hy : (⟨y.f0, y.f1, y.f2, y.f3, y.f4, y.f5, y.f6, y.f7⟩ : S38) = y := by cases y; rfl
    simp only [hy]
    exact this
theorem cast_node {n : ByteArray} {kd : Int} {b : Bool} {i u : Int} {f : Nat} {s : ByteArray} {l : List S34} {l' : List S38} (hl : l.length ≤ 100000) (h : Casts l l') : Cast ⟨n, kd, b, i, u, f, s, l⟩ ⟨n, kd, b, i, u, f, s, l'⟩ := by
  unfold Cast
  refine Ev.step (fun k => by rw [laws_toNode.f]) ?_
  exact toNode_go n kd b i u f s l l' [] [] (by simpa using hl) (by simp) h
theorem cast_leaf {n : ByteArray} {kd : Int} {b : Bool} {i u : Int} {f : Nat} {s : ByteArray} : Cast ⟨n, kd, b, i, u, f, s, []⟩ ⟨n, kd, b, i, u, f, s, []⟩ := cast_node (by simp) .nil
def Same (y : S38) : Prop := Ev (fun k => spec_SameNode.f k y.f0 y.f1 y.f2 y.f3 y.f4 y.f5 y.f6 y.f7 y.f0 y.f1 y.f2 y.f3 y.f4 y.f5 y.f6 y.f7) true
theorem same_go (n n' : ByteArray) (kd kd' : Int) (b b' : Bool) (i u i' u' : Int) (f f' : Nat) (s s' : ByteArray) : ∀ (l A : List S38), (A ++ l).length ≤ 100000 → (∀ x ∈ l, Same x) →
    Ev (fun k => spec_SameNode.l0 k ((A ++ l).length : Int) (A.length : Int) n kd b i u f s (A ++ l) n' kd' b' i' u' f' s' (A ++ l)) true
  | [], A, hl, h => by
    refine Ev.step (fun k => by rw [spec_SameNode.l0]) ?_
    simp only [List.append_nil, if_neg (show ¬ ((A.length : Int) < (A.length : Int)) by omega)]
    exact Ev.now _
  | x :: l, A, hl, h => by
    have hll : A.length + (l.length + 1) ≤ 100000 := by simpa using hl
    refine Ev.step (fun k => by rw [spec_SameNode.l0]) ?_
    have w : wrap64 ((A.length : Int) + 1) = ((A ++ [x]).length : Int) := by rw [wr64 _ (by omega)]; simp
    have e : A ++ x :: l = (A ++ [x]) ++ l := by simp
    have r : rd_T38 (A ++ x :: l) (A.length : Int) = x := by unfold rd_T38; simp
    have cl : (A.length : Int) < ((A ++ x :: l).length : Int) := by simp; omega
    simp only [if_pos cl, if_pos (show (0 : Int) ≤ (A.length : Int) by omega), r, w]
    refine Ev.bind (h x (by simp)) ?_
    simp only [if_true]
    have := same_go n n' kd kd' b b' i u i' u' f f' s s' l (A ++ [x]) (by rw [← e]; exact hl) (fun z hz => h z (by simp [hz]))
    rw [e]
    exact this
theorem same_node {n : ByteArray} {kd : Int} {b : Bool} {i u : Int} {f : Nat} {s : ByteArray} {l : List S38} (hl : l.length ≤ 100000) (h : ∀ x ∈ l, Same x) : Same ⟨n, kd, b, i, u, f, s, l⟩ := by
  unfold Same
  refine Ev.step (fun k => by rw [spec_SameNode.f]) ?_
  have hb : ¬ ((b != b) = true) := by simp
  simp only [if_true, if_neg hb]
  exact same_go n n kd kd b b i u i u f f s s l [] (by simpa using hl) h
theorem same_leaf {n : ByteArray} {kd : Int} {b : Bool} {i u : Int} {f : Nat} {s : ByteArray} : Same ⟨n, kd, b, i, u, f, s, []⟩ := same_node (by simp) (by simp)
end Go.Proofs.YtabfehcpcjcomaaGreatDoor.R
namespace Go.Proofs.YtabfehcpcjcomaaGreatDoor.R
open Go.RowKit Go.Proofs.YtabfehcpcjcomaaGreatDoor.QA0 Go.Proofs.YtabfehcpcjcomaaGreatDoorW.PrintWords Go.Proofs.YtabfehcpcjcomaaGreatDoorW.PrintLast Go.Proofs.YtabfehcpcjcomaaGreatDoorW.PrintMore
set_option linter.unusedVariables false
set_option linter.unusedSimpArgs false
def lfU (n : ByteArray) (v : Int) : S38 := ⟨n, 3, false, 0, v, 0, ⟨#[]⟩, []⟩
def lfU4 (n : ByteArray) (v : Int) : S34 := ⟨n, 3, false, 0, v, 0, ⟨#[]⟩, []⟩
end Go.Proofs.YtabfehcpcjcomaaGreatDoor.R
namespace Go.Proofs.YtabfehcpcjcomaaGreatDoor.R
open Go.RowKit Go.Proofs.YtabfehcpcjcomaaGreatDoor.QA0 Go.Proofs.YtabfehcpcjcomaaGreatDoorW.PrintWords Go.Proofs.YtabfehcpcjcomaaGreatDoorW.PrintLast Go.Proofs.YtabfehcpcjcomaaGreatDoorW.PrintMore
set_option linter.unusedVariables false
set_option linter.unusedSimpArgs false
def ConnFine (rows : List S48) : Prop := ∀ r ∈ rows, r.f1.length = 17 ∧ ∀ x ∈ r.f1, x ≤ 4294967295
theorem counted_len (a : ByteArray) (c : List ByteArray) (n m3 : Int) : ∀ (l A : List Int), (A ++ l).length ≤ 2000000 →
    Ends (fun k => spec_counted.l0 k n 32 m3 (A ++ l) ((A ++ l).length : Int) (A.length : Int) a (A ++ l) c) (fun r => r = true → ((A ++ l).length : Int) = n ∧ ∀ x ∈ l, x ≤ 4294967295)
  | [], A, hl => by
    refine Ends.step (fun k => by rw [spec_counted.l0]) ?_
    simp only [List.append_nil, if_neg (show ¬ ((A.length : Int) < (A.length : Int)) by omega)]
    by_cases e : (A.length : Int) = n
    · simp only [if_pos e]; exact Ends.now fun _ => ⟨e, by simp⟩
    · simp only [if_neg e]; exact Ends.now (by simp)
  | x :: l, A, hl => by
    have hll : A.length + (l.length + 1) ≤ 2000000 := by simpa using hl
    refine Ends.step (fun k => by rw [spec_counted.l0]) ?_
    have w : wrap64 ((A.length : Int) + 1) = ((A ++ [x]).length : Int) := by rw [wr64 _ (by omega)]; simp
    have e : A ++ x :: l = (A ++ [x]) ++ l := by simp
    have r : rd (A ++ x :: l) (A.length : Int) = x := by unfold rd; simp
    have cl : (A.length : Int) < ((A ++ x :: l).length : Int) := by simp; omega
    have h31 : (0 : Int) ≤ wrap64 (32 - 1) := by rw [show wrap64 (32 - 1) = 31 from wr64 31 (by omega)]; omega
    simp only [if_pos cl, if_pos (show (0 : Int) ≤ (A.length : Int) by omega), if_pos h31, r, w, lim32]
    by_cases d : x > 4294967295
    · simp only [if_pos d]; exact Ends.now (by simp)
    · simp only [if_neg d]
      have := counted_len a c n m3 l (A ++ [x]) (by rw [← e]; exact hl)
      rw [← e] at this
      refine this.mono fun r hr h => ⟨(hr h).1, fun y hy => ?_⟩
      rcases List.mem_cons.1 hy with hy | hy
      · rw [hy]; omega
      · exact (hr h).2 y hy
theorem counted17 (a : ByteArray) (l : List Int) (c : List ByteArray) (m3 : Int) (hl : l.length ≤ 2000000) : Ends (fun k => spec_counted.f k a l c 17 32 m3) (fun r => r = true → l.length = 17 ∧ ∀ x ∈ l, x ≤ 4294967295) := by
  unfold spec_counted.f
  exact (counted_len a c 17 m3 l [] (by simpa using hl)).mono fun r hr h => ⟨by have := (hr h).1; simp only [List.nil_append] at this; omega, (hr h).2⟩
theorem cfine_go : ∀ (l A : List S48), (A ++ l).length ≤ 2000000 → (∀ r ∈ l, r.f1.length ≤ 2000000) →
    Ends (fun k => spec_conntrackFine.l0 k (A ++ l) ((A ++ l).length : Int) (A.length : Int)) (fun r => r = true → ConnFine l)
  | [], A, hl, hx => by
    refine Ends.step (fun k => by rw [spec_conntrackFine.l0]) ?_
    simp only [List.append_nil, if_neg (show ¬ ((A.length : Int) < (A.length : Int)) by omega)]
    exact Ends.now fun _ r hr => by cases hr
  | x :: l, A, hl, hx => by
    have hll : A.length + (l.length + 1) ≤ 2000000 := by simpa using hl
    refine Ends.step (fun k => by rw [spec_conntrackFine.l0]) ?_
    have w : wrap64 ((A.length : Int) + 1) = ((A ++ [x]).length : Int) := by rw [wr64 _ (by omega)]; simp
    have e : A ++ x :: l = (A ++ [x]) ++ l := by simp
    have cl : (A.length : Int) < ((A ++ x :: l).length : Int) := by simp; omega
    simp only [if_pos cl, if_pos (show (0 : Int) ≤ (A.length : Int) by omega), rd48_mid, w]
    by_cases a : x.f0.toList = []
    · simp only [if_pos a]
      refine Ends.bind (counted17 x.f0 x.f1 x.f2 0 (hx x (by simp))) fun t ht => ?_
      by_cases c : t = true
      · simp only [if_pos c]
        have := cfine_go l (A ++ [x]) (by rw [← e]; exact hl) (fun r hr => hx r (by simp [hr]))
        rw [← e] at this
        refine this.mono fun r hr h y hy => ?_
        rcases List.mem_cons.1 hy with hy | hy
        · rw [hy]; exact ht c
        · exact hr h y hy
      · simp only [if_neg c]; exact Ends.now (by simp)
    · simp only [if_neg a]; exact Ends.now (by simp)
theorem cfine_ends (l : List S48) (hl : l.length ≤ 2000000) (hx : ∀ r ∈ l, r.f1.length ≤ 2000000) : Ends (fun k => spec_conntrackFine.f k l) (fun r => r = true → ConnFine l) := by
  unfold spec_conntrackFine.f
  exact cfine_go l [] (by simpa using hl) hx
theorem conn_l1 (x5 : List S48) (LS : List ByteArray) (N19 x19 : Int) (Q : List Int → (List S48 × Bool × Int) → Prop) (h5 : x5.length < 2199023255552)
    (hk : ∀ ns : List Int, (∀ x ∈ ns, U64 x) → ns.length ≤ 2000000 → Ends (fun k => spec_ConntrackRead.l0 k (x5 ++ [rowN ns]) LS N19 (wrap64 (x19 + 1))) (fun r => r.2.2 = 1 → Q ns r)) :
    ∀ (l A : List Bs) (nums : List Int), (A ++ l).length ≤ 1048576 → (∀ f ∈ A ++ l, f.length ≤ 1048576) → nums.length ≤ A.length → (∀ x ∈ nums, U64 x) →
      Ends (fun k => spec_ConntrackRead.l1 k x5 LS N19 x19 ((A ++ l).map B) (((A ++ l).map B).length : Int) (A.length : Int) ⟨#[]⟩ nums) (fun r => r.2.2 = 1 → ∃ ns, hexAll l = some ns ∧ Q (nums ++ ns) r)
  | [], A, nums, hl, hf, hn, hu => by
    refine Ends.step (fun k => by rw [spec_ConntrackRead.l1]) ?_
    have c : ¬ ((A.length : Int) < (((A ++ []).map B).length : Int)) := by simp
    simp only [List.append_nil] at hl
    simp only [if_neg c, if_pos h5]
    refine (hk nums hu (by omega)).mono fun r hr h => ⟨[], rfl, ?_⟩
    rw [List.append_nil]
    exact hr h
  | f :: l, A, nums, hl, hf, hn, hu => by
    have hll : A.length + (l.length + 1) ≤ 1048576 := by simpa using hl
    refine Ends.step (fun k => by rw [spec_ConntrackRead.l1]) ?_
    have w : wrap64 ((A.length : Int) + 1) = ((A ++ [f]).length : Int) := by rw [wr64 _ (by omega)]; simp
    have e : A ++ f :: l = (A ++ [f]) ++ l := by simp
    have r : rdOf ByteArray.empty ((A ++ f :: l).map B) (A.length : Int) = B f := by
      have := rd_mid (A.map B) (B f) (l.map B)
      rw [List.length_map] at this
      rw [List.map_append]
      exact this
    have cl : (A.length : Int) < (((A ++ f :: l).map B).length : Int) := by simp; omega
    simp only [if_pos cl, if_pos (show (0 : Int) ≤ (A.length : Int) by omega), r, w]
    refine Ends.bind (number16 f (hf f (by simp))) fun t ht => ?_
    by_cases c : t.2 = true
    · simp only [if_pos c]
      have hx := ht.2 c
      by_cases d : ((B f).size : Int) = 8
      · simp only [if_pos d, if_pos (show nums.length < 17592186044416 by omega)]
        have hu' : ∀ x ∈ nums ++ [t.1], U64 x := by
          intro x hm
          rcases List.mem_append.1 hm with hm | hm
          · exact hu x hm
          · rw [List.mem_singleton.1 hm]; exact ht.1
        have := conn_l1 x5 LS N19 x19 Q h5 hk l (A ++ [f]) (nums ++ [t.1]) (by rw [← e]; exact hl) (by rw [← e]; exact hf) (by simp; omega) hu'
        rw [← e] at this
        refine this.mono fun r hr h => ?_
        obtain ⟨ns, h1, h2⟩ := hr h
        have ht1 : ((t.1.toNat : Nat) : Int) = t.1 := by have := ht.1; unfold U64 at this; omega
        refine ⟨t.1 :: ns, ?_, ?_⟩
        · simp only [hexAll, hx, Option.bind_some, h1, Option.map_some, ht1]
        · rw [List.append_assoc] at h2; exact h2
      · simp only [if_neg d]; exact Ends.now (by simp)
    · simp only [if_neg c]; exact Ends.now (by simp)
theorem conn_go : ∀ (l A : List Bs) (rows : List (List Int)), (A ++ l).length ≤ 1048576 → (∀ x ∈ A ++ l, x.length ≤ 1048000) → rows.length ≤ A.length → (∀ n ∈ rows, n.length ≤ 2000000) →
    Ends (fun k => spec_ConntrackRead.l0 k (rows.map rowN) ((A ++ l).map B) (((A ++ l).map B).length : Int) (A.length : Int))
      (fun r => r.2.2 = 1 → ∃ N, HexRows l N ∧ r.1 = (rows ++ N).map rowN ∧ r.2.1 = true ∧ ConnFine r.1 ∧ Ev (fun k => spec_conntrackFine.f k r.1) true)
  | [], A, rows, hl, hx, hr, hn => by
    simp only [List.append_nil] at hl
    refine Ends.step (fun k => by rw [spec_ConntrackRead.l0]) ?_
    have c : ¬ ((A.length : Int) < (((A ++ []).map B).length : Int)) := by simp
    simp only [if_neg c]
    obtain ⟨t, ht, hp⟩ := cfine_ends (rows.map rowN) (by simp; omega) (by
      intro r hr
      obtain ⟨n, hn', rfl⟩ := List.mem_map.1 hr
      exact hn n hn')
    refine Ends.bind ⟨t, ht, rfl⟩ (P := fun x => x = t) fun x hx => ?_
    subst hx
    unfold spec_told.f
    by_cases e : x = true
    · simp only [if_pos e, Option.bind_some]
      subst e
      exact Ends.now fun _ => ⟨[], .nil, by simp, rfl, hp rfl, ht⟩
    · simp only [if_neg e, Option.bind_some]
      exact Ends.now (by simp)
  | x :: l, A, rows, hl, hx, hr, hn => by
    have hll : A.length + (l.length + 1) ≤ 1048576 := by simpa using hl
    refine Ends.step (fun k => by rw [spec_ConntrackRead.l0]) ?_
    have e : A ++ x :: l = (A ++ [x]) ++ l := by simp
    have w : wrap64 ((A.length : Int) + 1) = ((A ++ [x]).length : Int) := by rw [wr64 _ (by omega)]; simp
    have r : rdOf ByteArray.empty ((A ++ x :: l).map B) (A.length : Int) = B x := by
      have := rd_mid (A.map B) (B x) (l.map B)
      rw [List.length_map] at this
      rw [List.map_append]
      exact this
    have cl : (A.length : Int) < (((A ++ x :: l).map B).length : Int) := by simp; omega
    simp only [if_pos cl, if_pos (show (0 : Int) ≤ (A.length : Int) by omega), r]
    have hxl := hx x (by simp)
    refine Ends.bind (Ends.ev (fieldsL_ev x (by omega))) fun fs hfs => ?_
    subst hfs
    have hfn := fgo_n x []
    have hfl := fgo_len x []
    simp only [if_true, List.length_nil, Nat.add_zero, Nat.zero_add] at hfn hfl
    have := conn_l1 (rows.map rowN) ((A ++ x :: l).map B) (((A ++ x :: l).map B).length : Int) (A.length : Int)
      (fun ns r => ∃ N, HexRows l N ∧ r.1 = (rows ++ ns :: N).map rowN ∧ r.2.1 = true ∧ ConnFine r.1 ∧ Ev (fun k => spec_conntrackFine.f k r.1) true) (by simp; omega)
      (fun ns hu hns => by
        have := conn_go l (A ++ [x]) (rows ++ [ns]) (by rw [← e]; exact hl) (by rw [← e]; exact hx) (by simp; omega) (by
          intro n hm
          rcases List.mem_append.1 hm with hm | hm
          · exact hn n hm
          · rw [List.mem_singleton.1 hm]; exact hns)
        rw [← e, ← w] at this
        simp only [List.map_append, List.map_cons, List.map_nil] at this ⊢
        refine this.mono fun r hr h => ?_
        obtain ⟨N, h1, h2, h3⟩ := hr h
        exact ⟨N, h1, by simpa using h2, h3⟩)
      (fieldsL x) [] [] (by unfold fieldsL; simp; omega) (by
        intro f hf
        have := hfl f (by simpa [fieldsL] using hf)
        omega) (by simp) (by simp)
    refine this.mono fun r hr h => ?_
    obtain ⟨ns, h1, N, h2, h3⟩ := hr h
    exact ⟨ns :: N, .cons h1 h2, h3⟩
theorem begins_ev (T H : ByteArray) (hs : T.size ≤ 40000) : ∃ r, spec_Begins.f T H = some r ∧ (r = true → H.size ≤ T.size ∧ T.extract 0 H.size = H) := by
  unfold spec_Begins.f
  by_cases c : (T.size : Int) ≥ (H.size : Int)
  · simp only [if_pos c, if_pos (show (0 : Int) ≤ (H.size : Int) by omega), if_pos (show (H.size : Int) ≤ (T.size : Int) from c)]
    refine ⟨_, rfl, fun h => ⟨by omega, ?_⟩⟩
    have := eq_of_beq h
    rw [Int.toNat_natCast] at this
    exact toList_inj this
  · simp only [if_neg c]
    exact ⟨false, rfl, fun h => by cases h⟩
theorem conn_read (T : ByteArray) (hs : T.size ≤ 40000) (H : ByteArray) (hH : H.size = 165) (hf : ∀ k, spec_ConntrackRead.f k T = (spec_Plain.f k T).bind fun t1229 => (if t1229 = true then ((spec_Begins.f T H).bind fun t1230 => (spec_ConntrackRead.j0 k T (!t1230))) else (spec_ConntrackRead.j0 k T true))) :
    Ends (fun k => spec_ConntrackRead.f k T)
    (fun r => r.2.2 = 1 → ∃ N, T.data.toList.all plainT = true ∧ T.data.toList = H.data.toList ++ T.data.toList.drop 165 ∧ HexRows (linesL (T.data.toList.drop 165)) N ∧ r.1 = N.map rowN ∧ r.2.1 = true ∧ ConnFine r.1 ∧ Ev (fun k => spec_conntrackFine.f k r.1) true) := by
  have no : ∀ (P : List S48 × Bool × Int → Prop), Ends (fun k => spec_ConntrackRead.j0 k T true) (fun r => r.2.2 = 1 → P r) := by
    intro P
    refine Ends.step (fun k => by rw [spec_ConntrackRead.j0]) ?_
    simp only [if_true]
    exact Ends.now (fun h => by simp at h)
  simp only [hf]
  refine Ends.bind (plain_text T hs) fun p hp => ?_
  by_cases c : p = true
  · simp only [if_pos c]
    obtain ⟨b, hb, hb2⟩ := begins_ev T H hs
    simp only [hb, Option.bind_some]
    cases b with
    | false => simp only [Bool.not_false]; exact no _
    | true =>
      simp only [Bool.not_true]
      obtain ⟨h1, h2⟩ := hb2 rfl
      refine Ends.step (fun k => by rw [spec_ConntrackRead.j0]) ?_
      have hz : T.data.toList.length = T.size := by simp
      simp only [Bool.false_eq_true, if_false, if_pos (show (165 : Int) ≤ (T.size : Int) by omega)]
      have hx : T.extract 165 T.size = B (T.data.toList.drop 165) := by
        have := B_drop T.data.toList 165
        rw [← B_of T] at this
        exact this
      have hL := linesL_ev (T.data.toList.drop 165) (by rw [List.length_drop]; omega)
      rw [hx]
      refine Ends.bind (Ends.ev hL) fun ls hls => ?_
      subst hls
      have h3 := lines_n (T.data.toList.drop 165) []
      have h4 := lines_len (T.data.toList.drop 165) []
      simp only [if_true, List.length_nil, Nat.add_zero, Nat.zero_add, List.length_drop] at h3 h4
      have := conn_go (linesL (T.data.toList.drop 165)) [] [] (by unfold linesL; simp only [List.nil_append]; omega) (by
        intro x hx
        have := h4 x (by simpa [linesL] using hx)
        omega) (by simp) (by simp)
      refine this.mono fun r hr h => ?_
      obtain ⟨N, a, b⟩ := hr h
      refine ⟨N, hp c, ?_, a, by simpa using b⟩
      have e : T.data.toList.take 165 = H.data.toList := by
        have := B_take T.data.toList 165
        rw [← B_of T] at this
        rw [hH] at h2
        rw [h2] at this
        rw [this, B_data]
      rw [← e]
      exact (List.take_append_drop 165 _).symm
  · simp only [if_neg c]; exact no _
end Go.Proofs.YtabfehcpcjcomaaGreatDoor.R
namespace Go.Proofs.YtabfehcpcjcomaaGreatDoor.R
open Go.RowKit Go.Proofs.YtabfehcpcjcomaaGreatDoor.QA0 Go.Proofs.YtabfehcpcjcomaaGreatDoorW.PrintWords Go.Proofs.YtabfehcpcjcomaaGreatDoorW.PrintLast Go.Proofs.YtabfehcpcjcomaaGreatDoorW.PrintMore
set_option linter.unusedVariables false
set_option linter.unusedSimpArgs false
theorem line_head : ∀ (h r : Bs), (∀ c ∈ h, c ≠ 10) → lineOf (h ++ 10 :: r) = h
  | [], r, _ => by simp [lineOf]
  | c :: h, r, hh => by
    have hc : (c != 10) = true := bne_iff_ne.2 (hh c (by simp))
    have := line_head h r (fun x hx => hh x (by simp [hx]))
    unfold lineOf at this ⊢
    rw [List.cons_append, List.takeWhile_cons, if_pos hc, this]
theorem rest_head (h r : Bs) (hh : ∀ c ∈ h, c ≠ 10) : restOf (h ++ 10 :: r) = r := by
  unfold restOf
  rw [line_head h r hh]
  have e : h ++ 10 :: r = (h ++ [10]) ++ r := by simp
  have l : h.length + 1 = (h ++ [(10 : UInt8)]).length := by simp
  rw [e, l, List.drop_left]
theorem conn_parse : ∀ (n : Nat) (l : Bs) (N : List (List Int)) (acc : List S103) (L : ByteArray), l.length ≤ n → l.length ≤ 40000 → l.all plainT = true → HexRows (linesL l) N → (∀ r ∈ N, r.length = 17 ∧ ∀ x ∈ r, x ≤ 4294967295) → acc.length + l.length ≤ 40001 →
    Ev (fun k => connGo k (B l) L 65536 none acc) (acc ++ N.map connOf)
  | n, [], N, acc, L, hn, hl, hp, hr, hf, h5 => by
    refine Ev.step (fun k => by rw [connGo]) ?_
    obtain rfl : N = [] := by
      have := hexRows_len hr
      exact List.eq_nil_of_length_eq_zero (this.trans rfl)
    simp only [scan_nil, Option.bind_some, Bool.false_eq_true, if_false, List.map_nil, List.append_nil]
    exact Ev.now _
  | 0, c :: l, N, acc, L, hn, hl, hp, hr, hf, h5 => by simp at hn
  | n + 1, c :: l, N, acc, L, hn, hl, hp, hr, hf, h5 => by
    have h0 : c :: l ≠ [] := by simp
    have hpl := line_plain _ h0 hp
    have hrp := rest_plain _ hp
    have hll := line_le (c :: l)
    have hrl : (restOf (c :: l)).length ≤ l.length := by unfold restOf; rw [List.length_drop]; simp only [List.length_cons]; omega
    rw [linesL_cons _ h0] at hr
    have hsc := scan_cons (c :: l) L h0 hl hpl
    have hln : (lineOf (c :: l)).length ≤ 1048576 := by omega
    generalize lineOf (c :: l) = ln at *
    generalize restOf (c :: l) = rest at *
    obtain ⟨ns, N', rfl, hh, hr'⟩ : ∃ ns N', N = ns :: N' ∧ hexAll (fieldsL ln) = some ns ∧ HexRows (linesL rest) N' := by
      cases hr with
      | cons a b => exact ⟨_, _, rfl, a, b⟩
    obtain ⟨hw, hu⟩ := hf ns (by simp)
    have hfl : ∀ f ∈ fieldsL ln, f.length ≤ 1048576 := by
      intro f hf
      have := fgo_len ln [] f hf
      simp only [List.length_nil, Nat.zero_add] at this
      omega
    have htl : ((fieldsL ln).map bs).length = 17 := by rw [List.length_map, ← hexAll_len _ _ hh]; exact hw
    have hcf : connF ((fieldsL ln).map bs) = some ns := by
      unfold connF
      rw [if_pos htl]
      exact hexs_of _ _ hh hu hfl
    have hfi := fields_plain ln hpl hln
    have ih := conn_parse n rest N' (acc ++ [connOf ns]) (B ln) (by simp only [List.length_cons] at hn; omega) (by simp only [List.length_cons] at hl; omega) hrp hr' (fun r hr => hf r (by simp [hr])) (by simp only [List.length_append, List.length_cons, List.length_nil] at *; omega)
    refine Ev.step (fun k => by rw [connGo]) ?_
    have hacc : acc.length < 1000000 := by simp only [List.length_cons] at h5; omega
    simp only [hsc, Option.bind_some, if_true, hfi, hcf, if_pos hacc]
    rw [List.append_assoc] at ih
    exact ih
theorem connT_ev (h rest : Bs) (hh : ∀ c ∈ h, c ≠ 10) (hs : (h ++ 10 :: rest).length ≤ 40000) (N : List (List Int)) (hp : (h ++ 10 :: rest).all plainT = true) (hr : HexRows (linesL rest) N) (hf : ∀ r ∈ N, r.length = 17 ∧ ∀ x ∈ r, x ≤ 4294967295) :
    Ev (fun k => connT k (B (h ++ 10 :: rest))) (N.map connOf) := by
  have h0 : h ++ 10 :: rest ≠ [] := by simp
  have hsc := scan_cons (h ++ 10 :: rest) ⟨#[]⟩ h0 hs (line_plain _ h0 hp)
  have hrp := rest_plain _ hp
  rw [rest_head h rest hh] at hsc hrp
  unfold connT
  simp only [hsc, Option.bind_some]
  have hl : rest.length ≤ 40000 := by simp only [List.length_append, List.length_cons] at hs; omega
  have := conn_parse rest.length rest N [] (B (lineOf (h ++ 10 :: rest))) (Nat.le_refl _) hl hrp hr hf (by simp only [List.length_nil]; omega)
  exact this
def connKids4 (s : S103) : List S34 := [lfU4 ⟨#[69, 110, 116, 114, 105, 101, 115]⟩ s.f0, lfU4 ⟨#[83, 101, 97, 114, 99, 104, 101, 100]⟩ s.f1, lfU4 ⟨#[70, 111, 117, 110, 100]⟩ s.f2, lfU4 ⟨#[78, 101, 119]⟩ s.f3, lfU4 ⟨#[73, 110, 118, 97, 108, 105, 100]⟩ s.f4, lfU4 ⟨#[73, 103, 110, 111, 114, 101]⟩ s.f5, lfU4 ⟨#[68, 101, 108, 101, 116, 101]⟩ s.f6, lfU4 ⟨#[68, 101, 108, 101, 116, 101, 76, 105, 115, 116]⟩ s.f7, lfU4 ⟨#[73, 110, 115, 101, 114, 116]⟩ s.f8, lfU4 ⟨#[73, 110, 115, 101, 114, 116, 70, 97, 105, 108, 101, 100]⟩ s.f9, lfU4 ⟨#[68, 114, 111, 112]⟩ s.f10, lfU4 ⟨#[69, 97, 114, 108, 121, 68, 114, 111, 112]⟩ s.f11, lfU4 ⟨#[83, 101, 97, 114, 99, 104, 82, 101, 115, 116, 97, 114, 116]⟩ s.f12]
def connNode4 (s : S103) : S34 := ⟨⟨#[]⟩, 8, false, 0, 0, 0, ⟨#[]⟩, connKids4 s⟩
theorem conn_kid (s : S103) : impl_Conntrack_1_1.f s.f0 s.f1 s.f2 s.f3 s.f4 s.f5 s.f6 s.f7 s.f8 s.f9 s.f10 s.f11 s.f12 = some ((⟨#[]⟩ : ByteArray), 8, false, 0, 0, 0, (⟨#[]⟩ : ByteArray), connKids4 s) := by
  unfold impl_Conntrack_1_1.f impl_procfsConntrackStatEntry.f
  rfl
theorem conn76_go (nm : ByteArray) : ∀ (l A : List S103) (acc : List S34), (A ++ l).length ≤ 1000000 → acc.length ≤ A.length →
    Ev (fun k => procfs_ConntrackStatEntry_76.l0 k (A ++ l) ((A ++ l).length : Int) (A.length : Int) nm 6 false 0 0 0 ⟨#[]⟩ acc) (nm, 6, false, 0, 0, 0, (⟨#[]⟩ : ByteArray), acc ++ l.map connNode4)
  | [], A, acc, hl, ha => by
    refine Ev.step (fun k => by rw [procfs_ConntrackStatEntry_76.l0]) ?_
    simp only [List.append_nil, if_neg (show ¬ ((A.length : Int) < (A.length : Int)) by omega), List.map_nil]
    exact Ev.now _
  | x :: l, A, acc, hl, ha => by
    have hll : A.length + (l.length + 1) ≤ 1000000 := by simpa using hl
    refine Ev.step (fun k => by rw [procfs_ConntrackStatEntry_76.l0]) ?_
    have w : wrap64 ((A.length : Int) + 1) = ((A ++ [x]).length : Int) := by rw [wr64 _ (by omega)]; simp
    have e : A ++ x :: l = (A ++ [x]) ++ l := by simp
    have r : rd_T103 (A ++ x :: l) (A.length : Int) = x := by unfold rd_T103; simp
    have cl : (A.length : Int) < ((A ++ x :: l).length : Int) := by simp; omega
    simp only [if_pos cl, if_pos (show (0 : Int) ≤ (A.length : Int) by omega), r, w, conn_kid, Option.bind_some, if_pos (show acc.length < 1466015503701 by omega)]
    have := conn76_go nm l (A ++ [x]) (acc ++ [connNode4 x]) (by rw [← e]; exact hl) (by simp; omega)
    rw [e]
    rw [List.append_assoc acc] at this
    exact this
theorem conn_impl (T : ByteArray) (hs : T.size ≤ 40000) (l : List S103) (hl : l.length ≤ 1000000) (h : Ev (fun k => connT k T) l) :
    Ev (fun k => impl_Conntrack.f k T) ((⟨#[]⟩ : ByteArray), 6, false, 0, 0, 0, (⟨#[]⟩ : ByteArray), l.map connNode4, 0) := by
  unfold impl_Conntrack.f
  simp only [if_pos (show T.size ≤ 1048576 by omega)]
  refine Ev.bind h ?_
  have h1 : Ev (fun k => impl_Conntrack_1.f k l) ((⟨#[]⟩ : ByteArray), 6, false, 0, 0, 0, (⟨#[]⟩ : ByteArray), l.map connNode4) := by
    unfold impl_Conntrack_1.f procfs_ConntrackStatEntry_76.f
    refine Ev.bind (conn76_go ⟨#[]⟩ l [] [] (by simpa using hl) (by simp)) ?_
    exact Ev.now _
  obtain ⟨K, hK⟩ := h1
  refine ⟨K, fun k hk => ?_⟩
  have h2 : impl_Conntrack_1.f k l = _ := hK k hk
  show Option.map _ (impl_Conntrack_1.f k l) = _
  rw [h2]
  rfl
def connKids (n : List Int) : List S38 := [lfU ⟨#[69, 110, 116, 114, 105, 101, 115]⟩ (rd n 0), lfU ⟨#[83, 101, 97, 114, 99, 104, 101, 100]⟩ (rd n 1), lfU ⟨#[70, 111, 117, 110, 100]⟩ (rd n 2), lfU ⟨#[78, 101, 119]⟩ (rd n 3), lfU ⟨#[73, 110, 118, 97, 108, 105, 100]⟩ (rd n 4), lfU ⟨#[73, 103, 110, 111, 114, 101]⟩ (rd n 5), lfU ⟨#[68, 101, 108, 101, 116, 101]⟩ (rd n 6), lfU ⟨#[68, 101, 108, 101, 116, 101, 76, 105, 115, 116]⟩ (rd n 7), lfU ⟨#[73, 110, 115, 101, 114, 116]⟩ (rd n 8), lfU ⟨#[73, 110, 115, 101, 114, 116, 70, 97, 105, 108, 101, 100]⟩ (rd n 9), lfU ⟨#[68, 114, 111, 112]⟩ (rd n 10), lfU ⟨#[69, 97, 114, 108, 121, 68, 114, 111, 112]⟩ (rd n 11), lfU ⟨#[83, 101, 97, 114, 99, 104, 82, 101, 115, 116, 97, 114, 116]⟩ (rd n 16)]
def connNode (n : List Int) : S38 := ⟨⟨#[]⟩, 8, false, 0, 0, 0, ⟨#[]⟩, connKids n⟩
def connNames : List ByteArray := [⟨#[69, 110, 116, 114, 105, 101, 115]⟩, ⟨#[83, 101, 97, 114, 99, 104, 101, 100]⟩, ⟨#[70, 111, 117, 110, 100]⟩, ⟨#[78, 101, 119]⟩, ⟨#[73, 110, 118, 97, 108, 105, 100]⟩, ⟨#[73, 103, 110, 111, 114, 101]⟩, ⟨#[68, 101, 108, 101, 116, 101]⟩, ⟨#[68, 101, 108, 101, 116, 101, 76, 105, 115, 116]⟩, ⟨#[73, 110, 115, 101, 114, 116]⟩, ⟨#[73, 110, 115, 101, 114, 116, 70, 97, 105, 108, 101, 100]⟩, ⟨#[68, 114, 111, 112]⟩, ⟨#[69, 97, 114, 108, 121, 68, 114, 111, 112]⟩, ⟨#[83, 101, 97, 114, 99, 104, 82, 101, 115, 116, 97, 114, 116]⟩]
theorem conn_t1 (x4 : List S38) (rows : List S48) (x16 x17 : Int) (n : List Int) (hn : n.length = 17) (h4 : x4.length ≤ 1000000) (f0 : ByteArray) (f2 : List ByteArray) {r : ByteArray × Int × Bool × Int × Int × Nat × ByteArray × (List (S38)) × Int}
    (hk : Ev (fun k => spec_ConntrackTree.l0 k (x4 ++ [connNode n]) rows x16 (wrap64 (x17 + 1))) r) :
    Ev (fun k => spec_ConntrackTree.l1 k x4 [] rows x16 x17 connNames (connNames.length : Int) 0 f0 n f2) r := by
  have hlen : (connNames.length : Int) = 13 := rfl
  have st : ∀ (i : Int) (y : List S38), 0 ≤ i → i < 12 → y.length ≤ 40 → ∀ k, spec_ConntrackTree.l1 (k + 1) x4 y rows x16 x17 connNames (connNames.length : Int) i f0 n f2 = spec_ConntrackTree.l1 k x4 (y ++ [lfU (rdOf ByteArray.empty connNames i) (rd n i)]) rows x16 x17 connNames (connNames.length : Int) (i + 1) f0 n f2 := by
    intro i y h0 h1 hy k
    have w : wrap64 (i + 1) = i + 1 := wr64 _ (by omega)
    rw [spec_ConntrackTree.l1, if_pos (by rw [hlen]; omega), if_pos h0, if_pos (by rw [hlen]; omega), if_neg (show ¬ i = 12 by omega), if_pos (show i < (n.length : Int) by omega)]
    simp only [spec_uintNode.f, Option.bind_some, if_pos (show y.length < 1466015503701 by omega), w]
    rfl
  have st12 : ∀ (y : List S38), y.length ≤ 40 → ∀ k, spec_ConntrackTree.l1 (k + 1) x4 y rows x16 x17 connNames (connNames.length : Int) 12 f0 n f2 = spec_ConntrackTree.l1 k x4 (y ++ [lfU (rdOf ByteArray.empty connNames 12) (rd n 16)]) rows x16 x17 connNames (connNames.length : Int) 13 f0 n f2 := by
    intro y hy k
    have w : wrap64 (12 + 1) = 13 := wr64 _ (by omega)
    rw [spec_ConntrackTree.l1, if_pos (by rw [hlen]; omega), if_pos (by omega), if_pos (by rw [hlen]; omega), if_pos rfl, if_pos (show (16 : Int) < (n.length : Int) by omega)]
    simp only [spec_uintNode.f, Option.bind_some, if_pos (show y.length < 1466015503701 by omega), w]
    rfl
  refine Ev.step (st 0 _ (by omega) (by omega) (by simp)) ?_
  refine Ev.step (st 1 _ (by omega) (by omega) (by simp)) ?_
  refine Ev.step (st 2 _ (by omega) (by omega) (by simp)) ?_
  refine Ev.step (st 3 _ (by omega) (by omega) (by simp)) ?_
  refine Ev.step (st 4 _ (by omega) (by omega) (by simp)) ?_
  refine Ev.step (st 5 _ (by omega) (by omega) (by simp)) ?_
  refine Ev.step (st 6 _ (by omega) (by omega) (by simp)) ?_
  refine Ev.step (st 7 _ (by omega) (by omega) (by simp)) ?_
  refine Ev.step (st 8 _ (by omega) (by omega) (by simp)) ?_
  refine Ev.step (st 9 _ (by omega) (by omega) (by simp)) ?_
  refine Ev.step (st 10 _ (by omega) (by omega) (by simp)) ?_
  refine Ev.step (st 11 _ (by omega) (by omega) (by simp)) ?_
  refine Ev.step (st12 _ (by simp)) ?_
  refine Ev.step (fun k => by rw [spec_ConntrackTree.l1]) ?_
  have hc : ¬ ((13 : Int) < (connNames.length : Int)) := by rw [hlen]; omega
  simp only [if_neg hc, spec_recordNode.f, Option.bind_some, if_pos (show x4.length < 1466015503701 by omega)]
  exact hk
theorem conn_t0 : ∀ (l A : List (List Int)) (acc : List S38), (A ++ l).length ≤ 1000000 → acc.length ≤ A.length → (∀ n ∈ l, n.length = 17) →
    Ev (fun k => spec_ConntrackTree.l0 k acc ((A ++ l).map rowN) (((A ++ l).map rowN).length : Int) (A.length : Int)) ((⟨#[]⟩ : ByteArray), 6, false, 0, 0, 0, (⟨#[]⟩ : ByteArray), acc ++ l.map connNode, 1)
  | [], A, acc, hl, ha, hn => by
    refine Ev.step (fun k => by rw [spec_ConntrackTree.l0]) ?_
    simp only [List.append_nil, List.length_map, if_neg (show ¬ ((A.length : Int) < (A.length : Int)) by omega), spec_listNode.f, Option.bind_some, List.map_nil]
    exact Ev.now _
  | x :: l, A, acc, hl, ha, hn => by
    have hll : A.length + (l.length + 1) ≤ 1000000 := by simpa using hl
    refine Ev.step (fun k => by rw [spec_ConntrackTree.l0]) ?_
    have w : wrap64 ((A.length : Int) + 1) = ((A ++ [x]).length : Int) := by rw [wr64 _ (by omega)]; simp
    have e : A ++ x :: l = (A ++ [x]) ++ l := by simp
    have r : rd_T48 ((A ++ x :: l).map rowN) (A.length : Int) = rowN x := by
      have := rd48_mid (A.map rowN) (rowN x) (l.map rowN)
      rw [List.length_map] at this
      rw [List.map_append]
      exact this
    have cl : (A.length : Int) < (((A ++ x :: l).map rowN).length : Int) := by simp; omega
    have hnm : spec_conntrackNames.f = some connNames := rfl
    simp only [if_pos cl, if_pos (show (0 : Int) ≤ (A.length : Int) by omega), r, hnm, Option.bind_some]
    have := conn_t0 l (A ++ [x]) (acc ++ [connNode x]) (by rw [← e]; exact hl) (by simp; omega) (fun n h => hn n (by simp [h]))
    rw [List.append_assoc acc] at this
    rw [← e] at this
    exact conn_t1 acc ((A ++ x :: l).map rowN) (((A ++ x :: l).map rowN).length : Int) (A.length : Int) x (hn x (by simp)) (by omega) ⟨#[]⟩ [] (by rw [w]; exact this)
theorem conn_tree (N : List (List Int)) (hl : N.length ≤ 1000000) (hn : ∀ n ∈ N, n.length = 17) (hfi : Ev (fun k => spec_conntrackFine.f k (N.map rowN)) true) :
    Ev (fun k => spec_ConntrackTree.f k (N.map rowN)) ((⟨#[]⟩ : ByteArray), 6, false, 0, 0, 0, (⟨#[]⟩ : ByteArray), N.map connNode, 1) := by
  unfold spec_ConntrackTree.f
  refine Ev.bind hfi ?_
  simp only [if_true]
  exact conn_t0 N [] [] (by simpa using hl) (by simp) hn
theorem conn_cast (n : List Int) : Cast (connNode4 (connOf n)) (connNode n) :=
  cast_node (by simp [connKids4]) (.cons cast_leaf (.cons cast_leaf (.cons cast_leaf (.cons cast_leaf (.cons cast_leaf (.cons cast_leaf (.cons cast_leaf (.cons cast_leaf (.cons cast_leaf (.cons cast_leaf (.cons cast_leaf (.cons cast_leaf (.cons cast_leaf (.nil))))))))))))))
theorem conn_casts : ∀ N : List (List Int), Casts ((N.map connOf).map connNode4) (N.map connNode)
  | [] => .nil
  | n :: N => .cons (conn_cast n) (conn_casts N)
theorem conn_same (n : List Int) : Same (connNode n) := same_node (by simp [connKids]) (by
  intro x hx
  simp only [connKids, List.mem_cons, List.not_mem_nil, or_false] at hx
  rcases hx with rfl | rfl | rfl | rfl | rfl | rfl | rfl | rfl | rfl | rfl | rfl | rfl | rfl <;> exact same_leaf)
end Go.Proofs.YtabfehcpcjcomaaGreatDoor.R
namespace Go.Proofs.YtabfehcpcjcomaaGreatDoor.QA0
open Go.RowKit Go.Proofs.YtabfehcpcjcomaaGreatDoorW.PrintWords Go.Proofs.YtabfehcpcjcomaaGreatDoorW.PrintLast Go.Proofs.YtabfehcpcjcomaaGreatDoorW.PrintMore
attribute [local go_sem] max2_int min2_int max_two min_two max_three min_three max_four min_four
set_option linter.unusedVariables false
set_option linter.unusedSimpArgs false
def laws_FnConntrackRead.f (k : Nat) (a0 : ByteArray) : Option (Bool) := if (a0.size : Int) > 2147483647 then (some true) else ((laws_read_19_20_21.f k a0 () () ()).bind fun t1356 => (some t1356))
set_option maxHeartbeats 8000000 in
set_option maxRecDepth 100000 in
theorem laws_FnConntrackRead.calls (k : Nat) (a0 : ByteArray) (r : Bool) (w : World) (h : laws_FnConntrackRead.f k a0 = some r) (hTabs : R.LTabs w := by first | assumption | exact Aside0.out ‹Aside0 (R.LTabs _)› | exact R.LTabs.below (Aside0.out ‹Aside0 (R.LTabs _)›) (by repeat (first | (with_reducible first | exact Aside0.out ‹Aside0 (Below _ _ _)› | exact Below.refl _ _ | apply below_alloc | apply pw_below_drewN | apply below_drew1)))) :
 Calls Tryz.prog 6 #[.string a0] w fun e w' => e = .returned (.bool r) ∧ Below w.heap.size w w' := by
 have HTabs := Aside0.mk hTabs; clear hTabs; have HB := Aside0.mk (Below.refl w.heap.size w); have H : (if (a0.size : Int) > 2147483647 then (some true) else ((laws_read_19_20_21.f k a0 () () ()).bind fun t1356 => (some t1356))) = some r := h; clear h
 by_cases c2 : (a0.size : Int) > 2147483647
 · rw [if_pos c2] at H; have c2b0 : decide (2147483647 < (a0.size : Int)) = true := decide_eq_true c2; have c2b1 : decide (2147483647 < a0.size) = true := decide_eq_true (by omega); clear c2; obtain rfl := Option.some.inj H
   go_enter Tryz.func6, Tryz.ntmps6
   go_wp2
   go_ret
   exact ⟨by first | rfl | (simp [errW_none, errW_some] <;> rfl) | (simp [*, errW_none, errW_some] <;> rfl), by repeat (first | (with_reducible first | exact HB.out | apply below_alloc | apply pw_below_drewN | apply below_drew1) | exact HB.out)⟩
 · rw [if_neg c2] at H; have c2b0 : decide (2147483647 < (a0.size : Int)) = false := decide_eq_false c2; have c2b1 : decide (2147483647 < a0.size) = false := decide_eq_false (by omega); clear c2; replace H := Option.bind_eq_some_iff.mp H; obtain ⟨t1356, A30, H⟩ := H; replace H : (some t1356) = some r := H; have A3 := Aside0.mk A30; clear A30; obtain rfl := Option.some.inj H
   go_enter Tryz.func6, Tryz.ntmps6
   go_wp2_with (first | ((with_reducible refine gate_callee (f := 9) rfl ?_); refine goesL_ (some 7) rfl rfl Tryz.func9 (by kernel_rfl) rfl #[.string a0, .func (.func 19) #[] #[], .func (.func 20) #[] #[], .func (.func 21) #[] #[]] rfl (by (try simp only [List.map_toArray, List.map_cons, List.map_nil]); first | done | rfl | (simp only [List.length_drop, List.length_take]; rfl)) ?_; (with_reducible refine (laws_read_19_20_21.calls k a0 () () () t1356 _ A3.out).mono ?_); rintro e w4 ⟨rfl, hb⟩; refine ⟨_, rfl, ?_⟩; have n0_ := Aside0.mk (below_step (by repeat (first | (with_reducible first | exact HB.out | apply below_alloc | apply pw_below_drewN | apply below_drew1) | exact HB.out)) hb); clear HB; have HB := n0_; clear n0_; (try clear hb); (try clear hb2); (try clear hk); (try clear hi)))
   go_ret
   exact ⟨by first | rfl | (simp [errW_none, errW_some] <;> rfl) | (simp [*, errW_none, errW_some] <;> rfl), by repeat (first | (with_reducible first | exact HB.out | apply below_alloc | apply pw_below_drewN | apply below_drew1) | exact HB.out)⟩
def laws_FnConntrackRead.Pure : Prop := ∀ (a0 : ByteArray), a0.size ≤ 140737488351232 → ∃ k, laws_FnConntrackRead.f k a0 = some true
theorem laws_FnConntrackRead.walk (P : laws_FnConntrackRead.Pure) (a0 : ByteArray) (w : World) (w0 : a0.size ≤ 140737488351232) (hTabs : R.LTabs w) :
 Calls Tryz.prog 6 #[.string a0] w fun e w' => e = .returned (.bool true) ∧ Below w.heap.size w w' := by
 obtain ⟨k, h⟩ := P a0 w0; refine (laws_FnConntrackRead.calls k a0 true w h).mono ?_; rintro e w' ⟨rfl, hd⟩; exact ⟨rfl, hd⟩
end Go.Proofs.YtabfehcpcjcomaaGreatDoor.QA0
namespace Go.Proofs.YtabfehcpcjcomaaGreatDoor.R
open Go.RowKit Go.Proofs.YtabfehcpcjcomaaGreatDoor.QA0 Go.Proofs.YtabfehcpcjcomaaGreatDoorW.PrintWords Go.Proofs.YtabfehcpcjcomaaGreatDoorW.PrintLast Go.Proofs.YtabfehcpcjcomaaGreatDoorW.PrintMore
set_option linter.unusedVariables false
set_option linter.unusedSimpArgs false
def connHL : Bs := [101, 110, 116, 114, 105, 101, 115, 32, 32, 115, 101, 97, 114, 99, 104, 101, 100, 32, 102, 111, 117, 110, 100, 32, 110, 101, 119, 32, 105, 110, 118, 97, 108, 105, 100, 32, 105, 103, 110, 111, 114, 101, 32, 100, 101, 108, 101, 116, 101, 32, 100, 101, 108, 101, 116, 101, 95, 108, 105, 115, 116, 32, 105, 110, 115, 101, 114, 116, 32, 105, 110, 115, 101, 114, 116, 95, 102, 97, 105, 108, 101, 100, 32, 100, 114, 111, 112, 32, 101, 97, 114, 108, 121, 95, 100, 114, 111, 112, 32, 105, 99, 109, 112, 95, 101, 114, 114, 111, 114, 32, 32, 101, 120, 112, 101, 99, 116, 95, 110, 101, 119, 32, 101, 120, 112, 101, 99, 116, 95, 99, 114, 101, 97, 116, 101, 32, 101, 120, 112, 101, 99, 116, 95, 100, 101, 108, 101, 116, 101, 32, 115, 101, 97, 114, 99, 104, 95, 114, 101, 115, 116, 97, 114, 116]
def connHead : ByteArray := ⟨(connHL ++ [10]).toArray⟩
set_option maxRecDepth 100000 in
theorem connHead_list : connHead.data.toList = connHL ++ [10] := rfl
set_option maxRecDepth 100000 in
theorem connHead_size : connHead.size = 165 := rfl
set_option maxRecDepth 100000 in
theorem connHL_no : ∀ c ∈ connHL, c ≠ 10 := by decide
set_option maxRecDepth 100000 in
theorem conn_read_f (T : ByteArray) (k : Nat) : spec_ConntrackRead.f k T = (spec_Plain.f k T).bind fun t1229 => (if t1229 = true then ((spec_Begins.f T connHead).bind fun t1230 => (spec_ConntrackRead.j0 k T (!t1230))) else (spec_ConntrackRead.j0 k T true)) := rfl
theorem conntrack_pure : laws_FnConntrackRead.Pure := by
  intro a0 hz
  refine Ev.rounds (g := fun k => laws_FnConntrackRead.f k a0) ?_
  unfold laws_FnConntrackRead.f
  by_cases c : (a0.size : Int) > 2147483647
  · simp only [if_pos c]; exact Ev.now _
  · simp only [if_neg c]
    refine Ev.bind ?_ (Ev.now _)
    unfold laws_read_19_20_21.f
    by_cases d : (a0.size : Int) > 40000
    · simp only [if_pos d]; exact Ev.now _
    · simp only [if_neg d]
      have hs : a0.size ≤ 40000 := by omega
      obtain ⟨r, hr, hp⟩ := conn_read a0 hs connHead connHead_size (conn_read_f a0)
      refine Ev.bind hr ?_
      by_cases e : r.2.2 = 1
      · obtain ⟨N, hpl, hsp, hrows, h1, h2, hfine, hev⟩ := hp e
        rw [h1] at hfine hev
        have hf : ∀ n ∈ N, n.length = 17 ∧ ∀ x ∈ n, x ≤ 4294967295 := fun n hn => hfine (rowN n) (List.mem_map.2 ⟨n, hn, rfl⟩)
        have hzl : a0.data.toList.length = a0.size := by simp
        have hlen : N.length ≤ 40001 := by
          rw [hexRows_len hrows]
          have := lines_n (a0.data.toList.drop 165) []
          simp only [if_true, Nat.add_zero, List.length_drop] at this
          unfold linesL
          omega
        rw [connHead_list] at hsp
        generalize a0.data.toList.drop 165 = rest at hsp hrows
        have hsp2 : a0.data.toList = connHL ++ 10 :: rest := by rw [hsp]; simp
        have hTB : a0 = B (connHL ++ 10 :: rest) := by rw [← hsp2]; exact B_of a0
        have hct := connT_ev connHL rest connHL_no (by rw [← hsp2]; omega) N (by rw [← hsp2]; exact hpl) hrows hf
        rw [← hTB] at hct
        simp only [if_pos e, if_pos h2, h1]
        refine Ev.bind (conn_impl a0 hs (N.map connOf) (by simp; omega) hct) ?_
        refine Ev.bind (conn_tree N (by omega) (fun n hn => (hf n hn).1) hev) ?_
        simp only [if_true]
        have hn := cast_node (n := ⟨#[]⟩) (kd := 6) (b := false) (i := 0) (u := 0) (f := 0) (s := ⟨#[]⟩) (l := (N.map connOf).map connNode4) (by simp; omega) (conn_casts N)
        refine Ev.bind hn ?_
        have hm := same_node (n := ⟨#[]⟩) (kd := 6) (b := false) (i := 0) (u := 0) (f := 0) (s := ⟨#[]⟩) (l := N.map connNode) (by simp; omega) (by
          intro x hx
          obtain ⟨n, _, rfl⟩ := List.mem_map.1 hx
          exact conn_same n)
        refine Ev.bind hm ?_
        simp only [if_true, laws_lives.f, Option.bind_some]
        exact Ev.now _
      · simp only [if_neg e, laws_lives.f, Option.bind_some]
        exact Ev.now _
end Go.Proofs.YtabfehcpcjcomaaGreatDoor.R
namespace Go.Proofs.YtabfehcpcjcomaaGreatDoor.fnConntrackRead
open Go.ChangeShapes Go.WideShapes Go.ChangeAt Go.RowKit
open Go.ChangeMaps (open_string shut_string)
open Go.Proofs.YtabfehcpcjcomaaGreatDoorW.PrintWords Go.Proofs.YtabfehcpcjcomaaGreatDoor.R Go.Proofs.YtabfehcpcjcomaaGreatDoor.Ck
set_option linter.unusedVariables false
set_option linter.unusedSimpArgs false
theorem witness_row (os : Os) {H : Type} (enc : TypeId × Value → H) :
    (OpenSpec.ofChange Rows.fnConntrackReadSpec).preRow enc Tryz.prog Tryz.f6 Rows.fnConntrackReadRow.domain false Rows.fnConntrackReadRow.laid ((laidWorld os).forCall (fun _ _ => 0) ⟨#[], #[.string ⟨#[]⟩], []⟩).memory #[.string ⟨#[]⟩] := by
  have hw : (DataW.whole enc Tryz.prog ((laidWorld os).forCall (fun _ _ => 0) ⟨#[], #[.string ⟨#[]⟩], []⟩).memory Tryz.f6.params.toList Rows.fnConntrackReadSpec.vars false (#[.string ⟨#[]⟩] : Array Value).toList 8).map (fun x => (x.1, x.2.1)) =
      some ([.lit (.string [])], []) := by kernel_rfl
  obtain ⟨⟨x1, x2, x3⟩, hx, hx1⟩ := Option.map_eq_some_iff.1 hw
  simp only [Prod.mk.injEq] at hx1
  obtain ⟨rfl, rfl⟩ := hx1
  exact OpenSpec.preRow_of_cond 8 hx (by kernel_rfl) (fun k hk => by cases hk) (by kernel_rfl) (laid_met os _)
set_option maxRecDepth 100000 in
theorem lifted (os : Os) (started : os.Started) (H : Type) (enc : TypeId × Value → H) (F : Stop.Interp) :
    ReturnsInHanded {} Tryz.checked os 6 .any ((OpenSpec.ofChange Rows.fnConntrackReadSpec).preRow enc Tryz.prog Tryz.f6 Rows.fnConntrackReadRow.domain false Rows.fnConntrackReadRow.laid) (((OpenSpec.ofChange Rows.fnConntrackReadSpec).at F).post enc Tryz.prog Tryz.f6 false true false false) := by
  refine returnsInHanded_of_row (C := Tryz.checked) (s := OpenSpec.ofChange Rows.fnConntrackReadSpec) own started (by kernel_rfl) Tryz.func6
    (witness_row_atRef (enc := enc) (C := Tryz.checked) false (laidWorld os) #[.string ⟨#[]⟩] rfl (vars_ok os _) (by kernel_rfl) (by kernel_rfl) (witness_row os enc)) ?_
  intro W base args ds gs before hval0 hW hcnd _ hsz0 hL hsh _
  have hsz : (DataW.weightsEach Tryz.prog (Tryz.f6.params.toList ++ (OpenSpec.ofChange Rows.fnConntrackReadSpec).bare.plain.varTypes Tryz.prog) (ds ++ gs)).all (· ≤ reachBytes) = true := hsz0
  have hval : ∀ (j : Nat) t v, Tryz.f6.params[j]? = some t → args[j]? = some v → Value.okWide Tryz.prog W .any base t v := hval0
  have hW' := hW
  obtain ⟨p, q, hA0, hV, rfl, hfz, hnd⟩ := hW
  have hA : DataW.TrodAll enc Tryz.prog W 0 (fun _ => true) true Tryz.f6.params.toList args.toList ds p := hA0
  rw [Tryz.params6] at hA hval hsz
  obtain ⟨v0, vs0, d0, ds0, p0, q0, hargs, rfl, rfl, h0, r0⟩ := trodAll_cons hA
  obtain ⟨rfl, rfl, rfl⟩ := trodAll_nil r0
  obtain rfl : args = #[v0] := by cases args; simp_all
  obtain ⟨rfl, rfl⟩ := trodVars_none hV
  obtain ⟨a0, rfl, rfl, rfl, y0⟩ := open_string Tryz.underlying9 (hval 0 9 v0 rfl rfl) h0
  have w0 : a0.size ≤ 140737488351232 := by
    have z := sized_string hsz (j := 0) (t := 9) rfl rfl
    rw [Array.length_toList] at z
    exact z
  clear hA0 hval0 hsz0 hsz
  refine (QA0.laws_FnConntrackRead.walk conntrack_pure a0 W w0 (tabs_of (show laidMetH Tryz.prog rowL W from hL))).mono fun e W' ⟨he, bel⟩ => ?_
  subst he
  exact ⟨_, rfl, _, _, _, [], _, [], hW', trodAll_mk1 (shut_bool Tryz.underlying4 _), (trodAll_cons_mk (shut_string Tryz.underlying9 y0) trodAll_mk0), rfl, bel.frame _, fun h => by cases h⟩
theorem said : Rows.FnConntrackReadSaid :=
  OpenClaim.holds_of_cond 6 Tryz.f6 rfl rfl rfl rfl rfl rfl rfl ⟨rfl, rfl, rfl, rfl, rfl⟩ rfl rfl rfl rfl rfl (by kernel_rfl) Tryz.func6 (by kernel_rfl)
    (of_decide_eq_true (by kernel_rfl)) (by unfold Func.isWrapper; first | (rw [if_pos (by decide +kernel)]; kernel_rfl) | (rw [if_neg (by decide +kernel)]; exact ⟨rfl, rfl⟩))
    (fun os started H enc _ F => by rw [OpenClaim.pre_eq_preRow]; exact lifted os started H enc F)
theorem plain (f : FuncId) (fn : Func) (hf : Tryz.pinned.checked.prog.funcNamed "pub-frontispiece/laws.FnConntrackRead" = some f) (hfn : Tryz.pinned.checked.prog.funcs[f]? = some fn) :
    true = Tryz.pinned.checked.prog.looks [] ∧ ∀ (j : Nat) t, fn.params[j]? = some t → Tryz.pinned.checked.prog.wantsStandIn t = false := by
  obtain rfl : f = 6 := Option.some.inj ((show Tryz.prog.funcNamed "pub-frontispiece/laws.FnConntrackRead" = some 6 by kernel_rfl).symm.trans hf) |>.symm
  obtain rfl : fn = Tryz.f6 := (Option.some.inj (Tryz.func6.symm.trans hfn)).symm
  refine ⟨by kernel_rfl, fun j t ht => ?_⟩
  rw [Tryz.params6] at ht
  obtain rfl : t = 9 := by simpa using Array.mem_of_getElem? ht
  exact (show Tryz.prog.wantsStandIn 9 = false by kernel_rfl)
theorem card : Rows.FnConntrackReadCardSaid :=
  Claim7.holds_tied_plain_at .later [] _ _ _ _ said (fun _ h => by cases h) (by kernel_rfl) (fun _ h => by cases h) fnConntrackRead_row_tie rfl ⟨rfl, rfl⟩ (by kernel_rfl) rfl plain (by kernel_rfl)
#print axioms card
end Go.Proofs.YtabfehcpcjcomaaGreatDoor.fnConntrackRead
namespace Go.Proofs.YtabfehcpcjcomaaGreatDoor
theorem fnConntrackRead_card_holds : Rows.FnConntrackReadCardSaid := fnConntrackRead.card
end Go.Proofs.YtabfehcpcjcomaaGreatDoor
