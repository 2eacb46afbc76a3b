/- The texts Pa, Pe, Pg, Ph, Pi, Pb, Pj, QA0x29, Pk, CardFnSoftnetRead, without what the claims do not use, laid together by a program of this session (wip/tools/bundle.py). Conditions: those of each theorem. -/
import Derived.Test.YtabfehcpcjcomaaGreatDoorYc7
import Derived.Test.YtabfehcpcjcomaaGreatDoorYc9
import Derived.Lib.ItoaLen
import Derived.Lib.Fields
import Derived.ShutString
import Derived.ChangeOld
namespace Go.Proofs.YtabfehcpcjcomaaGreatDoor.R
open Go.RowKit Go.Proofs.YtabfehcpcjcomaaGreatDoor.QA0 Go.Proofs.YtabfehcpcjcomaaGreatDoorW.PrintWords Go.Proofs.YtabfehcpcjcomaaGreatDoorW.PrintLast Go.Proofs.YtabfehcpcjcomaaGreatDoorW.PrintMore
set_option linter.unusedVariables false
set_option linter.unusedSimpArgs false
def Ends {α : Type} (g : Nat → Option α) (P : α → Prop) : Prop := ∃ r, Ev g r ∧ P r
section
variable {α β : Type} {g f : Nat → Option α} {P : α → Prop}
theorem Ends.step (h : ∀ k, g (k + 1) = f k) (k : Ends f P) : Ends g P := by
  obtain ⟨r, k, hp⟩ := k
  exact ⟨r, Ev.step h k, hp⟩
theorem Ends.now {r : α} (h : P r) : Ends (fun _ => some r) P := ⟨r, Ev.now r, h⟩
theorem Ends.bind {Q : β → Prop} {h : Nat → α → Option β} (a : Ends g P) (k : ∀ x, P x → Ends (fun n => h n x) Q) : Ends (fun n => (g n).bind (h n)) Q := by
  obtain ⟨r, e, hp⟩ := a
  obtain ⟨q, e', hq⟩ := k r hp
  exact ⟨q, Ev.bind e e', hq⟩
theorem Ends.mono {Q : α → Prop} (a : Ends g P) (h : ∀ x, P x → Q x) : Ends g Q := by
  obtain ⟨r, e, hp⟩ := a
  exact ⟨r, e, h r hp⟩
theorem Ends.ev {r : α} (h : Ev g r) : Ends g (fun x => x = r) := ⟨r, h, rfl⟩
end
def U64 (n : Int) : Prop := 0 ≤ n ∧ n < 18446744073709551616
theorem rd_mid (A : List ByteArray) (b : ByteArray) (l : List ByteArray) : rdOf ByteArray.empty (A ++ b :: l) (A.length : Int) = b := by
  unfold rdOf
  simp
end Go.Proofs.YtabfehcpcjcomaaGreatDoor.R
namespace Go.Proofs.YtabfehcpcjcomaaGreatDoor.R
open Go.RowKit Go.Proofs.YtabfehcpcjcomaaGreatDoor.QA0 Go.Proofs.YtabfehcpcjcomaaGreatDoorW.PrintWords Go.Proofs.YtabfehcpcjcomaaGreatDoorW.PrintLast Go.Proofs.YtabfehcpcjcomaaGreatDoorW.PrintMore
set_option linter.unusedVariables false
set_option linter.unusedSimpArgs false
theorem B_of (T : ByteArray) : T = B T.data.toList := by cases T; rfl
theorem B_mid (P D R : Bs) (i j : Nat) (hi : i = P.length) (hj : j = P.length + D.length) : (B (P ++ (D ++ R))).extract i j = B D := by
  subst hi; subst hj
  unfold B
  apply ByteArray.ext
  simp [ByteArray.extract, ByteArray.copySlice]
theorem bt_mid (P : Bs) (z : UInt8) (R : Bs) : bt (B (P ++ (z :: R))) (P.length : Int) = (z.toNat : Int) := at_B _ _ _ (by simp)
theorem eq10 (z : UInt8) : ((z.toNat : Int) = 10) ↔ z = 10 := by
  constructor
  · intro h; apply UInt8.toNat_inj.1; have : (10 : UInt8).toNat = 10 := rfl; omega
  · intro h; subst h; rfl
theorem eq32 (z : UInt8) : ((z.toNat : Int) = 32) ↔ z = 32 := by
  constructor
  · intro h; apply UInt8.toNat_inj.1; have : (32 : UInt8).toNat = 32 := rfl; omega
  · intro h; subst h; rfl
theorem eq9 (z : UInt8) : ((z.toNat : Int) = 9) ↔ z = 9 := by
  constructor
  · intro h; apply UInt8.toNat_inj.1; have : (9 : UInt8).toNat = 9 := rfl; omega
  · intro h; subst h; rfl
def linesGo : Bs → Bs → List Bs
  | cur, [] => if cur = [] then [] else [cur]
  | cur, c :: l => if c = 10 then cur :: linesGo [] l else linesGo (cur ++ [c]) l
def linesL (l : Bs) : List Bs := linesGo [] l
def fgo : Bs → Bs → List Bs
  | cur, [] => if cur = [] then [] else [cur]
  | cur, c :: l => if c = 32 ∨ c = 9 then (if cur = [] then fgo [] l else cur :: fgo [] l) else fgo (cur ++ [c]) l
def fieldsL (l : Bs) : List Bs := fgo [] l
theorem lines_ev (rest : Bs) : ∀ (P cur : Bs) (x3 : List ByteArray), (P ++ (cur ++ rest)).length ≤ 1048576 → x3.length ≤ P.length →
    Ev (fun k => spec_Lines.l0 k (B (P ++ (cur ++ rest))) x3 (P.length : Int) ((B (P ++ (cur ++ rest))).size : Int) ((P ++ cur).length : Int)) (x3 ++ (linesGo cur rest).map B) := by
  induction rest with
  | nil =>
    intro P cur x3 hl h3
    refine Ev.step (fun k => by rw [spec_Lines.l0]) ?_
    have hs : (B (P ++ (cur ++ []))).size = P.length + cur.length := by rw [B_size]; simp
    have c : ¬ (((P ++ cur).length : Int) < ((B (P ++ (cur ++ []))).size : Int)) := by rw [hs]; simp
    simp only [if_neg c]
    simp only [List.length_append, List.length_nil] at hl
    by_cases e : cur = []
    · subst e
      have d : ¬ ((P.length : Int) < ((B P).size : Int)) := by rw [B_size]; omega
      simp only [List.append_nil, if_neg d, linesGo, if_true, List.map_nil]
      exact Ev.now _
    · have hc : 0 < cur.length := List.length_pos_iff.2 e
      have d : (P.length : Int) < ((B (P ++ (cur ++ []))).size : Int) := by rw [hs]; omega
      have x : (B (P ++ (cur ++ []))).extract ((P.length : Int)).toNat (B (P ++ (cur ++ []))).size = B cur := B_mid P cur [] _ _ (by simp) hs
      simp only [if_pos d, if_pos (show (0 : Int) ≤ (P.length : Int) by omega), if_pos (show (P.length : Int) ≤ ((B (P ++ (cur ++ []))).size : Int) by omega), if_pos (show x3.length < 8796093022208 by omega), x, linesGo, if_neg e, List.map_cons, List.map_nil]
      exact Ev.now _
  | cons z rest ih =>
    intro P cur x3 hl h3
    refine Ev.step (fun k => by rw [spec_Lines.l0]) ?_
    have hs : (B (P ++ (cur ++ z :: rest))).size = P.length + (cur.length + (rest.length + 1)) := by rw [B_size]; simp
    simp only [List.length_append, List.length_cons] at hl
    have c : ((P ++ cur).length : Int) < ((B (P ++ (cur ++ z :: rest))).size : Int) := by rw [hs]; simp; omega
    have hb : bt (B (P ++ (cur ++ z :: rest))) ((P ++ cur).length : Int) = (z.toNat : Int) := by
      have := bt_mid (P ++ cur) z rest
      rw [List.append_assoc] at this
      exact this
    have w : wrap64 (((P ++ cur).length : Int) + 1) = ((P ++ cur).length : Int) + 1 := wr64 _ (by simp; omega)
    simp only [if_pos c, if_pos (show (0 : Int) ≤ ((P ++ cur).length : Int) by omega), hb, w]
    by_cases e : z = 10
    · have e' := (eq10 z).2 e
      have x : (B (P ++ (cur ++ z :: rest))).extract ((P.length : Int)).toNat (((P ++ cur).length : Int)).toNat = B cur := B_mid P cur (z :: rest) _ _ (by simp) (by simp; omega)
      simp only [if_pos e', if_pos (show (0 : Int) ≤ (P.length : Int) by omega), if_pos (show (P.length : Int) ≤ ((P ++ cur).length : Int) by simp; omega), if_pos (show ((P ++ cur).length : Int) ≤ ((B (P ++ (cur ++ z :: rest))).size : Int) by omega), if_pos (show x3.length < 8796093022208 by omega), x]
      have := ih (P ++ (cur ++ [z])) [] (x3 ++ [B cur]) (by simp; omega) (by simp; omega)
      have e1 : P ++ (cur ++ z :: rest) = P ++ (cur ++ [z]) ++ ([] ++ rest) := by simp
      have e2 : ((P ++ (cur ++ [z]) ++ []).length : Int) = ((P ++ cur).length : Int) + 1 := by simp; omega
      have e3 : ((P ++ (cur ++ [z])).length : Int) = ((P ++ cur).length : Int) + 1 := by simp; omega
      rw [← e1, e2, e3] at this
      simp only [linesGo, if_pos e, List.map_cons]
      rw [List.append_assoc] at this
      exact this
    · have e' : ¬ ((z.toNat : Int) = 10) := fun h => e ((eq10 z).1 h)
      simp only [if_neg e']
      have := ih P (cur ++ [z]) x3 (by simp; omega) h3
      have e1 : P ++ (cur ++ z :: rest) = P ++ ((cur ++ [z]) ++ rest) := by simp
      have e2 : ((P ++ (cur ++ [z])).length : Int) = ((P ++ cur).length : Int) + 1 := by simp; omega
      rw [← e1, e2] at this
      simp only [linesGo, if_neg e]
      exact this
theorem linesL_ev (l : Bs) (hl : l.length ≤ 1048576) : Ev (fun k => spec_Lines.f k (B l)) ((linesL l).map B) := by
  unfold spec_Lines.f
  exact lines_ev l [] [] [] (by simpa using hl) (by simp)
theorem fields_ev (rest : Bs) : ∀ (P cur : Bs) (x3 : List ByteArray), (P ++ (cur ++ rest)).length ≤ 1048576 → x3.length ≤ P.length →
    Ev (fun k => spec_Fields.l0 k (B (P ++ (cur ++ rest))) x3 (if cur = [] then -1 else (P.length : Int)) ((B (P ++ (cur ++ rest))).size : Int) ((P ++ cur).length : Int)) (x3 ++ (fgo cur rest).map B) := by
  induction rest with
  | nil =>
    intro P cur x3 hl h3
    refine Ev.step (fun k => by rw [spec_Fields.l0]) ?_
    have hs : (B (P ++ (cur ++ []))).size = P.length + cur.length := by rw [B_size]; simp
    have c : ¬ (((P ++ cur).length : Int) < ((B (P ++ (cur ++ []))).size : Int)) := by rw [hs]; simp
    simp only [if_neg c]
    simp only [List.length_append, List.length_nil] at hl
    by_cases e : cur = []
    · subst e
      simp only [if_true, if_neg (show ¬ ((-1 : Int) ≥ 0) by omega), fgo, List.map_nil, List.append_nil]
      exact Ev.now _
    · have x : (B (P ++ (cur ++ []))).extract ((P.length : Int)).toNat (B (P ++ (cur ++ []))).size = B cur := B_mid P cur [] _ _ (by simp) hs
      simp only [if_neg e, if_pos (show (P.length : Int) ≥ 0 by omega), if_pos (show (0 : Int) ≤ (P.length : Int) by omega), if_pos (show (P.length : Int) ≤ ((B (P ++ (cur ++ []))).size : Int) by omega), if_pos (show x3.length < 8796093022208 by omega), x, fgo, List.map_cons, List.map_nil]
      exact Ev.now _
  | cons z rest ih =>
    intro P cur x3 hl h3
    refine Ev.step (fun k => by rw [spec_Fields.l0]) ?_
    have hs : (B (P ++ (cur ++ z :: rest))).size = P.length + (cur.length + (rest.length + 1)) := by rw [B_size]; simp
    simp only [List.length_append, List.length_cons] at hl
    have c : ((P ++ cur).length : Int) < ((B (P ++ (cur ++ z :: rest))).size : Int) := by rw [hs]; simp; omega
    have hb : bt (B (P ++ (cur ++ z :: rest))) ((P ++ cur).length : Int) = (z.toNat : Int) := by
      have := bt_mid (P ++ cur) z rest
      rw [List.append_assoc] at this
      exact this
    have w : wrap64 (((P ++ cur).length : Int) + 1) = ((P ++ cur).length : Int) + 1 := wr64 _ (by simp; omega)
    simp only [if_pos c, if_pos (show (0 : Int) ≤ ((P ++ cur).length : Int) by omega), hb]
    have blank : (z = 32 ∨ z = 9) → Ev (fun k => spec_Fields.j1 k (B (P ++ (cur ++ z :: rest))) x3 (if cur = [] then -1 else (P.length : Int)) ((P ++ cur).length : Int) true ((B (P ++ (cur ++ z :: rest))).size : Int) ((P ++ cur).length : Int)) (x3 ++ (fgo cur (z :: rest)).map B) := by
      intro hz
      refine Ev.step (fun k => by rw [spec_Fields.j1]) ?_
      simp only [if_true]
      refine Ev.step (fun k => by rw [spec_Fields.j2]) ?_
      by_cases e : cur = []
      · subst e
        have hd : decide ((-1 : Int) ≥ 0) = false := rfl
        simp only [if_true, hd, Bool.false_eq_true, if_false, w]
        have := ih (P ++ [z]) [] x3 (by simp; omega) (by simp; omega)
        have e1 : P ++ (([] : Bs) ++ z :: rest) = P ++ [z] ++ ([] ++ rest) := by simp
        have e2 : ((P ++ [z] ++ ([] : Bs)).length : Int) = ((P ++ ([] : Bs)).length : Int) + 1 := by simp
        rw [← e1, e2] at this
        simp only [fgo, if_pos hz, if_true] at this ⊢
        exact this
      · have hd : decide ((P.length : Int) ≥ 0) = true := decide_eq_true (by omega)
        have x : (B (P ++ (cur ++ z :: rest))).extract ((P.length : Int)).toNat (((P ++ cur).length : Int)).toNat = B cur := B_mid P cur (z :: rest) _ _ (by simp) (by simp; omega)
        simp only [if_neg e, hd, if_true, if_pos (show (0 : Int) ≤ (P.length : Int) by omega), if_pos (show (P.length : Int) ≤ ((P ++ cur).length : Int) by simp; omega), if_pos (show ((P ++ cur).length : Int) ≤ ((B (P ++ (cur ++ z :: rest))).size : Int) by omega), if_pos (show x3.length < 8796093022208 by omega), x, w]
        have := ih (P ++ (cur ++ [z])) [] (x3 ++ [B cur]) (by simp; omega) (by simp; omega)
        have e1 : P ++ (cur ++ z :: rest) = P ++ (cur ++ [z]) ++ ([] ++ rest) := by simp
        have e2 : ((P ++ (cur ++ [z]) ++ []).length : Int) = ((P ++ cur).length : Int) + 1 := by simp; omega
        rw [← e1, e2] at this
        simp only [fgo, if_pos hz, if_neg e, if_true, List.map_cons] at this ⊢
        rw [List.append_assoc] at this
        exact this
    by_cases e32 : z = 32
    · simp only [if_pos ((eq32 z).2 e32)]
      exact blank (.inl e32)
    · simp only [if_neg (show ¬ ((z.toNat : Int) = 32) from fun h => e32 ((eq32 z).1 h))]
      by_cases e9 : z = 9
      · have : (((z.toNat : Int) == 9) : Bool) = true := beq_iff_eq.2 ((eq9 z).2 e9)
        simp only [this]
        exact blank (.inr e9)
      · have : (((z.toNat : Int) == 9) : Bool) = false := beq_eq_false_iff_ne.2 (fun h => e9 ((eq9 z).1 h))
        simp only [this]
        refine Ev.step (fun k => by rw [spec_Fields.j1]) ?_
        simp only [Bool.false_eq_true, if_false]
        refine Ev.step (fun k => by rw [spec_Fields.j2]) ?_
        simp only [Bool.false_eq_true, if_false, w]
        have := ih P (cur ++ [z]) x3 (by simp; omega) h3
        have e1 : P ++ (cur ++ z :: rest) = P ++ ((cur ++ [z]) ++ rest) := by simp
        have e2 : ((P ++ (cur ++ [z])).length : Int) = ((P ++ cur).length : Int) + 1 := by simp; omega
        have e3 : ¬ (cur ++ [z] = []) := by simp
        have ef : fgo cur (z :: rest) = fgo (cur ++ [z]) rest := by rw [fgo, if_neg (show ¬ (z = 32 ∨ z = 9) by rintro (h | h); exact e32 h; exact e9 h)]
        rw [← e1, e2, if_neg e3] at this
        rw [ef]
        by_cases e : cur = []
        · subst e
          have e4 : ((P ++ ([] : Bs)).length : Int) = (P.length : Int) := by simp
          simp only [if_true, if_pos (show (-1 : Int) < 0 by omega)]
          rw [e4] at this ⊢
          exact this
        · simp only [if_neg e, if_neg (show ¬ ((P.length : Int) < 0) by omega)]
          exact this
theorem fieldsL_ev (l : Bs) (hl : l.length ≤ 1048576) : Ev (fun k => spec_Fields.f k (B l)) ((fieldsL l).map B) := by
  unfold spec_Fields.f
  exact fields_ev l [] [] [] (by simpa using hl) (by simp)
def plainC (c : UInt8) : Bool := c == 9 || (decide (32 ≤ c.toNat) && decide (c.toNat ≤ 126))
theorem fgo_lib : ∀ (l cur : Bs), l.all plainC = true → Lib.fieldsGo cur l = fgo cur l
  | [], cur, _ => by
    cases cur <;> simp [Lib.fieldsGo, fgo]
  | c :: l, cur, h => by
    simp only [List.all_cons, Bool.and_eq_true] at h
    obtain ⟨hc, hl⟩ := h
    by_cases e : c = 32 ∨ c = 9
    · have hs : Lib.isSp c = true := by rcases e with rfl | rfl <;> rfl
      cases cur with
      | nil => rw [Lib.fieldsGo_sp _ _ hs, fgo_lib l [] hl]; simp [fgo, e]
      | cons a r => rw [Lib.fieldsGo_end _ _ _ hs (by simp), fgo_lib l [] hl]; simp [fgo, e]
    · have hs : Lib.isSp c = false := by
        unfold plainC at hc
        simp only [Bool.or_eq_true, beq_iff_eq, Bool.and_eq_true, decide_eq_true_eq] at hc
        have h9 : ¬ c = 9 := fun h => e (.inr h)
        have h32 : ¬ c = 32 := fun h => e (.inl h)
        have key : ∀ m : UInt8, m.toNat < 32 → ¬ (c = m) := by intro m hm he; rw [he] at hc; rcases hc with hc | hc; exact h9 (he.trans hc); omega
        unfold Lib.isSp
        simp [h9, h32, key 10 (by decide), key 11 (by decide), key 12 (by decide), key 13 (by decide)]
      rw [Lib.fieldsGo_more _ _ _ hs, fgo_lib l _ hl]
      simp [fgo, e]
theorem linesGo_eq : ∀ (l cur : Bs), linesGo cur l = if cur = [] ∧ l = [] then [] else (cur ++ l.takeWhile (fun c => c != 10)) :: linesGo [] (l.drop ((l.takeWhile (fun c => c != 10)).length + 1))
  | [], cur => by
    by_cases h : cur = []
    · simp [linesGo, h]
    · simp [linesGo, h]
  | c :: l, cur => by
    by_cases h : c = 10
    · subst h; simp [linesGo]
    · have hb : (c != 10) = true := bne_iff_ne.2 h
      rw [linesGo, if_neg h, linesGo_eq l (cur ++ [c])]
      simp [List.takeWhile_cons, hb]
end Go.Proofs.YtabfehcpcjcomaaGreatDoor.R
namespace Go.Proofs.YtabfehcpcjcomaaGreatDoor.R
open Go.RowKit Go.Proofs.YtabfehcpcjcomaaGreatDoor.QA0 Go.Proofs.YtabfehcpcjcomaaGreatDoorW.PrintWords Go.Proofs.YtabfehcpcjcomaaGreatDoorW.PrintLast Go.Proofs.YtabfehcpcjcomaaGreatDoorW.PrintMore
set_option linter.unusedVariables false
set_option linter.unusedSimpArgs false
theorem digit_ev (c : UInt8) : Ev (fun k => spec_digit.f k (c.toNat : Int)) ((hexV c : Nat) : Int) := by
  refine ⟨2, fun k hk => ?_⟩
  obtain ⟨m, rfl⟩ : ∃ m, k = m + 2 := ⟨k - 2, by omega⟩
  have hlt := c.toNat_lt
  unfold hexV
  generalize c.toNat = n at hlt ⊢
  unfold spec_digit.f
  dsimp only
  by_cases a : 48 ≤ n ∧ n ≤ 57
  · rw [if_pos (show (n : Int) ≥ 48 by omega), if_pos a, spec_digit.j0, decide_eq_true (show (n : Int) ≤ 57 by omega), if_pos rfl]
    congr 1; omega
  · have key : ∀ b : Bool, b = false → spec_digit.j0 (m + 2) (n : Int) b = some (((if 97 ≤ n ∧ n ≤ 102 then n - 87 else if 65 ≤ n ∧ n ≤ 70 then n - 55 else 99 : Nat)) : Int) := by
      intro b hb
      subst hb
      rw [spec_digit.j0, if_neg (by simp)]
      have key1 : ∀ b : Bool, b = false → ¬ (97 ≤ n ∧ n ≤ 102) → spec_digit.j1 (m + 1) (n : Int) b = some (((if 65 ≤ n ∧ n ≤ 70 then n - 55 else 99 : Nat)) : Int) := by
        intro b hb h
        subst hb
        rw [spec_digit.j1, if_neg (by simp)]
        by_cases e : 65 ≤ n ∧ n ≤ 70
        · rw [if_pos (show (n : Int) ≥ 65 by omega), if_pos (show (n : Int) ≤ 70 by omega), if_pos e]
          congr 1; omega
        · rw [if_neg e]
          by_cases f : (n : Int) ≥ 65
          · rw [if_pos f, if_neg (show ¬ (n : Int) ≤ 70 by omega)]; rfl
          · rw [if_neg f]; rfl
      by_cases d : 97 ≤ n ∧ n ≤ 102
      · rw [if_pos (show (n : Int) ≥ 97 by omega), if_pos d, spec_digit.j1, decide_eq_true (show (n : Int) ≤ 102 by omega), if_pos rfl]
        congr 1; omega
      · rw [if_neg d]
        by_cases f : (n : Int) ≥ 97
        · rw [if_pos f]; exact key1 _ (decide_eq_false (by omega)) d
        · rw [if_neg f]; exact key1 _ rfl d
    rw [if_neg a]
    by_cases f : (n : Int) ≥ 48
    · rw [if_pos f]; exact key _ (decide_eq_false (by omega))
    · rw [if_neg f]; exact key _ rfl
theorem number16_go (rest : Bs) : ∀ (P : Bs) (acc : Nat), acc < 18446744073709551616 → (P ++ rest).length ≤ 1048576 →
    Ends (fun k => spec_Number.l0 k (B (P ++ rest)) 16 (acc : Int) ((B (P ++ rest)).size : Int) (P.length : Int)) (fun r => U64 r.1 ∧ (r.2 = true → hexN acc rest = some r.1.toNat ∧ P ++ rest ≠ [])) := by
  induction rest with
  | nil =>
    intro P acc ha hl
    refine Ends.step (fun k => by rw [spec_Number.l0]) ?_
    have hs : (B (P ++ [])).size = P.length := by rw [B_size]; simp
    simp only [if_neg (show ¬ ((P.length : Int) < ((B (P ++ [])).size : Int)) by rw [hs]; omega)]
    refine Ends.now ⟨by unfold U64; omega, fun h => ⟨by simp [hexN], ?_⟩⟩
    intro e
    rw [e] at h
    simp [ByteArray.toList_eq, B] at h
  | cons z rest ih =>
    intro P acc ha hl
    have hs : (B (P ++ z :: rest)).size = P.length + (rest.length + 1) := by rw [B_size]; simp
    have hll : P.length + (rest.length + 1) ≤ 1048576 := by simpa using hl
    refine Ends.step (fun k => by rw [spec_Number.l0]) ?_
    have w : wrap64 ((P.length : Int) + 1) = (P.length : Int) + 1 := wr64 _ (by omega)
    simp only [if_pos (show (P.length : Int) < ((B (P ++ z :: rest)).size : Int) by rw [hs]; omega), if_pos (show (0 : Int) ≤ (P.length : Int) by omega), bt_mid, w]
    refine Ends.bind (Ends.ev (digit_ev z)) fun d hd => ?_
    rw [hd]
    by_cases c : hexV z < 16
    · simp only [if_neg (show ¬ (((hexV z : Nat) : Int) ≥ 16) by omega), if_neg (show ¬ ((16 : Int) = 0) by omega)]
      have q : IntKind.u64.wrap (Int.tdiv (IntKind.u64.wrap (18446744073709551615 - ((hexV z : Nat) : Int))) 16) = (((18446744073709551615 - hexV z) / 16 : Nat) : Int) := by
        rw [u64w (18446744073709551615 - ((hexV z : Nat) : Int)) (by omega), Int.tdiv_eq_ediv_of_nonneg (by omega), u64w _ (by omega)]
        omega
      simp only [q]
      by_cases e : (acc : Int) > (((18446744073709551615 - hexV z) / 16 : Nat) : Int)
      · simp only [if_pos e]
        exact Ends.now ⟨by unfold U64; omega, by simp⟩
      · simp only [if_neg e]
        have v : IntKind.u64.wrap (IntKind.u64.wrap ((acc : Int) * 16) + ((hexV z : Nat) : Int)) = ((acc * 16 + hexV z : Nat) : Int) := by
          rw [u64w ((acc : Int) * 16) (by omega), u64w _ (by omega)]
          omega
        simp only [v]
        have := ih (P ++ [z]) (acc * 16 + hexV z) (by omega) (by simp; omega)
        have e1 : P ++ [z] ++ rest = P ++ z :: rest := by simp
        have e2 : ((P ++ [z]).length : Int) = (P.length : Int) + 1 := by simp
        rw [e1, e2] at this
        refine this.mono fun r hr => ⟨hr.1, fun h => ?_⟩
        obtain ⟨h1, h2⟩ := hr.2 h
        exact ⟨by simp only [hexN, if_pos c]; exact h1, h2⟩
    · simp only [if_pos (show (((hexV z : Nat) : Int) ≥ 16) by omega)]
      exact Ends.now ⟨by unfold U64; omega, by simp⟩
theorem number16 (l : Bs) (hl : l.length ≤ 1048576) : Ends (fun k => spec_Number.f k (B l) 16) (fun r => U64 r.1 ∧ (r.2 = true → hexF l = some r.1.toNat)) := by
  unfold spec_Number.f
  have := number16_go l [] 0 (by omega) (by simpa using hl)
  refine this.mono fun r hr => ⟨hr.1, fun h => ?_⟩
  obtain ⟨h1, h2⟩ := hr.2 h
  unfold hexF
  rw [if_neg (by simpa using h2)]
  exact h1
theorem plain_is (T : ByteArray) : ∀ (n : Nat) (x7 : Int), 0 ≤ x7 → x7 ≤ (T.size : Int) → n = ((T.size : Int) - x7).toNat → T.size ≤ 40000 → Ends (fun k => spec_Plain.l0 k T (T.size : Int) x7) (fun r => r = true → ∀ i : Nat, x7 ≤ (i : Int) → i < T.size → bt T (i : Int) = 9 ∨ bt T (i : Int) = 10 ∨ (32 ≤ bt T (i : Int) ∧ bt T (i : Int) ≤ 126))
  | 0, x7, h0, h1, hn, hs => by
    refine Ends.step (fun k => by rw [spec_Plain.l0]) ?_
    simp only [if_neg (show ¬ (x7 < (T.size : Int)) by omega)]
    exact Ends.now fun _ i hi hi2 => by omega
  | n + 1, x7, h0, h1, hn, hs => by
    refine Ends.step (fun k => by rw [spec_Plain.l0]) ?_
    have w : wrap64 (x7 + 1) = x7 + 1 := wr64 _ (by omega)
    have ih := plain_is T n (x7 + 1) (by omega) (by omega) (by omega) hs
    have on : (bt T x7 = 9 ∨ bt T x7 = 10 ∨ (32 ≤ bt T x7 ∧ bt T x7 ≤ 126)) → Ends (fun k => spec_Plain.l0 k T (T.size : Int) (x7 + 1)) (fun r => r = true → ∀ i : Nat, x7 ≤ (i : Int) → i < T.size → bt T (i : Int) = 9 ∨ bt T (i : Int) = 10 ∨ (32 ≤ bt T (i : Int) ∧ bt T (i : Int) ≤ 126)) := by
      intro hx
      refine ih.mono fun r hr h i hi hi2 => ?_
      by_cases e : x7 = (i : Int)
      · rw [← e]; exact hx
      · exact hr h i (by omega) hi2
    simp only [if_pos (show x7 < (T.size : Int) by omega), if_pos h0, w]
    by_cases c : bt T x7 > 126
    · simp only [if_pos c]; exact Ends.now (by simp)
    · simp only [if_neg c]
      by_cases d : bt T x7 < 32
      · simp only [if_pos d]
        by_cases e : bt T x7 = 10
        · simp only [if_pos e]; exact on (.inr (.inl e))
        · simp only [if_neg e]
          by_cases e : bt T x7 = 9
          · simp only [if_pos e]; exact on (.inl e)
          · simp only [if_neg e]; exact Ends.now (by simp)
      · simp only [if_neg d]; exact on (.inr (.inr (by omega)))
def plainT (c : UInt8) : Bool := c == 10 || plainC c
theorem plain_text (T : ByteArray) (hs : T.size ≤ 40000) : Ends (fun k => spec_Plain.f k T) (fun r => r = true → T.data.toList.all plainT = true) := by
  unfold spec_Plain.f
  refine (plain_is T _ 0 (by omega) (by omega) rfl hs).mono fun r hr h => ?_
  rw [List.all_eq_true]
  intro c hc
  obtain ⟨i, hi, rfl⟩ := List.getElem_of_mem hc
  have hi' : i < T.size := by simpa using hi
  have := hr h i (by omega) hi'
  rw [bt_list T i hi'] at this
  unfold plainT plainC
  simp only [Bool.or_eq_true, beq_iff_eq, Bool.and_eq_true, decide_eq_true_eq]
  rcases this with h | h | h
  · exact .inr (.inl ((eq9 _).1 h))
  · exact .inl ((eq10 _).1 h)
  · exact .inr (.inr ⟨by omega, by omega⟩)
theorem lines_plain : ∀ (l cur : Bs), l.all plainT = true → cur.all plainC = true → ∀ x ∈ linesGo cur l, x.all plainC = true
  | [], cur, _, hc, x, hx => by
    unfold linesGo at hx
    split at hx
    · cases hx
    · rw [List.mem_singleton.1 hx]; exact hc
  | c :: l, cur, h, hc, x, hx => by
    simp only [List.all_cons, Bool.and_eq_true] at h
    unfold linesGo at hx
    split at hx
    · rcases List.mem_cons.1 hx with hx | hx
      · rw [hx]; exact hc
      · exact lines_plain l [] h.2 (by simp) x hx
    · rename_i hn
      have h1 : plainC c = true := by
        have := h.1
        unfold plainT at this
        simp only [Bool.or_eq_true, beq_iff_eq] at this
        exact this.resolve_left hn
      exact lines_plain l (cur ++ [c]) h.2 (by simp [hc, h1]) x hx
theorem lines_len : ∀ (l cur : Bs), ∀ x ∈ linesGo cur l, x.length ≤ cur.length + l.length
  | [], cur, x, hx => by
    unfold linesGo at hx
    split at hx
    · cases hx
    · rw [List.mem_singleton.1 hx]; omega
  | c :: l, cur, x, hx => by
    unfold linesGo at hx
    split at hx
    · rcases List.mem_cons.1 hx with hx | hx
      · rw [hx]; omega
      · have := lines_len l [] x hx; simp only [List.length_cons, List.length_nil] at *; omega
    · have := lines_len l (cur ++ [c]) x hx; simp only [List.length_append, List.length_cons, List.length_nil] at *; omega
theorem lines_n : ∀ (l cur : Bs), (linesGo cur l).length ≤ l.length + (if cur = [] then 0 else 1)
  | [], cur => by
    unfold linesGo
    split <;> simp
  | c :: l, cur => by
    unfold linesGo
    split
    · have := lines_n l []
      simp only [if_true, List.length_cons] at *
      split <;> omega
    · have := lines_n l (cur ++ [c])
      rw [if_neg (by simp)] at this
      simp only [List.length_cons]
      split <;> omega
theorem fgo_n : ∀ (l cur : Bs), (fgo cur l).length ≤ l.length + (if cur = [] then 0 else 1)
  | [], cur => by
    unfold fgo
    split <;> simp
  | c :: l, cur => by
    unfold fgo
    split
    · have := fgo_n l []
      simp only [if_true] at this
      split
      · simp only [List.length_cons]; omega
      · simp only [List.length_cons]; omega
    · have := fgo_n l (cur ++ [c])
      rw [if_neg (by simp)] at this
      simp only [List.length_cons]
      split <;> omega
theorem fgo_len : ∀ (l cur : Bs), ∀ x ∈ fgo cur l, x.length ≤ cur.length + l.length
  | [], cur, x, hx => by
    unfold fgo at hx
    split at hx
    · cases hx
    · rw [List.mem_singleton.1 hx]; omega
  | c :: l, cur, x, hx => by
    unfold fgo at hx
    split at hx
    · split at hx
      · have := fgo_len l [] x hx; simp only [List.length_cons, List.length_nil] at *; omega
      · rcases List.mem_cons.1 hx with hx | hx
        · rw [hx]; omega
        · have := fgo_len l [] x hx; simp only [List.length_cons, List.length_nil] at *; omega
    · have := fgo_len l (cur ++ [c]) x hx; simp only [List.length_append, List.length_cons, List.length_nil] at *; omega
end Go.Proofs.YtabfehcpcjcomaaGreatDoor.R
namespace Go.Proofs.YtabfehcpcjcomaaGreatDoor.R
open Go.RowKit Go.Proofs.YtabfehcpcjcomaaGreatDoor.QA0 Go.Proofs.YtabfehcpcjcomaaGreatDoorW.PrintWords Go.Proofs.YtabfehcpcjcomaaGreatDoorW.PrintLast Go.Proofs.YtabfehcpcjcomaaGreatDoorW.PrintMore
set_option linter.unusedVariables false
set_option linter.unusedSimpArgs false
def hexAll : List Bs → Option (List Int)
  | [] => some []
  | f :: fs => (hexF f).bind fun m => (hexAll fs).map fun r => (m : Int) :: r
def rowN (ns : List Int) : S48 := ⟨⟨#[]⟩, ns, []⟩
inductive HexRows : List Bs → List (List Int) → Prop
  | nil : HexRows [] []
  | cons {l n L N} : hexAll (fieldsL l) = some n → HexRows L N → HexRows (l :: L) (n :: N)
def SoftFine (rows : List S48) : Prop := ∀ r ∈ rows, (r.f1.length = 13 ∨ r.f1.length = 15) ∧ ∀ x ∈ r.f1, x ≤ 4294967295
theorem lim32 : IntKind.u64.wrap (IntKind.u64.wrap (shl .u64 1 (wrap64 (32 - 1)) * 2) - 1) = 4294967295 := by
  rw [show wrap64 (32 - 1) = 31 from wr64 31 (by omega)]
  decide +kernel
theorem counted_go (a : ByteArray) (c : List ByteArray) (n : Int) (m3 : Int) : ∀ (l A : List Int), (A ++ l).length ≤ 2000000 →
    Ends (fun k => spec_counted.l0 k n 32 m3 (A ++ l) ((A ++ l).length : Int) (A.length : Int) a (A ++ l) c) (fun r => r = true → ∀ x ∈ l, x ≤ 4294967295)
  | [], A, hl => by
    refine Ends.step (fun k => by rw [spec_counted.l0]) ?_
    simp only [List.append_nil, if_neg (show ¬ ((A.length : Int) < (A.length : Int)) by omega)]
    by_cases e : (A.length : Int) = n
    · simp only [if_pos e]; exact Ends.now (by simp)
    · simp only [if_neg e]; exact Ends.now (by simp)
  | x :: l, A, hl => by
    have hll : A.length + (l.length + 1) ≤ 2000000 := by simpa using hl
    refine Ends.step (fun k => by rw [spec_counted.l0]) ?_
    have w : wrap64 ((A.length : Int) + 1) = ((A ++ [x]).length : Int) := by rw [wr64 _ (by omega)]; simp
    have e : A ++ x :: l = (A ++ [x]) ++ l := by simp
    have r : rd (A ++ x :: l) (A.length : Int) = x := by unfold rd; simp
    have cl : (A.length : Int) < ((A ++ x :: l).length : Int) := by simp; omega
    have h31 : (0 : Int) ≤ wrap64 (32 - 1) := by rw [show wrap64 (32 - 1) = 31 from wr64 31 (by omega)]; omega
    simp only [if_pos cl, if_pos (show (0 : Int) ≤ (A.length : Int) by omega), if_pos h31, r, w, lim32]
    by_cases d : x > 4294967295
    · simp only [if_pos d]; exact Ends.now (by simp)
    · simp only [if_neg d]
      have := counted_go a c n m3 l (A ++ [x]) (by rw [← e]; exact hl)
      rw [← e] at this
      refine this.mono fun r hr h y hy => ?_
      rcases List.mem_cons.1 hy with hy | hy
      · rw [hy]; omega
      · exact hr h y hy
theorem counted_ends (a : ByteArray) (l : List Int) (c : List ByteArray) (n m3 : Int) (hl : l.length ≤ 2000000) : Ends (fun k => spec_counted.f k a l c n 32 m3) (fun r => r = true → ∀ x ∈ l, x ≤ 4294967295) := by
  unfold spec_counted.f
  exact counted_go a c n m3 l [] (by simpa using hl)
theorem rd48_mid (A : List S48) (x : S48) (l : List S48) : rd_T48 (A ++ x :: l) (A.length : Int) = x := by unfold rd_T48; simp
theorem fine_go (x0 : List S48) : ∀ (l A : List S48), (A ++ l).length ≤ 2000000 → (0 < l.length → 0 < x0.length) → (∀ r ∈ l, r.f1.length ≤ 2000000) →
    Ends (fun k => spec_softnetFine.l0 k x0 (A ++ l) ((A ++ l).length : Int) (A.length : Int)) (fun r => r = true → SoftFine l)
  | [], A, hl, h0, hx => by
    refine Ends.step (fun k => by rw [spec_softnetFine.l0]) ?_
    simp only [List.append_nil, if_neg (show ¬ ((A.length : Int) < (A.length : Int)) by omega)]
    exact Ends.now fun _ r hr => by cases hr
  | x :: l, A, hl, h0, hx => by
    have hll : A.length + (l.length + 1) ≤ 2000000 := by simpa using hl
    have h1 : 0 < x0.length := h0 (by simp)
    refine Ends.step (fun k => by rw [spec_softnetFine.l0]) ?_
    have w : wrap64 ((A.length : Int) + 1) = ((A ++ [x]).length : Int) := by rw [wr64 _ (by omega)]; simp
    have e : A ++ x :: l = (A ++ [x]) ++ l := by simp
    have cl : (A.length : Int) < ((A ++ x :: l).length : Int) := by simp; omega
    have next : Ends (fun k => spec_softnetFine.l0 k x0 (A ++ x :: l) ((A ++ x :: l).length : Int) ((A ++ [x]).length : Int)) (fun r => r = true → SoftFine l) := by
      have := fine_go x0 l (A ++ [x]) (by rw [← e]; exact hl) (fun _ => h1) (fun r hr => hx r (by simp [hr]))
      rw [← e] at this
      exact this
    have done : (x.f1.length = 13 ∨ x.f1.length = 15) → Ends (fun k => (spec_counted.f k x.f0 x.f1 x.f2 (x.f1.length : Int) 32 0).bind fun t => if t = true then spec_softnetFine.l0 k x0 (A ++ x :: l) ((A ++ x :: l).length : Int) ((A ++ [x]).length : Int) else some false) (fun r => r = true → SoftFine (x :: l)) := by
      intro hw
      refine Ends.bind (counted_ends x.f0 x.f1 x.f2 _ 0 (hx x (by simp))) fun t ht => ?_
      by_cases c : t = true
      · simp only [if_pos c]
        refine next.mono fun r hr h y hy => ?_
        rcases List.mem_cons.1 hy with hy | hy
        · rw [hy]; exact ⟨hw, ht c⟩
        · exact hr h y hy
      · simp only [if_neg c]; exact Ends.now (by simp)
    simp only [if_pos cl, if_pos (show (0 : Int) ≤ (A.length : Int) by omega), rd48_mid, w, if_pos (show (0 : Int) < (x0.length : Int) by omega)]
    by_cases a : x.f0.toList = []
    · simp only [if_pos a]
      by_cases b : (x.f1.length : Int) = 13
      · simp only [if_pos b]
        by_cases c : (x.f1.length : Int) = (((rd_T48 x0 0).f1).length : Int)
        · rw [b] at c
          simp only [b, if_pos c]
          have := done (.inl (by omega))
          rw [b] at this
          exact this
        · rw [b] at c
          simp only [b, if_neg c]
          exact Ends.now (by simp)
      · simp only [if_neg b]
        by_cases b : (x.f1.length : Int) = 15
        · simp only [if_pos b]
          by_cases c : (x.f1.length : Int) = (((rd_T48 x0 0).f1).length : Int)
          · rw [b] at c
            simp only [b, if_pos c]
            have := done (.inr (by omega))
            rw [b] at this
            exact this
          · rw [b] at c
            simp only [b, if_neg c]
            exact Ends.now (by simp)
        · simp only [if_neg b]; exact Ends.now (by simp)
    · simp only [if_neg a]; exact Ends.now (by simp)
theorem fine_ends (l : List S48) (hl : l.length ≤ 2000000) (hx : ∀ r ∈ l, r.f1.length ≤ 2000000) : Ends (fun k => spec_softnetFine.f k l) (fun r => r = true → SoftFine l) := by
  unfold spec_softnetFine.f
  exact fine_go l l [] (by simpa using hl) (fun h => h) hx
theorem soft_l1 (x5 : List S48) (LS : List ByteArray) (N19 x19 : Int) (Q : List Int → (List S48 × Bool × Int) → Prop) (h5 : x5.length < 2199023255552)
    (hk : ∀ ns : List Int, (∀ x ∈ ns, U64 x) → ns.length ≤ 2000000 → Ends (fun k => spec_SoftnetRead.l0 k (x5 ++ [rowN ns]) LS N19 (wrap64 (x19 + 1))) (fun r => r.2.2 = 1 → Q ns r)) :
    ∀ (l A : List Bs) (nums : List Int), (A ++ l).length ≤ 1048576 → (∀ f ∈ A ++ l, f.length ≤ 1048576) → nums.length ≤ A.length → (∀ x ∈ nums, U64 x) →
      Ends (fun k => spec_SoftnetRead.l1 k x5 LS N19 x19 ((A ++ l).map B) (((A ++ l).map B).length : Int) (A.length : Int) ⟨#[]⟩ nums) (fun r => r.2.2 = 1 → ∃ ns, hexAll l = some ns ∧ Q (nums ++ ns) r)
  | [], A, nums, hl, hf, hn, hu => by
    refine Ends.step (fun k => by rw [spec_SoftnetRead.l1]) ?_
    have c : ¬ ((A.length : Int) < (((A ++ []).map B).length : Int)) := by simp
    simp only [List.append_nil] at hl
    simp only [if_neg c, if_pos h5]
    refine (hk nums hu (by omega)).mono fun r hr h => ⟨[], rfl, ?_⟩
    rw [List.append_nil]
    exact hr h
  | f :: l, A, nums, hl, hf, hn, hu => by
    have hll : A.length + (l.length + 1) ≤ 1048576 := by simpa using hl
    refine Ends.step (fun k => by rw [spec_SoftnetRead.l1]) ?_
    have w : wrap64 ((A.length : Int) + 1) = ((A ++ [f]).length : Int) := by rw [wr64 _ (by omega)]; simp
    have e : A ++ f :: l = (A ++ [f]) ++ l := by simp
    have r : rdOf ByteArray.empty ((A ++ f :: l).map B) (A.length : Int) = B f := by
      have := rd_mid (A.map B) (B f) (l.map B)
      rw [List.length_map] at this
      rw [List.map_append]
      exact this
    have cl : (A.length : Int) < (((A ++ f :: l).map B).length : Int) := by simp; omega
    simp only [if_pos cl, if_pos (show (0 : Int) ≤ (A.length : Int) by omega), r, w]
    refine Ends.bind (number16 f (hf f (by simp))) fun t ht => ?_
    by_cases c : t.2 = true
    · simp only [if_pos c]
      have hx := ht.2 c
      by_cases d : ((B f).size : Int) = 8
      · simp only [if_pos d, if_pos (show nums.length < 17592186044416 by omega)]
        have hu' : ∀ x ∈ nums ++ [t.1], U64 x := by
          intro x hm
          rcases List.mem_append.1 hm with hm | hm
          · exact hu x hm
          · rw [List.mem_singleton.1 hm]; exact ht.1
        have := soft_l1 x5 LS N19 x19 Q h5 hk l (A ++ [f]) (nums ++ [t.1]) (by rw [← e]; exact hl) (by rw [← e]; exact hf) (by simp; omega) hu'
        rw [← e] at this
        refine this.mono fun r hr h => ?_
        obtain ⟨ns, h1, h2⟩ := hr h
        have ht1 : ((t.1.toNat : Nat) : Int) = t.1 := by have := ht.1; unfold U64 at this; omega
        refine ⟨t.1 :: ns, ?_, ?_⟩
        · simp only [hexAll, hx, Option.bind_some, h1, Option.map_some, ht1]
        · rw [List.append_assoc] at h2; exact h2
      · simp only [if_neg d]; exact Ends.now (by simp)
    · simp only [if_neg c]; exact Ends.now (by simp)
theorem soft_go : ∀ (l A : List Bs) (rows : List (List Int)), (A ++ l).length ≤ 1048576 → (∀ x ∈ A ++ l, x.length ≤ 1048000) → rows.length ≤ A.length → (∀ n ∈ rows, n.length ≤ 2000000) →
    Ends (fun k => spec_SoftnetRead.l0 k (rows.map rowN) ((A ++ l).map B) (((A ++ l).map B).length : Int) (A.length : Int))
      (fun r => r.2.2 = 1 → ∃ N, HexRows l N ∧ r.1 = (rows ++ N).map rowN ∧ r.2.1 = true ∧ SoftFine r.1 ∧ Ev (fun k => spec_softnetFine.f k r.1) true)
  | [], A, rows, hl, hx, hr, hn => by
    simp only [List.append_nil] at hl
    refine Ends.step (fun k => by rw [spec_SoftnetRead.l0]) ?_
    have c : ¬ ((A.length : Int) < (((A ++ []).map B).length : Int)) := by simp
    simp only [if_neg c]
    obtain ⟨t, ht, hp⟩ := fine_ends (rows.map rowN) (by simp; omega) (by
      intro r hr
      obtain ⟨n, hn', rfl⟩ := List.mem_map.1 hr
      exact hn n hn')
    refine Ends.bind ⟨t, ht, rfl⟩ (P := fun x => x = t) fun x hx => ?_
    subst hx
    unfold spec_told.f
    by_cases e : x = true
    · simp only [if_pos e, Option.bind_some]
      subst e
      exact Ends.now fun _ => ⟨[], .nil, by simp, rfl, hp rfl, ht⟩
    · simp only [if_neg e, Option.bind_some]
      exact Ends.now (by simp)
  | x :: l, A, rows, hl, hx, hr, hn => by
    have hll : A.length + (l.length + 1) ≤ 1048576 := by simpa using hl
    refine Ends.step (fun k => by rw [spec_SoftnetRead.l0]) ?_
    have e : A ++ x :: l = (A ++ [x]) ++ l := by simp
    have w : wrap64 ((A.length : Int) + 1) = ((A ++ [x]).length : Int) := by rw [wr64 _ (by omega)]; simp
    have r : rdOf ByteArray.empty ((A ++ x :: l).map B) (A.length : Int) = B x := by
      have := rd_mid (A.map B) (B x) (l.map B)
      rw [List.length_map] at this
      rw [List.map_append]
      exact this
    have cl : (A.length : Int) < (((A ++ x :: l).map B).length : Int) := by simp; omega
    simp only [if_pos cl, if_pos (show (0 : Int) ≤ (A.length : Int) by omega), r]
    have hxl := hx x (by simp)
    refine Ends.bind (Ends.ev (fieldsL_ev x (by omega))) fun fs hfs => ?_
    subst hfs
    have hfn := fgo_n x []
    have hfl := fgo_len x []
    simp only [if_true, List.length_nil, Nat.add_zero, Nat.zero_add] at hfn hfl
    have := soft_l1 (rows.map rowN) ((A ++ x :: l).map B) (((A ++ x :: l).map B).length : Int) (A.length : Int)
      (fun ns r => ∃ N, HexRows l N ∧ r.1 = (rows ++ ns :: N).map rowN ∧ r.2.1 = true ∧ SoftFine r.1 ∧ Ev (fun k => spec_softnetFine.f k r.1) true) (by simp; omega)
      (fun ns hu hns => by
        have := soft_go l (A ++ [x]) (rows ++ [ns]) (by rw [← e]; exact hl) (by rw [← e]; exact hx) (by simp; omega) (by
          intro n hm
          rcases List.mem_append.1 hm with hm | hm
          · exact hn n hm
          · rw [List.mem_singleton.1 hm]; exact hns)
        rw [← e, ← w] at this
        simp only [List.map_append, List.map_cons, List.map_nil] at this ⊢
        refine this.mono fun r hr h => ?_
        obtain ⟨N, h1, h2, h3⟩ := hr h
        exact ⟨N, h1, by simpa using h2, h3⟩)
      (fieldsL x) [] [] (by unfold fieldsL; simp; omega) (by
        intro f hf
        have := hfl f (by simpa [fieldsL] using hf)
        omega) (by simp) (by simp)
    refine this.mono fun r hr h => ?_
    obtain ⟨ns, h1, N, h2, h3⟩ := hr h
    exact ⟨ns :: N, .cons h1 h2, h3⟩
theorem soft_read (T : ByteArray) (hs : T.size ≤ 40000) : Ends (fun k => spec_SoftnetRead.f k T)
    (fun r => r.2.2 = 1 → ∃ N, T.data.toList.all plainT = true ∧ HexRows (linesL T.data.toList) N ∧ r.1 = N.map rowN ∧ r.2.1 = true ∧ SoftFine r.1 ∧ Ev (fun k => spec_softnetFine.f k r.1) true) := by
  unfold spec_SoftnetRead.f
  refine Ends.bind (plain_text T hs) fun p hp => ?_
  by_cases c : p = true
  · simp only [if_pos c]
    have hz : T.data.toList.length = T.size := by simp
    have hL := linesL_ev T.data.toList (by omega)
    rw [← B_of T] at hL
    refine Ends.bind (Ends.ev hL) fun ls hls => ?_
    subst hls
    have h1 := lines_n T.data.toList []
    have h2 := lines_len T.data.toList []
    simp only [if_true, List.length_nil, Nat.add_zero, Nat.zero_add] at h1 h2
    have := soft_go (linesL T.data.toList) [] [] (by unfold linesL; simp only [List.nil_append]; omega) (by
      intro x hx
      have := h2 x (by simpa [linesL] using hx)
      omega) (by simp) (by simp)
    refine this.mono fun r hr h => ?_
    obtain ⟨N, a, b⟩ := hr h
    exact ⟨N, hp c, a, by simpa using b⟩
  · simp only [if_neg c]; exact Ends.now (by simp)
end Go.Proofs.YtabfehcpcjcomaaGreatDoor.R
namespace Go.Proofs.YtabfehcpcjcomaaGreatDoor.R
open Go.RowKit Go.Proofs.YtabfehcpcjcomaaGreatDoor.QA0 Go.Proofs.YtabfehcpcjcomaaGreatDoorW.PrintWords Go.Proofs.YtabfehcpcjcomaaGreatDoorW.PrintLast Go.Proofs.YtabfehcpcjcomaaGreatDoorW.PrintMore
set_option linter.unusedVariables false
set_option linter.unusedSimpArgs false
theorem bytes_back' (T : ByteArray) : strOfNums (bytesOf T) = T := by
  apply ByteArray.ext
  unfold strOfNums bytesOf
  apply Array.toList_inj.1
  have e : ((fun n : Int => UInt8.ofNat n.toNat) ∘ fun b : UInt8 => (b.toNat : Int)) = id := by funext b; simp
  simp only [List.map_map, e, List.map_id]
theorem scan_nil (L : ByteArray) : texts_Lines_Scan.f (B []) L 65536 none = some (false, B [], ⟨#[]⟩, 65536, none) := by
  unfold texts_Lines_Scan.f scanF
  rfl
def lineOf (l : Bs) : Bs := l.takeWhile (fun c => c != 10)
def restOf (l : Bs) : Bs := l.drop ((lineOf l).length + 1)
theorem line_split (l : Bs) : l.take (lineOf l).length = lineOf l := by
  unfold lineOf
  induction l with
  | nil => rfl
  | cons c l ih =>
    rw [List.takeWhile_cons]
    split
    · simp [ih]
    · rfl
theorem line_le (l : Bs) : (lineOf l).length ≤ l.length := by
  have := congrArg List.length (line_split l)
  rw [List.length_take] at this
  omega
theorem B_drop (l : Bs) (i : Nat) : (B l).extract i (B l).size = B (l.drop i) := by
  unfold B
  apply ByteArray.ext
  simp [ByteArray.extract, ByteArray.copySlice, ByteArray.size]
  exact List.take_of_length_le (by rw [List.length_drop]; omega)
theorem B_take (l : Bs) (i : Nat) : (B l).extract 0 i = B (l.take i) := by
  unfold B
  apply ByteArray.ext
  simp [ByteArray.extract, ByteArray.copySlice, ByteArray.size]
theorem chomp_plain (l : Bs) (h : l.all plainC = true) : chomp (B l) = B l := by
  unfold chomp
  rw [if_neg]
  rintro ⟨h0, h1⟩
  rw [B_size] at h0 h1
  have hi : l.length - 1 < (B l).size := by rw [B_size]; omega
  have e : ((l.length : Int) - 1) = ((l.length - 1 : Nat) : Int) := by omega
  rw [e, bt_list (B l) _ hi] at h1
  have hm : (B l).data.toList[l.length - 1]'(by simpa using hi) ∈ l := List.getElem_mem (l := l) _
  have := List.all_eq_true.1 h _ hm
  unfold plainC at this
  simp only [Bool.or_eq_true, beq_iff_eq, Bool.and_eq_true, decide_eq_true_eq] at this
  rcases this with h2 | h2
  · rw [h2] at h1
    have : (9 : UInt8).toNat = 9 := rfl
    omega
  · omega
theorem scan_cons (l : Bs) (L : ByteArray) (h0 : l ≠ []) (hl : l.length ≤ 40000) (hp : (lineOf l).all plainC = true) : texts_Lines_Scan.f (B l) L 65536 none = some (true, B (restOf l), B (lineOf l), 65536, none) := by
  have hpos : 0 < l.length := List.length_pos_iff.2 h0
  have hn : nl (B l) = (lineOf l).length := rfl
  have := line_le l
  unfold texts_Lines_Scan.f scanF
  rw [if_pos ⟨rfl, by rw [B_size]; omega⟩, if_neg (by rw [B_size]; omega), hn, if_pos (by omega), B_drop, B_take, line_split, chomp_plain _ hp]
  rfl
theorem linesL_cons (l : Bs) (h0 : l ≠ []) : linesL l = lineOf l :: linesL (restOf l) := by
  unfold linesL
  rw [linesGo_eq, if_neg (by simpa using h0)]
  rfl
theorem rest_plain (l : Bs) (h : l.all plainT = true) : (restOf l).all plainT = true := by
  rw [List.all_eq_true] at *
  intro c hc
  exact h c (List.mem_of_mem_drop hc)
theorem line_plain (l : Bs) (h0 : l ≠ []) (h : l.all plainT = true) : (lineOf l).all plainC = true := by
  have := lines_plain l [] h (by simp) (lineOf l)
  have e := linesL_cons l h0
  unfold linesL at e
  rw [e] at this
  exact this (by simp)
theorem fields_plain (l : Bs) (h : l.all plainC = true) (hl : l.length ≤ 1048576) : strings_Fields.f (B l) = some ((fieldsL l).map bs) := by
  unfold strings_Fields.f fieldsF
  have ha : Asc (B l) = true := by
    unfold Asc
    rw [B_data, List.all_eq_true]
    intro c hc
    have := List.all_eq_true.1 h c hc
    unfold plainC at this
    simp only [Bool.or_eq_true, beq_iff_eq, Bool.and_eq_true, decide_eq_true_eq] at this
    simp only [decide_eq_true_eq]
    rcases this with h2 | h2
    · rw [h2]; decide
    · omega
  rw [if_pos ⟨by rw [B_size]; exact hl, ha⟩, B_data]
  unfold Lib.fields fieldsL
  rw [fgo_lib l [] h]
theorem hexAll_len : ∀ (fs : List Bs) (n : List Int), hexAll fs = some n → n.length = fs.length
  | [], n, h => by obtain rfl := Option.some.inj h; rfl
  | f :: fs, n, h => by
    obtain ⟨m, hm, h⟩ := Option.bind_eq_some_iff.mp h
    obtain ⟨r, hr, rfl⟩ := Option.map_eq_some_iff.1 h
    simp [hexAll_len fs r hr]
theorem hexAll_take : ∀ (fs : List Bs) (n : List Int) (a : Nat), hexAll fs = some n → hexAll (fs.take a) = some (n.take a)
  | [], n, a, h => by obtain rfl := Option.some.inj h; simp [hexAll]
  | f :: fs, n, 0, h => by simp [hexAll]
  | f :: fs, n, a + 1, h => by
    obtain ⟨m, hm, h⟩ := Option.bind_eq_some_iff.mp h
    obtain ⟨r, hr, rfl⟩ := Option.map_eq_some_iff.1 h
    simp only [List.take_succ_cons, hexAll, hm, Option.bind_some, hexAll_take fs r a hr, Option.map_some]
theorem hexAll_drop : ∀ (fs : List Bs) (n : List Int) (a : Nat), hexAll fs = some n → hexAll (fs.drop a) = some (n.drop a)
  | [], n, a, h => by obtain rfl := Option.some.inj h; simp [hexAll]
  | f :: fs, n, 0, h => by simpa using h
  | f :: fs, n, a + 1, h => by
    obtain ⟨m, hm, h⟩ := Option.bind_eq_some_iff.mp h
    obtain ⟨r, hr, rfl⟩ := Option.map_eq_some_iff.1 h
    simpa using hexAll_drop fs r a hr
theorem hexs_of : ∀ (fs : List Bs) (n : List Int), hexAll fs = some n → (∀ x ∈ n, x ≤ 4294967295) → (∀ f ∈ fs, f.length ≤ 1048576) → hexsL (fs.map bs) = some n
  | [], n, h, _, _ => by obtain rfl := Option.some.inj h; rfl
  | f :: fs, n, h, hn, hf => by
    obtain ⟨m, hm, h⟩ := Option.bind_eq_some_iff.mp h
    obtain ⟨r, hr, rfl⟩ := Option.map_eq_some_iff.1 h
    have h1 : hexI (bs f) = some (m : Int) := by
      unfold hexI
      have hz : (bs f).size ≤ 1048576 := by
        have := hf f (by simp)
        have e : (bs f).size = f.length := B_size f
        omega
      have hd : (bs f).data.toList = f := rfl
      have hm2 : m ≤ 4294967295 := by have := hn (m : Int) (by simp); omega
      rw [if_pos hz, hd, hm, Option.bind_some, if_pos hm2]
    simp only [List.map_cons, hexsL, h1, Option.bind_some, hexs_of fs r hr (fun x hx => hn x (by simp [hx])) (fun x hx => hf x (by simp [hx])), Option.map_some]
theorem hexs_sub (fs : List Bs) (n : List Int) (h : hexAll fs = some n) (hn : ∀ x ∈ n, x ≤ 4294967295) (hf : ∀ f ∈ fs, f.length ≤ 1048576) (hl : fs.length ≤ 1048576) (a b : Nat) :
    procfs_parseHexUint32s.f (((fs.map bs).take a).drop b) = some ((n.take a).drop b, none) := by
  unfold procfs_parseHexUint32s.f hexsF
  have h1 := hexAll_drop _ _ b (hexAll_take _ _ a h)
  have h2 := hexs_of _ _ h1 (fun x hx => hn x (List.mem_of_mem_take (List.mem_of_mem_drop hx))) (fun f hx => hf f (List.mem_of_mem_take (List.mem_of_mem_drop hx)))
  rw [List.map_drop, List.map_take] at h2
  rw [if_pos (by simp only [List.length_drop, List.length_take, List.length_map]; omega), h2]
  rfl
theorem rd_sub (ns : List Int) (a b i : Nat) (h : b + i < a) : rd ((ns.take a).drop b) (i : Int) = rd ns ((b + i : Nat) : Int) := by
  unfold rd
  rw [Int.toNat_natCast, Int.toNat_natCast]
  simp [List.getD_eq_getElem?_getD, List.getElem?_drop, List.getElem?_take, h]
def statOf (n : List Int) : S114 := ⟨rd n 0, rd n 1, rd n 2, rd n 8, rd n 9, rd n 10, rd n 11, rd n 12, (n.length : Int)⟩
theorem hexRows_len {L : List Bs} {N : List (List Int)} (h : HexRows L N) : N.length = L.length := by
  induction h with
  | nil => rfl
  | cons _ _ ih => simp [ih]
theorem parse_soft : ∀ (n : Nat) (l : Bs) (N : List (List Int)) (x5 : List S114) (L : ByteArray), l.length ≤ n → l.length ≤ 40000 → l.all plainT = true → HexRows (linesL l) N → (∀ r ∈ N, (r.length = 13 ∨ r.length = 15) ∧ ∀ x ∈ r, x ≤ 4294967295) → x5.length + l.length ≤ 40001 →
    Ev (fun k => procfs_parseSoftnet.l0 k x5 (B l) L 65536 none) (x5 ++ N.map statOf, none)
  | n, [], N, x5, L, hn, hl, hp, hr, hf, h5 => by
    refine Ev.step (fun k => by rw [procfs_parseSoftnet.l0]) ?_
    obtain rfl : N = [] := by
      have := hexRows_len hr
      exact List.eq_nil_of_length_eq_zero (this.trans rfl)
    simp only [scan_nil, Option.bind_some, Bool.false_eq_true, if_false, List.map_nil, List.append_nil]
    exact Ev.now _
  | 0, c :: l, N, x5, L, hn, hl, hp, hr, hf, h5 => by simp at hn
  | n + 1, c :: l, N, x5, L, hn, hl, hp, hr, hf, h5 => by
    have h0 : c :: l ≠ [] := by simp
    have hpl := line_plain _ h0 hp
    have hrp := rest_plain _ hp
    have hll := line_le (c :: l)
    have hrl : (restOf (c :: l)).length ≤ l.length := by unfold restOf; rw [List.length_drop]; simp only [List.length_cons]; omega
    rw [linesL_cons _ h0] at hr
    have hsc := scan_cons (c :: l) L h0 hl hpl
    have hln : (lineOf (c :: l)).length ≤ 1048576 := by omega
    generalize lineOf (c :: l) = ln at *
    generalize restOf (c :: l) = rest at *
    obtain ⟨ns, N', rfl, hh, hr'⟩ : ∃ ns N', N = ns :: N' ∧ hexAll (fieldsL ln) = some ns ∧ HexRows (linesL rest) N' := by
      cases hr with
      | cons a b => exact ⟨_, _, rfl, a, b⟩
    obtain ⟨hw, hu⟩ := hf ns (by simp)
    have hfl : ∀ f ∈ fieldsL ln, f.length ≤ 1048576 := by
      intro f hf
      have := fgo_len ln [] f hf
      simp only [List.length_nil, Nat.zero_add] at this
      omega
    have hfn : (fieldsL ln).length ≤ 1048576 := by have := hexAll_len _ _ hh; omega
    have htl : ((fieldsL ln).map bs).length = ns.length := by rw [List.length_map, hexAll_len _ _ hh]
    have s0 := hexs_sub _ _ hh hu hfl hfn 9 0
    have s1 := hexs_sub _ _ hh hu hfl hfn 10 9
    have s2 := hexs_sub _ _ hh hu hfl hfn 11 10
    have s3 := hexs_sub _ _ hh hu hfl hfn 13 11
    have hfi := fields_plain ln hpl hln
    have ih := parse_soft n rest N' (x5 ++ [statOf ns]) (B ln) (by simp only [List.length_cons] at hn; omega) (by simp only [List.length_cons] at hl; omega) hrp hr' (fun r hr => hf r (by simp [hr])) (by simp only [List.length_append, List.length_cons, List.length_nil] at *; omega)
    generalize (fieldsL ln).map bs = t at htl s0 s1 s2 s3 hfi
    have tl : (t.length : Int) = (ns.length : Int) := by rw [htl]
    have d0 : (((ns.take 9).drop 0).length : Int) = 9 := by simp only [List.length_drop, List.length_take]; omega
    have d1 : (((ns.take 10).drop 9).length : Int) = 1 := by simp only [List.length_drop, List.length_take]; omega
    have d2 : (((ns.take 11).drop 10).length : Int) = 1 := by simp only [List.length_drop, List.length_take]; omega
    have d3 : (((ns.take 13).drop 11).length : Int) = 2 := by simp only [List.length_drop, List.length_take]; omega
    have er : (⟨rd ((ns.take 9).drop 0) 0, rd ((ns.take 9).drop 0) 1, rd ((ns.take 9).drop 0) 2, rd ((ns.take 9).drop 0) 8, rd ((ns.take 10).drop 9) 0, rd ((ns.take 11).drop 10) 0, rd ((ns.take 13).drop 11) 0, rd ((ns.take 13).drop 11) 1, (t.length : Int)⟩ : S114) = statOf ns := by
      rw [tl]
      unfold statOf
      rw [show rd ((ns.take 9).drop 0) 0 = rd ns 0 from rd_sub ns 9 0 0 (by omega), show rd ((ns.take 9).drop 0) 1 = rd ns 1 from rd_sub ns 9 0 1 (by omega), show rd ((ns.take 9).drop 0) 2 = rd ns 2 from rd_sub ns 9 0 2 (by omega), show rd ((ns.take 9).drop 0) 8 = rd ns 8 from rd_sub ns 9 0 8 (by omega), show rd ((ns.take 10).drop 9) 0 = rd ns 9 from rd_sub ns 10 9 0 (by omega), show rd ((ns.take 11).drop 10) 0 = rd ns 10 from rd_sub ns 11 10 0 (by omega), show rd ((ns.take 13).drop 11) 0 = rd ns 11 from rd_sub ns 13 11 0 (by omega), show rd ((ns.take 13).drop 11) 1 = rd ns 12 from rd_sub ns 13 11 1 (by omega)]
    refine Ev.step (fun k => by rw [procfs_parseSoftnet.l0]) ?_
    have tt : texts_Lines_Text.f (B rest) (B ln) 65536 none = some (B ln, B rest, B ln, 65536, none) := rfl
    simp only [hsc, Option.bind_some, if_true, tt, hfi]
    simp only [if_neg (show ¬ ((t.length : Int) < 9) by omega), if_pos (show (t.length : Int) ≥ 9 by omega), if_pos (show (0 : Int) ≤ 9 by omega), if_pos (show (9 : Int) ≤ (t.length : Int) by omega), s0, Option.bind_some, Option.isNone_none, if_true]
    simp only [d0, if_pos (show (0 : Int) < 9 by omega), if_pos (show (1 : Int) < 9 by omega), if_pos (show (2 : Int) < 9 by omega), if_pos (show (8 : Int) < 9 by omega), if_pos (show (t.length : Int) ≥ 10 by omega), if_pos (show (9 : Int) ≤ 10 by omega), if_pos (show (10 : Int) ≤ (t.length : Int) by omega), s1, Option.bind_some, Option.isNone_none, if_true]
    simp only [d1, if_pos (show (0 : Int) < 1 by omega), if_pos (show (t.length : Int) ≥ 11 by omega), if_pos (show (10 : Int) ≤ 11 by omega), if_pos (show (11 : Int) ≤ (t.length : Int) by omega), s2, Option.bind_some, Option.isNone_none, if_true]
    simp only [d2, if_pos (show (0 : Int) < 1 by omega), if_pos (show (t.length : Int) ≥ 13 by omega), if_pos (show (11 : Int) ≤ 13 by omega), if_pos (show (13 : Int) ≤ (t.length : Int) by omega), s3, Option.bind_some, Option.isNone_none, if_true]
    simp only [d3, if_pos (show (0 : Int) < 2 by omega), if_pos (show (1 : Int) < 2 by omega), if_pos (show x5.length < 3518437208883 by omega), er]
    rw [List.append_assoc] at ih
    exact ih
theorem stat_ev (T : ByteArray) (hs : T.size ≤ 40000) (N : List (List Int)) (hp : T.data.toList.all plainT = true) (hr : HexRows (linesL T.data.toList) N) (hf : ∀ r ∈ N, (r.length = 13 ∨ r.length = 15) ∧ ∀ x ∈ r, x ≤ 4294967295) :
    Ev (fun k => procfs_FS_NetSoftnetStat.f k T) (N.map statOf, none) := by
  have hz : T.data.toList.length = T.size := by simp
  unfold procfs_FS_NetSoftnetStat.f texts_Text_Path.f texts_Read.f
  simp only [Option.bind_some, if_pos (show T.size ≤ 1048576 by omega), Option.isNone_none, if_true, bytes_back']
  refine Ev.bind (a := (N.map statOf, none)) ?_ (Ev.now _)
  unfold procfs_parseSoftnet.f texts_NewLines.f
  simp only [Option.bind_some]
  have := parse_soft T.data.toList.length T.data.toList N [] ⟨#[]⟩ (Nat.le_refl _) (by omega) hp hr hf (by simp only [List.length_nil]; omega)
  rw [← B_of T] at this
  exact this
end Go.Proofs.YtabfehcpcjcomaaGreatDoor.R
namespace Go.Proofs.YtabfehcpcjcomaaGreatDoor.R
open Go.RowKit Go.Proofs.YtabfehcpcjcomaaGreatDoor.QA0 Go.Proofs.YtabfehcpcjcomaaGreatDoorW.PrintWords Go.Proofs.YtabfehcpcjcomaaGreatDoorW.PrintLast Go.Proofs.YtabfehcpcjcomaaGreatDoorW.PrintMore
set_option linter.unusedVariables false
set_option linter.unusedSimpArgs false
theorem toList_inj {a b : ByteArray} (h : a.toList = b.toList) : a = b := by
  rw [ByteArray.toList_eq, ByteArray.toList_eq] at h
  exact ByteArray.ext (Array.toList_inj.1 h)
def Cast (x : S34) (y : S38) : Prop := Ev (fun k => laws_toNode.f k x.f0 x.f1 x.f2 x.f3 x.f4 x.f5 x.f6 x.f7) (y.f0, y.f1, y.f2, y.f3, y.f4, y.f5, y.f6, y.f7)
inductive Casts : List S34 → List S38 → Prop
  | nil : Casts [] []
  | cons {x y l l'} : Cast x y → Casts l l' → Casts (x :: l) (y :: l')
theorem toNode_go (n : ByteArray) (kd : Int) (b : Bool) (i u : Int) (f : Nat) (s : ByteArray) : ∀ (l : List S34) (l' : List S38) (A : List S34) (acc : List S38), (A ++ l).length ≤ 100000 → acc.length ≤ A.length → Casts l l' →
    Ev (fun k => laws_toNode.l0 k (A ++ l) ((A ++ l).length : Int) (A.length : Int) n kd b i u f s acc) (n, kd, b, i, u, f, s, acc ++ l')
  | [], [], A, acc, hl, ha, _ => by
    refine Ev.step (fun k => by rw [laws_toNode.l0]) ?_
    simp only [List.append_nil, if_neg (show ¬ ((A.length : Int) < (A.length : Int)) by omega)]
    exact Ev.now _
  | [], _ :: _, _, _, _, _, h => nomatch h
  | _ :: _, [], _, _, _, _, h => nomatch h
  | x :: l, y :: l', A, acc, hl, ha, h => by
    obtain ⟨h, hs⟩ : Cast x y ∧ Casts l l' := by cases h with | cons h hs => exact ⟨h, hs⟩
    have hll : A.length + (l.length + 1) ≤ 100000 := by simpa using hl
    refine Ev.step (fun k => by rw [laws_toNode.l0]) ?_
    have w : wrap64 ((A.length : Int) + 1) = ((A ++ [x]).length : Int) := by rw [wr64 _ (by omega)]; simp
    have e : A ++ x :: l = (A ++ [x]) ++ l := by simp
    have r : rd_T34 (A ++ x :: l) (A.length : Int) = x := by unfold rd_T34; simp
    have cl : (A.length : Int) < ((A ++ x :: l).length : Int) := by simp; omega
    simp only [if_pos cl, if_pos (show (0 : Int) ≤ (A.length : Int) by omega), r, w]
    refine Ev.bind h ?_
    simp only [if_pos (show acc.length < 1466015503701 by omega)]
    have := toNode_go n kd b i u f s l l' (A ++ [x]) (acc ++ [y]) (by rw [← e]; exact hl) (by simp; omega) hs
    rw [e]
    rw [List.append_assoc acc, List.singleton_append] at this
    have hy : (⟨y.f0, y.f1, y.f2, y.f3, y.f4, y.f5, y.f6, y.f7⟩ : S38) = y := by cases y; rfl
    simp only [hy]
    exact this
theorem cast_node {n : ByteArray} {kd : Int} {b : Bool} {i u : Int} {f : Nat} {s : ByteArray} {l : List S34} {l' : List S38} (hl : l.length ≤ 100000) (h : Casts l l') : Cast ⟨n, kd, b, i, u, f, s, l⟩ ⟨n, kd, b, i, u, f, s, l'⟩ := by
  unfold Cast
  refine Ev.step (fun k => by rw [laws_toNode.f]) ?_
  exact toNode_go n kd b i u f s l l' [] [] (by simpa using hl) (by simp) h
theorem cast_leaf {n : ByteArray} {kd : Int} {b : Bool} {i u : Int} {f : Nat} {s : ByteArray} : Cast ⟨n, kd, b, i, u, f, s, []⟩ ⟨n, kd, b, i, u, f, s, []⟩ := cast_node (by simp) .nil
def Same (y : S38) : Prop := Ev (fun k => spec_SameNode.f k y.f0 y.f1 y.f2 y.f3 y.f4 y.f5 y.f6 y.f7 y.f0 y.f1 y.f2 y.f3 y.f4 y.f5 y.f6 y.f7) true
theorem same_go (n n' : ByteArray) (kd kd' : Int) (b b' : Bool) (i u i' u' : Int) (f f' : Nat) (s s' : ByteArray) : ∀ (l A : List S38), (A ++ l).length ≤ 100000 → (∀ x ∈ l, Same x) →
    Ev (fun k => spec_SameNode.l0 k ((A ++ l).length : Int) (A.length : Int) n kd b i u f s (A ++ l) n' kd' b' i' u' f' s' (A ++ l)) true
  | [], A, hl, h => by
    refine Ev.step (fun k => by rw [spec_SameNode.l0]) ?_
    simp only [List.append_nil, if_neg (show ¬ ((A.length : Int) < (A.length : Int)) by omega)]
    exact Ev.now _
  | x :: l, A, hl, h => by
    have hll : A.length + (l.length + 1) ≤ 100000 := by simpa using hl
    refine Ev.step (fun k => by rw [spec_SameNode.l0]) ?_
    have w : wrap64 ((A.length : Int) + 1) = ((A ++ [x]).length : Int) := by rw [wr64 _ (by omega)]; simp
    have e : A ++ x :: l = (A ++ [x]) ++ l := by simp
    have r : rd_T38 (A ++ x :: l) (A.length : Int) = x := by unfold rd_T38; simp
    have cl : (A.length : Int) < ((A ++ x :: l).length : Int) := by simp; omega
    simp only [if_pos cl, if_pos (show (0 : Int) ≤ (A.length : Int) by omega), r, w]
    refine Ev.bind (h x (by simp)) ?_
    simp only [if_true]
    have := same_go n n' kd kd' b b' i u i' u' f f' s s' l (A ++ [x]) (by rw [← e]; exact hl) (fun z hz => h z (by simp [hz]))
    rw [e]
    exact this
theorem same_node {n : ByteArray} {kd : Int} {b : Bool} {i u : Int} {f : Nat} {s : ByteArray} {l : List S38} (hl : l.length ≤ 100000) (h : ∀ x ∈ l, Same x) : Same ⟨n, kd, b, i, u, f, s, l⟩ := by
  unfold Same
  refine Ev.step (fun k => by rw [spec_SameNode.f]) ?_
  have hb : ¬ ((b != b) = true) := by simp
  simp only [if_true, if_neg hb]
  exact same_go n n kd kd b b i u i u f f s s l [] (by simpa using hl) h
theorem same_leaf {n : ByteArray} {kd : Int} {b : Bool} {i u : Int} {f : Nat} {s : ByteArray} : Same ⟨n, kd, b, i, u, f, s, []⟩ := same_node (by simp) (by simp)
end Go.Proofs.YtabfehcpcjcomaaGreatDoor.R
namespace Go.Proofs.YtabfehcpcjcomaaGreatDoor.R
open Go.RowKit Go.Proofs.YtabfehcpcjcomaaGreatDoor.QA0 Go.Proofs.YtabfehcpcjcomaaGreatDoorW.PrintWords Go.Proofs.YtabfehcpcjcomaaGreatDoorW.PrintLast Go.Proofs.YtabfehcpcjcomaaGreatDoorW.PrintMore
set_option linter.unusedVariables false
set_option linter.unusedSimpArgs false
def lfU (n : ByteArray) (v : Int) : S38 := ⟨n, 3, false, 0, v, 0, ⟨#[]⟩, []⟩
def lfU4 (n : ByteArray) (v : Int) : S34 := ⟨n, 3, false, 0, v, 0, ⟨#[]⟩, []⟩
def softKids4 (s : S114) : List S34 := [lfU4 ⟨#[80, 114, 111, 99, 101, 115, 115, 101, 100]⟩ (IntKind.u64.wrap s.f0), lfU4 ⟨#[68, 114, 111, 112, 112, 101, 100]⟩ (IntKind.u64.wrap s.f1), lfU4 ⟨#[84, 105, 109, 101, 83, 113, 117, 101, 101, 122, 101, 100]⟩ (IntKind.u64.wrap s.f2), lfU4 ⟨#[67, 80, 85, 67, 111, 108, 108, 105, 115, 105, 111, 110]⟩ (IntKind.u64.wrap s.f3), lfU4 ⟨#[82, 101, 99, 101, 105, 118, 101, 100, 82, 112, 115]⟩ (IntKind.u64.wrap s.f4), lfU4 ⟨#[70, 108, 111, 119, 76, 105, 109, 105, 116, 67, 111, 117, 110, 116]⟩ (IntKind.u64.wrap s.f5), lfU4 ⟨#[83, 111, 102, 116, 110, 101, 116, 66, 97, 99, 107, 108, 111, 103, 76, 101, 110]⟩ (IntKind.u64.wrap s.f6), lfU4 ⟨#[73, 110, 100, 101, 120]⟩ (IntKind.u64.wrap s.f7), ⟨⟨#[87, 105, 100, 116, 104]⟩, 2, false, s.f8, 0, 0, ⟨#[]⟩, []⟩]
def softNode4 (s : S114) : S34 := ⟨⟨#[]⟩, 8, false, 0, 0, 0, ⟨#[]⟩, softKids4 s⟩
theorem soft_kid (s : S114) : impl_Softnet_1_1.f s.f0 s.f1 s.f2 s.f3 s.f4 s.f5 s.f6 s.f7 s.f8 = some ((⟨#[]⟩ : ByteArray), 8, false, 0, 0, 0, (⟨#[]⟩ : ByteArray), softKids4 s) := by
  unfold impl_Softnet_1_1.f impl_procfsSoftnetStat.f
  rfl
theorem stat84_go (nm : ByteArray) : ∀ (l A : List S114) (acc : List S34), (A ++ l).length ≤ 1000000 → acc.length ≤ A.length →
    Ev (fun k => procfs_SoftnetStat_84.l0 k (A ++ l) ((A ++ l).length : Int) (A.length : Int) nm 6 false 0 0 0 ⟨#[]⟩ acc) (nm, 6, false, 0, 0, 0, (⟨#[]⟩ : ByteArray), acc ++ l.map softNode4)
  | [], A, acc, hl, ha => by
    refine Ev.step (fun k => by rw [procfs_SoftnetStat_84.l0]) ?_
    simp only [List.append_nil, if_neg (show ¬ ((A.length : Int) < (A.length : Int)) by omega), List.map_nil]
    exact Ev.now _
  | x :: l, A, acc, hl, ha => by
    have hll : A.length + (l.length + 1) ≤ 1000000 := by simpa using hl
    refine Ev.step (fun k => by rw [procfs_SoftnetStat_84.l0]) ?_
    have w : wrap64 ((A.length : Int) + 1) = ((A ++ [x]).length : Int) := by rw [wr64 _ (by omega)]; simp
    have e : A ++ x :: l = (A ++ [x]) ++ l := by simp
    have r : rd_T114 (A ++ x :: l) (A.length : Int) = x := by unfold rd_T114; simp
    have cl : (A.length : Int) < ((A ++ x :: l).length : Int) := by simp; omega
    simp only [if_pos cl, if_pos (show (0 : Int) ≤ (A.length : Int) by omega), r, w, soft_kid, Option.bind_some, if_pos (show acc.length < 1466015503701 by omega)]
    have := stat84_go nm l (A ++ [x]) (acc ++ [softNode4 x]) (by rw [← e]; exact hl) (by simp; omega)
    rw [e]
    rw [List.append_assoc acc] at this
    exact this
theorem soft_impl (T : ByteArray) (hs : T.size ≤ 40000) (N : List (List Int)) (hp : T.data.toList.all plainT = true) (hr : HexRows (linesL T.data.toList) N) (hf : ∀ r ∈ N, (r.length = 13 ∨ r.length = 15) ∧ ∀ x ∈ r, x ≤ 4294967295) :
    Ev (fun k => impl_Softnet.f k T) ((⟨#[]⟩ : ByteArray), 6, false, 0, 0, 0, (⟨#[]⟩ : ByteArray), (N.map statOf).map softNode4, 0) := by
  unfold impl_Softnet.f
  refine Ev.bind (stat_ev T hs N hp hr hf) ?_
  simp only [if_true]
  have hz : T.data.toList.length = T.size := by simp
  have hN : N.length ≤ 40001 := by
    rw [hexRows_len hr]
    have := lines_n T.data.toList []
    simp only [if_true, Nat.add_zero] at this
    unfold linesL
    omega
  have h1 : Ev (fun k => impl_Softnet_1.f k (N.map statOf)) ((⟨#[]⟩ : ByteArray), 6, false, 0, 0, 0, (⟨#[]⟩ : ByteArray), (N.map statOf).map softNode4) := by
    unfold impl_Softnet_1.f procfs_SoftnetStat_84.f
    refine Ev.bind (stat84_go ⟨#[]⟩ (N.map statOf) [] [] (by simp; omega) (by simp)) ?_
    exact Ev.now _
  obtain ⟨K, hK⟩ := h1
  refine ⟨K, fun k hk => ?_⟩
  have h2 : impl_Softnet_1.f k (N.map statOf) = _ := hK k hk
  show Option.map _ (impl_Softnet_1.f k (N.map statOf)) = _
  rw [h2]
  rfl
def softKids (n : List Int) : List S38 := [lfU ⟨#[80, 114, 111, 99, 101, 115, 115, 101, 100]⟩ (rd n 0), lfU ⟨#[68, 114, 111, 112, 112, 101, 100]⟩ (rd n 1), lfU ⟨#[84, 105, 109, 101, 83, 113, 117, 101, 101, 122, 101, 100]⟩ (rd n 2), lfU ⟨#[67, 80, 85, 67, 111, 108, 108, 105, 115, 105, 111, 110]⟩ (rd n 8), lfU ⟨#[82, 101, 99, 101, 105, 118, 101, 100, 82, 112, 115]⟩ (rd n 9), lfU ⟨#[70, 108, 111, 119, 76, 105, 109, 105, 116, 67, 111, 117, 110, 116]⟩ (rd n 10), lfU ⟨#[83, 111, 102, 116, 110, 101, 116, 66, 97, 99, 107, 108, 111, 103, 76, 101, 110]⟩ (rd n 11), lfU ⟨#[73, 110, 100, 101, 120]⟩ (rd n 12), ⟨⟨#[87, 105, 100, 116, 104]⟩, 2, false, (n.length : Int), 0, 0, ⟨#[]⟩, []⟩]
def softNode (n : List Int) : S38 := ⟨⟨#[]⟩, 8, false, 0, 0, 0, ⟨#[]⟩, softKids n⟩
def idx8 : List Int := [0, 1, 2, 8, 9, 10, 11, 12]
theorem idx_in (i : Int) (h0 : 0 ≤ i) (h1 : i < 8) : 0 ≤ rd idx8 i ∧ rd idx8 i ≤ 12 := by
  have : i = 0 ∨ i = 1 ∨ i = 2 ∨ i = 3 ∨ i = 4 ∨ i = 5 ∨ i = 6 ∨ i = 7 := by omega
  rcases this with rfl | rfl | rfl | rfl | rfl | rfl | rfl | rfl <;> exact ⟨by decide, by decide⟩
theorem soft_t1 (x4 : List S38) (rows : List S48) (x15 x16 : Int) (n : List Int) (hn : 13 ≤ n.length) (h4 : x4.length ≤ 1000000) (f0 : ByteArray) (f2 : List ByteArray) {r : ByteArray × Int × Bool × Int × Int × Nat × ByteArray × (List (S38)) × Int}
    (hk : Ev (fun k => spec_SoftnetTree.l0 k (x4 ++ [softNode n]) rows x15 (wrap64 (x16 + 1))) r) :
    Ev (fun k => spec_SoftnetTree.l1 k x4 [] rows x15 x16 idx8 (idx8.length : Int) 0 f0 n f2) r := by
  obtain ⟨names, hnm, hnl⟩ : ∃ names, spec_softnetNames.f = some names ∧ names.length = 9 := ⟨_, rfl, rfl⟩
  have hlen : (idx8.length : Int) = 8 := rfl
  have st : ∀ (i : Int) (y : List S38), 0 ≤ i → i < 8 → y.length ≤ 40 → ∀ k, spec_SoftnetTree.l1 (k + 1) x4 y rows x15 x16 idx8 (idx8.length : Int) i f0 n f2 = spec_SoftnetTree.l1 k x4 (y ++ [lfU (rdOf ByteArray.empty names i) (rd n (rd idx8 i))]) rows x15 x16 idx8 (idx8.length : Int) (i + 1) f0 n f2 := by
    intro i y h0 h1 hy k
    have w : wrap64 (i + 1) = i + 1 := wr64 _ (by omega)
    obtain ⟨a, b⟩ := idx_in i h0 h1
    rw [spec_SoftnetTree.l1, if_pos (by rw [hlen]; exact h1), if_pos h0, if_pos (by rw [hlen]; exact h1), hnm, Option.bind_some, if_pos (show i < (names.length : Int) by omega), if_pos a, if_pos (show rd idx8 i < (n.length : Int) by omega)]
    simp only [spec_uintNode.f, Option.bind_some, if_pos (show y.length < 1466015503701 by omega), w]
    rfl
  refine Ev.step (st 0 _ (by omega) (by omega) (by simp)) ?_
  refine Ev.step (st _ _ (by omega) (by omega) (by simp)) ?_
  refine Ev.step (st _ _ (by omega) (by omega) (by simp)) ?_
  refine Ev.step (st _ _ (by omega) (by omega) (by simp)) ?_
  refine Ev.step (st _ _ (by omega) (by omega) (by simp)) ?_
  refine Ev.step (st _ _ (by omega) (by omega) (by simp)) ?_
  refine Ev.step (st _ _ (by omega) (by omega) (by simp)) ?_
  refine Ev.step (st _ _ (by omega) (by omega) (by simp)) ?_
  refine Ev.step (fun k => by rw [spec_SoftnetTree.l1]) ?_
  have hc : ¬ ((0 : Int) + 1 + 1 + 1 + 1 + 1 + 1 + 1 + 1 < (idx8.length : Int)) := by rw [hlen]; omega
  simp only [if_neg hc, spec_intNode.f, spec_recordNode.f, Option.bind_some, if_pos (show x4.length < 1466015503701 by omega)]
  cases hnm
  exact hk
theorem soft_t0 : ∀ (l A : List (List Int)) (acc : List S38), (A ++ l).length ≤ 1000000 → acc.length ≤ A.length → (∀ n ∈ l, 13 ≤ n.length) →
    Ev (fun k => spec_SoftnetTree.l0 k acc ((A ++ l).map rowN) (((A ++ l).map rowN).length : Int) (A.length : Int)) ((⟨#[]⟩ : ByteArray), 6, false, 0, 0, 0, (⟨#[]⟩ : ByteArray), acc ++ l.map softNode, 1)
  | [], A, acc, hl, ha, hn => by
    refine Ev.step (fun k => by rw [spec_SoftnetTree.l0]) ?_
    simp only [List.append_nil, List.length_map, if_neg (show ¬ ((A.length : Int) < (A.length : Int)) by omega), spec_listNode.f, Option.bind_some, List.map_nil]
    exact Ev.now _
  | x :: l, A, acc, hl, ha, hn => by
    have hll : A.length + (l.length + 1) ≤ 1000000 := by simpa using hl
    refine Ev.step (fun k => by rw [spec_SoftnetTree.l0]) ?_
    have w : wrap64 ((A.length : Int) + 1) = ((A ++ [x]).length : Int) := by rw [wr64 _ (by omega)]; simp
    have e : A ++ x :: l = (A ++ [x]) ++ l := by simp
    have r : rd_T48 ((A ++ x :: l).map rowN) (A.length : Int) = rowN x := by
      have := rd48_mid (A.map rowN) (rowN x) (l.map rowN)
      rw [List.length_map] at this
      rw [List.map_append]
      exact this
    have cl : (A.length : Int) < (((A ++ x :: l).map rowN).length : Int) := by simp; omega
    simp only [if_pos cl, if_pos (show (0 : Int) ≤ (A.length : Int) by omega), r, Option.bind_some]
    have := soft_t0 l (A ++ [x]) (acc ++ [softNode x]) (by rw [← e]; exact hl) (by simp; omega) (fun n h => hn n (by simp [h]))
    rw [List.append_assoc acc] at this
    rw [← e] at this
    have h2 := soft_t1 acc ((A ++ x :: l).map rowN) (((A ++ x :: l).map rowN).length : Int) (A.length : Int) x (hn x (by simp)) (by omega) ⟨#[]⟩ [] (by rw [w]; exact this)
    exact h2
theorem soft_tree (N : List (List Int)) (hl : N.length ≤ 1000000) (hn : ∀ n ∈ N, 13 ≤ n.length) (hfi : Ev (fun k => spec_softnetFine.f k (N.map rowN)) true) :
    Ev (fun k => spec_SoftnetTree.f k (N.map rowN)) ((⟨#[]⟩ : ByteArray), 6, false, 0, 0, 0, (⟨#[]⟩ : ByteArray), N.map softNode, 1) := by
  unfold spec_SoftnetTree.f
  refine Ev.bind hfi ?_
  simp only [if_true]
  exact soft_t0 N [] [] (by simpa using hl) (by simp) hn
theorem hexAll_nonneg : ∀ (fs : List Bs) (n : List Int), hexAll fs = some n → ∀ x ∈ n, 0 ≤ x
  | [], n, h, x, hx => by obtain rfl := Option.some.inj h; cases hx
  | f :: fs, n, h, x, hx => by
    obtain ⟨m, hm, h⟩ := Option.bind_eq_some_iff.mp h
    obtain ⟨r, hr, rfl⟩ := Option.map_eq_some_iff.1 h
    rcases List.mem_cons.1 hx with hx | hx
    · rw [hx]; omega
    · exact hexAll_nonneg fs r hr x hx
theorem hexRows_nonneg {L : List Bs} {N : List (List Int)} (h : HexRows L N) : ∀ n ∈ N, ∀ x ∈ n, 0 ≤ x := by
  induction h with
  | nil => intro n hn; cases hn
  | cons h1 h2 ih =>
    intro n hn
    rcases List.mem_cons.1 hn with hn | hn
    · rw [hn]; exact hexAll_nonneg _ _ h1
    · exact ih n hn
theorem rd_wrap (n : List Int) (h0 : ∀ x ∈ n, 0 ≤ x) (h1 : ∀ x ∈ n, x ≤ 4294967295) (i : Nat) (hi : i < n.length) : IntKind.u64.wrap (rd n (i : Int)) = rd n (i : Int) := by
  have e : rd n (i : Int) = n[i] := by unfold rd; rw [Int.toNat_natCast, List.getD_eq_getElem?_getD, List.getElem?_eq_getElem hi]; rfl
  have a := h0 _ (List.getElem_mem hi)
  have b := h1 _ (List.getElem_mem hi)
  rw [e]
  exact u64w _ (by omega)
theorem soft_cast (n : List Int) (hn : 13 ≤ n.length) (h0 : ∀ x ∈ n, 0 ≤ x) (h1 : ∀ x ∈ n, x ≤ 4294967295) : Cast (softNode4 (statOf n)) (softNode n) := by
  have w := rd_wrap n h0 h1
  have e : softKids4 (statOf n) = [lfU4 ⟨#[80, 114, 111, 99, 101, 115, 115, 101, 100]⟩ (rd n 0), lfU4 ⟨#[68, 114, 111, 112, 112, 101, 100]⟩ (rd n 1), lfU4 ⟨#[84, 105, 109, 101, 83, 113, 117, 101, 101, 122, 101, 100]⟩ (rd n 2), lfU4 ⟨#[67, 80, 85, 67, 111, 108, 108, 105, 115, 105, 111, 110]⟩ (rd n 8), lfU4 ⟨#[82, 101, 99, 101, 105, 118, 101, 100, 82, 112, 115]⟩ (rd n 9), lfU4 ⟨#[70, 108, 111, 119, 76, 105, 109, 105, 116, 67, 111, 117, 110, 116]⟩ (rd n 10), lfU4 ⟨#[83, 111, 102, 116, 110, 101, 116, 66, 97, 99, 107, 108, 111, 103, 76, 101, 110]⟩ (rd n 11), lfU4 ⟨#[73, 110, 100, 101, 120]⟩ (rd n 12), ⟨⟨#[87, 105, 100, 116, 104]⟩, 2, false, (n.length : Int), 0, 0, ⟨#[]⟩, []⟩] := by
    unfold softKids4 statOf
    dsimp only
    rw [show IntKind.u64.wrap (rd n 0) = rd n 0 from w 0 (by omega), show IntKind.u64.wrap (rd n 1) = rd n 1 from w 1 (by omega), show IntKind.u64.wrap (rd n 2) = rd n 2 from w 2 (by omega), show IntKind.u64.wrap (rd n 8) = rd n 8 from w 8 (by omega), show IntKind.u64.wrap (rd n 9) = rd n 9 from w 9 (by omega), show IntKind.u64.wrap (rd n 10) = rd n 10 from w 10 (by omega), show IntKind.u64.wrap (rd n 11) = rd n 11 from w 11 (by omega), show IntKind.u64.wrap (rd n 12) = rd n 12 from w 12 (by omega)]
  unfold softNode4 softNode
  rw [e]
  exact cast_node (by simp) (.cons cast_leaf (.cons cast_leaf (.cons cast_leaf (.cons cast_leaf (.cons cast_leaf (.cons cast_leaf (.cons cast_leaf (.cons cast_leaf (.cons cast_leaf .nil)))))))))
theorem soft_same (n : List Int) : Same (softNode n) := by
  refine same_node (by simp [softKids]) ?_
  intro x hx
  simp only [softKids, lfU, List.mem_cons, List.not_mem_nil, or_false] at hx
  rcases hx with rfl | rfl | rfl | rfl | rfl | rfl | rfl | rfl | rfl <;> exact same_leaf
theorem soft_casts : ∀ (N : List (List Int)), (∀ n ∈ N, 13 ≤ n.length) → (∀ n ∈ N, ∀ x ∈ n, 0 ≤ x) → (∀ n ∈ N, ∀ x ∈ n, x ≤ 4294967295) → Casts ((N.map statOf).map softNode4) (N.map softNode)
  | [], _, _, _ => .nil
  | n :: N, hn, h0, h1 => .cons (soft_cast n (hn n (by simp)) (h0 n (by simp)) (h1 n (by simp))) (soft_casts N (fun m h => hn m (by simp [h])) (fun m h => h0 m (by simp [h])) (fun m h => h1 m (by simp [h])))
end Go.Proofs.YtabfehcpcjcomaaGreatDoor.R
namespace Go.Proofs.YtabfehcpcjcomaaGreatDoor.QA0
open Go.RowKit Go.Proofs.YtabfehcpcjcomaaGreatDoorW.PrintWords Go.Proofs.YtabfehcpcjcomaaGreatDoorW.PrintLast Go.Proofs.YtabfehcpcjcomaaGreatDoorW.PrintMore
attribute [local go_sem] max2_int min2_int max_two min_two max_three min_three max_four min_four
set_option linter.unusedVariables false
set_option linter.unusedSimpArgs false
def laws_FnSoftnetRead.f (k : Nat) (a0 : ByteArray) : Option (Bool) := if (a0.size : Int) > 2147483647 then (some true) else ((laws_read_22_23_24.f k a0 () () ()).bind fun t1078 => (some t1078))
set_option maxHeartbeats 8000000 in
set_option maxRecDepth 100000 in
theorem laws_FnSoftnetRead.calls (k : Nat) (a0 : ByteArray) (r : Bool) (w : World) (h : laws_FnSoftnetRead.f k a0 = some r) (hTabs : R.LTabs w := by first | assumption | exact Aside0.out ‹Aside0 (R.LTabs _)› | exact R.LTabs.below (Aside0.out ‹Aside0 (R.LTabs _)›) (by repeat (first | (with_reducible first | exact Aside0.out ‹Aside0 (Below _ _ _)› | exact Below.refl _ _ | apply below_alloc | apply pw_below_drewN | apply below_drew1)))) :
 Calls Tryz.prog 7 #[.string a0] w fun e w' => e = .returned (.bool r) ∧ Below w.heap.size w w' := by
 have HTabs := Aside0.mk hTabs; clear hTabs; have HB := Aside0.mk (Below.refl w.heap.size w); have H : (if (a0.size : Int) > 2147483647 then (some true) else ((laws_read_22_23_24.f k a0 () () ()).bind fun t1078 => (some t1078))) = some r := h; clear h
 by_cases c2 : (a0.size : Int) > 2147483647
 · rw [if_pos c2] at H; have c2b0 : decide (2147483647 < (a0.size : Int)) = true := decide_eq_true c2; have c2b1 : decide (2147483647 < a0.size) = true := decide_eq_true (by omega); clear c2; obtain rfl := Option.some.inj H
   go_enter Tryz.func7, Tryz.ntmps7
   go_wp2
   go_ret
   exact ⟨by first | rfl | (simp [errW_none, errW_some] <;> rfl) | (simp [*, errW_none, errW_some] <;> rfl), by repeat (first | (with_reducible first | exact HB.out | apply below_alloc | apply pw_below_drewN | apply below_drew1) | exact HB.out)⟩
 · rw [if_neg c2] at H; have c2b0 : decide (2147483647 < (a0.size : Int)) = false := decide_eq_false c2; have c2b1 : decide (2147483647 < a0.size) = false := decide_eq_false (by omega); clear c2; replace H := Option.bind_eq_some_iff.mp H; obtain ⟨t1078, A30, H⟩ := H; replace H : (some t1078) = some r := H; have A3 := Aside0.mk A30; clear A30; obtain rfl := Option.some.inj H
   go_enter Tryz.func7, Tryz.ntmps7
   go_wp2_with (first | ((with_reducible refine gate_callee (f := 9) rfl ?_); refine goesL_ (some 7) rfl rfl Tryz.func9 (by kernel_rfl) rfl #[.string a0, .func (.func 22) #[] #[], .func (.func 23) #[] #[], .func (.func 24) #[] #[]] rfl (by (try simp only [List.map_toArray, List.map_cons, List.map_nil]); first | done | rfl | (simp only [List.length_drop, List.length_take]; rfl)) ?_; (with_reducible refine (laws_read_22_23_24.calls k a0 () () () t1078 _ A3.out).mono ?_); rintro e w4 ⟨rfl, hb⟩; refine ⟨_, rfl, ?_⟩; have n0_ := Aside0.mk (below_step (by repeat (first | (with_reducible first | exact HB.out | apply below_alloc | apply pw_below_drewN | apply below_drew1) | exact HB.out)) hb); clear HB; have HB := n0_; clear n0_; (try clear hb); (try clear hb2); (try clear hk); (try clear hi)))
   go_ret
   exact ⟨by first | rfl | (simp [errW_none, errW_some] <;> rfl) | (simp [*, errW_none, errW_some] <;> rfl), by repeat (first | (with_reducible first | exact HB.out | apply below_alloc | apply pw_below_drewN | apply below_drew1) | exact HB.out)⟩
def laws_FnSoftnetRead.Pure : Prop := ∀ (a0 : ByteArray), a0.size ≤ 140737488351232 → ∃ k, laws_FnSoftnetRead.f k a0 = some true
theorem laws_FnSoftnetRead.walk (P : laws_FnSoftnetRead.Pure) (a0 : ByteArray) (w : World) (w0 : a0.size ≤ 140737488351232) (hTabs : R.LTabs w) :
 Calls Tryz.prog 7 #[.string a0] w fun e w' => e = .returned (.bool true) ∧ Below w.heap.size w w' := by
 obtain ⟨k, h⟩ := P a0 w0; refine (laws_FnSoftnetRead.calls k a0 true w h).mono ?_; rintro e w' ⟨rfl, hd⟩; exact ⟨rfl, hd⟩
end Go.Proofs.YtabfehcpcjcomaaGreatDoor.QA0
namespace Go.Proofs.YtabfehcpcjcomaaGreatDoor.R
open Go.RowKit Go.Proofs.YtabfehcpcjcomaaGreatDoor.QA0 Go.Proofs.YtabfehcpcjcomaaGreatDoorW.PrintWords Go.Proofs.YtabfehcpcjcomaaGreatDoorW.PrintLast Go.Proofs.YtabfehcpcjcomaaGreatDoorW.PrintMore
set_option linter.unusedVariables false
set_option linter.unusedSimpArgs false
theorem softnet_pure : laws_FnSoftnetRead.Pure := by
  intro a0 hz
  refine Ev.rounds (g := fun k => laws_FnSoftnetRead.f k a0) ?_
  unfold laws_FnSoftnetRead.f
  by_cases c : (a0.size : Int) > 2147483647
  · simp only [if_pos c]; exact Ev.now _
  · simp only [if_neg c]
    refine Ev.bind ?_ (Ev.now _)
    unfold laws_read_22_23_24.f
    by_cases d : (a0.size : Int) > 40000
    · simp only [if_pos d]; exact Ev.now _
    · simp only [if_neg d]
      have hs : a0.size ≤ 40000 := by omega
      obtain ⟨r, hr, hp⟩ := soft_read a0 hs
      refine Ev.bind hr ?_
      by_cases e : r.2.2 = 1
      · obtain ⟨N, hpl, hrows, h1, h2, hfine, hev⟩ := hp e
        rw [h1] at hfine hev
        have hf : ∀ n ∈ N, (n.length = 13 ∨ n.length = 15) ∧ ∀ x ∈ n, x ≤ 4294967295 := fun n hn => hfine (rowN n) (List.mem_map.2 ⟨n, hn, rfl⟩)
        have h13 : ∀ n ∈ N, 13 ≤ n.length := fun n hn => by have := (hf n hn).1; omega
        have hlen : N.length ≤ 40001 := by
          rw [hexRows_len hrows]
          have := lines_n a0.data.toList []
          have hz : a0.data.toList.length = a0.size := by simp
          simp only [if_true, Nat.add_zero] at this
          unfold linesL
          omega
        simp only [if_pos e, if_pos h2, h1]
        refine Ev.bind (soft_impl a0 hs N hpl hrows hf) ?_
        refine Ev.bind (soft_tree N (by omega) h13 hev) ?_
        simp only [if_true]
        have hn := cast_node (n := ⟨#[]⟩) (kd := 6) (b := false) (i := 0) (u := 0) (f := 0) (s := ⟨#[]⟩) (l := (N.map statOf).map softNode4) (by simp; omega) (soft_casts N h13 (hexRows_nonneg hrows) (fun n hn => (hf n hn).2))
        refine Ev.bind hn ?_
        have hm := same_node (n := ⟨#[]⟩) (kd := 6) (b := false) (i := 0) (u := 0) (f := 0) (s := ⟨#[]⟩) (l := N.map softNode) (by simp; omega) (by
          intro x hx
          obtain ⟨n, _, rfl⟩ := List.mem_map.1 hx
          exact soft_same n)
        refine Ev.bind hm ?_
        simp only [if_true, laws_lives.f, Option.bind_some]
        exact Ev.now _
      · simp only [if_neg e, laws_lives.f, Option.bind_some]
        exact Ev.now _
end Go.Proofs.YtabfehcpcjcomaaGreatDoor.R
namespace Go.Proofs.YtabfehcpcjcomaaGreatDoor.fnSoftnetRead
open Go.ChangeShapes Go.WideShapes Go.ChangeAt Go.RowKit
open Go.ChangeMaps (open_string shut_string)
open Go.Proofs.YtabfehcpcjcomaaGreatDoorW.PrintWords Go.Proofs.YtabfehcpcjcomaaGreatDoor.R Go.Proofs.YtabfehcpcjcomaaGreatDoor.Ck
set_option linter.unusedVariables false
set_option linter.unusedSimpArgs false
theorem witness_row (os : Os) {H : Type} (enc : TypeId × Value → H) :
    (OpenSpec.ofChange Rows.fnSoftnetReadSpec).preRow enc Tryz.prog Tryz.f7 Rows.fnSoftnetReadRow.domain false Rows.fnSoftnetReadRow.laid ((laidWorld os).forCall (fun _ _ => 0) ⟨#[], #[.string ⟨#[]⟩], []⟩).memory #[.string ⟨#[]⟩] := by
  have hw : (DataW.whole enc Tryz.prog ((laidWorld os).forCall (fun _ _ => 0) ⟨#[], #[.string ⟨#[]⟩], []⟩).memory Tryz.f7.params.toList Rows.fnSoftnetReadSpec.vars false (#[.string ⟨#[]⟩] : Array Value).toList 8).map (fun x => (x.1, x.2.1)) =
      some ([.lit (.string [])], []) := by kernel_rfl
  obtain ⟨⟨x1, x2, x3⟩, hx, hx1⟩ := Option.map_eq_some_iff.1 hw
  simp only [Prod.mk.injEq] at hx1
  obtain ⟨rfl, rfl⟩ := hx1
  exact OpenSpec.preRow_of_cond 8 hx (by kernel_rfl) (fun k hk => by cases hk) (by kernel_rfl) (laid_met os _)
set_option maxRecDepth 100000 in
theorem lifted (os : Os) (started : os.Started) (H : Type) (enc : TypeId × Value → H) (F : Stop.Interp) :
    ReturnsInHanded {} Tryz.checked os 7 .any ((OpenSpec.ofChange Rows.fnSoftnetReadSpec).preRow enc Tryz.prog Tryz.f7 Rows.fnSoftnetReadRow.domain false Rows.fnSoftnetReadRow.laid) (((OpenSpec.ofChange Rows.fnSoftnetReadSpec).at F).post enc Tryz.prog Tryz.f7 false true false false) := by
  refine returnsInHanded_of_row (C := Tryz.checked) (s := OpenSpec.ofChange Rows.fnSoftnetReadSpec) own started (by kernel_rfl) Tryz.func7
    (witness_row_atRef (enc := enc) (C := Tryz.checked) false (laidWorld os) #[.string ⟨#[]⟩] rfl (vars_ok os _) (by kernel_rfl) (by kernel_rfl) (witness_row os enc)) ?_
  intro W base args ds gs before hval0 hW hcnd _ hsz0 hL hsh _
  have hsz : (DataW.weightsEach Tryz.prog (Tryz.f7.params.toList ++ (OpenSpec.ofChange Rows.fnSoftnetReadSpec).bare.plain.varTypes Tryz.prog) (ds ++ gs)).all (· ≤ reachBytes) = true := hsz0
  have hval : ∀ (j : Nat) t v, Tryz.f7.params[j]? = some t → args[j]? = some v → Value.okWide Tryz.prog W .any base t v := hval0
  have hW' := hW
  obtain ⟨p, q, hA0, hV, rfl, hfz, hnd⟩ := hW
  have hA : DataW.TrodAll enc Tryz.prog W 0 (fun _ => true) true Tryz.f7.params.toList args.toList ds p := hA0
  rw [Tryz.params7] at hA hval hsz
  obtain ⟨v0, vs0, d0, ds0, p0, q0, hargs, rfl, rfl, h0, r0⟩ := trodAll_cons hA
  obtain ⟨rfl, rfl, rfl⟩ := trodAll_nil r0
  obtain rfl : args = #[v0] := by cases args; simp_all
  obtain ⟨rfl, rfl⟩ := trodVars_none hV
  obtain ⟨a0, rfl, rfl, rfl, y0⟩ := open_string Tryz.underlying9 (hval 0 9 v0 rfl rfl) h0
  have w0 : a0.size ≤ 140737488351232 := by
    have z := sized_string hsz (j := 0) (t := 9) rfl rfl
    rw [Array.length_toList] at z
    exact z
  clear hA0 hval0 hsz0 hsz
  refine (QA0.laws_FnSoftnetRead.walk softnet_pure a0 W w0 (tabs_of (show laidMetH Tryz.prog rowL W from hL))).mono fun e W' ⟨he, bel⟩ => ?_
  subst he
  exact ⟨_, rfl, _, _, _, [], _, [], hW', trodAll_mk1 (shut_bool Tryz.underlying4 _), (trodAll_cons_mk (shut_string Tryz.underlying9 y0) trodAll_mk0), rfl, bel.frame _, fun h => by cases h⟩
theorem said : Rows.FnSoftnetReadSaid :=
  OpenClaim.holds_of_cond 7 Tryz.f7 rfl rfl rfl rfl rfl rfl rfl ⟨rfl, rfl, rfl, rfl, rfl⟩ rfl rfl rfl rfl rfl (by kernel_rfl) Tryz.func7 (by kernel_rfl)
    (of_decide_eq_true (by kernel_rfl)) (by unfold Func.isWrapper; first | (rw [if_pos (by decide +kernel)]; kernel_rfl) | (rw [if_neg (by decide +kernel)]; exact ⟨rfl, rfl⟩))
    (fun os started H enc _ F => by rw [OpenClaim.pre_eq_preRow]; exact lifted os started H enc F)
theorem plain (f : FuncId) (fn : Func) (hf : Tryz.pinned.checked.prog.funcNamed "pub-frontispiece/laws.FnSoftnetRead" = some f) (hfn : Tryz.pinned.checked.prog.funcs[f]? = some fn) :
    true = Tryz.pinned.checked.prog.looks [] ∧ ∀ (j : Nat) t, fn.params[j]? = some t → Tryz.pinned.checked.prog.wantsStandIn t = false := by
  obtain rfl : f = 7 := Option.some.inj ((show Tryz.prog.funcNamed "pub-frontispiece/laws.FnSoftnetRead" = some 7 by kernel_rfl).symm.trans hf) |>.symm
  obtain rfl : fn = Tryz.f7 := (Option.some.inj (Tryz.func7.symm.trans hfn)).symm
  refine ⟨by kernel_rfl, fun j t ht => ?_⟩
  rw [Tryz.params7] at ht
  obtain rfl : t = 9 := by simpa using Array.mem_of_getElem? ht
  exact (show Tryz.prog.wantsStandIn 9 = false by kernel_rfl)
theorem card : Rows.FnSoftnetReadCardSaid :=
  Claim7.holds_tied_plain_at .later [] _ _ _ _ said (fun _ h => by cases h) (by kernel_rfl) (fun _ h => by cases h) fnSoftnetRead_row_tie rfl ⟨rfl, rfl⟩ (by kernel_rfl) rfl plain (by kernel_rfl)
#print axioms card
end Go.Proofs.YtabfehcpcjcomaaGreatDoor.fnSoftnetRead
namespace Go.Proofs.YtabfehcpcjcomaaGreatDoor
theorem fnSoftnetRead_card_holds : Rows.FnSoftnetReadCardSaid := fnSoftnetRead.card
end Go.Proofs.YtabfehcpcjcomaaGreatDoor
