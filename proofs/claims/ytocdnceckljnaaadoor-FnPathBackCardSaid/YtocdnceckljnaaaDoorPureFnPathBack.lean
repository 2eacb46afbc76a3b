/- A clean path from the root on, of bytes from 16 to 127, is escaped as a unit's name and unescaped to itself, and so is the root. No condition beside the statement's own. -/
import Derived.Test.YtocdnceckljnaaaDoorQPBx3
namespace Go.Proofs.YtocdnceckljnaaaDoor.Pure
open Go.RowKit Go.Proofs.YtocdnceckljnaaaDoor.QPB Go.Proofs.YtocdnceckljnaaaDoorW.PrintWords Go.Proofs.YtocdnceckljnaaaDoorW.PrintLast

/-- The hexadecimal digit of a number below 16. -/
def hx (n : Int) : Int := if n < 10 then 48 + n else 87 + n
def keptB (c : Int) : Bool := (97 ≤ c && c ≤ 122) || (65 ≤ c && c ≤ 90) || (48 ≤ c && c ≤ 57) || c == 58 || c == 95 || c == 46
/-- What stands in the place of a byte. -/
def chunk (first : Bool) (c : Int) : List Int := if c = 47 then [45] else if keptB c = true ∧ ¬ (first = true ∧ c = 46) then [c] else [92, 120, hx (c / 16), hx (c % 16)]
def chunks (s : ByteArray) : Nat → Nat → List Int
  | _, 0 => []
  | i, d + 1 => chunk (i == 0) (bt s i) ++ chunks s (i + 1) d

theorem chunk_slash (b : Bool) (c : Int) (h : c = 47) : chunk b c = [45] := by unfold chunk; rw [if_pos h]
theorem chunk_keep (b : Bool) (c : Int) (h : ¬ c = 47) (hk : keptB c = true) (hn : ¬ (b = true ∧ c = 46)) : chunk b c = [c] := by
  unfold chunk; rw [if_neg h]; exact if_pos ⟨hk, hn⟩
theorem chunk_hex (b : Bool) (c : Int) (h : ¬ c = 47) (hk : keptB c = true → b = true ∧ c = 46) : chunk b c = [92, 120, hx (c / 16), hx (c % 16)] := by
  unfold chunk; rw [if_neg h]; exact if_neg (fun q => q.2 (hk q.1))
theorem chunk_len (b : Bool) (c : Int) : (chunk b c).length ≤ 4 := by
  unfold chunk
  split
  · simp
  · split <;> simp
theorem chunks_len (s : ByteArray) : ∀ d i, (chunks s i d).length ≤ 4 * d
  | 0, _ => by simp [chunks]
  | d + 1, i => by
    have h1 := chunk_len (i == 0) (bt s i)
    have h2 := chunks_len s d (i + 1)
    simp only [chunks, List.length_append]
    omega

def sameHex (c : Int) : Bool :=
  (unit_zzHex.f c).map (fun t => t.data.toList) == some ([92, 120, hx (c / 16), hx (c % 16)].map fun n => UInt8.ofNat n.toNat)
theorem hex_all : ∀ n : Fin 240, sameHex ((n.val + 16 : Nat) : Int) = true := by decide +kernel
theorem ba_ext {s t : ByteArray} (h : s.data.toList = t.data.toList) : s = t := by
  cases s; cases t
  simpa using h
theorem hex_of (c : Int) (h0 : 16 ≤ c) (h1 : c ≤ 255) : unit_zzHex.f c = some (strOfNums [92, 120, hx (c / 16), hx (c % 16)]) := by
  have h := hex_all ⟨c.toNat - 16, by omega⟩
  have e : ((c.toNat - 16 + 16 : Nat) : Int) = c := by omega
  simp only [e] at h
  unfold sameHex at h
  rw [beq_iff_eq] at h
  cases hz : unit_zzHex.f c with
  | none => rw [hz] at h; simp at h
  | some t =>
    rw [hz] at h
    simp only [Option.map_some, Option.some.injEq] at h
    rw [ba_ext (h.trans (strOfNums_data _).symm)]

def sameIdx (c : Int) : Bool :=
  (strings_IndexByte.f (⟨#[58, 95, 46, 97, 98, 99, 100, 101, 102, 103, 104, 105, 106, 107, 108, 109, 110, 111, 112, 113, 114, 115, 116, 117, 118, 119, 120, 121, 122, 65, 66, 67, 68, 69, 70, 71, 72, 73, 74, 75, 76, 77, 78, 79, 80, 81, 82, 83, 84, 85, 86, 87, 88, 89, 90, 48, 49, 50, 51, 52, 53, 54, 55, 56, 57]⟩ : ByteArray) c).map (fun t => t == (-1)) == some (!keptB c)
theorem idx_all : ∀ n : Fin 256, sameIdx ((n.val : Nat) : Int) = true := by decide +kernel
theorem idx_of (c : Int) (h0 : 0 ≤ c) (h1 : c ≤ 255) : ∃ t, strings_IndexByte.f (⟨#[58, 95, 46, 97, 98, 99, 100, 101, 102, 103, 104, 105, 106, 107, 108, 109, 110, 111, 112, 113, 114, 115, 116, 117, 118, 119, 120, 121, 122, 65, 66, 67, 68, 69, 70, 71, 72, 73, 74, 75, 76, 77, 78, 79, 80, 81, 82, 83, 84, 85, 86, 87, 88, 89, 90, 48, 49, 50, 51, 52, 53, 54, 55, 56, 57]⟩ : ByteArray) c = some t ∧ (t = -1 ↔ keptB c = false) := by
  have h := idx_all ⟨c.toNat, by omega⟩
  have e : ((c.toNat : Nat) : Int) = c := by omega
  simp only [e] at h
  unfold sameIdx at h
  rw [beq_iff_eq] at h
  cases hz : strings_IndexByte.f (⟨#[58, 95, 46, 97, 98, 99, 100, 101, 102, 103, 104, 105, 106, 107, 108, 109, 110, 111, 112, 113, 114, 115, 116, 117, 118, 119, 120, 121, 122, 65, 66, 67, 68, 69, 70, 71, 72, 73, 74, 75, 76, 77, 78, 79, 80, 81, 82, 83, 84, 85, 86, 87, 88, 89, 90, 48, 49, 50, 51, 52, 53, 54, 55, 56, 57]⟩ : ByteArray) c with
  | none => rw [hz] at h; simp at h
  | some t =>
    rw [hz] at h
    simp only [Option.map_some, Option.some.injEq] at h
    refine ⟨t, rfl, ?_⟩
    rw [← beq_iff_eq, h]
    cases keptB c <;> simp

theorem son_append (xs ys : List Int) : strOfNums (xs ++ ys) = strOfNums xs ++ strOfNums ys := by
  apply ba_ext
  simp [strOfNums_data, ByteArray.data_append]
theorem son_one (c : Int) : strOfNums [c] = ⟨#[UInt8.ofNat c.toNat]⟩ := rfl
theorem pre_son (a b : Int) : (⟨#[92, 120]⟩ : ByteArray) ++ strOfNums [a, b] = strOfNums [92, 120, a, b] := by
  apply ba_ext
  simp [strOfNums_data, ByteArray.data_append]
theorem bytesOf_son (xs : List Int) (h : ∀ x ∈ xs, 0 ≤ x ∧ x ≤ 255) : bytesOf (strOfNums xs) = xs := by
  unfold bytesOf
  rw [strOfNums_data, List.map_map]
  conv => rhs; rw [← List.map_id xs]
  apply List.map_congr_left
  intro x hx
  have := h x hx
  simp only [Function.comp, id]
  rw [UInt8.toNat_ofNat_of_lt' (by show x.toNat < 256; omega)]
  omega

theorem wrap_next (i n : Nat) (h : i < n) (hn : n ≤ 140737488351232) : wrap64 ((i : Int) + 1) = ((i + 1 : Nat) : Int) := by
  unfold wrap64
  omega

theorem bt_get (s : ByteArray) (i : Nat) (h : i < s.size) : bt s (i : Int) = ((s.data.toList[i]'(by simpa using h)).toNat : Int) := by
  unfold bt
  rw [dif_pos (by simpa using h)]
  simp only [Int.toNat_natCast, Array.getElem_toList]
  rfl
theorem extract_one (s : ByteArray) (i : Nat) (h : i < s.size) : s.extract i (i + 1) = strOfNums [bt s (i : Int)] := by
  apply ba_ext
  rw [strOfNums_data, Lib.extract_data, bt_get s i h, show i + 1 - i = 1 from by omega]
  have hl : i < s.data.toList.length := by simpa using h
  rw [List.drop_eq_getElem_cons hl]
  simp

/-- All bytes from i on are seen or control signs of ASCII from 16 on. -/
def Wr (s : ByteArray) : Prop := ∀ i : Nat, i < s.size → 16 ≤ bt s (i : Int) ∧ bt s (i : Int) ≤ 127

theorem impl_loop (s : ByteArray) (hs : s.size ≤ 140737488351232) (hw : Wr s) : ∀ (d k : Nat) (xs : List Int) (i : Nat) (ins : Bool), i + d = s.size → 2 * d < k → xs.length + 4 * d < 140737488355328 →
    unit_escape.l0 k s false xs ins (i == 0) (i : Int) = some (strOfNums (xs ++ chunks s i d)) := by
  intro d
  induction d with
  | zero =>
    intro k xs i ins hi hk _
    obtain ⟨k, rfl⟩ : ∃ m, k = m + 1 := ⟨k - 1, by omega⟩
    simp only [unit_escape.l0]
    rw [if_neg (by omega), if_neg (by decide)]
    simp only [chunks, List.append_nil]
  | succ d ih =>
    intro k xs i ins hi hk hxs
    obtain ⟨k, rfl⟩ : ∃ m, k = m + 2 := ⟨k - 2, by omega⟩
    have hlt : i < s.size := by omega
    obtain ⟨b0, b1⟩ := hw i hlt
    have hwn := wrap_next i s.size hlt hs
    have hff : ((i + 1 : Nat) == 0) = false := by simp
    have key : ∀ c : List Int, c.length ≤ 4 → unit_escape.l0 k s false (xs ++ c) ins false ((i + 1 : Nat) : Int) = some (strOfNums (xs ++ (c ++ chunks s (i + 1) d))) := by
      intro c hc
      have := ih k (xs ++ c) (i + 1) ins (by omega) (by omega) (by rw [List.length_append]; omega)
      rw [hff] at this
      rw [this, List.append_assoc]
    simp only [unit_escape.l0, chunks]
    rw [if_pos (by omega), if_pos (by omega), if_neg (by decide)]
    simp only [unit_escape.j1]
    rw [hwn]
    generalize hi0 : (i == 0) = st
    by_cases c47 : bt s (i : Int) = 47
    · rw [if_pos c47, chunk_slash _ _ c47, if_pos (by omega)]
      exact key [45] (by simp)
    · rw [if_neg c47]
      obtain ⟨t, ht, hk'⟩ := idx_of (bt s (i : Int)) (by omega) (by omega)
      have hz := hex_of (bt s (i : Int)) (by omega) (by omega)
      have hb : bytesOf (strOfNums [92, 120, hx (bt s (i : Int) / 16), hx (bt s (i : Int) % 16)]) = [92, 120, hx (bt s (i : Int) / 16), hx (bt s (i : Int) % 16)] := by
        apply bytesOf_son
        intro x hx'
        simp at hx'
        rcases hx' with rfl | rfl | rfl | rfl
        · omega
        · omega
        · unfold hx; split <;> omega
        · unfold hx; split <;> omega
      have hexc : (unit_zzHex.f (bt s (i : Int))).bind (fun t128 => if xs.length + t128.size < 140737488355328 then unit_escape.l0 k s false (xs ++ bytesOf t128) ins false ((i + 1 : Nat) : Int) else none) = some (strOfNums (xs ++ ([92, 120, hx (bt s (i : Int) / 16), hx (bt s (i : Int) % 16)] ++ chunks s (i + 1) d))) := by
        rw [hz]
        simp only [Option.bind_some]
        rw [if_pos (by rw [strOfNums_size]; simp; omega), hb]
        exact key _ (by simp)
      have plain : (strings_IndexByte.f (⟨#[58, 95, 46, 97, 98, 99, 100, 101, 102, 103, 104, 105, 106, 107, 108, 109, 110, 111, 112, 113, 114, 115, 116, 117, 118, 119, 120, 121, 122, 65, 66, 67, 68, 69, 70, 71, 72, 73, 74, 75, 76, 77, 78, 79, 80, 81, 82, 83, 84, 85, 86, 87, 88, 89, 90, 48, 49, 50, 51, 52, 53, 54, 55, 56, 57]⟩ : ByteArray) (bt s (i : Int))).bind (fun t135 => if t135 = (-1) then ((unit_zzHex.f (bt s (i : Int))).bind fun t136 => if xs.length + t136.size < 140737488355328 then unit_escape.l0 k s false (xs ++ bytesOf t136) ins false ((i + 1 : Nat) : Int) else none) else (if xs.length < 140737488355328 then unit_escape.l0 k s false (xs ++ [bt s (i : Int)]) ins false ((i + 1 : Nat) : Int) else none)) = some (strOfNums (xs ++ ((if keptB (bt s (i : Int)) = true then [bt s (i : Int)] else [92, 120, hx (bt s (i : Int) / 16), hx (bt s (i : Int) % 16)]) ++ chunks s (i + 1) d))) := by
        rw [ht]
        simp only [Option.bind_some]
        by_cases hkk : keptB (bt s (i : Int)) = true
        · rw [if_neg (fun h => by rw [hk'.1 h] at hkk; cases hkk), if_pos hkk, if_pos (by omega)]
          exact key _ (by simp)
        · rw [if_pos (hk'.2 (by simpa using hkk)), if_neg hkk]
          exact hexc
      by_cases hst : st = true
      · rw [if_pos hst]
        by_cases c46 : bt s (i : Int) = 46
        · rw [if_pos c46, chunk_hex _ _ c47 (fun _ => ⟨hst, c46⟩)]
          exact hexc
        · rw [if_neg c46, plain]
          by_cases hkk : keptB (bt s (i : Int)) = true
          · rw [if_pos hkk, chunk_keep _ _ c47 hkk (fun h => c46 h.2)]
          · rw [if_neg hkk, chunk_hex _ _ c47 (fun h => absurd h hkk)]
      · rw [if_neg hst, plain]
        by_cases hkk : keptB (bt s (i : Int)) = true
        · rw [if_pos hkk, chunk_keep _ _ c47 hkk (fun h => hst h.1)]
        · rw [if_neg hkk, chunk_hex _ _ c47 (fun h => absurd h hkk)]

theorem impl_tells (s : ByteArray) (hs : s.size ≤ 35184372000000) (hw : Wr s) (k : Nat) (hk : 2 * s.size < k) : impl_NameEscape.f k s = some (strOfNums (chunks s 0 s.size)) := by
  have h := impl_loop s (by omega) hw s.size k [] 0 false (by omega) hk (by simp; omega)
  unfold impl_NameEscape.f unit_UnitNameEscape.f unit_escape.f
  have e : ((0 : Nat) == 0) = true := rfl
  rw [e] at h
  have h2 : unit_escape.l0 k s false [] false true 0 = some (strOfNums (chunks s 0 s.size)) := h
  rw [h2]
  rfl

theorem escapes_yes (k : Nat) (hk : 7 ≤ k) : laws_escapes.f k = some true := by
  unfold laws_escapes.f
  rw [impl_tells _ (by decide) (by intro i hi; have h3 : i < 3 := hi; match i, h3 with | 0, _ => decide | 1, _ => decide | 2, _ => decide) k (by show 2 * 3 < k; omega)]
  simp only [Option.bind_some]
  exact congrArg some (by decide +kernel)



theorem size_bytesOf (s : ByteArray) : (bytesOf s).length = s.size := bytesOf_length s
theorem bt_bytesOf (s : ByteArray) (i : Nat) (h : i < s.size) : bt s (i : Int) = (bytesOf s)[i]'(by rw [bytesOf_length]; exact h) := by
  rw [bt_get s i h]; simp [bytesOf]
theorem bytesOf_append (a b : ByteArray) : bytesOf (a ++ b) = bytesOf a ++ bytesOf b := by simp [bytesOf, ByteArray.data_append]
theorem bytesOf_inj {a b : ByteArray} (h : bytesOf a = bytesOf b) : a = b := by
  apply ba_ext
  unfold bytesOf at h
  have : Function.Injective (fun b : UInt8 => (b.toNat : Int)) := fun x y e => UInt8.toNat_inj.1 (Int.ofNat.inj e)
  exact List.map_inj_right (fun x y e => this e) |>.1 h
theorem son_bytesOf (s : ByteArray) : strOfNums (bytesOf s) = s := by
  apply ba_ext
  rw [strOfNums_data, bytesOf, List.map_map]
  conv => rhs; rw [← List.map_id s.data.toList]
  apply List.map_congr_left
  intro x _
  simp

/-! ### the escape of a path, and back, over lists -/
def escP : Bool → Bool → List Int → List Int
  | _, _, [] => []
  | st, ins, c :: l => if c = 47 then escP st true l else (if ins = true ∧ st = false then [45] else []) ++ chunk st c ++ escP false false l
def decP : Bool → Bool → List Int → List Int
  | _, _, [] => []
  | st, ins, c :: l => if c = 47 then decP st true l else (if ins = true ∧ st = false then [47] else []) ++ [c] ++ decP false false l
def Cl : Bool → List Int → Prop
  | false, [] => True
  | true, [] => False
  | false, c :: l => if c = 47 then Cl true l else Cl false l
  | true, c :: l => if c = 47 then False else Cl false l
theorem dec_clean : ∀ (l : List Int) (ins : Bool), Cl ins l → decP false ins l = if ins = true then 47 :: l else l
  | [], false, _ => rfl
  | [], true, h => h.elim
  | c :: l, false, h => by
    unfold Cl at h
    by_cases e : c = 47
    · rw [if_pos e] at h
      simp only [decP, dec_clean l true h, if_true, e]
      simp
    · rw [if_neg e] at h
      simp only [decP, if_neg e, dec_clean l false h]
      simp
  | c :: l, true, h => by
    unfold Cl at h
    by_cases e : c = 47
    · rw [if_pos e] at h; exact h.elim
    · rw [if_neg e] at h
      simp only [decP, if_neg e, dec_clean l false h]
      simp
theorem cl_plain : ∀ p : List Int, (∀ x ∈ p, x ≠ 47) → Cl false p
  | [], _ => trivial
  | c :: p, h => by
    unfold Cl
    rw [if_neg (h c (by simp))]
    exact cl_plain p fun x hx' => h x (by simp [hx'])
theorem cl_app : ∀ (m : List Int) (ins : Bool) (p : List Int), Cl ins m → p ≠ [] → (∀ x ∈ p, x ≠ 47) → Cl ins (m ++ 47 :: p)
  | [], false, p, _, hp, hn => by
    cases p with
    | nil => exact absurd rfl hp
    | cons c p =>
      show Cl false (47 :: c :: p)
      unfold Cl
      rw [if_pos rfl]
      unfold Cl
      rw [if_neg (hn c (by simp))]
      exact cl_plain p fun x hx' => hn x (by simp [hx'])
  | [], true, _, h, _, _ => h.elim
  | c :: m, false, p, h, hp, hn => by
    unfold Cl at h
    show Cl false (c :: (m ++ 47 :: p))
    unfold Cl
    split
    · rename_i e; rw [if_pos e] at h; exact cl_app m true p h hp hn
    · rename_i e; rw [if_neg e] at h; exact cl_app m false p h hp hn
  | c :: m, true, p, h, hp, hn => by
    unfold Cl at h
    show Cl true (c :: (m ++ 47 :: p))
    unfold Cl
    split
    · rename_i e; rw [if_pos e] at h; exact h
    · rename_i e; rw [if_neg e] at h; exact cl_app m false p h hp hn
/-- A path that is clean: a slash, then parts. -/
def Path (l : List Int) : Prop := ∃ c m, l = 47 :: c :: m ∧ c ≠ 47 ∧ Cl false m
theorem dec_path {l : List Int} (h : Path l) : 47 :: decP true false l = l ∧ ∃ c m, decP true false l = c :: m ∧ c ≠ 47 := by
  obtain ⟨c, m, rfl, hc, hm⟩ := h
  simp only [decP, if_neg hc, dec_clean m false hm]
  exact ⟨by simp, c, m, by simp, hc⟩

/-! ### the loops -/
theorem has_slash (p : ByteArray) (hs : p.size ≤ 140737488351232) : ∀ (d k i : Nat), i + d = p.size → 3 * d < k → laws_has.l0 k p (⟨#[47]⟩ : ByteArray) (p.size : Int) (i : Int) = some (decide ((47 : Int) ∈ (bytesOf p).drop i)) := by
  intro d
  induction d with
  | zero =>
    intro k i hi hk
    obtain ⟨k, rfl⟩ : ∃ m, k = m + 1 := ⟨k - 1, by omega⟩
    simp only [laws_has.l0]
    rw [if_neg (by omega), List.drop_of_length_le (by rw [bytesOf_length]; omega)]
    simp
  | succ d ih =>
    intro k i hi hk
    obtain ⟨k, rfl⟩ : ∃ m, k = m + 3 := ⟨k - 3, by omega⟩
    have hlt : i < p.size := by omega
    have hdrop : (bytesOf p).drop i = bt p (i : Int) :: (bytesOf p).drop (i + 1) := by
      rw [bt_bytesOf p i hlt]
      exact List.drop_eq_getElem_cons (by rw [bytesOf_length]; exact hlt)
    simp only [laws_has.l0, laws_has.l1]
    rw [if_pos (by omega), if_pos (by decide), if_pos (by omega), if_pos (by omega), if_pos (by omega), if_pos (by decide), hdrop]
    have b47 : bt (⟨#[47]⟩ : ByteArray) 0 = 47 := by decide
    rw [b47]
    by_cases c : bt p (i : Int) = 47
    · rw [if_pos c, c]; simp
    · rw [if_neg c]
      have w1 : wrap64 (0 + 1) = 1 := by unfold wrap64; omega
      rw [w1, if_neg (by decide), wrap_next i p.size hlt hs, ih k (i + 1) (by omega) (by omega)]
      have : ¬ (47 : Int) = bt p (i : Int) := fun h => c h.symm
      simp [this]

theorem digits_tells (s : ByteArray) (hs : s.size ≤ 140737488351232) : ∀ (d k i : Nat), i + d = s.size → d < k → ∃ b, laws_twoDigits.l0 k s (s.size : Int) (i : Int) = some b ∧ (b = true → ∀ j, i ≤ j → j < s.size → 16 ≤ bt s (j : Int) ∧ bt s (j : Int) ≤ 127) := by
  intro d
  induction d with
  | zero =>
    intro k i hi hk
    obtain ⟨k, rfl⟩ : ∃ m, k = m + 1 := ⟨k - 1, by omega⟩
    refine ⟨true, ?_, fun _ j h1 h2 => by omega⟩
    simp only [laws_twoDigits.l0]
    rw [if_neg (by omega)]
  | succ d ih =>
    intro k i hi hk
    obtain ⟨k, rfl⟩ : ∃ m, k = m + 1 := ⟨k - 1, by omega⟩
    have hlt : i < s.size := by omega
    simp only [laws_twoDigits.l0]
    rw [if_pos (by omega), if_pos (by omega), if_pos (by omega), wrap_next i s.size hlt hs]
    by_cases c : bt s (i : Int) < 16
    · rw [if_pos c]; exact ⟨false, rfl, fun h => by cases h⟩
    · rw [if_neg c]
      by_cases c0 : bt s (i : Int) > 127
      · rw [if_pos c0]; exact ⟨false, rfl, fun h => by cases h⟩
      · rw [if_neg c0]
        obtain ⟨b, hb, hp⟩ := ih k (i + 1) (by omega) (by omega)
        refine ⟨b, hb, fun h j h1 h2 => ?_⟩
        by_cases e : i = j
        · subst e; omega
        · exact hp h j (by omega) h2

theorem fits_tells (l : List ByteArray) (hl : l.length ≤ 2147483647) : ∀ (d k i : Nat), i + d = l.length → d < k → ∃ b, laws_zzFits4.l0 k l (l.length : Int) (i : Int) = some b ∧ (b = true → ∀ j, i ≤ j → j < l.length → (l.getD j ByteArray.empty).size ≤ 2147483647) := by
  intro d
  induction d with
  | zero =>
    intro k i hi hk
    obtain ⟨k, rfl⟩ : ∃ m, k = m + 1 := ⟨k - 1, by omega⟩
    refine ⟨true, ?_, fun _ j h1 h2 => by omega⟩
    simp only [laws_zzFits4.l0]
    rw [if_neg (by omega)]
  | succ d ih =>
    intro k i hi hk
    obtain ⟨k, rfl⟩ : ∃ m, k = m + 1 := ⟨k - 1, by omega⟩
    have hlt : i < l.length := by omega
    simp only [laws_zzFits4.l0]
    rw [if_pos (by omega), if_pos (by omega), if_pos (by omega), wrap_next i l.length hlt (by omega)]
    have e0 : rdOf ByteArray.empty l (i : Int) = l.getD i ByteArray.empty := rfl
    rw [e0]
    by_cases c : ((l.getD i ByteArray.empty).size : Int) > 2147483647
    · rw [if_pos c]; exact ⟨false, rfl, fun h => by cases h⟩
    · rw [if_neg c]
      obtain ⟨b, hb, hp⟩ := ih k (i + 1) (by omega) (by omega)
      refine ⟨b, hb, fun h j h1 h2 => ?_⟩
      by_cases e : i = j
      · subst e; omega
      · exact hp h j (by omega) h2

/-- What 'cleaned' answers: nothing, or a clean path of at most 2,000 bytes. -/
def CleanAns (r : ByteArray) : Prop := r.toList = [] ∨ (r.size ≤ 2000 ∧ Path (bytesOf r))
theorem toList_nil_iff (s : ByteArray) : s.toList = [] ↔ bytesOf s = [] := by
  rw [Lib.toList_data]
  simp [bytesOf]
theorem nil_toList : (⟨#[]⟩ : ByteArray).toList = [] := by rw [Lib.toList_data]

theorem cleaned_loop (l : List ByteArray) (hl : l.length ≤ 2147483647) (hf : ∀ j, j < l.length → (l.getD j ByteArray.empty).size ≤ 2147483647) (K : Nat) (hK : ∀ j, j < l.length → 3 * (l.getD j ByteArray.empty).size < K) :
    ∀ (d k i : Nat) (acc : ByteArray), i + d = l.length → d + K < k → acc.size ≤ i * 2147483648 → (acc.size = 0 ∧ i = 0 ∨ Path (bytesOf acc)) → 0 < i + d → ∃ r, laws_cleaned.l0 k acc l (l.length : Int) (i : Int) = some r ∧ CleanAns r := by
  intro d
  induction d with
  | zero =>
    intro k i acc hi hk hsz hacc h0
    obtain ⟨k, rfl⟩ : ∃ m, k = m + 1 := ⟨k - 1, by omega⟩
    simp only [laws_cleaned.l0]
    rw [if_neg (by omega)]
    by_cases c : (acc.size : Int) > 2000
    · rw [if_pos c]; exact ⟨_, rfl, Or.inl nil_toList⟩
    · rw [if_neg c]
      refine ⟨_, rfl, Or.inr ⟨by omega, ?_⟩⟩
      rcases hacc with ⟨_, h⟩ | h
      · omega
      · exact h
  | succ d ih =>
    intro k i acc hi hk hsz hacc h0
    obtain ⟨k, rfl⟩ : ∃ m, k = m + 1 := ⟨k - 1, by omega⟩
    have hlt : i < l.length := by omega
    simp only [laws_cleaned.l0]
    have e0 : rdOf ByteArray.empty l (i : Int) = l.getD i ByteArray.empty := rfl
    have hp := hf i hlt
    have hk' := hK i hlt
    rw [if_pos (by omega), if_pos (by omega), if_pos (by omega), wrap_next i l.length hlt (by omega), e0]
    generalize hpe : l.getD i ByteArray.empty = p at *
    by_cases c1 : p.toList = ([] : List UInt8)
    · rw [if_pos c1]; exact ⟨_, rfl, Or.inl nil_toList⟩
    rw [if_neg c1]
    by_cases c2 : p.toList = ([46] : List UInt8)
    · rw [if_pos c2]; exact ⟨_, rfl, Or.inl nil_toList⟩
    rw [if_neg c2]
    by_cases c3 : p.toList = ([46, 46] : List UInt8)
    · rw [if_pos c3]; exact ⟨_, rfl, Or.inl nil_toList⟩
    rw [if_neg c3]
    have hh : laws_has.f k p (⟨#[47]⟩ : ByteArray) = some (decide ((47 : Int) ∈ (bytesOf p).drop 0)) := has_slash p (by omega) p.size k 0 (by omega) (by omega)
    rw [hh, List.drop_zero]
    simp only [Option.bind_some]
    by_cases c4 : (47 : Int) ∈ bytesOf p
    · rw [if_pos (by simpa using c4)]; exact ⟨_, rfl, Or.inl nil_toList⟩
    rw [if_neg (by simpa using c4)]
    have hz1 : ((⟨#[47]⟩ : ByteArray) ++ p).size = 1 + p.size := by rw [ByteArray.size_append]; rfl
    rw [if_pos (by omega), if_pos (by rw [hz1]; omega)]
    have hnb : bytesOf p ≠ [] := fun h => c1 ((toList_nil_iff p).2 h)
    have hb : bytesOf (acc ++ ((⟨#[47]⟩ : ByteArray) ++ p)) = bytesOf acc ++ 47 :: bytesOf p := by
      rw [bytesOf_append, bytesOf_append]; rfl
    have hns : ∀ x ∈ bytesOf p, x ≠ 47 := fun x hx' e => c4 (e ▸ hx')
    refine ih k (i + 1) (acc ++ ((⟨#[47]⟩ : ByteArray) ++ p)) (by omega) (by omega) (by rw [ByteArray.size_append, hz1]; omega) (Or.inr ?_) (by omega)
    rw [hb]
    rcases hacc with ⟨h, _⟩ | ⟨c, m, h, hc, hm⟩
    · have : bytesOf acc = [] := List.eq_nil_of_length_eq_zero (by rw [bytesOf_length]; exact h)
      rw [this]
      cases hq : bytesOf p with
      | nil => exact absurd hq hnb
      | cons c m =>
        rw [hq] at hns
        exact ⟨c, m, rfl, hns c (by simp), cl_plain m fun x hx' => hns x (by simp [hx'])⟩
    · rw [h]
      exact ⟨c, m ++ 47 :: bytesOf p, by simp, hc, cl_app m false _ hm hnb hns⟩

/-! ### escape with slashes -/
theorem chunk_len' (b : Bool) (c : Int) : (chunk b c).length ≤ 4 := chunk_len b c
theorem escP_len : ∀ (l : List Int) (st ins : Bool), (escP st ins l).length ≤ 5 * l.length
  | [], _, _ => by simp [escP]
  | c :: l, st, ins => by
    unfold escP
    have h1 := escP_len l st true
    have h2 := escP_len l false false
    have h3 := chunk_len st c
    simp only [List.length_cons]
    split
    · omega
    · simp only [List.length_append]
      split
      · simp; omega
      · simp; omega

def finE (e : List Int) : Option ByteArray := some (strOfNums (if (e.length : Int) = 0 then e ++ [45] else e))
def ALLOWED : ByteArray := ⟨#[58, 95, 46, 97, 98, 99, 100, 101, 102, 103, 104, 105, 106, 107, 108, 109, 110, 111, 112, 113, 114, 115, 116, 117, 118, 119, 120, 121, 122, 65, 66, 67, 68, 69, 70, 71, 72, 73, 74, 75, 76, 77, 78, 79, 80, 81, 82, 83, 84, 85, 86, 87, 88, 89, 90, 48, 49, 50, 51, 52, 53, 54, 55, 56, 57]⟩
/-- One sign that is no slash. -/
theorem esc_step (s : ByteArray) (hs : s.size ≤ 140737488351232) (k : Nat) (ys : List Int) (i : Nat) (st : Bool) (hlt : i < s.size) (b0 : 16 ≤ bt s (i : Int)) (b1 : bt s (i : Int) ≤ 127) (c47 : ¬ bt s (i : Int) = 47) (hys : ys.length + 4 < 140737488355328) :
    unit_escape.j1 (k + 1) s true ys false st (i : Int) (bt s (i : Int)) = unit_escape.l0 k s true (ys ++ chunk st (bt s (i : Int))) false false ((i + 1 : Nat) : Int) := by
  have hwn := wrap_next i s.size hlt hs
  have hz := hex_of (bt s (i : Int)) (by omega) (by omega)
  have hb : bytesOf (strOfNums [92, 120, hx (bt s (i : Int) / 16), hx (bt s (i : Int) % 16)]) = [92, 120, hx (bt s (i : Int) / 16), hx (bt s (i : Int) % 16)] := by
    apply bytesOf_son
    intro x hx'
    simp at hx'
    rcases hx' with rfl | rfl | rfl | rfl
    · omega
    · omega
    · unfold hx; split <;> omega
    · unfold hx; split <;> omega
  obtain ⟨t, ht, hk'⟩ := idx_of (bt s (i : Int)) (by omega) (by omega)
  generalize bt s (i : Int) = c at *
  have hexc : chunk st c = [92, 120, hx (c / 16), hx (c % 16)] → (unit_zzHex.f c).bind (fun t128 => if ys.length + t128.size < 140737488355328 then unit_escape.l0 k s true (ys ++ bytesOf t128) false false ((i + 1 : Nat) : Int) else none) = unit_escape.l0 k s true (ys ++ chunk st c) false false ((i + 1 : Nat) : Int) := by
    intro hch
    rw [hz, hch]
    simp only [Option.bind_some]
    rw [if_pos (by rw [strOfNums_size]; simp only [List.length_cons, List.length_nil]; omega), hb]
  rw [unit_escape.j1, if_neg c47, hwn, ht]
  simp only [Option.bind_some]
  have plain : (keptB c = true → ¬ (st = true ∧ c = 46)) → (if t = -1 then ((unit_zzHex.f c).bind fun t136 => if ys.length + t136.size < 140737488355328 then unit_escape.l0 k s true (ys ++ bytesOf t136) false false ((i + 1 : Nat) : Int) else none) else (if ys.length < 140737488355328 then unit_escape.l0 k s true (ys ++ [c]) false false ((i + 1 : Nat) : Int) else none)) = unit_escape.l0 k s true (ys ++ chunk st c) false false ((i + 1 : Nat) : Int) := by
    intro hno
    by_cases hkk : keptB c = true
    · rw [if_neg (fun h => by rw [hk'.1 h] at hkk; cases hkk), if_pos (by omega), chunk_keep _ _ c47 hkk (hno hkk)]
    · rw [if_pos (hk'.2 (by simpa using hkk))]
      exact hexc (chunk_hex _ _ c47 (fun h => absurd h hkk))
  by_cases hst : st = true
  · rw [if_pos hst]
    by_cases c46 : c = 46
    · rw [if_pos c46]
      exact hexc (chunk_hex _ _ c47 (fun _ => ⟨hst, c46⟩))
    · rw [if_neg c46]
      exact plain (fun _ h => c46 h.2)
  · rw [if_neg hst]
    exact plain (fun _ h => hst h.1)

theorem esc_loop (s : ByteArray) (hs : s.size ≤ 140737488351232) (hw : Wr s) : ∀ (d k : Nat) (xs : List Int) (i : Nat) (ins st : Bool), i + d = s.size → 2 * d < k → xs.length + 5 * d + 5 < 140737488355328 →
    unit_escape.l0 k s true xs ins st (i : Int) = finE (xs ++ escP st ins ((bytesOf s).drop i)) := by
  intro d
  induction d with
  | zero =>
    intro k xs i ins st hi hk hx'
    obtain ⟨k, rfl⟩ : ∃ m, k = m + 1 := ⟨k - 1, by omega⟩
    rw [unit_escape.l0, if_neg (by omega), if_pos rfl, List.drop_of_length_le (by rw [bytesOf_length]; omega)]
    simp only [escP, List.append_nil]
    unfold finE
    split
    · rw [if_pos (by omega)]
    · rfl
  | succ d ih =>
    intro k xs i ins st hi hk hxs
    obtain ⟨k, rfl⟩ : ∃ m, k = m + 2 := ⟨k - 2, by omega⟩
    have hlt : i < s.size := by omega
    obtain ⟨b0, b1⟩ := hw i hlt
    have hdrop : (bytesOf s).drop i = bt s (i : Int) :: (bytesOf s).drop (i + 1) := by
      rw [bt_bytesOf s i hlt]
      exact List.drop_eq_getElem_cons (by rw [bytesOf_length]; exact hlt)
    rw [hdrop, escP, unit_escape.l0, if_pos (by omega), if_pos (by omega), if_pos rfl]
    by_cases c47 : bt s (i : Int) = 47
    · rw [if_pos c47, if_pos c47, wrap_next i s.size hlt hs]
      exact ih (k + 1) xs (i + 1) true st (by omega) (by omega) (by omega)
    rw [if_neg c47, if_neg c47]
    have h4 := chunk_len st (bt s (i : Int))
    have body : ∀ ys : List Int, ys.length ≤ xs.length + 1 → unit_escape.j1 (k + 1) s true ys false st (i : Int) (bt s (i : Int)) = finE (ys ++ chunk st (bt s (i : Int)) ++ escP false false ((bytesOf s).drop (i + 1))) := by
      intro ys hys
      rw [esc_step s hs k ys i st hlt b0 b1 c47 (by omega)]
      exact ih k (ys ++ chunk st (bt s (i : Int))) (i + 1) false false (by omega) (by omega) (by rw [List.length_append]; omega)
    by_cases hi' : ins = true
    · rw [if_pos hi']
      by_cases hst : st = true
      · rw [if_pos hst, body xs (by omega), if_neg (fun h => by rw [hst] at h; exact absurd h.2 (by decide))]
        simp only [List.nil_append, List.append_assoc]
      · rw [if_neg hst, if_pos (by omega), if_pos ⟨hi', by simpa using hst⟩, body (xs ++ [45]) (by simp)]
        simp only [List.append_assoc]
    · have hif : ins = false := by simpa using hi'
      rw [if_neg hi', if_neg (fun h => hi' h.1), hif, body xs (by omega)]
      simp only [List.nil_append, List.append_assoc]

theorem chunk_bd (b : Bool) (c : Int) (h0 : 16 ≤ c) (h1 : c ≤ 127) : ∀ x ∈ chunk b c, 0 ≤ x ∧ x ≤ 255 := by
  intro x hx'
  unfold chunk at hx'
  split at hx'
  · simp at hx'; omega
  · split at hx'
    · simp at hx'; omega
    · simp at hx'
      rcases hx' with rfl | rfl | rfl | rfl
      · omega
      · omega
      · unfold hx; split <;> omega
      · unfold hx; split <;> omega
theorem escP_bd : ∀ (l : List Int) (st ins : Bool), (∀ x ∈ l, 16 ≤ x ∧ x ≤ 127) → ∀ x ∈ escP st ins l, 0 ≤ x ∧ x ≤ 255
  | [], _, _, _, x, hx' => by simp [escP] at hx'
  | c :: l, st, ins, h, x, hx' => by
    unfold escP at hx'
    have hl : ∀ x ∈ l, 16 ≤ x ∧ x ≤ 127 := fun y hy => h y (by simp [hy])
    have hc := h c (by simp)
    split at hx'
    · exact escP_bd l st true hl x hx'
    · simp only [List.mem_append] at hx'
      rcases hx' with (h1 | h1) | h1
      · split at h1
        · simp at h1; omega
        · simp at h1
      · exact chunk_bd st c hc.1 hc.2 x h1
      · exact escP_bd l false false hl x h1

theorem at_drop {X : ByteArray} {i : Nat} {pre rest : List Int} (h : (bytesOf X).drop i = pre ++ rest) (j : Nat) (hj : j < pre.length) : i + j < X.size ∧ bt X ((i + j : Nat) : Int) = pre[j] := by
  have hlen : ((bytesOf X).drop i).length = X.size - i := by rw [List.length_drop, bytesOf_length]
  have h2 : (pre ++ rest).length = X.size - i := by rw [← h, hlen]
  have hlt : i + j < X.size := by rw [List.length_append] at h2; omega
  refine ⟨hlt, ?_⟩
  rw [bt_bytesOf X (i + j) hlt]
  have h3 : ((bytesOf X).drop i)[j]'(by rw [hlen]; omega) = (pre ++ rest)[j]'(by rw [List.length_append]; omega) := by simp only [h]
  rw [List.getElem_drop] at h3
  rw [h3, List.getElem_append_left hj]
theorem next_drop {X : ByteArray} {i : Nat} {pre rest : List Int} (h : (bytesOf X).drop i = pre ++ rest) : (bytesOf X).drop (i + pre.length) = rest := by
  rw [← List.drop_drop, h, List.drop_left]
theorem bt_extract (X : ByteArray) (a b j : Nat) (hb : b ≤ X.size) (hj : a + j < b) : bt (X.extract a b) (j : Int) = bt X ((a + j : Nat) : Int) := by
  have h1 : j < (X.extract a b).size := by rw [ByteArray.size_extract]; omega
  rw [bt_get _ j h1, bt_get X (a + j) (by omega)]
  congr 2
  simp only [Lib.extract_data, List.getElem_take, List.getElem_drop]

def fin (u : List Int) : ByteArray := strOfNums (if (u.length : Int) = 0 then [47] ++ u else if rd u 0 = 47 then u else [47] ++ u)

theorem un_end (X : ByteArray) (k : Nat) (xs : List Int) (i : Nat) (hi : i = X.size) (hne : xs ≠ []) (hx' : xs.length < 140737488355327) : unit_unescape.l0 (k + 1) X true xs (i : Int) = some (fin xs) := by
  have h : ¬ (xs.length : Int) = 0 := fun h => hne (List.eq_nil_of_length_eq_zero (by omega))
  rw [unit_unescape.l0, if_neg (by omega), if_pos rfl, if_neg h, if_pos (by omega)]
  unfold fin
  rw [if_neg h]
  by_cases h2 : rd xs 0 = 47
  · rw [if_pos h2, if_pos h2]
  · rw [if_neg h2, if_neg h2]
    simp only [Option.bind_some]
    rw [if_pos (by simp only [List.length_cons, List.length_nil]; omega)]

theorem un_dash (X : ByteArray) (hX : X.size ≤ 140737488351232) (k : Nat) (xs : List Int) (i : Nat) (rest : List Int) (h : (bytesOf X).drop i = [45] ++ rest) (hx' : xs.length < 140737488355327) :
    unit_unescape.l0 (k + 1) X true xs (i : Int) = unit_unescape.l0 k X true (xs ++ [47]) ((i + 1 : Nat) : Int) := by
  obtain ⟨hlt, hb⟩ := at_drop h 0 (by simp)
  simp only [Nat.add_zero, List.getElem_cons_zero] at hlt hb
  rw [unit_unescape.l0, if_pos (by omega), if_pos (by omega), if_pos hb, if_pos (by omega), wrap_next i X.size hlt hX]

def hexBack (c : Int) : Bool := hexv (hx (c / 16)) == c / 16 && hexv (hx (c % 16)) == c % 16
theorem hexBack_all : ∀ n : Fin 128, hexBack ((n.val : Nat) : Int) = true := by decide +kernel
theorem hexBack_of (c : Int) (h0 : 0 ≤ c) (h1 : c ≤ 127) : hexv (hx (c / 16)) = c / 16 ∧ hexv (hx (c % 16)) = c % 16 := by
  have h := hexBack_all ⟨c.toNat, by omega⟩
  have e : ((c.toNat : Nat) : Int) = c := by omega
  simp only [e] at h
  unfold hexBack at h
  simpa using h
theorem kept_no (c : Int) (h : keptB c = true) : c ≠ 45 ∧ c ≠ 92 := by
  unfold keptB at h
  constructor <;> (rintro rfl; revert h; decide)

theorem un_plain (X : ByteArray) (hX : X.size ≤ 140737488351232) (k : Nat) (xs : List Int) (i : Nat) (c : Int) (hlt : i < X.size) (hb : bt X (i : Int) = c) (hn : c ≠ 45 ∧ c ≠ 92) (hx' : xs.length < 140737488355327) :
    unit_unescape.l0 (k + 2) X true xs (i : Int) = unit_unescape.l0 k X true (xs ++ [c]) ((i + 1 : Nat) : Int) := by
  rw [unit_unescape.l0, hb, if_pos (by omega), if_pos (by omega), if_neg hn.1, if_neg hn.2, unit_unescape.j1, if_neg (by decide), if_pos (by omega), wrap_next i X.size hlt hX]
theorem wrap_p1 (i : Nat) (h : i ≤ 140737488351240) : wrap64 ((i : Int) + 1) = ((i + 1 : Nat) : Int) := by
  unfold wrap64
  omega
theorem wrap_p2 (i : Nat) (h : i ≤ 140737488351240) : wrap64 ((i : Int) + 2) = ((i + 2 : Nat) : Int) := by
  unfold wrap64
  omega
theorem wrap_p3 (i : Nat) (h : i ≤ 140737488351240) : wrap64 ((i : Int) + 3) = ((i + 3 : Nat) : Int) := by
  unfold wrap64
  omega
theorem wrap_p4 (i : Nat) (h : i ≤ 140737488351240) : wrap64 ((i : Int) + 4) = ((i + 4 : Nat) : Int) := by
  unfold wrap64
  omega
theorem wrap_less (n i : Nat) (h : i ≤ n) (hn : n ≤ 140737488351240) : wrap64 ((n : Int) - (i : Int)) = ((n - i : Nat) : Int) := by
  unfold wrap64
  omega
theorem un_hex (X : ByteArray) (hX : X.size ≤ 140737488351232) (k : Nat) (xs : List Int) (i : Nat) (c : Int) (h1 : c ≤ 127) (h0 : 16 ≤ c) (hlt : i + 3 < X.size)
    (g0 : bt X (i : Int) = 92) (g1 : bt X ((i + 1 : Nat) : Int) = 120) (g2 : bt X ((i + 2 : Nat) : Int) = hx (c / 16)) (g3 : bt X ((i + 3 : Nat) : Int) = hx (c % 16)) (hx' : xs.length < 140737488355327) :
    unit_unescape.l0 (k + 2) X true xs (i : Int) = unit_unescape.l0 k X true (xs ++ [c]) ((i + 4 : Nat) : Int) := by
  have hb : i ≤ 140737488351240 := by omega
  have hb3 : i + 3 ≤ 140737488351240 := by omega
  have e0 : bt (X.extract (i + 2) (i + 4)) 0 = hx (c / 16) := by
    have := bt_extract X (i + 2) (i + 4) 0 (by omega) (by omega)
    rw [Nat.add_zero, g2] at this
    exact this
  have e1 : bt (X.extract (i + 2) (i + 4)) 1 = hx (c % 16) := by
    have := bt_extract X (i + 2) (i + 4) 1 (by omega) (by omega)
    rw [show i + 2 + 1 = i + 3 from rfl, g3] at this
    exact this
  have esz : (X.extract (i + 2) (i + 4)).size = 2 := by rw [ByteArray.size_extract]; omega
  obtain ⟨q0, q1⟩ := hexBack_of c (by omega) h1
  have hp : strconv_ParseInt.f (X.extract (i + 2) (i + 4)) 16 8 = some (c, none) := by
    unfold strconv_ParseInt.f
    rw [e0, e1, q0, q1, if_pos ⟨rfl, rfl, esz, by omega, by omega, by omega⟩, show c / 16 * 16 + c % 16 = c from by omega]
  clear e0 e1 esz q0 q1 g2 g3
  generalize hX' : X.extract (i + 2) (i + 4) = E at hp
  have a0 : (i : Int) < (X.size : Int) := by omega
  have a1 : (0 : Int) ≤ (i : Int) := by omega
  have a2 : ((X.size - i : Nat) : Int) ≥ 4 := by omega
  have a3 : (0 : Int) ≤ ((i + 1 : Nat) : Int) := by omega
  have a4 : ((i + 1 : Nat) : Int) < (X.size : Int) := by omega
  have a5 : (0 : Int) ≤ ((i + 2 : Nat) : Int) := by omega
  have a6 : ((i + 2 : Nat) : Int) ≤ ((i + 4 : Nat) : Int) := by omega
  have a7 : ((i + 4 : Nat) : Int) ≤ (X.size : Int) := by omega
  have a8 : xs.length < 140737488355328 := by omega
  have a9 : c % 256 = c := by omega
  have n0 : ¬ bt X (i : Int) = 45 := by rw [g0]; decide
  have wd : wrap64 ((X.size : Int) - (i : Int)) = ((X.size - i : Nat) : Int) := wrap_less X.size i (by omega) (by omega)
  have w1 := wrap_p1 i hb
  have w2 := wrap_p2 i hb
  have w4 := wrap_p4 i hb
  have w3 : wrap64 (wrap64 ((i : Int) + 3) + 1) = ((i + 4 : Nat) : Int) := by rw [wrap_p3 i hb]; exact wrap_p1 (i + 3) hb3
  rw [unit_unescape.l0, if_pos a0, if_pos a1, if_neg n0, if_pos g0, wd, if_pos a2, w1, if_pos a3, if_pos a4, g1, unit_unescape.j1, if_pos (by decide), w2, w4, w3, if_pos a5, if_pos a6, if_pos a7]
  rw [Int.toNat_natCast, Int.toNat_natCast, hX', hp]
  simp only [Option.bind_some, Option.isNone_none]
  rw [if_pos trivial, if_pos a8, a9]
theorem un_chunk (X : ByteArray) (hX : X.size ≤ 140737488351232) (k : Nat) (xs : List Int) (i : Nat) (rest : List Int) (st : Bool) (c : Int) (c47 : c ≠ 47) (h0 : 16 ≤ c) (h1 : c ≤ 127) (h : (bytesOf X).drop i = chunk st c ++ rest) (hx' : xs.length < 140737488355327) :
    unit_unescape.l0 (k + 2) X true xs (i : Int) = unit_unescape.l0 k X true (xs ++ [c]) ((i + (chunk st c).length : Nat) : Int) := by
  by_cases hk : keptB c = true ∧ ¬ (st = true ∧ c = 46)
  · rw [chunk_keep st c c47 hk.1 hk.2] at h ⊢
    obtain ⟨hlt, hb⟩ := at_drop h 0 (by simp)
    rw [Nat.add_zero] at hlt hb
    exact un_plain X hX k xs i c hlt hb (kept_no c hk.1) hx'
  · have hch : chunk st c = [92, 120, hx (c / 16), hx (c % 16)] := chunk_hex st c c47 (fun q => Classical.byContradiction fun r => hk ⟨q, r⟩)
    rw [hch] at h ⊢
    obtain ⟨l0, g0⟩ := at_drop h 0 (by simp)
    obtain ⟨l1, g1⟩ := at_drop h 1 (by simp)
    obtain ⟨l2, g2⟩ := at_drop h 2 (by simp)
    obtain ⟨l3, g3⟩ := at_drop h 3 (by simp)
    rw [Nat.add_zero] at g0
    exact un_hex X hX k xs i c h1 h0 l3 g0 g1 g2 g3 hx'

theorem un_loop (X : ByteArray) (hX : X.size ≤ 140737488351232) : ∀ (l : List Int) (k : Nat) (xs : List Int) (i : Nat) (st ins : Bool), (∀ x ∈ l, 16 ≤ x ∧ x ≤ 127) → (bytesOf X).drop i = escP st ins l → i ≤ X.size → 3 * l.length < k → xs.length + 2 * l.length < 140737488355327 → xs ++ decP st ins l ≠ [] →
    unit_unescape.l0 k X true xs (i : Int) = some (fin (xs ++ decP st ins l)) := by
  intro l
  induction l with
  | nil =>
    intro k xs i st ins _ h hi hk hx' hne
    obtain ⟨k, rfl⟩ : ∃ m, k = m + 1 := ⟨k - 1, by omega⟩
    have hlen : ((bytesOf X).drop i).length = X.size - i := by rw [List.length_drop, bytesOf_length]
    rw [h] at hlen
    simp only [escP, List.length_nil] at hlen
    simp only [decP, List.append_nil] at hne ⊢
    exact un_end X k xs i (by omega) hne (by simp at hx'; omega)
  | cons c l ih =>
    intro k xs i st ins hb h hi hk hx' hne
    have hc := hb c (by simp)
    have hl : ∀ x ∈ l, 16 ≤ x ∧ x ≤ 127 := fun y hy => hb y (by simp [hy])
    simp only [List.length_cons] at hk hx'
    unfold escP at h
    unfold decP at hne ⊢
    by_cases c47 : c = 47
    · rw [if_pos c47] at h hne ⊢
      exact ih k xs i st true hl h hi (by omega) (by omega) hne
    · rw [if_neg c47] at h hne ⊢
      by_cases hd : ins = true ∧ st = false
      · rw [if_pos hd] at h hne ⊢
        rw [List.append_assoc] at h
        obtain ⟨k, rfl⟩ : ∃ m, k = m + 3 := ⟨k - 3, by omega⟩
        rw [un_dash X hX (k + 2) xs i _ h (by omega)]
        have h2 := next_drop h
        simp only [List.length_cons, List.length_nil] at h2
        rw [un_chunk X hX k (xs ++ [47]) (i + 1) _ st c c47 hc.1 hc.2 h2 (by simp; omega)]
        have h3 := next_drop h2
        have hle : i + 1 + (chunk st c).length ≤ X.size := by
          have h4 : ((bytesOf X).drop (i + 1)).length = X.size - (i + 1) := by rw [List.length_drop, bytesOf_length]
          rw [h2, List.length_append] at h4
          have h5 := (at_drop h 0 (by simp)).1
          omega
        rw [ih k (xs ++ [47] ++ [c]) _ false false hl h3 hle (by omega) (by simp; omega) (by simp)]
        simp
      · rw [if_neg hd] at h ⊢
        simp only [List.nil_append] at h ⊢
        obtain ⟨k, rfl⟩ : ∃ m, k = m + 2 := ⟨k - 2, by omega⟩
        rw [un_chunk X hX k xs i _ st c c47 hc.1 hc.2 h (by omega)]
        have h3 := next_drop h
        have hle : i + (chunk st c).length ≤ X.size := by
          have h4 : ((bytesOf X).drop i).length = X.size - i := by rw [List.length_drop, bytesOf_length]
          rw [h, List.length_append] at h4
          omega
        rw [ih k (xs ++ [c]) _ false false hl h3 hle (by omega) (by simp; omega) (by simp)]
        simp

/-- A path is escaped and unescaped to itself. -/
theorem back (s : ByteArray) (hs : s.size ≤ 2000) (hw : Wr s) (hp : bytesOf s = [47] ∨ Path (bytesOf s)) (k : Nat) (hk : 20000 ≤ k) :
    ∃ t, impl_PathEscape.f k s = some t ∧ impl_PathUnescape.f k t = some s := by
  have hbd : ∀ x ∈ bytesOf s, 16 ≤ x ∧ x ≤ 127 := by
    intro x hx'
    obtain ⟨j, hj, rfl⟩ := List.getElem_of_mem hx'
    rw [bytesOf_length] at hj
    rw [← bt_bytesOf s j hj]
    exact hw j hj
  have h1 := esc_loop s (by omega) hw s.size k [] 0 false true (by omega) (by omega) (by simp; omega)
  rw [List.nil_append, List.drop_zero] at h1
  unfold finE at h1
  have h1' : impl_PathEscape.f k s = some (strOfNums (if ((escP true false (bytesOf s)).length : Int) = 0 then escP true false (bytesOf s) ++ [45] else escP true false (bytesOf s))) := by
    unfold impl_PathEscape.f unit_UnitNamePathEscape.f unit_escape.f
    have h0 : unit_escape.l0 k s true [] false true 0 = _ := h1
    rw [h0]
    rfl
  refine ⟨_, h1', ?_⟩
  have hun : ∀ X : ByteArray, impl_PathUnescape.f k X = unit_unescape.l0 k X true [] 0 := by
    intro X
    unfold impl_PathUnescape.f unit_UnitNamePathUnescape.f unit_unescape.f
    cases unit_unescape.l0 k X true [] 0 <;> rfl
  rw [hun]
  rcases hp with hr | hp
  · rw [hr]
    have e : escP true false [47] = [] := rfl
    rw [e]
    have e2 : (if (([] : List Int).length : Int) = 0 then [] ++ [45] else []) = ([45] : List Int) := rfl
    rw [e2]
    obtain ⟨k, rfl⟩ : ∃ m, k = m + 2 := ⟨k - 2, by omega⟩
    have h3 := un_dash (strOfNums [45]) (by decide) (k + 1) [] 0 [] (by decide) (by decide)
    have h4 : unit_unescape.l0 (k + 2) (strOfNums [45]) true [] 0 = unit_unescape.l0 (k + 1) (strOfNums [45]) true [47] ((0 + 1 : Nat) : Int) := h3
    rw [h4, un_end (strOfNums [45]) k [47] 1 (by decide) (by decide) (by decide)]
    congr 1
    apply bytesOf_inj
    rw [hr]
    decide
  · obtain ⟨hd, c, m, hcm, hc⟩ := dec_path hp
    have hlen := escP_len (bytesOf s) true false
    rw [bytesOf_length] at hlen
    have hne : ¬ ((escP true false (bytesOf s)).length : Int) = 0 := by
      obtain ⟨c', m', hb, hc', _⟩ := hp
      rw [hb]
      have : escP true false (47 :: c' :: m') = [] ++ chunk true c' ++ escP false false m' := by
        simp only [escP, if_true, if_neg hc']
        simp
      rw [this]
      have hpos : 0 < (chunk true c').length := by
        unfold chunk; rw [if_neg hc']; split <;> simp
      simp only [List.length_append]
      omega
    rw [if_neg hne]
    have hX : bytesOf (strOfNums (escP true false (bytesOf s))) = escP true false (bytesOf s) := bytesOf_son _ (escP_bd _ _ _ hbd)
    have h5 := un_loop (strOfNums (escP true false (bytesOf s))) (by rw [strOfNums_size]; omega) (bytesOf s) k [] 0 true false hbd (by rw [List.drop_zero, hX]) (by omega) (by rw [bytesOf_length]; omega) (by rw [bytesOf_length]; simp; omega) (by rw [List.nil_append, hcm]; simp)
    have h6 : unit_unescape.l0 k (strOfNums (escP true false (bytesOf s))) true [] 0 = some (fin ([] ++ decP true false (bytesOf s))) := h5
    rw [h6, List.nil_append, hcm]
    congr 1
    unfold fin
    rw [if_neg (by simp; omega), if_neg (by exact hc)]
    rw [hcm] at hd
    show strOfNums (47 :: c :: m) = s
    rw [hd, son_bytesOf]

theorem bound_all : ∀ l : List ByteArray, ∃ K, ∀ s ∈ l, 3 * s.size < K
  | [] => ⟨0, fun s hs => by simp at hs⟩
  | a :: l => by
    obtain ⟨K, hK⟩ := bound_all l
    refine ⟨K + 3 * a.size + 1, fun s hs => ?_⟩
    rcases List.mem_cons.1 hs with rfl | h
    · omega
    · have := hK s h; omega
theorem FnPathBack (l : List ByteArray) : ∃ k, laws_FnPathBack.f k l = some true := by
  have hesc := fun k hk => escapes_yes k hk
  by_cases hlen : l.length ≤ 2147483647
  case neg =>
    refine ⟨1, ?_⟩
    unfold laws_FnPathBack.f laws_zzFits4.f
    rw [if_pos (by omega)]
    rfl
  obtain ⟨K, hK⟩ : ∃ K, ∀ j, j < l.length → 3 * (l.getD j ByteArray.empty).size < K := by
    obtain ⟨K, hK⟩ := bound_all l
    refine ⟨K, fun j hj => hK _ ?_⟩
    rw [List.getD_eq_getElem?_getD, List.getElem?_eq_getElem hj]
    exact List.getElem_mem hj
  refine ⟨l.length + K + 30000, ?_⟩
  unfold laws_FnPathBack.f laws_zzFits4.f
  rw [if_neg (by omega)]
  obtain ⟨b, hb, hf⟩ := fits_tells l hlen l.length (l.length + K + 30000) 0 (by omega) (by omega)
  have hb' : laws_zzFits4.l0 (l.length + K + 30000) l (l.length : Int) 0 = some b := hb
  rw [hb']
  simp only [Option.bind_some]
  cases b with
  | false => rfl
  | true =>
  rw [if_pos rfl]
  have hff : ∀ j, j < l.length → (l.getD j ByteArray.empty).size ≤ 2147483647 := fun j hj => hf rfl j (by omega) hj
  obtain ⟨r, hr, hans⟩ : ∃ r, laws_cleaned.f (l.length + K + 30000) l = some r ∧ (r.toList = [] ∨ (r.size ≤ 2000 ∧ (bytesOf r = [47] ∨ Path (bytesOf r)))) := by
    unfold laws_cleaned.f
    by_cases h0 : (l.length : Int) = 0
    · rw [if_pos h0]
      exact ⟨_, rfl, Or.inr ⟨by decide, Or.inl rfl⟩⟩
    · rw [if_neg h0]
      obtain ⟨r, hr, ha⟩ := cleaned_loop l hlen hff K hK l.length (l.length + K + 30000) 0 ⟨#[]⟩ (by omega) (by omega) (by decide) (Or.inl ⟨rfl, rfl⟩) (by omega)
      refine ⟨r, hr, ?_⟩
      rcases ha with h | ⟨h1, h2⟩
      · exact Or.inl h
      · exact Or.inr ⟨h1, Or.inr h2⟩
  rw [hr]
  simp only [Option.bind_some]
  rw [show l.length + K + 30000 = (l.length + K + 29999) + 1 from by omega]
  by_cases hrn : r.toList = ([] : List UInt8)
  · rw [if_pos hrn]
    simp only [laws_FnPathBack.j0]
    rfl
  rw [if_neg hrn]
  rcases hans with h | ⟨hsz, hpath⟩
  · exact absurd h hrn
  obtain ⟨b2, hb2, hw2⟩ := digits_tells r (by omega) r.size (l.length + K + 29999 + 1) 0 (by omega) (by omega)
  have hb2' : laws_twoDigits.f (l.length + K + 29999 + 1) r = some b2 := hb2
  rw [hb2']
  simp only [Option.bind_some, laws_FnPathBack.j0]
  cases b2 with
  | false => rfl
  | true =>
  have hw : Wr r := fun i hi => hw2 rfl i (by omega) hi
  obtain ⟨t, ht1, ht2⟩ := back r hsz hw hpath (l.length + K + 29999) (by omega)
  rw [if_neg (by decide), ht1]
  simp only [Option.bind_some]
  rw [ht2]
  simp only [Option.bind_some]
  rw [if_pos trivial, hesc _ (by omega)]
  rfl

end Go.Proofs.YtocdnceckljnaaaDoor.Pure
