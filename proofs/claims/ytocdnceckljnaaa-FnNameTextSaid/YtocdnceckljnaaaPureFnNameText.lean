/- A text of at most 4,000 bytes is escaped by the package as the documentation says, sign by sign, where the documentation says it (no bytes below 16 or above 127, not the empty text). No condition beside the statement's own. -/
import Derived.Test.YtocdnceckljnaaaQNTx3
namespace Go.Proofs.Ytocdnceckljnaaa.Pure
open Go.RowKit Go.Proofs.Ytocdnceckljnaaa.QNT Go.Proofs.YtocdnceckljnaaaW.PrintWords Go.Proofs.YtocdnceckljnaaaW.PrintLast

/-- The hexadecimal digit of a number below 16. -/
def hx (n : Int) : Int := if n < 10 then 48 + n else 87 + n
def keptB (c : Int) : Bool := (97 ≤ c && c ≤ 122) || (65 ≤ c && c ≤ 90) || (48 ≤ c && c ≤ 57) || c == 58 || c == 95 || c == 46
/-- What stands in the place of a byte. -/
def chunk (first : Bool) (c : Int) : List Int := if c = 47 then [45] else if keptB c = true ∧ ¬ (first = true ∧ c = 46) then [c] else [92, 120, hx (c / 16), hx (c % 16)]
def chunks (s : ByteArray) : Nat → Nat → List Int
  | _, 0 => []
  | i, d + 1 => chunk (i == 0) (bt s i) ++ chunks s (i + 1) d

theorem chunk_slash (b : Bool) (c : Int) (h : c = 47) : chunk b c = [45] := by unfold chunk; rw [if_pos h]
theorem chunk_keep (b : Bool) (c : Int) (h : ¬ c = 47) (hk : keptB c = true) (hn : ¬ (b = true ∧ c = 46)) : chunk b c = [c] := by
  unfold chunk; rw [if_neg h]; exact if_pos ⟨hk, hn⟩
theorem chunk_hex (b : Bool) (c : Int) (h : ¬ c = 47) (hk : keptB c = true → b = true ∧ c = 46) : chunk b c = [92, 120, hx (c / 16), hx (c % 16)] := by
  unfold chunk; rw [if_neg h]; exact if_neg (fun q => q.2 (hk q.1))
theorem chunk_len (b : Bool) (c : Int) : (chunk b c).length ≤ 4 := by
  unfold chunk
  split
  · simp
  · split <;> simp
theorem chunks_len (s : ByteArray) : ∀ d i, (chunks s i d).length ≤ 4 * d
  | 0, _ => by simp [chunks]
  | d + 1, i => by
    have h1 := chunk_len (i == 0) (bt s i)
    have h2 := chunks_len s d (i + 1)
    simp only [chunks, List.length_append]
    omega

theorem kept_all : ∀ n : Fin 256, spec_kept.f ((n.val : Nat) : Int) = some (keptB ((n.val : Nat) : Int)) := by decide +kernel
theorem kept_of (c : Int) (h0 : 0 ≤ c) (h1 : c ≤ 255) : spec_kept.f c = some (keptB c) := by
  have h := kept_all ⟨c.toNat, by omega⟩
  simpa [Int.toNat_of_nonneg h0] using h

def sameHex (c : Int) : Bool :=
  (unit_zzHex.f c).map (fun t => t.data.toList) == some ([92, 120, hx (c / 16), hx (c % 16)].map fun n => UInt8.ofNat n.toNat)
theorem hex_all : ∀ n : Fin 240, sameHex ((n.val + 16 : Nat) : Int) = true := by decide +kernel
theorem ba_ext {s t : ByteArray} (h : s.data.toList = t.data.toList) : s = t := by
  cases s; cases t
  simpa using h
theorem hex_of (c : Int) (h0 : 16 ≤ c) (h1 : c ≤ 255) : unit_zzHex.f c = some (strOfNums [92, 120, hx (c / 16), hx (c % 16)]) := by
  have h := hex_all ⟨c.toNat - 16, by omega⟩
  have e : ((c.toNat - 16 + 16 : Nat) : Int) = c := by omega
  simp only [e] at h
  unfold sameHex at h
  rw [beq_iff_eq] at h
  cases hz : unit_zzHex.f c with
  | none => rw [hz] at h; simp at h
  | some t =>
    rw [hz] at h
    simp only [Option.map_some, Option.some.injEq] at h
    rw [ba_ext (h.trans (strOfNums_data _).symm)]

def sameIdx (c : Int) : Bool :=
  (strings_IndexByte.f (⟨#[58, 95, 46, 97, 98, 99, 100, 101, 102, 103, 104, 105, 106, 107, 108, 109, 110, 111, 112, 113, 114, 115, 116, 117, 118, 119, 120, 121, 122, 65, 66, 67, 68, 69, 70, 71, 72, 73, 74, 75, 76, 77, 78, 79, 80, 81, 82, 83, 84, 85, 86, 87, 88, 89, 90, 48, 49, 50, 51, 52, 53, 54, 55, 56, 57]⟩ : ByteArray) c).map (fun t => t == (-1)) == some (!keptB c)
theorem idx_all : ∀ n : Fin 256, sameIdx ((n.val : Nat) : Int) = true := by decide +kernel
theorem idx_of (c : Int) (h0 : 0 ≤ c) (h1 : c ≤ 255) : ∃ t, strings_IndexByte.f (⟨#[58, 95, 46, 97, 98, 99, 100, 101, 102, 103, 104, 105, 106, 107, 108, 109, 110, 111, 112, 113, 114, 115, 116, 117, 118, 119, 120, 121, 122, 65, 66, 67, 68, 69, 70, 71, 72, 73, 74, 75, 76, 77, 78, 79, 80, 81, 82, 83, 84, 85, 86, 87, 88, 89, 90, 48, 49, 50, 51, 52, 53, 54, 55, 56, 57]⟩ : ByteArray) c = some t ∧ (t = -1 ↔ keptB c = false) := by
  have h := idx_all ⟨c.toNat, by omega⟩
  have e : ((c.toNat : Nat) : Int) = c := by omega
  simp only [e] at h
  unfold sameIdx at h
  rw [beq_iff_eq] at h
  cases hz : strings_IndexByte.f (⟨#[58, 95, 46, 97, 98, 99, 100, 101, 102, 103, 104, 105, 106, 107, 108, 109, 110, 111, 112, 113, 114, 115, 116, 117, 118, 119, 120, 121, 122, 65, 66, 67, 68, 69, 70, 71, 72, 73, 74, 75, 76, 77, 78, 79, 80, 81, 82, 83, 84, 85, 86, 87, 88, 89, 90, 48, 49, 50, 51, 52, 53, 54, 55, 56, 57]⟩ : ByteArray) c with
  | none => rw [hz] at h; simp at h
  | some t =>
    rw [hz] at h
    simp only [Option.map_some, Option.some.injEq] at h
    refine ⟨t, rfl, ?_⟩
    rw [← beq_iff_eq, h]
    cases keptB c <;> simp

def nibs (c : Int) : Bool := decide (0 ≤ Go.bits .and .u8 c 15) && decide (Go.bits .and .u8 c 15 < 16) && bt (⟨#[48, 49, 50, 51, 52, 53, 54, 55, 56, 57, 97, 98, 99, 100, 101, 102]⟩ : ByteArray) (c / 16) == hx (c / 16) && bt (⟨#[48, 49, 50, 51, 52, 53, 54, 55, 56, 57, 97, 98, 99, 100, 101, 102]⟩ : ByteArray) (Go.bits .and .u8 c 15) == hx (c % 16)
theorem nibs_all : ∀ n : Fin 256, nibs ((n.val : Nat) : Int) = true := by decide +kernel
theorem nibs_of (c : Int) (h0 : 0 ≤ c) (h1 : c ≤ 255) : 0 ≤ Go.bits .and .u8 c 15 ∧ Go.bits .and .u8 c 15 < 16 ∧ bt (⟨#[48, 49, 50, 51, 52, 53, 54, 55, 56, 57, 97, 98, 99, 100, 101, 102]⟩ : ByteArray) (c / 16) = hx (c / 16) ∧ bt (⟨#[48, 49, 50, 51, 52, 53, 54, 55, 56, 57, 97, 98, 99, 100, 101, 102]⟩ : ByteArray) (Go.bits .and .u8 c 15) = hx (c % 16) := by
  have h := nibs_all ⟨c.toNat, by omega⟩
  have e : ((c.toNat : Nat) : Int) = c := by omega
  simp only [e] at h
  unfold nibs at h
  simp only [Bool.and_eq_true, decide_eq_true_eq, beq_iff_eq] at h
  exact ⟨h.1.1.1, h.1.1.2, h.1.2, h.2⟩

theorem son_append (xs ys : List Int) : strOfNums (xs ++ ys) = strOfNums xs ++ strOfNums ys := by
  apply ba_ext
  simp [strOfNums_data, ByteArray.data_append]
theorem son_one (c : Int) : strOfNums [c] = ⟨#[UInt8.ofNat c.toNat]⟩ := rfl
theorem pre_son (a b : Int) : (⟨#[92, 120]⟩ : ByteArray) ++ strOfNums [a, b] = strOfNums [92, 120, a, b] := by
  apply ba_ext
  simp [strOfNums_data, ByteArray.data_append]
theorem bytesOf_son (xs : List Int) (h : ∀ x ∈ xs, 0 ≤ x ∧ x ≤ 255) : bytesOf (strOfNums xs) = xs := by
  unfold bytesOf
  rw [strOfNums_data, List.map_map]
  conv => rhs; rw [← List.map_id xs]
  apply List.map_congr_left
  intro x hx
  have := h x hx
  simp only [Function.comp, id]
  rw [UInt8.toNat_ofNat_of_lt' (by show x.toNat < 256; omega)]
  omega

theorem wrap_next (i n : Nat) (h : i < n) (hn : n ≤ 140737488351232) : wrap64 ((i : Int) + 1) = ((i + 1 : Nat) : Int) := by
  unfold wrap64
  omega

theorem bt_get (s : ByteArray) (i : Nat) (h : i < s.size) : bt s (i : Int) = ((s.data.toList[i]'(by simpa using h)).toNat : Int) := by
  unfold bt
  rw [dif_pos (by simpa using h)]
  simp only [Int.toNat_natCast, Array.getElem_toList]
  rfl
theorem extract_one (s : ByteArray) (i : Nat) (h : i < s.size) : s.extract i (i + 1) = strOfNums [bt s (i : Int)] := by
  apply ba_ext
  rw [strOfNums_data, Lib.extract_data, bt_get s i h, show i + 1 - i = 1 from by omega]
  have hl : i < s.data.toList.length := by simpa using h
  rw [List.drop_eq_getElem_cons hl]
  simp

/-- All bytes from i on are seen or control signs of ASCII from 16 on. -/
def Wr (s : ByteArray) : Prop := ∀ i : Nat, i < s.size → 16 ≤ bt s (i : Int) ∧ bt s (i : Int) ≤ 127

theorem spec_loop (s : ByteArray) (hs : s.size ≤ 140737488351232) (hw : Wr s) : ∀ (d k : Nat) (acc : ByteArray) (i : Nat), i + d = s.size → d < k → acc.size + 4 * d ≤ 9223372036854775807 →
    spec_escaped.l0 k s acc (s.size : Int) (i : Int) = some (acc ++ strOfNums (chunks s i d)) := by
  intro d
  induction d with
  | zero =>
    intro k acc i hi hk _
    obtain ⟨k, rfl⟩ : ∃ m, k = m + 1 := ⟨k - 1, by omega⟩
    simp only [spec_escaped.l0]
    rw [if_neg (by omega)]
    simp only [chunks]
    congr 1
    apply ba_ext
    simp [strOfNums_data, ByteArray.data_append]
  | succ d ih =>
    intro k acc i hi hk hacc
    obtain ⟨k, rfl⟩ : ∃ m, k = m + 1 := ⟨k - 1, by omega⟩
    have hlt : i < s.size := by omega
    obtain ⟨b0, b1⟩ := hw i hlt
    have hwn := wrap_next i s.size hlt hs
    have key : ∀ c : List Int, c.length ≤ 4 → spec_escaped.l0 k s (acc ++ strOfNums c) (s.size : Int) ((i + 1 : Nat) : Int) = some (acc ++ strOfNums (c ++ chunks s (i + 1) d)) := by
      intro c hc
      rw [ih k (acc ++ strOfNums c) (i + 1) (by omega) (by omega) (by rw [ByteArray.size_append, strOfNums_size]; omega)]
      rw [son_append]
      congr 1
      apply ba_ext
      simp [ByteArray.data_append]
    simp only [spec_escaped.l0, chunks]
    rw [if_pos (by omega), if_pos (by omega), if_pos (by omega)]
    rw [hwn]
    by_cases c47 : bt s (i : Int) = 47
    · rw [chunk_slash _ _ c47, if_pos c47, if_pos (by omega)]
      exact key [45] (by simp)
    · rw [if_neg c47, kept_of _ (by omega) (by omega)]
      simp only [Option.bind_some]
      obtain ⟨n1, n2, n3, n4⟩ := nibs_of (bt s (i : Int)) (by omega) (by omega)
      have one : s.extract ((i : Int)).toNat (((i + 1 : Nat) : Int)).toNat = strOfNums [bt s (i : Int)] := by
        simp only [Int.toNat_natCast]
        exact extract_one s i hlt
      have sz1 : (strOfNums [bt s (i : Int)]).size = 1 := by rw [strOfNums_size]; rfl
      by_cases hk' : keptB (bt s (i : Int)) = true
      · rw [if_pos hk']
        by_cases c46 : bt s (i : Int) = 46
        · rw [if_pos c46]
          by_cases h0 : (i : Int) > 0
          · rw [if_pos h0, chunk_keep _ _ c47 hk' (fun h => by have := h.1; simp at this; omega)]
            rw [if_pos (by omega), if_pos (by omega), one, sz1, if_pos (by omega)]
            exact key _ (by simp)
          · rw [if_neg h0, chunk_hex _ _ c47 (fun _ => ⟨by simp; omega, c46⟩)]
            rw [if_pos (by omega), if_pos (by omega), if_pos n1, if_pos n2, n3, n4]
            rw [if_pos (by rw [strOfNums_size]; simp), if_pos (by rw [pre_son, strOfNums_size]; simp only [List.length_cons, List.length_nil]; omega)]
            rw [pre_son]
            exact key _ (by simp)
        · rw [if_neg c46, chunk_keep _ _ c47 hk' (fun h => c46 h.2)]
          rw [if_pos (by omega), if_pos (by omega), one, sz1, if_pos (by omega)]
          exact key _ (by simp)
      · rw [if_neg hk', chunk_hex _ _ c47 (fun h => absurd h hk')]
        rw [if_pos (by omega), if_pos (by omega), if_pos n1, if_pos n2, n3, n4]
        rw [if_pos (by rw [strOfNums_size]; simp), if_pos (by rw [pre_son, strOfNums_size]; simp only [List.length_cons, List.length_nil]; omega)]
        rw [pre_son]
        exact key _ (by simp)

theorem impl_loop (s : ByteArray) (hs : s.size ≤ 140737488351232) (hw : Wr s) : ∀ (d k : Nat) (xs : List Int) (i : Nat) (ins : Bool), i + d = s.size → 2 * d < k → xs.length + 4 * d < 140737488355328 →
    unit_escape.l0 k s false xs ins (i == 0) (i : Int) = some (strOfNums (xs ++ chunks s i d)) := by
  intro d
  induction d with
  | zero =>
    intro k xs i ins hi hk _
    obtain ⟨k, rfl⟩ : ∃ m, k = m + 1 := ⟨k - 1, by omega⟩
    simp only [unit_escape.l0]
    rw [if_neg (by omega), if_neg (by decide)]
    simp only [chunks, List.append_nil]
  | succ d ih =>
    intro k xs i ins hi hk hxs
    obtain ⟨k, rfl⟩ : ∃ m, k = m + 2 := ⟨k - 2, by omega⟩
    have hlt : i < s.size := by omega
    obtain ⟨b0, b1⟩ := hw i hlt
    have hwn := wrap_next i s.size hlt hs
    have hff : ((i + 1 : Nat) == 0) = false := by simp
    have key : ∀ c : List Int, c.length ≤ 4 → unit_escape.l0 k s false (xs ++ c) ins false ((i + 1 : Nat) : Int) = some (strOfNums (xs ++ (c ++ chunks s (i + 1) d))) := by
      intro c hc
      have := ih k (xs ++ c) (i + 1) ins (by omega) (by omega) (by rw [List.length_append]; omega)
      rw [hff] at this
      rw [this, List.append_assoc]
    simp only [unit_escape.l0, chunks]
    rw [if_pos (by omega), if_pos (by omega), if_neg (by decide)]
    simp only [unit_escape.j1]
    rw [hwn]
    generalize hi0 : (i == 0) = st
    by_cases c47 : bt s (i : Int) = 47
    · rw [if_pos c47, chunk_slash _ _ c47, if_pos (by omega)]
      exact key [45] (by simp)
    · rw [if_neg c47]
      obtain ⟨t, ht, hk'⟩ := idx_of (bt s (i : Int)) (by omega) (by omega)
      have hz := hex_of (bt s (i : Int)) (by omega) (by omega)
      have hb : bytesOf (strOfNums [92, 120, hx (bt s (i : Int) / 16), hx (bt s (i : Int) % 16)]) = [92, 120, hx (bt s (i : Int) / 16), hx (bt s (i : Int) % 16)] := by
        apply bytesOf_son
        intro x hx'
        simp at hx'
        rcases hx' with rfl | rfl | rfl | rfl
        · omega
        · omega
        · unfold hx; split <;> omega
        · unfold hx; split <;> omega
      have hexc : (unit_zzHex.f (bt s (i : Int))).bind (fun t128 => if xs.length + t128.size < 140737488355328 then unit_escape.l0 k s false (xs ++ bytesOf t128) ins false ((i + 1 : Nat) : Int) else none) = some (strOfNums (xs ++ ([92, 120, hx (bt s (i : Int) / 16), hx (bt s (i : Int) % 16)] ++ chunks s (i + 1) d))) := by
        rw [hz]
        simp only [Option.bind_some]
        rw [if_pos (by rw [strOfNums_size]; simp; omega), hb]
        exact key _ (by simp)
      have plain : (strings_IndexByte.f (⟨#[58, 95, 46, 97, 98, 99, 100, 101, 102, 103, 104, 105, 106, 107, 108, 109, 110, 111, 112, 113, 114, 115, 116, 117, 118, 119, 120, 121, 122, 65, 66, 67, 68, 69, 70, 71, 72, 73, 74, 75, 76, 77, 78, 79, 80, 81, 82, 83, 84, 85, 86, 87, 88, 89, 90, 48, 49, 50, 51, 52, 53, 54, 55, 56, 57]⟩ : ByteArray) (bt s (i : Int))).bind (fun t135 => if t135 = (-1) then ((unit_zzHex.f (bt s (i : Int))).bind fun t136 => if xs.length + t136.size < 140737488355328 then unit_escape.l0 k s false (xs ++ bytesOf t136) ins false ((i + 1 : Nat) : Int) else none) else (if xs.length < 140737488355328 then unit_escape.l0 k s false (xs ++ [bt s (i : Int)]) ins false ((i + 1 : Nat) : Int) else none)) = some (strOfNums (xs ++ ((if keptB (bt s (i : Int)) = true then [bt s (i : Int)] else [92, 120, hx (bt s (i : Int) / 16), hx (bt s (i : Int) % 16)]) ++ chunks s (i + 1) d))) := by
        rw [ht]
        simp only [Option.bind_some]
        by_cases hkk : keptB (bt s (i : Int)) = true
        · rw [if_neg (fun h => by rw [hk'.1 h] at hkk; cases hkk), if_pos hkk, if_pos (by omega)]
          exact key _ (by simp)
        · rw [if_pos (hk'.2 (by simpa using hkk)), if_neg hkk]
          exact hexc
      by_cases hst : st = true
      · rw [if_pos hst]
        by_cases c46 : bt s (i : Int) = 46
        · rw [if_pos c46, chunk_hex _ _ c47 (fun _ => ⟨hst, c46⟩)]
          exact hexc
        · rw [if_neg c46, plain]
          by_cases hkk : keptB (bt s (i : Int)) = true
          · rw [if_pos hkk, chunk_keep _ _ c47 hkk (fun h => c46 h.2)]
          · rw [if_neg hkk, chunk_hex _ _ c47 (fun h => absurd h hkk)]
      · rw [if_neg hst, plain]
        by_cases hkk : keptB (bt s (i : Int)) = true
        · rw [if_pos hkk, chunk_keep _ _ c47 hkk (fun h => hst h.1)]
        · rw [if_neg hkk, chunk_hex _ _ c47 (fun h => absurd h hkk)]

theorem impl_tells (s : ByteArray) (hs : s.size ≤ 35184372000000) (hw : Wr s) (k : Nat) (hk : 2 * s.size < k) : impl_NameEscape.f k s = some (strOfNums (chunks s 0 s.size)) := by
  have h := impl_loop s (by omega) hw s.size k [] 0 false (by omega) hk (by simp; omega)
  unfold impl_NameEscape.f unit_UnitNameEscape.f unit_escape.f
  have e : ((0 : Nat) == 0) = true := rfl
  rw [e] at h
  have h2 : unit_escape.l0 k s false [] false true 0 = some (strOfNums (chunks s 0 s.size)) := h
  rw [h2]
  rfl

theorem escapes_yes (k : Nat) (hk : 7 ≤ k) : laws_escapes.f k = some true := by
  unfold laws_escapes.f
  rw [impl_tells _ (by decide) (by intro i hi; have h3 : i < 3 := hi; match i, h3 with | 0, _ => decide | 1, _ => decide | 2, _ => decide) k (by show 2 * 3 < k; omega)]
  simp only [Option.bind_some]
  exact congrArg some (by decide +kernel)

theorem ascii_tells (s : ByteArray) (hs : s.size ≤ 140737488351232) : ∀ (d k i : Nat), i + d = s.size → d < k → ∃ b, spec_ascii.l0 k s (s.size : Int) (i : Int) = some b ∧ (b = true → ∀ j, i ≤ j → j < s.size → bt s (j : Int) < 128) := by
  intro d
  induction d with
  | zero =>
    intro k i hi hk
    obtain ⟨k, rfl⟩ : ∃ m, k = m + 1 := ⟨k - 1, by omega⟩
    refine ⟨true, ?_, fun _ j h1 h2 => by omega⟩
    simp only [spec_ascii.l0]
    rw [if_neg (by omega)]
  | succ d ih =>
    intro k i hi hk
    obtain ⟨k, rfl⟩ : ∃ m, k = m + 1 := ⟨k - 1, by omega⟩
    have hlt : i < s.size := by omega
    simp only [spec_ascii.l0]
    rw [if_pos (by omega), if_pos (by omega), if_pos (by omega), wrap_next i s.size hlt hs]
    by_cases c : bt s (i : Int) ≥ 128
    · rw [if_pos c]; exact ⟨false, rfl, fun h => by cases h⟩
    · rw [if_neg c]
      by_cases c0 : bt s (i : Int) = 0
      · rw [if_pos c0]; exact ⟨false, rfl, fun h => by cases h⟩
      · rw [if_neg c0]
        obtain ⟨b, hb, hp⟩ := ih k (i + 1) (by omega) (by omega)
        refine ⟨b, hb, fun h j h1 h2 => ?_⟩
        by_cases e : i = j
        · subst e; omega
        · exact hp h j (by omega) h2

theorem written_tells (s : ByteArray) (hs : s.size ≤ 140737488351232) : ∀ (d k i : Nat), i + d = s.size → d + s.size + 1 < k → ∃ b, spec_written.l0 k s (s.size : Int) (i : Int) = some b ∧ (b = true → (∀ j, i ≤ j → j < s.size → 16 ≤ bt s (j : Int)) ∧ ∀ j, j < s.size → bt s (j : Int) < 128) := by
  intro d
  induction d with
  | zero =>
    intro k i hi hk
    obtain ⟨k, rfl⟩ : ∃ m, k = m + 1 := ⟨k - 1, by omega⟩
    simp only [spec_written.l0]
    rw [if_neg (by omega)]
    obtain ⟨b, hb, hp⟩ := ascii_tells s hs s.size k 0 (by omega) (by omega)
    refine ⟨b, ?_, fun h => ⟨fun j h1 h2 => by omega, fun j hj => hp h j (by omega) hj⟩⟩
    unfold spec_ascii.f
    have h0 : spec_ascii.l0 k s (s.size : Int) 0 = some b := hb
    rw [h0]
    rfl
  | succ d ih =>
    intro k i hi hk
    obtain ⟨k, rfl⟩ : ∃ m, k = m + 1 := ⟨k - 1, by omega⟩
    have hlt : i < s.size := by omega
    simp only [spec_written.l0]
    rw [if_pos (by omega), if_pos (by omega), if_pos (by omega), wrap_next i s.size hlt hs]
    by_cases c : bt s (i : Int) < 16
    · rw [if_pos c]; exact ⟨false, rfl, fun h => by cases h⟩
    · rw [if_neg c]
      obtain ⟨b, hb, hp⟩ := ih k (i + 1) (by omega) (by omega)
      refine ⟨b, hb, fun h => ⟨fun j h1 h2 => ?_, (hp h).2⟩⟩
      by_cases e : i = j
      · subst e; omega
      · exact (hp h).1 j (by omega) h2

theorem FnNameText : laws_FnNameText.Pure := by
  intro s hs
  refine ⟨2 * s.size + 20, ?_⟩
  unfold laws_FnNameText.f
  by_cases c1 : (s.size : Int) > 2147483647
  · rw [if_pos c1]
  rw [if_neg c1]
  by_cases c2 : (s.size : Int) > 4000
  · rw [if_pos c2]
  rw [if_neg c2]
  have he := escapes_yes (2 * s.size + 20) (by omega)
  unfold spec_Escape.f
  by_cases c3 : s.toList = ([] : List UInt8)
  · rw [if_pos c3]
    simp only [Option.bind_some]
    rw [if_neg (by decide), he]
    rfl
  rw [if_neg c3]
  obtain ⟨b, hb, hp⟩ := written_tells s hs s.size (2 * s.size + 20) 0 (by omega) (by omega)
  have hb' : spec_written.f (2 * s.size + 20) s = some b := hb
  rw [hb']
  simp only [Option.bind_some]
  cases b with
  | false =>
    rw [if_neg (by decide)]
    simp only [Option.bind_some]
    rw [if_neg (by decide), he]
    rfl
  | true =>
    rw [if_pos rfl]
    have hw : Wr s := fun i hi => ⟨(hp rfl).1 i (by omega) hi, by have := (hp rfl).2 i hi; omega⟩
    have h1 := spec_loop s hs hw s.size (2 * s.size + 20) ⟨#[]⟩ 0 (by omega) (by omega) (by show 0 + 4 * s.size ≤ _; omega)
    have h1' : spec_escaped.f (2 * s.size + 20) s = some (⟨#[]⟩ ++ strOfNums (chunks s 0 s.size)) := h1
    rw [h1', impl_tells s (by omega) hw _ (by omega)]
    simp only [Option.bind_some]
    have ee : (strOfNums (chunks s 0 s.size)).toList = ((⟨#[]⟩ : ByteArray) ++ strOfNums (chunks s 0 s.size)).toList :=
      congrArg ByteArray.toList (ba_ext (by simp [ByteArray.data_append]))
    rw [if_pos trivial, if_pos ee, he]
    rfl

end Go.Proofs.Ytocdnceckljnaaa.Pure
