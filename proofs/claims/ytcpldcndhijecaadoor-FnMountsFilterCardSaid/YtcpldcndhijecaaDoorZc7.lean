/- The texts Me, N0, N1, N2, without what the claims do not use, laid together by a program of this session (wip/tools/bundle.py). Conditions: those of each theorem. -/
import Derived.Test.YtcpldcndhijecaaDoorZc4
import Derived.Test.YtcpldcndhijecaaDoorZc5
import Derived.Test.YtcpldcndhijecaaDoorZc6
namespace Go.Proofs.YtcpldcndhijecaaDoor.QT0
open Go.RowKit Go.Proofs.YtcpldcndhijecaaDoorW.PrintWords Go.Proofs.YtcpldcndhijecaaDoorW.PrintLast Go.Proofs.YtcpldcndhijecaaDoorW.PrintMore
set_option linter.unusedVariables false
set_option linter.unusedSimpArgs false
def filterOf (kind : Int) (paths : List ByteArray) : Option (Inf → Bool × Bool) :=
  if kind = 0 then some (fun _ => (false, false))
  else if kind = 1 then some (types paths)
  else match paths with
    | [p] => if p.size ≤ 4611686018427387904 then
        (if kind = 2 then some (parents p) else if kind = 3 then some (prefix_ p) else if kind = 4 then some (single p) else none) else none
    | _ => none
def mountsF (T : ByteArray) (kind : Int) (paths : List ByteArray) : Option (List Inf) :=
  if T.size ≤ 4611686018427387904 then
    (filterOf kind paths).bind fun F => (readL F (T.size + 2) T []).bind fun r => if r.length < 900000000000 then some r else none
  else none
theorem mounts_calls (T : ByteArray) (kind : Int) (A : Option Addr) (cap : Nat) (l : List ByteArray) (r : List Inf) (w : World) (hC : Kd.C Kd.string w A l.length l) (h : mountsF T kind l = some r) :
    Calls Tryd.prog 9 #[.string T, .agg #[.int .i64 kind, .slice A l.length cap]] w fun e w' => ∃ v0 : Value, e = .returned (.tuple #[v0, .int .i64 0]) ∧ Kd.R kInf 44 w' w.heap.size (fun _ => True) v0 r ∧ Below w.heap.size w w' := by
  unfold mountsF at h
  split at h
  · rename_i hT
    obtain ⟨F, hF, h⟩ := Option.bind_eq_some_iff.mp h
    obtain ⟨r', hr, h⟩ := Option.bind_eq_some_iff.mp h
    split at h
    · rename_i hl
      obtain rfl := Option.some.inj h
      unfold filterOf at hF
      split at hF
      · rename_i h0
        subst h0
        obtain rfl := Option.some.inj hF
        exact mounts_0 T l A cap w hC hT _ _ hr hl
      · split at hF
        · rename_i _ h1
          subst h1
          obtain rfl := Option.some.inj hF
          exact mounts_1 T l A cap w hC hT _ _ hr hl
        · split at hF
          · rename_i p
            split at hF
            · rename_i hp
              split at hF
              · rename_i h2
                subst h2
                obtain rfl := Option.some.inj hF
                exact mounts_2 T p A cap w hC hp hT _ _ hr hl
              · split at hF
                · rename_i h3
                  subst h3
                  obtain rfl := Option.some.inj hF
                  exact mounts_3 T p A cap w hC hp hT _ _ hr hl
                · split at hF
                  · rename_i h4
                    subst h4
                    obtain rfl := Option.some.inj hF
                    exact mounts_4 T p A cap w hC hp hT _ _ hr hl
                  · simp at hF
            · simp at hF
          · simp at hF
    · simp at h
  · simp at h
end Go.Proofs.YtcpldcndhijecaaDoor.QT0
namespace Go.Proofs.YtcpldcndhijecaaDoor.Pu
open Go.RowKit Go.Proofs.YtcpldcndhijecaaDoorW.PrintWords Go.Proofs.YtcpldcndhijecaaDoorW.PrintLast Go.Proofs.YtcpldcndhijecaaDoor.QT0
set_option linter.unusedVariables false
set_option linter.unusedSimpArgs false
abbrev Bs := List UInt8
def B (l : Bs) : ByteArray := ⟨l.toArray⟩
theorem ba_ext {s t : ByteArray} (h : s.data.toList = t.data.toList) : s = t := by
  cases s; cases t
  simpa using h
theorem B_data (l : Bs) : (B l).data.toList = l := rfl
theorem B_toList (l : Bs) : (B l).toList = l := Lib.toList_data (B l)
theorem B_size (l : Bs) : (B l).size = l.length := by simp [B, ByteArray.size]
theorem B_of (T : ByteArray) : T = B T.data.toList := ba_ext rfl
theorem B_append (a b : Bs) : B a ++ B b = B (a ++ b) := ba_ext (by simp [ByteArray.data_append, B])
theorem B_extract (l : Bs) (i j : Nat) : (B l).extract i j = B ((l.drop i).take (j - i)) := ba_ext (by rw [Lib.extract_data, B_data, B_data])
theorem B_nil : (⟨#[]⟩ : ByteArray) = B [] := rfl
theorem bt_B (l : Bs) (i : Nat) (h : i < l.length) : bt (B l) (i : Int) = ((l[i]).toNat : Int) := by
  rw [bt_list (B l) i (by rw [B_size]; exact h)]
  rfl
theorem bt_B' (l : Bs) (i : Nat) (c : UInt8) (h : l[i]? = some c) : bt (B l) (i : Int) = (c.toNat : Int) := by
  obtain ⟨hi, he⟩ := List.getElem?_eq_some_iff.1 h
  rw [bt_B l i hi, he]
theorem u8_eq {a b : UInt8} (h : ((a.toNat : Nat) : Int) = ((b.toNat : Nat) : Int)) : a = b := UInt8.toNat_inj.1 (by omega)
theorem wrap_next (i n : Nat) (h : i < n) (hn : n ≤ 4611686018427387904) : wrap64 ((i : Int) + 1) = ((i + 1 : Nat) : Int) := by
  unfold wrap64
  omega
theorem one_win (l : Bs) (i : Nat) (c : UInt8) : ((l.drop i).take (i + 1 - i) = [c]) ↔ l[i]? = some c := by
  rw [Nat.add_sub_cancel_left]
  rw [← List.head?_drop]
  cases h : l.drop i with
  | nil => simp
  | cons a r => simp
theorem zzIndex_l0 (l : Bs) (c : UInt8) (hl : l.length ≤ 4611686018427387904) : ∀ (k i : Nat), i ≤ l.length → l.length - i < k →
    mountinfo_zzIndex.l0 k (B l) (B [c]) (i : Int) = some (if c ∈ l.drop i then ((i + (l.drop i).idxOf c : Nat) : Int) else -1)
  | 0, i, _, hk => by omega
  | k + 1, i, hi, hk => by
    simp only [mountinfo_zzIndex.l0]
    have hw : wrap64 ((i : Int) + ((B [c]).size : Int)) = ((i + 1 : Nat) : Int) := by
      rw [B_size]
      unfold wrap64
      simp only [List.length_singleton]
      omega
    rw [hw]
    by_cases hlt : i < l.length
    · have e1 : ((i + 1 : Nat) : Int) ≤ ((B l).size : Int) := by rw [B_size]; omega
      have e2 : (0 : Int) ≤ (i : Int) := by omega
      have e3 : (i : Int) ≤ ((i + 1 : Nat) : Int) := by omega
      rw [if_pos e1, if_pos e2, if_pos e3]
      simp only [Int.toNat_natCast, Lib.extract_toList, B_data, B_toList]
      have hd : l.drop i = l[i] :: l.drop (i + 1) := List.drop_eq_getElem_cons hlt
      by_cases hc : l[i] = c
      · have : (l.drop i).take (i + 1 - i) = [c] := (one_win l i c).2 (by rw [List.getElem?_eq_getElem hlt, hc])
        rw [if_pos this]
        rw [hd, hc]
        simp
      · have : ¬ (l.drop i).take (i + 1 - i) = [c] := fun h => hc (by have := (one_win l i c).1 h; rw [List.getElem?_eq_getElem hlt] at this; exact Option.some.inj this)
        rw [if_neg this]
        have hw2 := wrap_next i l.length hlt hl
        rw [hw2, zzIndex_l0 l c hl k (i + 1) (by omega) (by omega)]
        rw [hd]
        by_cases hm : c ∈ l.drop (i + 1)
        · have hb : (l[i] == c) = false := by simpa using hc
          rw [if_pos hm, if_pos (List.mem_cons_of_mem _ hm), List.idxOf_cons, hb]
          simp only [cond_false]
          congr 1
          omega
        · rw [if_neg hm, if_neg]
          intro h
          rcases List.mem_cons.1 h with h | h
          · exact hc h.symm
          · exact hm h
    · have e1 : ¬ ((i + 1 : Nat) : Int) ≤ ((B l).size : Int) := by rw [B_size]; omega
      rw [if_neg e1]
      have : l.drop i = [] := List.drop_eq_nil_of_le (by omega)
      rw [this]
      simp
theorem zzIndex_f (l : Bs) (c : UInt8) (k : Nat) (hl : l.length ≤ 4611686018427387904) (hk : l.length < k) :
    mountinfo_zzIndex.f k (B l) (B [c]) = some (if c ∈ l then ((l.idxOf c : Nat) : Int) else -1) := by
  have := zzIndex_l0 l c hl k 0 (by omega) (by omega)
  simpa [mountinfo_zzIndex.f] using this
def joinc (c : UInt8) : List Bs → Bs
  | [] => []
  | [x] => x
  | x :: y :: r => x ++ c :: joinc c (y :: r)
theorem joinc_len (c : UInt8) : ∀ fs : List Bs, fs.length ≤ (joinc c fs).length + 1
  | [] => by simp
  | [x] => by simp
  | x :: y :: r => by
    have := joinc_len c (y :: r)
    simp only [joinc, List.length_append, List.length_cons] at this ⊢
    omega
theorem idxOf_app {c : UInt8} {x : Bs} (h : c ∉ x) (r : Bs) : (x ++ c :: r).idxOf c = x.length := by
  rw [List.idxOf_append, if_neg h]
  simp
theorem zzSplit_l0 (c : UInt8) : ∀ (fs : List Bs) (acc : List ByteArray) (k : Nat), fs ≠ [] → (∀ f ∈ fs, c ∉ f) → (joinc c fs).length ≤ 4611686018427387904 → acc.length + fs.length < 8796093022208 → (joinc c fs).length + 2 ≤ k →
    mountinfo_zzSplit.l0 k (B (joinc c fs)) (B [c]) acc = some (acc ++ fs.map B)
  | [], _, _, h, _, _, _, _ => absurd rfl h
  | [x], acc, k, _, hc, hl, ha, hk => by
    obtain ⟨k, rfl⟩ : ∃ m, k = m + 1 := ⟨k - 1, by omega⟩
    simp only [mountinfo_zzSplit.l0, joinc]
    simp only [joinc, List.length_singleton] at hl hk ha
    rw [zzIndex_f x c k hl (by omega), if_neg (hc x (by simp))]
    simp only [Option.bind_some]
    rw [if_pos (by omega), if_pos (by omega)]
    rfl
  | x :: y :: r, acc, k, _, hc, hl, ha, hk => by
    obtain ⟨k, rfl⟩ : ∃ m, k = m + 1 := ⟨k - 1, by omega⟩
    simp only [mountinfo_zzSplit.l0]
    have hx : c ∉ x := hc x (by simp)
    have hcat : joinc c (x :: y :: r) = x ++ c :: joinc c (y :: r) := rfl
    have hlen : (joinc c (x :: y :: r)).length = x.length + 1 + (joinc c (y :: r)).length := by rw [hcat]; simp; omega
    simp only [List.length_cons] at hk ha
    have hm : c ∈ joinc c (x :: y :: r) := by rw [hcat]; simp
    rw [zzIndex_f (joinc c (x :: y :: r)) c k hl (by omega), if_pos hm]
    simp only [Option.bind_some]
    have hi : (joinc c (x :: y :: r)).idxOf c = x.length := by rw [hcat]; exact idxOf_app hx _
    rw [hi]
    have hw : wrap64 ((x.length : Int) + ((B [c]).size : Int)) = ((x.length + 1 : Nat) : Int) := by
      rw [B_size]
      unfold wrap64
      simp only [List.length_singleton]
      omega
    rw [if_neg (by omega), if_pos (by omega), if_pos (by rw [B_size]; omega), if_pos (by omega), hw, if_pos (by omega), if_pos (by rw [B_size]; omega)]
    simp only [Int.toNat_natCast]
    have e1 : (B (joinc c (x :: y :: r))).extract 0 x.length = B x := by rw [B_extract, hcat]; simp
    have e2 : (B (joinc c (x :: y :: r))).extract (x.length + 1) (B (joinc c (x :: y :: r))).size = B (joinc c (y :: r)) := by
      rw [B_extract, B_size, hlen, hcat]
      have : (x ++ c :: joinc c (y :: r)).drop (x.length + 1) = joinc c (y :: r) := by
        rw [List.drop_append]
        simp
      rw [this, List.take_of_length_le (by omega)]
    rw [e1, e2, zzSplit_l0 c (y :: r) (acc ++ [B x]) k (by simp) (fun f hf => hc f (List.mem_cons_of_mem _ hf)) (by omega) (by simp only [List.length_append, List.length_cons, List.length_nil]; omega) (by omega)]
    simp
theorem zzSplit_f (c : UInt8) (fs : List Bs) (k : Nat) (h0 : fs ≠ []) (hc : ∀ f ∈ fs, c ∉ f) (hl : (joinc c fs).length ≤ 4611686018427387904) (ha : fs.length < 8796093022208) (hk : (joinc c fs).length + 2 ≤ k) :
    mountinfo_zzSplit.f k (B (joinc c fs)) (B [c]) = some (fs.map B) := by
  unfold mountinfo_zzSplit.f
  rw [if_neg (by rw [B_size]; simp), zzSplit_l0 c fs [] k h0 hc hl (by simpa using ha) hk]
  simp
theorem zzCut_f (c : UInt8) (x y : Bs) (k : Nat) (hx : c ∉ x) (hl : (x ++ c :: y).length ≤ 4611686018427387904) (hk : (x ++ c :: y).length < k) :
    mountinfo_zzCut.f k (B (x ++ c :: y)) (B [c]) = some (B x, B y, true) := by
  unfold mountinfo_zzCut.f
  have hlen : (x ++ c :: y).length = x.length + 1 + y.length := by simp; omega
  rw [zzIndex_f (x ++ c :: y) c k hl hk, if_pos (by simp), idxOf_app hx]
  simp only [Option.bind_some]
  have hw : wrap64 ((x.length : Int) + ((B [c]).size : Int)) = ((x.length + 1 : Nat) : Int) := by
    rw [B_size]
    unfold wrap64
    simp only [List.length_singleton]
    omega
  rw [if_pos (by omega), if_pos (by omega), if_pos (by rw [B_size]; omega), hw, if_pos (by omega), if_pos (by rw [B_size]; omega)]
  simp only [Int.toNat_natCast]
  have e1 : (B (x ++ c :: y)).extract 0 x.length = B x := by rw [B_extract]; simp
  have e2 : (B (x ++ c :: y)).extract (x.length + 1) (B (x ++ c :: y)).size = B y := by
    rw [B_extract, B_size, hlen]
    have : (x ++ c :: y).drop (x.length + 1) = y := by
      rw [List.drop_append]
      simp
    rw [this, List.take_of_length_le (by omega)]
  rw [e1, e2]
end Go.Proofs.YtcpldcndhijecaaDoor.Pu
namespace Go.Proofs.YtcpldcndhijecaaDoor.Pu
open Go.RowKit Go.Proofs.YtcpldcndhijecaaDoorW.PrintWords Go.Proofs.YtcpldcndhijecaaDoorW.PrintLast Go.Proofs.YtcpldcndhijecaaDoor.QT0
set_option linter.unusedVariables false
set_option linter.unusedSimpArgs false
def octc (c : UInt8) : Bs := if c = 32 then [92, 48, 52, 48] else if c = 9 then [92, 48, 49, 49] else if c = 10 then [92, 48, 49, 50] else if c = 92 then [92, 49, 51, 52] else [c]
def octL (s : Bs) : Bs := s.flatMap octc
theorem octL_cons (c : UInt8) (r : Bs) : octL (c :: r) = octc c ++ octL r := rfl
theorem octc_cases (c : UInt8) : (octc c = [c] ∧ c ≠ 92 ∧ c ≠ 32 ∧ c ≠ 10) ∨ (c = 32 ∧ octc c = [92, 48, 52, 48]) ∨ (c = 9 ∧ octc c = [92, 48, 49, 49]) ∨ (c = 10 ∧ octc c = [92, 48, 49, 50]) ∨ (c = 92 ∧ octc c = [92, 49, 51, 52]) := by
  unfold octc
  by_cases h1 : c = 32
  · exact .inr (.inl ⟨h1, by rw [if_pos h1]⟩)
  · rw [if_neg h1]
    by_cases h2 : c = 9
    · exact .inr (.inr (.inl ⟨h2, by rw [if_pos h2]⟩))
    · rw [if_neg h2]
      by_cases h3 : c = 10
      · exact .inr (.inr (.inr (.inl ⟨h3, by rw [if_pos h3]⟩)))
      · rw [if_neg h3]
        by_cases h4 : c = 92
        · exact .inr (.inr (.inr (.inr ⟨h4, by rw [if_pos h4]⟩)))
        · rw [if_neg h4]
          exact .inl ⟨rfl, h4, h1, h3⟩
theorem octc_len (c : UInt8) : 1 ≤ (octc c).length ∧ (octc c).length ≤ 4 := by
  rcases octc_cases c with h | h | h | h | h
  · rw [h.1]; simp
  all_goals rw [h.2]; simp
theorem octL_len : ∀ s : Bs, s.length ≤ (octL s).length ∧ (octL s).length ≤ 4 * s.length
  | [] => by simp [octL]
  | c :: r => by
    have := octL_len r
    have := octc_len c
    rw [octL_cons]
    simp only [List.length_append, List.length_cons]
    omega
theorem octL_no (d : UInt8) (hd : d = 32 ∨ d = 10) : ∀ s : Bs, d ∉ octL s
  | [] => by simp [octL]
  | c :: r => by
    rw [octL_cons, List.mem_append, not_or]
    refine ⟨?_, octL_no d hd r⟩
    rcases octc_cases c with h | h | h | h | h
    · rw [h.1, List.mem_singleton]
      rcases hd with rfl | rfl
      · exact fun e => h.2.2.1 e.symm
      · exact fun e => h.2.2.2 e.symm
    all_goals rw [h.2]; rcases hd with rfl | rfl <;> decide
theorem octL_same : ∀ s : Bs, (92 : UInt8) ∉ octL s → octL s = s
  | [], _ => rfl
  | c :: r, h => by
    rw [octL_cons, List.mem_append, not_or] at h
    rw [octL_cons, octL_same r h.2]
    rcases octc_cases c with h' | h' | h' | h' | h'
    · rw [h'.1]; rfl
    all_goals exact absurd (by rw [h'.2]; decide) h.1
def nums (s : Bs) : List Int := s.map fun c => ((c.toNat : Nat) : Int)
theorem son_nums (s : Bs) : strOfNums (nums s) = B s := by
  apply ba_ext
  rw [strOfNums_data, B_data, nums, List.map_map]
  conv => rhs; rw [← List.map_id s]
  apply List.map_congr_left
  intro x _
  simp only [Function.comp, id, Int.toNat_natCast]
  exact UInt8.ofNat_toNat
theorem take_set (buf : List Int) (n : Nat) (v : Int) (h : n < buf.length) : (buf.set n v).take (n + 1) = buf.take n ++ [v] := by
  rw [List.take_add_one, List.take_set_of_le (Nat.le_refl n)]
  simp [h]
theorem wr1 (n : Nat) (h : n ≤ 4611686018427387920) : wrap64 ((n : Int) + 1) = ((n + 1 : Nat) : Int) := by unfold wrap64; omega
theorem wr2 (n : Nat) (h : n ≤ 4611686018427387920) : wrap64 ((n : Int) + 2) = ((n + 2 : Nat) : Int) := by unfold wrap64; omega
theorem wr3 (n : Nat) (h : n ≤ 4611686018427387920) : wrap64 ((n : Int) + 3) = ((n + 3 : Nat) : Int) := by unfold wrap64; omega
theorem unesc_step4 (L pre rest : Bs) (out buf : List Int) (k : Nat) (d1 d2 d3 c : UInt8) (hL : L = pre ++ ([92, d1, d2, d3] ++ rest)) (hl : L.length ≤ 4611686018427387904)
    (h1 : d1 = 48 ∨ d1 = 49) (h2 : 48 ≤ d2.toNat ∧ d2.toNat ≤ 55) (h3 : 48 ≤ d3.toNat ∧ d3.toNat ≤ 55)
    (hv : (Go.bits .or .u8 (Go.bits .or .u8 ((((((d1.toNat : Nat) : Int) - 48) % 256) * 64) % 256) ((((((d2.toNat : Nat) : Int) - 48) % 256) * 8) % 256)) ((((d3.toNat : Nat) : Int) - 48) % 256)) = ((c.toNat : Nat) : Int))
    (ho : out.length < buf.length) :
    mountinfo_unescape.l0 (k + 1) (B L) buf (out.length : Int) (pre.length : Int) = mountinfo_unescape.l0 k (B L) (buf.set out.length ((c.toNat : Nat) : Int)) ((out.length + 1 : Nat) : Int) ((pre.length + 4 : Nat) : Int) ∨ 4611686018427387904 < buf.length := by
  have HV := Aside0.mk hv
  clear hv
  by_cases hb : 4611686018427387904 < buf.length
  · exact .inr hb
  left
  have hlen : L.length = pre.length + 4 + rest.length := by rw [hL]; simp; omega
  have hp : pre.length ≤ 4611686018427387920 := by omega
  have hp3 : pre.length + 3 ≤ 4611686018427387920 := by omega
  have hob : out.length ≤ 4611686018427387920 := by omega
  have q1 : (pre.length : Int) < ((B L).size : Int) := by rw [B_size]; omega
  have q2 : ((pre.length + 3 : Nat) : Int) < ((B L).size : Int) := by rw [B_size]; omega
  have q3 : ((pre.length + 1 : Nat) : Int) < ((B L).size : Int) := by rw [B_size]; omega
  have q4 : ((pre.length + 2 : Nat) : Int) < ((B L).size : Int) := by rw [B_size]; omega
  have q5 : ((d2.toNat : Nat) : Int) ≥ 48 := by omega
  have q6 : ((d2.toNat : Nat) : Int) ≤ 55 := by omega
  have q7 : ((d3.toNat : Nat) : Int) ≥ 48 := by omega
  have q8 : ((d3.toNat : Nat) : Int) ≤ 55 := by omega
  have q9 : (out.length : Int) < (buf.length : Int) := by omega
  have z0 : (0 : Int) ≤ (pre.length : Int) := by omega
  have z1 : (0 : Int) ≤ ((pre.length + 1 : Nat) : Int) := by omega
  have z2 : (0 : Int) ≤ ((pre.length + 2 : Nat) : Int) := by omega
  have z3 : (0 : Int) ≤ ((pre.length + 3 : Nat) : Int) := by omega
  have zo : (0 : Int) ≤ (out.length : Int) := by omega
  have w1 : wrap64 ((pre.length : Int) + 1) = ((pre.length + 1 : Nat) : Int) := wr1 pre.length hp
  have w2 : wrap64 ((pre.length : Int) + 2) = ((pre.length + 2 : Nat) : Int) := wr2 pre.length hp
  have w3 : wrap64 ((pre.length : Int) + 3) = ((pre.length + 3 : Nat) : Int) := wr3 pre.length hp
  have w4 : wrap64 (((pre.length + 3 : Nat) : Int) + 1) = ((pre.length + 4 : Nat) : Int) := wr1 (pre.length + 3) hp3
  have wo : wrap64 ((out.length : Int) + 1) = ((out.length + 1 : Nat) : Int) := wr1 out.length hob
  have b0 := bt_B' L pre.length 92 (by rw [hL]; simp)
  have b1 := bt_B' L (pre.length + 1) d1 (by rw [hL, List.getElem?_append_right (by omega)]; simp)
  have b2 := bt_B' L (pre.length + 2) d2 (by rw [hL, List.getElem?_append_right (by omega)]; simp)
  have b3 := bt_B' L (pre.length + 3) d3 (by rw [hL, List.getElem?_append_right (by omega)]; simp)
  have c0 : ((92 : UInt8).toNat : Int) = 92 := rfl
  rw [c0] at b0
  rw [mountinfo_unescape.l0]
  simp only [w1, w2, w3, w4, wo, b0, b1, b2, b3, HV.out]
  rw [if_pos q1, if_pos z0, if_pos trivial, if_pos q2, if_pos z1, if_pos q3]
  rcases h1 with rfl | rfl
  · have c1 : ((48 : UInt8).toNat : Int) = 48 := rfl
    rw [if_pos c1, if_pos z2, if_pos q4, if_pos q5, if_pos q6, if_pos z3, if_pos q7, if_pos q8, if_pos zo, if_pos q9]
    simp only [Int.toNat_natCast]
  · have c1 : ((49 : UInt8).toNat : Int) = 49 := rfl
    have c2 : ¬ ((49 : UInt8).toNat : Int) = 48 := by decide
    rw [if_neg c2, if_pos c1, if_pos z2, if_pos q4, if_pos q5, if_pos q6, if_pos z3, if_pos q7, if_pos q8, if_pos zo, if_pos q9]
    simp only [Int.toNat_natCast]
theorem unesc_step1 (L pre rest : Bs) (out buf : List Int) (k : Nat) (c : UInt8) (hL : L = pre ++ (c :: rest)) (hl : L.length ≤ 4611686018427387904) (hc : c ≠ 92)
    (ho : out.length < buf.length) (hb : buf.length ≤ 4611686018427387904) :
    mountinfo_unescape.l0 (k + 1) (B L) buf (out.length : Int) (pre.length : Int) = mountinfo_unescape.l0 k (B L) (buf.set out.length ((c.toNat : Nat) : Int)) ((out.length + 1 : Nat) : Int) ((pre.length + 1 : Nat) : Int) := by
  have hlen : L.length = pre.length + 1 + rest.length := by rw [hL]; simp; omega
  have hp : pre.length ≤ 4611686018427387920 := by omega
  have hp3 : pre.length + 3 ≤ 4611686018427387920 := by omega
  have hob : out.length ≤ 4611686018427387920 := by omega
  have q1 : (pre.length : Int) < ((B L).size : Int) := by rw [B_size]; omega
  have q9 : (out.length : Int) < (buf.length : Int) := by omega
  have z0 : (0 : Int) ≤ (pre.length : Int) := by omega
  have zo : (0 : Int) ≤ (out.length : Int) := by omega
  have hc' : ¬ ((c.toNat : Nat) : Int) = 92 := fun e => hc (u8_eq (b := 92) e)
  have w1 : wrap64 ((pre.length : Int) + 1) = ((pre.length + 1 : Nat) : Int) := wr1 pre.length hp
  have wo : wrap64 ((out.length : Int) + 1) = ((out.length + 1 : Nat) : Int) := wr1 out.length hob
  have b0 := bt_B' L pre.length c (by rw [hL]; simp)
  rw [mountinfo_unescape.l0]
  simp only [b0, w1, wo]
  rw [if_pos q1, if_pos z0, if_neg hc', if_pos zo, if_pos q9]
  simp only [Int.toNat_natCast]
theorem unesc_l0 (L : Bs) (hl : L.length ≤ 4611686018427387904) : ∀ (rest pre : Bs) (out buf : List Int) (k : Nat), L = pre ++ octL rest → buf.take out.length = out → out.length + rest.length ≤ buf.length → buf.length ≤ 4611686018427387904 → rest.length < k →
    mountinfo_unescape.l0 k (B L) buf (out.length : Int) (pre.length : Int) = some (strOfNums (out ++ nums rest))
  | [], pre, out, buf, k, hL, hb, hr, hbl, hk => by
    obtain ⟨k, rfl⟩ : ∃ m, k = m + 1 := ⟨k - 1, by omega⟩
    have hlen : L.length = pre.length := by rw [hL]; simp [octL]
    have q1 : ¬ (pre.length : Int) < ((B L).size : Int) := by rw [B_size]; omega
    simp only [List.length_nil] at hr
    rw [mountinfo_unescape.l0, if_neg q1, if_pos (by omega), if_pos (by omega)]
    simp only [Int.toNat_natCast]
    rw [hb]
    simp [nums]
  | c :: r, pre, out, buf, k, hL, hb, hr, hbl, hk => by
    simp only [List.length_cons] at hr hk
    obtain ⟨k, rfl⟩ : ∃ m, k = m + 1 := ⟨k - 1, by omega⟩
    have ho : out.length < buf.length := by omega
    have ih : ∀ (p : Bs), L = p ++ octL r → mountinfo_unescape.l0 k (B L) (buf.set out.length ((c.toNat : Nat) : Int)) ((out.length + 1 : Nat) : Int) (p.length : Int) = some (strOfNums (out ++ nums (c :: r))) := by
      intro p hp
      have := unesc_l0 L hl r p (out ++ [((c.toNat : Nat) : Int)]) (buf.set out.length ((c.toNat : Nat) : Int)) k hp (by rw [List.length_append, List.length_singleton, take_set _ _ _ ho, hb]) (by simp only [List.length_append, List.length_singleton, List.length_set]; omega) (by rw [List.length_set]; exact hbl) (by omega)
      rw [List.length_append, List.length_singleton] at this
      rw [this]
      simp [nums]
    rw [octL_cons] at hL
    rcases octc_cases c with h | h | h | h | h
    · rw [h.1] at hL
      rw [unesc_step1 L pre (octL r) out buf k c (by rw [hL]; simp) hl h.2.1 ho hbl]
      have := ih (pre ++ [c]) (by rw [hL]; simp)
      rw [List.length_append, List.length_singleton] at this
      exact this
    · rw [h.2] at hL
      rcases unesc_step4 L pre (octL r) out buf k 48 52 48 c hL hl (.inl rfl) (by decide) (by decide) (by rw [h.1]; decide) ho with h4 | h4
      · rw [h4]
        have := ih (pre ++ [92, 48, 52, 48]) (by rw [hL]; simp)
        rw [List.length_append] at this
        exact this
      · omega
    · rw [h.2] at hL
      rcases unesc_step4 L pre (octL r) out buf k 48 49 49 c hL hl (.inl rfl) (by decide) (by decide) (by rw [h.1]; decide) ho with h4 | h4
      · rw [h4]
        have := ih (pre ++ [92, 48, 49, 49]) (by rw [hL]; simp)
        rw [List.length_append] at this
        exact this
      · omega
    · rw [h.2] at hL
      rcases unesc_step4 L pre (octL r) out buf k 48 49 50 c hL hl (.inl rfl) (by decide) (by decide) (by rw [h.1]; decide) ho with h4 | h4
      · rw [h4]
        have := ih (pre ++ [92, 48, 49, 50]) (by rw [hL]; simp)
        rw [List.length_append] at this
        exact this
      · omega
    · rw [h.2] at hL
      rcases unesc_step4 L pre (octL r) out buf k 49 51 52 c hL hl (.inr rfl) (by decide) (by decide) (by rw [h.1]; decide) ho with h4 | h4
      · rw [h4]
        have := ih (pre ++ [92, 49, 51, 52]) (by rw [hL]; simp)
        rw [List.length_append] at this
        exact this
      · omega
theorem unescape_octL (s : Bs) (k : Nat) (hl : (octL s).length ≤ 281474976710656) (hk : (octL s).length < k) : mountinfo_unescape.f k (B (octL s)) = some (B s) := by
  unfold mountinfo_unescape.f strings_IndexByte.f
  simp only [Option.bind_some]
  rw [B_data]
  have e92 : ((92 : Int).toNat.toUInt8) = (92 : UInt8) := rfl
  rw [e92]
  by_cases h : Lib.indexByte (octL s) 92 = -1
  · rw [if_pos h]
    have : (92 : UInt8) ∉ octL s := by
      intro hm
      obtain ⟨i, hi⟩ := List.mem_iff_getElem?.1 hm
      exact Lib.indexByte_none h i hi
    rw [octL_same s this]
  · rw [if_neg h, if_pos (by omega)]
    simp only [Int.toNat_natCast]
    rw [if_pos (by rw [B_size]; exact hl), B_size]
    have := octL_len s
    have h1 := unesc_l0 (octL s) (by omega) s [] [] (List.replicate (octL s).length 0) k rfl rfl (by simp; omega) (by simp; omega) (by omega)
    rw [← son_nums s]
    simpa using h1
def natL (n : Nat) : Bs := if n < 10 then [UInt8.ofNat (48 + n)] else natL (n / 10) ++ [UInt8.ofNat (48 + n % 10)]
  termination_by n
  decreasing_by omega
theorem digit_ofNat (d : Nat) (h : d < 10) : Lib.digitVal (UInt8.ofNat (48 + d)) = some d := by
  unfold Lib.digitVal
  have : (UInt8.ofNat (48 + d)).toNat = 48 + d := by rw [UInt8.toNat_ofNat_of_lt' (by show 48 + d < 256; omega)]
  rw [this, if_pos (by omega)]
  congr 1
  omega
theorem decFrom_append : ∀ (a b : Bs) (acc : Nat), Lib.decFrom acc (a ++ b) = (Lib.decFrom acc a).bind fun m => Lib.decFrom m b
  | [], b, acc => rfl
  | x :: a, b, acc => by
    simp only [List.cons_append, Lib.decFrom]
    cases Lib.digitVal x with
    | none => rfl
    | some d => exact decFrom_append a b _
theorem natL_dec (n : Nat) : Lib.decFrom 0 (natL n) = some n := by
  induction n using Nat.strongRecOn with
  | ind n ih =>
    rw [natL]
    split
    · rename_i h
      simp only [Lib.decFrom, digit_ofNat n h]
      congr 1
      omega
    · rename_i h
      rw [decFrom_append, ih (n / 10) (by omega)]
      simp only [Option.bind_some, Lib.decFrom, digit_ofNat (n % 10) (Nat.mod_lt _ (by decide))]
      congr 1
      omega
theorem natL_digits (n : Nat) : ∀ c ∈ natL n, 48 ≤ c.toNat ∧ c.toNat ≤ 57 := by
  induction n using Nat.strongRecOn with
  | ind n ih =>
    have hd : ∀ d : Nat, d < 10 → 48 ≤ (UInt8.ofNat (48 + d)).toNat ∧ (UInt8.ofNat (48 + d)).toNat ≤ 57 := fun d h => by
      rw [UInt8.toNat_ofNat_of_lt' (by show 48 + d < 256; omega)]
      omega
    rw [natL]
    split
    · rename_i h
      intro c hc
      rw [List.mem_singleton.1 hc]
      exact hd n h
    · rename_i h
      intro c hc
      rcases List.mem_append.1 hc with hc | hc
      · exact ih (n / 10) (by omega) c hc
      · rw [List.mem_singleton.1 hc]
        exact hd _ (Nat.mod_lt _ (by decide))
theorem natL_ne (n : Nat) : natL n ≠ [] := by
  rw [natL]
  split <;> simp
theorem natL_len : ∀ (k n : Nat), n < 10 ^ (k + 1) → (natL n).length ≤ k + 1
  | 0, n, h => by rw [natL, if_pos (by omega)]; simp
  | k + 1, n, h => by
    rw [natL]
    split
    · simp
    · have := natL_len k (n / 10) (by rw [Nat.pow_succ] at h; omega)
      rw [List.length_append, List.length_singleton]
      omega
theorem natL_no (n : Nat) (c : UInt8) (h : c.toNat < 48 ∨ 57 < c.toNat) : c ∉ natL n := fun hm => by
  have := natL_digits n c hm
  omega
theorem toInt_natL (n : Nat) (h : n < 10000000000) : mountinfo_toInt.f (B (natL n)) = some (n : Int) := by
  unfold mountinfo_toInt.f strconv_Atoi.f
  have hl := natL_len 9 n (by omega)
  rw [if_pos (by rw [B_size]; omega), B_data]
  have : Lib.atoi (natL n) = some (n : Int) := by
    have hd := natL_digits n
    have hdec := natL_dec n
    cases hn : natL n with
    | nil => exact absurd hn (natL_ne n)
    | cons b r =>
      rw [hn] at hd hdec
      have hb := hd b (by simp)
      have h45 : (b == 45) = false := by
        rw [beq_eq_false_iff_ne]
        rintro rfl
        exact absurd hb.1 (by decide)
      have h43 : (b == 43) = false := by
        rw [beq_eq_false_iff_ne]
        rintro rfl
        exact absurd hb.1 (by decide)
      unfold Lib.atoi
      simp [h45, h43, Lib.decNat, hdec]
  rw [this]
  rfl
end Go.Proofs.YtcpldcndhijecaaDoor.Pu
namespace Go.Proofs.YtcpldcndhijecaaDoor.Pu
open Go.RowKit Go.Proofs.YtcpldcndhijecaaDoorW.PrintWords Go.Proofs.YtcpldcndhijecaaDoorW.PrintLast Go.Proofs.YtcpldcndhijecaaDoor.QT0
set_option linter.unusedVariables false
set_option linter.unusedSimpArgs false
abbrev dl (T : ByteArray) : Bs := T.data.toList
theorem B_dl (T : ByteArray) : B (dl T) = T := (B_of T).symm
theorem dl_len (T : ByteArray) : (dl T).length = T.size := (Lib.size_eq T).symm
theorem joinc_append (c : UInt8) : ∀ (a b : List Bs), a ≠ [] → b ≠ [] → joinc c (a ++ b) = joinc c a ++ c :: joinc c b
  | [], b, h, _ => absurd rfl h
  | [x], [], _, h => absurd rfl h
  | [x], y :: r, _, _ => rfl
  | x :: y :: r, b, _, hb => by
    show x ++ c :: joinc c ((y :: r) ++ b) = _
    rw [joinc_append c (y :: r) b (by simp) hb]
    simp [joinc]
theorem joinc_mem (c : UInt8) : ∀ (fs : List Bs) (f : Bs), f ∈ fs → f.length ≤ (joinc c fs).length
  | [x], f, h => by rw [List.mem_singleton.1 h]; exact Nat.le_refl _
  | x :: y :: r, f, h => by
    have hl : (joinc c (x :: y :: r)).length = x.length + 1 + (joinc c (y :: r)).length := by simp [joinc]; omega
    rcases List.mem_cons.1 h with rfl | h
    · omega
    · have := joinc_mem c (y :: r) f h
      omega
theorem joinc_no (c d : UInt8) (h : d ≠ c) : ∀ fs : List Bs, (∀ f ∈ fs, d ∉ f) → d ∉ joinc c fs
  | [], _ => by simp [joinc]
  | [x], hf => hf x (by simp)
  | x :: y :: r, hf => by
    show d ∉ x ++ c :: joinc c (y :: r)
    rw [List.mem_append, List.mem_cons, not_or, not_or]
    exact ⟨hf x (by simp), h, joinc_no c d h (y :: r) (fun f hm => hf f (List.mem_cons_of_mem _ hm))⟩
theorem joinc_join (c : UInt8) : ∀ fs : List Bs, Lib.join fs [c] = joinc c fs
  | [] => rfl
  | [x] => Lib.join_one x [c]
  | x :: y :: r => by
    show _ = x ++ c :: joinc c (y :: r)
    rw [← joinc_join c (y :: r)]
    simp [Lib.join, List.intercalate]
def wordL (s : Bs) : Prop := s ≠ [] ∧ ∀ c ∈ s, (32 < c.toNat ∧ c.toNat < 127) ∧ c ≠ 92
theorem octL_id : ∀ s : Bs, (∀ c ∈ s, (32 < c.toNat ∧ c.toNat < 127) ∧ c ≠ 92) → octL s = s
  | [], _ => rfl
  | c :: r, h => by
    rw [octL_cons, octL_id r (fun d hd => h d (List.mem_cons_of_mem _ hd))]
    have hc := h c (by simp)
    rcases octc_cases c with h' | h' | h' | h' | h'
    · rw [h'.1]; rfl
    · exact absurd hc.1.1 (by rw [h'.1]; decide)
    · exact absurd hc.1.1 (by rw [h'.1]; decide)
    · exact absurd hc.1.1 (by rw [h'.1]; decide)
    · exact absurd h'.1 hc.2
theorem wordL.no {s : Bs} (h : wordL s) (c : UInt8) (hc : c.toNat ≤ 32) : c ∉ s := fun hm => by have := h.2 c hm; omega
structure Good (m : Inf) (os : List Bs) : Prop where
  n0 : 0 ≤ m.f0 ∧ m.f0 ≤ 2147483647
  n1 : 0 ≤ m.f1 ∧ m.f1 ≤ 2147483647
  n2 : 0 ≤ m.f2 ∧ m.f2 ≤ 2147483647
  n3 : 0 ≤ m.f3 ∧ m.f3 ≤ 2147483647
  w6 : wordL (dl m.f6)
  w8 : wordL (dl m.f8)
  w10 : wordL (dl m.f10)
  o : dl m.f7 = joinc 32 os
  ow : ∀ f ∈ os, wordL f
def headFs (m : Inf) : List Bs := [natL m.f0.toNat, natL m.f1.toNat, natL m.f2.toNat ++ 58 :: natL m.f3.toNat, octL (dl m.f4), octL (dl m.f5), dl m.f6]
def tailFs (m : Inf) : List Bs := [[45], dl m.f8, octL (dl m.f9), dl m.f10]
def lineFs (m : Inf) (os : List Bs) : List Bs := headFs m ++ (os ++ tailFs m)
def lineL (m : Inf) (os : List Bs) : Bs := joinc 32 (lineFs m os)
theorem lineFs_no (m : Inf) (os : List Bs) (h : Good m os) (d : UInt8) (hd : d = 32 ∨ d = 10) : ∀ f ∈ lineFs m os, d ∉ f := by
  have hd2 : d.toNat ≤ 32 := by rcases hd with rfl | rfl <;> decide
  have hn : ∀ n : Nat, d ∉ natL n := fun n => natL_no n d (.inl (by omega))
  intro f hf
  unfold lineFs headFs tailFs at hf
  simp only [List.mem_append, List.mem_cons, List.not_mem_nil, or_false] at hf
  rcases hf with (rfl | rfl | rfl | rfl | rfl | rfl) | hf | rfl | rfl | rfl | rfl
  · exact hn _
  · exact hn _
  · rw [List.mem_append, List.mem_cons, not_or, not_or]
    exact ⟨hn _, by rcases hd with rfl | rfl <;> decide, hn _⟩
  · exact octL_no d hd _
  · exact octL_no d hd _
  · exact h.w6.no d hd2
  · exact (h.ow f hf).no d hd2
  · rcases hd with rfl | rfl <;> decide
  · exact h.w8.no d hd2
  · exact octL_no d hd _
  · exact h.w10.no d hd2
theorem lineFs_len (m : Inf) (os : List Bs) : (lineFs m os).length = os.length + 10 := by simp [lineFs, headFs, tailFs]
theorem lineL_split (m : Inf) (os : List Bs) : ∃ X : Bs, lineL m os = X ++ dl m.f10 ∧ X.length + (dl m.f10).length = (lineL m os).length := by
  have : lineFs m os = (headFs m ++ (os ++ [[45], dl m.f8, octL (dl m.f9)])) ++ [dl m.f10] := by simp [lineFs, tailFs]
  have e : lineL m os = (joinc 32 (headFs m ++ (os ++ [[45], dl m.f8, octL (dl m.f9)])) ++ [32]) ++ dl m.f10 := by
    unfold lineL
    rw [this, joinc_append 32 _ _ (by simp [headFs]) (by simp)]
    simp [joinc]
  exact ⟨_, e, by rw [e, List.length_append (bs := dl m.f10)]⟩
theorem lineL_opt_len (m : Inf) (os : List Bs) : (joinc 32 os).length ≤ (lineL m os).length := by
  by_cases h : os = []
  · subst h; simp [joinc]
  · unfold lineL lineFs
    rw [joinc_append 32 _ _ (by simp [headFs]) (by simp [h]), joinc_append 32 os _ h (by simp [tailFs])]
    simp only [List.length_append, List.length_cons]
    omega
theorem str_B (fs : List Bs) (i : Nat) : str (fs.map B) i = B (fs.getD i []) := by
  unfold str
  simp only [List.getD_eq_getElem?_getD, List.getElem?_map]
  cases fs[i]? <;> rfl
theorem getD_tail (m : Inf) (os : List Bs) (j : Nat) : (lineFs m os).getD (os.length + 6 + j) [] = (tailFs m).getD j [] := by
  unfold lineFs
  have hh : (headFs m).length = 6 := rfl
  simp only [List.getD_eq_getElem?_getD]
  rw [List.getElem?_append_right (by omega), List.getElem?_append_right (by omega)]
  congr 2
  omega
theorem parse_line (m : Inf) (os : List Bs) (h : Good m os) (hl : (lineL m os).length ≤ 65000) : parseLine (B (lineL m os)) = some m := by
  have hop := lineL_opt_len m os
  have hno := lineFs_no m os h 32 (.inl rfl)
  have hlen := lineFs_len m os
  have hfl := joinc_len 32 (lineFs m os)
  have hmem : ∀ f ∈ lineFs m os, f.length ≤ 65000 := fun f hf => Nat.le_trans (joinc_mem 32 _ f hf) hl
  have hfs : mountinfo_zzSplit.f ((B (lineL m os)).size + 2) (B (lineL m os)) ⟨#[32]⟩ = some ((lineFs m os).map B) :=
    zzSplit_f 32 (lineFs m os) _ (by simp [lineFs, headFs]) hno (by show (lineL m os).length ≤ _; omega) (by unfold lineL at hl; omega) (by rw [B_size]; exact Nat.le_refl _)
  have hlen2 : ((lineFs m os).map B).length = os.length + 10 := by rw [List.length_map, hlen]
  have hos : os.length ≤ 65000 := by unfold lineL at hl; omega
  have s4 : str ((lineFs m os).map B) (os.length + 10 - 4) = B [45] := by
    rw [str_B, show os.length + 10 - 4 = os.length + 6 + 0 by omega, getD_tail]; rfl
  have s3 : str ((lineFs m os).map B) (os.length + 10 - 3) = B (dl m.f8) := by
    rw [str_B, show os.length + 10 - 3 = os.length + 6 + 1 by omega, getD_tail]; rfl
  have s2 : str ((lineFs m os).map B) (os.length + 10 - 2) = B (octL (dl m.f9)) := by
    rw [str_B, show os.length + 10 - 2 = os.length + 6 + 2 by omega, getD_tail]; rfl
  have s1 : str ((lineFs m os).map B) (os.length + 10 - 1) = B (dl m.f10) := by
    rw [str_B, show os.length + 10 - 1 = os.length + 6 + 3 by omega, getD_tail]; rfl
  have t0 : str ((lineFs m os).map B) 0 = B (natL m.f0.toNat) := by rw [str_B]; rfl
  have t1 : str ((lineFs m os).map B) 1 = B (natL m.f1.toNat) := by rw [str_B]; rfl
  have t2 : str ((lineFs m os).map B) 2 = B (natL m.f2.toNat ++ 58 :: natL m.f3.toNat) := by rw [str_B]; rfl
  have t3 : str ((lineFs m os).map B) 3 = B (octL (dl m.f4)) := by rw [str_B]; rfl
  have t4 : str ((lineFs m os).map B) 4 = B (octL (dl m.f5)) := by rw [str_B]; rfl
  have t5 : str ((lineFs m os).map B) 5 = B (dl m.f6) := by rw [str_B]; rfl
  have hmid : (((lineFs m os).map B).drop 6).take (os.length + 10 - 10) = os.map B := by
    have : (lineFs m os).map B = (headFs m).map B ++ (os.map B ++ (tailFs m).map B) := by simp [lineFs]
    rw [this, show (6 : Nat) = ((headFs m).map B).length from rfl, List.drop_left, show os.length + 10 - 10 = (os.map B).length by simp, List.take_left]
  have hmm : (os.map B).map (·.data.toList) = os := by
    rw [List.map_map]
    conv => rhs; rw [← List.map_id os]
    exact List.map_congr_left fun f _ => B_data f
  have hj : Lib.join ((os.map B).map (·.data.toList)) [32] = joinc 32 os := by rw [hmm, joinc_join]
  have m3 := hmem (octL (dl m.f4)) (by simp [lineFs, headFs])
  have m4 := hmem (octL (dl m.f5)) (by simp [lineFs, headFs])
  have m9 := hmem (octL (dl m.f9)) (by simp [lineFs, tailFs])
  have m2 := hmem (natL m.f2.toNat ++ 58 :: natL m.f3.toNat) (by simp [lineFs, headFs])
  have m5 := octL_len (dl m.f5)
  have hcut : mountinfo_zzCut.f ((B (natL m.f2.toNat ++ 58 :: natL m.f3.toNat)).size + 2) (B (natL m.f2.toNat ++ 58 :: natL m.f3.toNat)) ⟨#[58]⟩ = some (B (natL m.f2.toNat), B (natL m.f3.toNat), true) :=
    zzCut_f 58 _ _ _ (natL_no _ _ (.inr (by decide))) (by omega) (by rw [B_size]; omega)
  unfold parseLine
  rw [hfs]
  simp only [Option.bind_some]
  rw [hlen2, s4, hmid, hj, s3, s2, s1, t0, t1, t2, t3, t4, t5]
  rw [if_pos ⟨by omega, by omega, rfl, by omega⟩, hcut]
  simp only [Option.bind_some]
  rw [if_pos trivial]
  rw [toInt_natL _ (by have := h.n0; omega), toInt_natL _ (by have := h.n1; omega), toInt_natL _ (by have := h.n2; omega), toInt_natL _ (by have := h.n3; omega)]
  simp only [Option.bind_some]
  rw [unescape_octL (dl m.f4) _ (by omega) (by rw [B_size]; omega), unescape_octL (dl m.f5) _ (by omega) (by rw [B_size]; omega), unescape_octL (dl m.f9) _ (by omega) (by rw [B_size]; omega)]
  have m8 := hmem (dl m.f8) (by simp [lineFs, tailFs])
  have e8 : mountinfo_unescape.f ((B (dl m.f8)).size + 2) (B (dl m.f8)) = some (B (dl m.f8)) := by
    have := unescape_octL (dl m.f8) ((B (dl m.f8)).size + 2) (by rw [octL_id _ h.w8.2]; omega) (by rw [octL_id _ h.w8.2, B_size]; omega)
    rwa [octL_id _ h.w8.2] at this
  rw [e8]
  simp only [Option.bind_some]
  rw [if_pos (by rw [B_size]; omega)]
  have f7 : joined (os.map B) = m.f7 := by
    unfold joined
    rw [hj, ← h.o]
  rw [f7, B_dl, B_dl, B_dl, B_dl, B_dl, B_dl, Int.toNat_of_nonneg h.n0.1, Int.toNat_of_nonneg h.n1.1, Int.toNat_of_nonneg h.n2.1, Int.toNat_of_nonneg h.n3.1]
def textL : List (Inf × List Bs) → Bs
  | [] => []
  | x :: r => lineL x.1 x.2 ++ 10 :: textL r
def runF (F : Inf → Bool × Bool) : List Inf → List Inf
  | [] => []
  | m :: r => if (F m).1 = true then runF F r else if (F m).2 = true then [m] else m :: runF F r
theorem nl_line (a b : Bs) (h : (10 : UInt8) ∉ a) : nl (B (a ++ 10 :: b)) = a.length := by
  unfold nl
  rw [B_data, List.takeWhile_append_of_pos]
  · simp
  · intro c hc
    rw [bne_iff_ne]
    rintro rfl
    exact h hc
theorem lineL_no10 (m : Inf) (os : List Bs) (h : Good m os) : (10 : UInt8) ∉ lineL m os := joinc_no 32 10 (by decide) _ (lineFs_no m os h 10 (.inr rfl))
theorem chomp_line (m : Inf) (os : List Bs) (h : Good m os) (hl : (lineL m os).length ≤ 65000) : chomp (B (lineL m os)) = B (lineL m os) := by
  obtain ⟨X, hX, hXl⟩ := lineL_split m os
  have hne : 0 < (dl m.f10).length := List.length_pos_iff.2 h.w10.1
  unfold chomp
  rw [if_neg]
  rintro ⟨h0, h13⟩
  have hb := bt_B' (lineL m os) ((lineL m os).length - 1) ((dl m.f10)[(dl m.f10).length - 1]) (by
    rw [hX, List.getElem?_append_right (by simp only [List.length_append]; omega), List.getElem?_eq_getElem (by simp only [List.length_append]; omega)]
    congr 2
    simp only [List.length_append]
    omega)
  rw [B_size] at h13 h0
  rw [show (((lineL m os).length : Int) - 1) = (((lineL m os).length - 1 : Nat) : Int) by omega, hb] at h13
  have := (h.w10.2 _ (List.getElem_mem (show (dl m.f10).length - 1 < (dl m.f10).length by omega))).1.1
  omega
theorem readL_text (F : Inf → Bool × Bool) : ∀ (ms : List (Inf × List Bs)) (k : Nat) (acc : List Inf), (∀ x ∈ ms, Good x.1 x.2) → (textL ms).length ≤ 65000 → ms.length < k → acc.length + ms.length < 8796093022208 →
    readL F k (B (textL ms)) acc = some (acc ++ runF F (ms.map (·.1)))
  | [], k, acc, _, _, hk, _ => by
    obtain ⟨k, rfl⟩ : ∃ m, k = m + 1 := ⟨k - 1, by omega⟩
    rw [readL, if_pos (by rw [B_size]; rfl)]
    simp [runF]
  | x :: r, k, acc, hg, hl, hk, ha => by
    simp only [List.length_cons] at hk ha
    obtain ⟨k, rfl⟩ : ∃ m, k = m + 1 := ⟨k - 1, by omega⟩
    have hx := hg x (by simp)
    have hlen : (textL (x :: r)).length = (lineL x.1 x.2).length + 1 + (textL r).length := by simp [textL]; omega
    have hn := nl_line (lineL x.1 x.2) (textL r) (lineL_no10 x.1 x.2 hx)
    have ht : textL (x :: r) = lineL x.1 x.2 ++ 10 :: textL r := rfl
    rw [readL, if_neg (by rw [B_size]; omega)]
    rw [ht, hn, if_pos (by omega)]
    have e1 : (B (lineL x.1 x.2 ++ 10 :: textL r)).extract 0 (lineL x.1 x.2).length = B (lineL x.1 x.2) := by rw [B_extract]; simp
    have e2 : (B (lineL x.1 x.2 ++ 10 :: textL r)).extract ((lineL x.1 x.2).length + 1) (B (lineL x.1 x.2 ++ 10 :: textL r)).size = B (textL r) := by
      rw [B_extract, B_size]
      have : (lineL x.1 x.2 ++ 10 :: textL r).drop ((lineL x.1 x.2).length + 1) = textL r := by
        rw [List.drop_append]
        simp
      rw [this, List.take_of_length_le (by simp only [List.length_append, List.length_cons]; omega)]
    rw [e1, e2, chomp_line x.1 x.2 hx (by omega), parse_line x.1 x.2 hx (by omega)]
    simp only [Option.bind_some]
    have ih := fun acc' h' => readL_text F r k acc' (fun y hy => hg y (List.mem_cons_of_mem _ hy)) (by omega) (by omega) h'
    simp only [List.map_cons, runF]
    by_cases h1 : (F x.1).1 = true
    · rw [if_pos h1, if_pos h1]
      exact ih acc (by omega)
    · rw [if_neg h1, if_neg h1, if_pos (by omega)]
      by_cases h2 : (F x.1).2 = true
      · rw [if_pos h2, if_pos h2]
      · rw [if_neg h2, if_neg h2, ih (acc ++ [x.1]) (by simp only [List.length_append, List.length_cons, List.length_nil]; omega)]
        simp
theorem lineL_pos (m : Inf) (os : List Bs) : 9 ≤ (lineL m os).length := by
  have := joinc_len 32 (lineFs m os)
  have := lineFs_len m os
  unfold lineL
  omega
theorem textL_len : ∀ ms : List (Inf × List Bs), ms.length ≤ (textL ms).length
  | [] => by simp
  | x :: r => by
    have := textL_len r
    have := lineL_pos x.1 x.2
    simp only [textL, List.length_append, List.length_cons]
    omega
theorem runF_len (F : Inf → Bool × Bool) : ∀ ms : List Inf, (runF F ms).length ≤ ms.length
  | [] => by simp [runF]
  | m :: r => by
    have := runF_len F r
    unfold runF
    split
    · simp only [List.length_cons]; omega
    · split
      · simp
      · simp only [List.length_cons]; omega
theorem mountsF_text (kind : Int) (paths : List ByteArray) (F : Inf → Bool × Bool) (hF : filterOf kind paths = some F) (ms : List (Inf × List Bs)) (hg : ∀ x ∈ ms, Good x.1 x.2) (hl : (textL ms).length ≤ 65000) :
    mountsF (B (textL ms)) kind paths = some (runF F (ms.map (·.1))) := by
  have := textL_len ms
  unfold mountsF
  rw [if_pos (by rw [B_size]; omega), hF]
  simp only [Option.bind_some]
  rw [readL_text F ms _ [] hg hl (by rw [B_size]; omega) (by simp only [List.length_nil]; omega)]
  simp only [Option.bind_some, List.nil_append]
  rw [if_pos]
  have := runF_len F (ms.map (·.1))
  rw [List.length_map] at this
  omega
theorem runF_all : ∀ ms : List Inf, runF (fun _ => (false, false)) ms = ms
  | [] => rfl
  | m :: r => by simp [runF, runF_all r]
end Go.Proofs.YtcpldcndhijecaaDoor.Pu
