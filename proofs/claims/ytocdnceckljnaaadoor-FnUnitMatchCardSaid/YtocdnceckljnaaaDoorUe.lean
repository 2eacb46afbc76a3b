/- The unit reader's state as texts; toEOL. Conditions: see each theorem. -/
import Derived.Test.YtocdnceckljnaaaDoorUd
namespace Go.Proofs.YtocdnceckljnaaaDoor.U
open Go.RowKit Go.Proofs.YtocdnceckljnaaaDoorW.PrintWords Go.Proofs.YtocdnceckljnaaaDoorW.PrintLast Go.Proofs.YtocdnceckljnaaaDoorW.PrintMore
set_option linter.unusedVariables false
set_option linter.unusedSimpArgs false
abbrev Bs := List UInt8
/-- Bytes as numbers. -/
def nums (l : Bs) : List Int := l.map fun c => ((c.toNat : Nat) : Int)
theorem nums_len (l : Bs) : (nums l).length = l.length := by simp [nums]
theorem bytesOf_nums (l : Bs) : Lib.bytesOf (nums l) = l := by
  unfold Lib.bytesOf nums
  rw [List.map_map]
  conv => rhs; rw [← List.map_id l]
  apply List.map_congr_left
  intro c _
  simp
theorem nums_get (l : Bs) (i : Nat) (h : i < l.length) : (nums l).getD i 0 = ((l[i].toNat : Nat) : Int) := by
  unfold nums
  rw [List.getD_eq_getElem?_getD, List.getElem?_map, List.getElem?_eq_getElem h]
  rfl
namespace Sl
variable {W W1 : World} {base : Nat} {v : Value} {l : Bs}
theorem below (h : Sl W base v l) (hb : Below W.heap.size W W1) : Sl W1 base v l := by
  obtain ⟨b, o, c, rfl, h1, h2, h3, h4⟩ := h.has
  exact ⟨b, o, c, rfl, h1, h2, Nat.lt_of_lt_of_le h3 hb.size, fun i u hu => keepcell hb (h4 i u hu)⟩
theorem turned {S : Nat → Prop} (h : Sl W base v l) (ht : Turned W W1 S) (hs : ∀ k, S k → k < base) : Sl W1 base v l := by
  obtain ⟨b, o, c, rfl, h1, h2, h3, h4⟩ := h.has
  exact ⟨b, o, c, rfl, h1, h2, Nat.lt_of_lt_of_le h3 ht.size, fun i u hu => ht.cell (h4 i u hu) (fun hk => by have := hs b hk; omega)⟩
theorem lower {b2 : Nat} (h : Sl W base v l) (hb : b2 ≤ base) : Sl W b2 v l := by
  obtain ⟨b, o, c, rfl, h1, h2, h3, h4⟩ := h.has
  exact ⟨b, o, c, rfl, h1, Nat.le_trans hb h2, h3, h4⟩
/-- As the library's contracts want it. -/
theorem bytes (h : Sl W base v l) : ∃ b o c, v = .slice (some ⟨b, o, none⟩) l.length c ∧ l.length ≤ c ∧ base ≤ b ∧ b < W.heap.size ∧ (∀ i, i < l.length → W.cell? ⟨b, o + i, none⟩ = some (.int .u8 ((nums l).getD i 0))) := by
  obtain ⟨b, o, c, rfl, h1, h2, h3, h4⟩ := h.has
  exact ⟨b, o, c, rfl, h1, h2, h3, fun i hi => by rw [nums_get l i hi]; exact h4 i _ (List.getElem?_eq_getElem hi)⟩
end Sl
/-- What bytes.TrimSuffix at one byte leaves. -/
def cutEnd (d : UInt8) (l : Bs) : Bs := if Lib.hasSuffix l [d] = true then l.dropLast else l
theorem trim1 (W : World) (base : Nat) (v : Value) (l : Bs) (d : UInt8) (b2 c2 : Nat) (h : Sl W base v l) (hl : l.length ≤ 4611686018427387904) (h2 : W.cell? ⟨b2, 0, none⟩ = some (.int .u8 d.toNat)) :
    Calls Tryd.prog 96 #[v, .slice (some ⟨b2, 0, none⟩) 1 c2] W fun e w' => (∃ v', e = .returned v' ∧ Sl W base v' (cutEnd d l)) ∧ w' = W := by
  obtain ⟨b, o, c, rfl, h1, hb, hlt, h4⟩ := h.bytes
  have := Tryd.bytes_TrimSuffix_all (some ⟨b, o, none⟩) (some ⟨b2, 0, none⟩) l.length c 1 c2 (nums l) (nums [d]) W (nums_len l) rfl h1 (by omega)
    (fun _ => ⟨b, o, rfl, h4⟩) (fun _ => ⟨b2, 0, rfl, fun i hi => by obtain rfl : i = 0 := by omega
                                                                     exact h2⟩)
  refine this.mono fun e w' ⟨he, hw⟩ => ⟨⟨_, he, ?_⟩, hw⟩
  have e1 : Lib.trimSuffixV (some ⟨b, o, none⟩) l.length c (nums l) (nums [d]) = Lib.bytesTrimSuffix b o l.length c (nums l) (nums [d]) := rfl
  rw [e1]
  unfold Lib.bytesTrimSuffix cutEnd
  rw [bytesOf_nums, bytesOf_nums]
  split
  · have hdl : l.dropLast.length = l.length - 1 := List.length_dropLast
    refine ⟨b, o, c, ?_, by omega, hb, hlt, fun i u hu => ?_⟩
    · rw [hdl]; rfl
    · have hi : i < l.dropLast.length := (List.getElem?_eq_some_iff.1 hu).1
      rw [List.getElem?_dropLast] at hu
      split at hu
      · rename_i hi2
        have := h4 i (by omega)
        rw [nums_get l i (by omega)] at this
        rw [List.getElem?_eq_getElem (by omega)] at hu
        rw [← Option.some.inj hu]
        exact this
      · simp at hu
  · exact ⟨b, o, c, rfl, h1, hb, hlt, fun i u hu => by
      have hi : i < l.length := (List.getElem?_eq_some_iff.1 hu).1
      have := h4 i hi
      rw [nums_get l i hi] at this
      rw [List.getElem?_eq_getElem hi] at hu
      rw [← Option.some.inj hu]
      exact this⟩
theorem suffix_iff (l : Bs) (d : UInt8) : Lib.hasSuffix l [d] = true ↔ ∃ t, l = t ++ [d] := by
  unfold Lib.hasSuffix
  rw [List.isSuffixOf_iff_suffix]
  exact ⟨fun ⟨t, h⟩ => ⟨t, h.symm⟩, fun ⟨t, h⟩ => ⟨t, h.symm⟩⟩
theorem cutEnd_yes (d : UInt8) (a : Bs) : cutEnd d (a ++ [d]) = a := by
  unfold cutEnd
  rw [if_pos ((suffix_iff _ _).2 ⟨a, rfl⟩)]
  simp
theorem cutEnd_other (d e : UInt8) (h : e ≠ d) (a : Bs) : cutEnd d (a ++ [e]) = a ++ [e] := by
  unfold cutEnd
  rw [if_neg]
  intro hh
  obtain ⟨t, ht⟩ := (suffix_iff _ _).1 hh
  have := congrArg List.getLast? ht
  simp at this
  exact h this
theorem cutEnd_no (d : UInt8) (a : Bs) (h : d ∉ a) : cutEnd d a = a := by
  unfold cutEnd
  rw [if_neg]
  intro hh
  obtain ⟨t, ht⟩ := (suffix_iff _ _).1 hh
  exact h (by rw [ht]; simp)
/-- A line: what stands ahead of the first line feed; what stands behind it. -/
def eolL (r : Bs) : Bs := r.takeWhile (fun c => c != 10)
def eolR (r : Bs) : Bs := (r.dropWhile (fun c => c != 10)).drop 1
/-- The tables that are read. -/
structure Tabs (w : World) : Prop where
  first : ∀ c : Nat, c < 128 → w.cell? ⟨3, c, none⟩ = some (.int .u8 240)
  bsp : Lib.TabIs Tryd.prog w "bytes.asciiSpace" .u8 Lib.asciiSpaceTab
  ssp : Lib.TabIs Tryd.prog w "strings.asciiSpace" .u8 Lib.asciiSpaceTab
theorem tab_below {w W : World} {n : String} {zs : List Int} (hb : Below w.heap.size w W) (h : Lib.TabIs Tryd.prog w n .u8 zs) : Lib.TabIs Tryd.prog W n .u8 zs := by
  unfold Lib.TabIs at h ⊢
  unfold World.var? at h ⊢
  cases hg : Tryd.prog.globalNamed n with
  | none => simp [hg] at h
  | some g =>
    simp only [hg, Option.bind_some] at h ⊢
    have hlt : g < w.heap.size := by
      rcases Nat.lt_or_ge g w.heap.size with h' | h'
      · exact h'
      · simp [Array.getElem?_eq_none h'] at h
    rw [hb.block g hlt]
    exact h
theorem Tabs.below {w W : World} (h : Tabs w) (hb : Below w.heap.size w W) : Tabs W := ⟨fun c hc => keepcell hb (h.first c hc), tab_below hb h.bsp, tab_below hb h.ssp⟩
/-- The reader's state: rest is yet to read, vd the slice of what was read. -/
structure Lx (w0 : World) (gl gb : Nat) (T : ByteArray) (W : World) (rest : Bs) (vd : Value) : Prop where
  below : Below w0.heap.size w0 W
  hgl : w0.heap.size ≤ gl
  hgb : w0.heap.size ≤ gb
  ne : gl ≠ gb
  lex : W.heap[gl]? = some (.cells #[.pointer (some ⟨gb, 0, none⟩), vd, .nilIface, .string ⟨#[]⟩] 105 (0, 0))
  buf : ∃ r wd last, BufAt W gb T r wd last false ∧ T.data.toList.drop r = rest
  tabs : Tabs w0
  asc : ∀ c ∈ T.data.toList, c.toNat < 128
namespace Lx
variable {w0 W W1 : World} {gl gb : Nat} {T : ByteArray} {rest : Bs} {vd : Value}
theorem c0 (h : Lx w0 gl gb T W rest vd) : W.cell? ⟨gl, 0, none⟩ = some (.pointer (some ⟨gb, 0, none⟩)) := by rw [blk_cell h.lex]; rfl
theorem c1 (h : Lx w0 gl gb T W rest vd) : W.cell? ⟨gl, 1, none⟩ = some vd := by rw [blk_cell h.lex]; rfl
theorem c2 (h : Lx w0 gl gb T W rest vd) : W.cell? ⟨gl, 2, none⟩ = some .nilIface := by rw [blk_cell h.lex]; rfl
theorem more (h : Lx w0 gl gb T W rest vd) (hb : Below W.heap.size W W1) : Lx w0 gl gb T W1 rest vd := by
  obtain ⟨r, wd, last, h1, h2⟩ := h.buf
  exact ⟨(Turned.of_below hb (fun _ => False)).over h.below (fun _ h => h.elim), h.hgl, h.hgb, h.ne, (hb.block gl (blk_lt h.lex)).trans h.lex, ⟨r, wd, last, h1.below hb, h2⟩, h.tabs, h.asc⟩
/-- The buffer has moved on. -/
theorem on (h : Lx w0 gl gb T W rest vd) (ht : Turned W W1 (at_ gb)) {rest' : Bs} (hb : ∃ r wd last, BufAt W1 gb T r wd last false ∧ T.data.toList.drop r = rest') : Lx w0 gl gb T W1 rest' vd :=
  ⟨ht.over h.below (fun k hk => by rw [hk]; exact h.hgb), h.hgl, h.hgb, h.ne, ht.blk h.lex h.ne, hb, h.tabs, h.asc⟩
theorem tabW (h : Lx w0 gl gb T W rest vd) : Tabs W := h.tabs.below h.below
end Lx
theorem bt_drop (T : ByteArray) (r : Nat) (c : UInt8) (rest : Bs) (h : T.data.toList.drop r = c :: rest) : r < T.size ∧ bt T (r : Int) = (c.toNat : Int) ∧ T.data.toList.drop (r + 1) = rest ∧ c ∈ T.data.toList := by
  have hl : r < T.data.toList.length := by
    rcases Nat.lt_or_ge r T.data.toList.length with h' | h'
    · exact h'
    · rw [List.drop_eq_nil_of_le h'] at h; simp at h
  have hs : r < T.size := by rw [Lib.size_eq]; exact hl
  have hd := List.drop_eq_getElem_cons hl
  rw [h] at hd
  obtain ⟨h1, h2⟩ := List.cons.inj hd
  refine ⟨hs, ?_, h2.symm, h1 ▸ List.getElem_mem hl⟩
  unfold bt
  rw [dif_pos (by simpa using hs)]
  simp only [Int.toNat_natCast]
  rw [h1]
  rfl
theorem drop_nil (T : ByteArray) (r : Nat) (hr : r ≤ T.size) (h : T.data.toList.drop r = []) : r = T.size := by
  have := List.drop_eq_nil_iff.1 h
  rw [Lib.size_eq] at hr ⊢
  omega
theorem bt_get (T : ByteArray) (i : Nat) (c : UInt8) (h : T.data.toList[i]? = some c) : bt T (i : Int) = (c.toNat : Int) := by
  obtain ⟨hl, he⟩ := List.getElem?_eq_some_iff.1 h
  have hs : i < T.size := by rw [Lib.size_eq]; exact hl
  unfold bt
  rw [dif_pos (by simpa using hs)]
  simp only [Int.toNat_natCast]
  rw [← he]
  rfl
theorem ne_read (T : ByteArray) (r : Nat) (a : Bs) (rest : Bs) (d : UInt8) (h : T.data.toList.drop r = a ++ rest) (hd : d ∉ a) (i : Nat) (h1 : r ≤ i) (h2 : i < r + a.length) : bt T (i : Int) ≠ (d.toNat : Int) := by
  have hi : i - r < a.length := by omega
  have hg : T.data.toList[i]? = some a[i - r] := by
    have := List.getElem?_drop (xs := T.data.toList) (i := r) (j := i - r)
    rw [h, List.getElem?_append_left hi, List.getElem?_eq_getElem hi] at this
    rw [show r + (i - r) = i by omega] at this
    exact this.symm
  rw [bt_get T i _ hg]
  intro e
  have : a[i - r] = d := UInt8.toNat_inj.1 (by omega)
  exact hd (this ▸ List.getElem_mem hi)
theorem read_lx {w0 W : World} {gl gb : Nat} {T : ByteArray} {vd : Value} (d : UInt8) (a rest : Bs) (h : Lx w0 gl gb T W (a ++ d :: rest) vd) (hd : d ∉ a) :
    Calls Tryd.prog 92 #[.pointer (some ⟨gb, 0, none⟩), .int .u8 d.toNat] W fun e w' => ∃ v, e = .returned (.tuple #[v, .nilIface]) ∧ Sl w' W.heap.size v (a ++ [d]) ∧ Lx w0 gl gb T w' rest vd ∧ Turned W w' (at_ gb) := by
  obtain ⟨r, wd, last, hB, hr⟩ := h.buf
  have hlen : r + (a.length + 1) + rest.length ≤ T.size := by
    have := congrArg List.length hr
    rw [List.length_drop, ← Lib.size_eq] at this
    simp only [List.length_append, List.length_cons] at this
    omega
  have hgd : T.data.toList[r + a.length]? = some d := by
    have := List.getElem?_drop (xs := T.data.toList) (i := r) (j := a.length)
    rw [hr] at this
    rw [← this]
    simp
  refine (read_bytes gb T r wd last d.toNat (r + a.length) W hB (by omega) (by omega) (fun i h1 h2 => ne_read T r a _ d hr hd i h1 h2) (fun _ => bt_get T _ d hgd)).mono ?_
  rintro e w' ⟨ht, ⟨hlt, v, he, hs, wd', hB'⟩ | ⟨hn, _⟩⟩
  · refine ⟨v, he, ?_, h.on ht ⟨_, _, _, hB', ?_⟩, ht⟩
    · have e1 : (T.extract r (r + a.length + 1)).data.toList = a ++ [d] := by
        rw [Lib.extract_data, hr, show r + a.length + 1 - r = a.length + 1 by omega]
        rw [List.take_append, List.take_of_length_le (Nat.le_succ _)]
        simp
      rw [e1] at hs
      exact hs
    · rw [show r + a.length + 1 = r + (a.length + 1) by omega, ← List.drop_drop, hr, List.drop_append]
      simp
  · omega
theorem read_lx_end {w0 W : World} {gl gb : Nat} {T : ByteArray} {vd : Value} (d : UInt8) (a : Bs) (h : Lx w0 gl gb T W a vd) (hd : d ∉ a) :
    Calls Tryd.prog 92 #[.pointer (some ⟨gb, 0, none⟩), .int .u8 d.toNat] W fun e w' => ∃ v, e = .returned (.tuple #[v, eof]) ∧ Sl w' W.heap.size v a ∧ Lx w0 gl gb T w' [] vd ∧ Turned W w' (at_ gb) := by
  obtain ⟨r, wd, last, hB, hr⟩ := h.buf
  have hlen : r + a.length = T.size := by
    have := congrArg List.length hr
    rw [List.length_drop, ← Lib.size_eq] at this
    have := hB.le
    have := hB.lew
    omega
  refine (read_bytes gb T r wd last d.toNat T.size W hB (by omega) (by omega) (fun i h1 h2 => ne_read T r a [] d (by rw [List.append_nil]; exact hr) hd i h1 (by omega)) (fun h => absurd h (by omega))).mono ?_
  rintro e w' ⟨ht, ⟨hlt, _⟩ | ⟨_, v, he, hs, hB'⟩⟩
  · omega
  · refine ⟨v, he, ?_, h.on ht ⟨_, _, _, hB', ?_⟩, ht⟩
    · have e1 : (T.extract r T.size).data.toList = a := by
        rw [Lib.extract_data, hr, show T.size - r = a.length by omega, List.take_length]
      rw [e1] at hs
      exact hs
    · rw [Lib.size_eq, List.drop_length]
theorem rune_lx {w0 W : World} {gl gb : Nat} {T : ByteArray} {vd : Value} (c : UInt8) (rest : Bs) (h : Lx w0 gl gb T W (c :: rest) vd) :
    Calls Tryd.prog 80 #[.pointer (some ⟨gb, 0, none⟩)] W fun e w' => e = .returned (.tuple #[.int .i32 (c.toNat : Int), .int .i64 1, .nilIface]) ∧ Lx w0 gl gb T w' rest vd ∧ Turned W w' (at_ gb) ∧
      (∃ r wd, BufAt w' gb T (r + 1) wd r false ∧ T.data.toList.drop r = c :: rest) := by
  obtain ⟨r, wd, last, hB, hr⟩ := h.buf
  obtain ⟨h1, h2, h3, h4⟩ := bt_drop T r c rest hr
  have hc := h.asc c h4
  have hk : ∃ k, k = 2 ∧ wd = r ∨ k = 1 ∧ r < wd := by
    have := hB.le
    rcases Nat.lt_or_ge r wd with hh | hh
    · exact ⟨1, .inr ⟨rfl, hh⟩⟩
    · exact ⟨2, .inl ⟨rfl, by omega⟩⟩
  obtain ⟨k, hk⟩ := hk
  have h3b : (3 : Nat) < w0.heap.size := by
    have := World.block_lt_of_cell? w0 _ (h.tabs.first 0 (by omega))
    exact this
  refine (rune_at gb T r wd last c.toNat k W hB h1 h2 hc (h.tabW.first _ hc) (by have := h.hgb; omega) hk).mono ?_
  rintro e w' ⟨he, ⟨wd', hB'⟩, ht⟩
  exact ⟨he, h.on ht ⟨_, _, _, hB', h3⟩, ht, r, wd', hB', hr⟩
theorem rune_lx_end {w0 W : World} {gl gb : Nat} {T : ByteArray} {vd : Value} (h : Lx w0 gl gb T W [] vd) :
    Calls Tryd.prog 80 #[.pointer (some ⟨gb, 0, none⟩)] W fun e w' => e = .returned (.tuple #[.int .i32 0, .int .i64 0, eof]) ∧ Lx w0 gl gb T w' [] vd ∧ Turned W w' (at_ gb) := by
  obtain ⟨r, wd, last, hB, hr⟩ := h.buf
  have := hB.le
  have := hB.lew
  obtain rfl := drop_nil T r (by omega) hr
  obtain rfl : wd = T.size := by omega
  refine (rune_end gb T last W hB).mono ?_
  rintro e w' ⟨he, hB', ht⟩
  exact ⟨he, h.on ht ⟨_, _, _, hB', hr⟩, ht⟩
theorem unread_lx {w0 W : World} {gl gb : Nat} {T : ByteArray} {vd : Value} (c : UInt8) (rest : Bs) (h : Lx w0 gl gb T W rest vd) (hb : ∃ r wd, BufAt W gb T (r + 1) wd r false ∧ T.data.toList.drop r = c :: rest) :
    Calls Tryd.prog 109 #[.pointer (some ⟨gb, 0, none⟩)] W fun e w' => e = .returned .nilIface ∧ Lx w0 gl gb T w' (c :: rest) vd ∧ Turned W w' (at_ gb) := by
  obtain ⟨r, wd, hB, hr⟩ := hb
  refine (unread gb T (r + 1) wd r W hB (Nat.le_succ r)).mono ?_
  rintro e w' ⟨he, hB', ht⟩
  exact ⟨he, h.on ht ⟨_, _, _, hB', hr⟩, ht⟩
theorem trim1' (W : World) (base : Nat) (v : Value) (l : Bs) (d : UInt8) (x : Int) (hx : x = ((d.toNat : Nat) : Int)) (b2 c2 : Nat) (h : Sl W base v l) (hl : l.length ≤ 4611686018427387904) (h2 : W.cell? ⟨b2, 0, none⟩ = some (.int .u8 x)) :
    Calls Tryd.prog 96 #[v, .slice (some ⟨b2, 0, none⟩) 1 c2] W fun e w' => (∃ v', e = .returned v' ∧ Sl w' base v' (cutEnd d l)) ∧ w' = W := (trim1 W base v l d b2 c2 h hl (hx ▸ h2)).mono fun e w' ⟨⟨v', he, hs⟩, hw⟩ => ⟨⟨v', he, by rw [hw]; exact hs⟩, hw⟩
/-! #### toEOL -/
theorem cell_new (w : World) (v : Value) (t : TypeId) : (w.alloc (.cells #[v] t)).cell? ⟨w.heap.size, 0, none⟩ = some v := by
  rw [World.cell?_alloc_at _ _ _ _ rfl]
  rfl
theorem below_new (w : World) (o : Obj) : Below w.heap.size w (w.alloc o) := below_alloc (Below.refl _ _) o
theorem eol_split (r : Bs) : r = eolL r ++ r.dropWhile (fun c => c != 10) := (List.takeWhile_append_dropWhile).symm
theorem eol_no (r : Bs) : (10 : UInt8) ∉ eolL r := fun h => by
  have := List.all_eq_true.1 (List.all_takeWhile (p := fun c : UInt8 => c != 10) (l := r)) _ h
  simp at this
theorem eol_cases (r : Bs) : (r = eolL r ++ 10 :: eolR r ∧ (10 : UInt8) ∈ r) ∨ (r = eolL r ∧ eolR r = [] ∧ (10 : UInt8) ∉ r) := by
  unfold eolR
  cases hd : r.dropWhile (fun c => c != 10) with
  | nil =>
    right
    have := eol_split r
    rw [hd, List.append_nil] at this
    exact ⟨this, rfl, this ▸ eol_no r⟩
  | cons x t =>
    left
    have hx : x = 10 := by
      have hne : r.dropWhile (fun c => c != 10) ≠ [] := by rw [hd]; simp
      have h2 := List.head_dropWhile_not (fun c : UInt8 => c != 10) (l := r) hne
      simp only [hd, List.head_cons] at h2
      simpa using h2
    have := eol_split r
    rw [hd, hx] at this
    exact ⟨by simpa using this, by rw [this]; simp⟩
set_option maxHeartbeats 4000000 in
set_option maxRecDepth 100000 in
theorem to_eol {w0 W : World} {gl gb : Nat} {T : ByteArray} {vd : Value} (rest : Bs) (h : Lx w0 gl gb T W rest vd) (h13 : (13 : UInt8) ∉ eolL rest) (hl : (eolL rest).length ≤ 4611686018427387000) :
    Calls Tryd.prog 95 #[.pointer (some ⟨gl, 0, none⟩)] W fun e w' => ∃ v, e = .returned (.tuple #[v, .bool (!decide ((10 : UInt8) ∈ rest)), .nilIface]) ∧ Sl w' W.heap.size v (eolL rest) ∧ Lx w0 gl gb T w' (eolR rest) vd ∧ Turned W w' (at_ gb) := by
  have H13 := Aside0.mk h13
  have HL := Aside0.mk hl
  have HX := Aside0.mk h
  have hc0 := h.c0
  clear h13 hl
  have N10 := Aside0.mk (eol_no rest)
  have hnn : ∀ (w : World), (binOp .neq 61 .nilIface .nilIface).run Tryd.prog w = .ok (.bool false) w := fun _ => rfl
  have hen : ∀ (w : World), (binOp .neq 61 eof .nilIface).run Tryd.prog w = .ok (.bool true) w := fun _ => rfl
  rcases eol_cases rest with ⟨hr, hm⟩ | ⟨hr, hR, hm⟩
  · have hdm : decide ((10 : UInt8) ∈ rest) = true := decide_eq_true hm
    rw [hdm]
    have HX1 := Aside0.mk (show Lx w0 gl gb T W (eolL rest ++ 10 :: eolR rest) vd from hr ▸ HX.out)
    generalize eolL rest = a at *
    generalize eolR rest = b at *
    have HL2 := Aside0.mk (show (a ++ [10]).length ≤ 4611686018427387904 by rw [List.length_append]; have := HL.out; simp only [List.length_singleton]; omega)
    clear hr hm hdm h HX
    go_enter Tryd.func95, Tryd.ntmps95
    go_wp2_with (first
      | (go_at_call 92; refine (read_lx 10 a b HX1.out N10.out).mono ?_; rintro e w1 ⟨v1, rfl, hs1, hx1, ht1⟩; replace hs1 := Aside0.mk hs1; replace hx1 := Aside0.mk hx1; replace ht1 := Aside0.mk ht1)
      | (go_at_call 96; refine (trim1' _ W.heap.size v1 (a ++ [10]) 13 13 rfl _ _ (hs1.out.below (below_new _ _)) HL2.out (cell_new _ _ _)).mono ?_; rintro e w2 ⟨⟨v2, rfl, hs2⟩, hw⟩; rw [cutEnd_other 13 10 (by decide)] at hs2; replace hs2 := Aside0.mk hs2; have hx2 := Aside0.mk (show Lx w0 gl gb T w2 b vd by rw [hw]; exact hx1.out.more (below_new _ _)); have ht2 := Aside0.mk (show Turned W w2 (at_ gb) by rw [hw]; exact ht1.out.alloc _); clear hw hx1 ht1 hs1)
      | (go_at_call 96; refine (trim1' _ W.heap.size v2 (a ++ [10]) 10 10 rfl _ _ (hs2.out.below (below_new _ _)) HL2.out (cell_new _ _ _)).mono ?_; rintro e w3 ⟨⟨v3, rfl, hs3⟩, hw⟩; rw [cutEnd_yes] at hs3; replace hs3 := Aside0.mk hs3; have hx3 := Aside0.mk (show Lx w0 gl gb T w3 b vd by rw [hw]; exact hx2.out.more (below_new _ _)); have ht3 := Aside0.mk (show Turned W w3 (at_ gb) by rw [hw]; exact ht2.out.alloc _); clear hw hx2 ht2 hs2)
      | (go_at_call 81; refine (eof_nil _).mono ?_; rintro e w4 ⟨rfl, hb4⟩; replace hb4 := Aside0.mk hb4))
    refine bodyPost_ret (results_tmp3 rfl _ _ _) rfl ?_
    exact ⟨v3, rfl, hs3.out.below hb4.out, hx3.out.more hb4.out, ht3.out.below hb4.out⟩
  · have hdm : decide ((10 : UInt8) ∈ rest) = false := decide_eq_false hm
    rw [hdm, hR]
    have HX1 := Aside0.mk (show Lx w0 gl gb T W (eolL rest) vd from hr ▸ HX.out)
    generalize eolL rest = a at *
    have HL2 := Aside0.mk (show a.length ≤ 4611686018427387904 by have := HL.out; omega)
    clear hr hm hdm h HX hR
    go_enter Tryd.func95, Tryd.ntmps95
    go_wp2_with (first
      | (go_at_call 92; refine (read_lx_end 10 a HX1.out N10.out).mono ?_; rintro e w1 ⟨v1, rfl, hs1, hx1, ht1⟩; replace hs1 := Aside0.mk hs1; replace hx1 := Aside0.mk hx1; replace ht1 := Aside0.mk ht1)
      | (go_at_call 81; refine (eof_is w1).mono ?_; rintro e w5 ⟨rfl, hb5⟩; have hs5 := Aside0.mk (hs1.out.below hb5); have hx5 := Aside0.mk (hx1.out.more hb5); have ht5 := Aside0.mk (ht1.out.below hb5); clear hb5 hs1 hx1 ht1)
      | (go_at_call 96; refine (trim1' _ W.heap.size v1 a 13 13 rfl _ _ (hs5.out.below (below_new _ _)) HL2.out (cell_new _ _ _)).mono ?_; rintro e w2 ⟨⟨v2, rfl, hs2⟩, hw⟩; rw [cutEnd_no 13 a H13.out] at hs2; replace hs2 := Aside0.mk hs2; have hx2 := Aside0.mk (show Lx w0 gl gb T w2 [] vd by rw [hw]; exact hx5.out.more (below_new _ _)); have ht2 := Aside0.mk (show Turned W w2 (at_ gb) by rw [hw]; exact ht5.out.alloc _); clear hw hx5 ht5 hs5)
      | (go_at_call 96; refine (trim1' _ W.heap.size v2 a 10 10 rfl _ _ (hs2.out.below (below_new _ _)) HL2.out (cell_new _ _ _)).mono ?_; rintro e w3 ⟨⟨v3, rfl, hs3⟩, hw⟩; rw [cutEnd_no 10 a N10.out] at hs3; replace hs3 := Aside0.mk hs3; have hx3 := Aside0.mk (show Lx w0 gl gb T w3 [] vd by rw [hw]; exact hx2.out.more (below_new _ _)); have ht3 := Aside0.mk (show Turned W w3 (at_ gb) by rw [hw]; exact ht2.out.alloc _); clear hw hx2 ht2 hs2)
      | (go_at_call 81; refine (eof_is _).mono ?_; rintro e w4 ⟨rfl, hb4⟩; replace hb4 := Aside0.mk hb4))
    refine bodyPost_ret (results_tmp3 rfl _ _ _) rfl ?_
    exact ⟨v3, rfl, hs3.out.below hb4.out, hx3.out.more hb4.out, ht3.out.below hb4.out⟩
end Go.Proofs.YtocdnceckljnaaaDoor.U
