/- The texts UCk, UCl, QV0x11, Pa, Pb, Pc, Pd, Pe, CardFnUnitComments, without what the claims do not use, laid together by a program of this session (wip/tools/bundle.py). Conditions: those of each theorem. -/
import Derived.Test.YtocdnceckljnaaaDoorZc6
import Derived.Test.YtocdnceckljnaaaDoorCards
import Derived.Test.YtocdnceckljnaaaDoorTie
import Derived.WalkKit
import Derived.ProofKit
import Derived.OpenShut
import Derived.SizedLaws
import Derived.SliceStrings
import Derived.Deep.Slices
import Derived.Deep.DeepHandedRow
import Derived.Deep.DeepWitnessRowRef
import Derived.Lib.LaidIn
import Derived.Lib.LaidTab
import Derived.LaidSub
namespace Go.Proofs.YtocdnceckljnaaaDoor.UCk
open Go.ChangeShapes Go.WideShapes Go.ChangeAt Go.RowKit Go.Deep
open Go.Proofs.YtocdnceckljnaaaDoorW.PrintWords Go.Proofs.YtocdnceckljnaaaDoor.U
set_option linter.unusedVariables false
set_option linter.unusedSimpArgs false
theorem own : ownKnob Tryd.prog.godebug = none := by kernel_rfl
theorem laidOut : laidOutB Tryd.prog = true := by kernel_rfl
def lit1 : DataW Unit → Value
  | .lit (.int k n) => .int k n
  | _ => .nilIface
def flat1 : DataW Unit → List Value
  | .agg l => l.map lit1
  | _ => []
def flat2 : DataW Unit → List Value
  | .agg l => l.flatMap flat1
  | _ => []
noncomputable def laidWorld (os : Os) : World :=
  let N := (World.settled Tryd.prog os).heap.size
  let w0 := World.holding Tryd.prog os ⟨#[.cells #[.slice (some ⟨N + 1, 0, none⟩) 7 7, .slice none 0 0, .int .i64 2] 181, .cells (([9, 13, 1, 32, 133, 101, 160, 5760, 5600, 8192, 8202, 1, 8232, 8233, 1, 8239, 8287, 48, 12288, 12288, 1] : List Int).map fun z => Value.int .u16 z).toArray 184], #[], []⟩
  let put (h : Array Obj) (g : Nat) (cs : Array Value) : Array Obj := h.modify g fun
    | .cells _ t frozen => .cells cs t frozen
    | o => o
  let h0 := put w0.heap 6 #[.pointer (some ⟨N, 0, none⟩)]
  let h1 := put h0 3 (flat1 Rows.laid_unicode_utf8_first).toArray
  let h2 := put h1 4 (flat2 Rows.laid_unicode_utf8_acceptRanges).toArray
  let h3 := put h2 5 (flat1 Rows.laid_bytes_asciiSpace).toArray
  let h4 := put h3 8 (flat1 Rows.laid_strings_asciiSpace).toArray
  { w0 with heap := h4 }
noncomputable abbrev N0 : Nat := (World.settled Tryd.prog default).heap.size
def firstTab : List Int := (flat1 Rows.laid_unicode_utf8_first).map fun | .int _ n => n | _ => 0
theorem first_low : ∀ c : Nat, c < 128 → firstTab.getD c 0 = 240 := by
  have h : (List.range 128).all (fun c => firstTab.getD c 0 == 240) = true := by kernel_rfl
  intro c hc
  have := List.all_eq_true.1 h c (List.mem_range.2 hc)
  simpa using this
abbrev units : List (String × DataW Unit) := Rows.fnUnitMatchRow.laid
theorem tabs_of {W : World} (h : laidMetH Tryd.prog units W) : Tabs W := by
  have h1 : laidMetH Tryd.prog [("bytes.asciiSpace", Lib.tabData .u8 Lib.asciiSpaceTab)] W := by
    have := h.filter (fun x => x.1 == "bytes.asciiSpace")
    rw [show units.filter (fun x => x.1 == "bytes.asciiSpace") = [("bytes.asciiSpace", Lib.tabData .u8 Lib.asciiSpaceTab)] by kernel_rfl] at this
    exact this
  have h2 : laidMetH Tryd.prog [("strings.asciiSpace", Lib.tabData .u8 Lib.asciiSpaceTab)] W := by
    have := h.filter (fun x => x.1 == "strings.asciiSpace")
    rw [show units.filter (fun x => x.1 == "strings.asciiSpace") = [("strings.asciiSpace", Lib.tabData .u8 Lib.asciiSpaceTab)] by kernel_rfl] at this
    exact this
  have h3 : laidMetH Tryd.prog [("unicode/utf8.first", Lib.tabData .u8 firstTab)] W := by
    have := h.filter (fun x => x.1 == "unicode/utf8.first")
    rw [show units.filter (fun x => x.1 == "unicode/utf8.first") = [("unicode/utf8.first", Lib.tabData .u8 firstTab)] by kernel_rfl] at this
    exact this
  have t1 : Lib.TabIs Tryd.prog W "bytes.asciiSpace" .u8 Lib.asciiSpaceTab := Lib.tabIs_of_head (t := 154) (e := 5) (n := 256) (rest := []) (g := 5) (by kernel_rfl) (by kernel_rfl) (by kernel_rfl) (by kernel_rfl) (by kernel_rfl) (by kernel_rfl) h1
  have t2 : Lib.TabIs Tryd.prog W "strings.asciiSpace" .u8 Lib.asciiSpaceTab := Lib.tabIs_of_head (t := 154) (e := 5) (n := 256) (rest := []) (g := 8) (by kernel_rfl) (by kernel_rfl) (by kernel_rfl) (by kernel_rfl) (by kernel_rfl) (by kernel_rfl) h2
  have t3 : Lib.TabIs Tryd.prog W "unicode/utf8.first" .u8 firstTab := Lib.tabIs_of_head (t := 154) (e := 5) (n := 256) (rest := []) (g := 3) (by kernel_rfl) (by kernel_rfl) (by kernel_rfl) (by kernel_rfl) (by kernel_rfl) (by kernel_rfl) h3
  refine ⟨fun c hc => ?_, t1, t2⟩
  have hl : firstTab.length = 256 := by kernel_rfl
  have := t3.cell (show Tryd.prog.globalNamed "unicode/utf8.first" = some 3 by kernel_rfl) c (by rw [hl]; omega)
  rw [first_low c hc] at this
  exact this
set_option maxRecDepth 100000 in
theorem open_opt {H : Type} {enc : TypeId × Value → H} {W : World} {base : Nat} {spare : Nat → Bool} {held : Bool} {n : Nat} {cs : List Value} {y : DataW H × List MemPlace} (hl : cs.length = 3)
    (h : DataW.trod enc Tryd.prog W base spare held n 29 cs = some y) : ∃ s0 s1 s2 : ByteArray, cs = [.string s0, .string s1, .string s2] := by
  obtain ⟨xs, k, _, _, _, hxl, hf⟩ := DataW.trod_struct Tryd.underlying29 h
  match cs, hl with
  | [c0, c1, c2], _ =>
    have hxl' : xs.length = 3 := hxl
    match xs, hxl' with
    | [y0, y1, y2], _ =>
      have k9 : Tryd.prog.cellsOf 9 = 1 := by kernel_rfl
      have g0 := hf 0 _ rfl
      have g1 := hf 1 _ rfl
      have g2 := hf 2 _ rfl
      simp [k9] at g0 g1 g2
      obtain ⟨s0, e0, _⟩ := DataW.trod_string Tryd.underlying9 g0
      obtain ⟨s1, e1, _⟩ := DataW.trod_string Tryd.underlying9 g1
      obtain ⟨s2, e2, _⟩ := DataW.trod_string Tryd.underlying9 g2
      simp at e0 e1 e2
      subst e0 e1 e2
      exact ⟨s0, s1, s2, rfl⟩
theorem B_of (T : ByteArray) : T = B T.data.toList := by cases T; rfl
end Go.Proofs.YtocdnceckljnaaaDoor.UCk
namespace Go.Proofs.YtocdnceckljnaaaDoor.UCk
open Go.ChangeShapes Go.WideShapes Go.ChangeAt Go.RowKit Go.Deep
open Go.Proofs.YtocdnceckljnaaaDoorW.PrintWords Go.Proofs.YtocdnceckljnaaaDoor.QV0
open Go.Proofs.YtocdnceckljnaaaDoor.U (Bs B Op3')
set_option linter.unusedVariables false
set_option linter.unusedSimpArgs false
theorem choose_lt' {α : Type} [Inhabited α] {n : Nat} {p : Nat → α → Prop} (h : ∀ i, i < n → ∃ q, p i q) : ∃ f : Nat → α, ∀ i, i < n → p i (f i) :=
  ⟨fun i => if hi : i < n then (h i hi).choose else default, fun i hi => by simp only [dif_pos hi]; exact (h i hi).choose_spec⟩
instance : Inhabited S29 := ⟨z29⟩
theorem open_opts {H : Type} {enc : TypeId × Value → H} {W : World} {base : Nat} {a : Option Addr} {len cap : Nat} {fuel : Nat} {x : DataW H × List MemPlace} {spare : Nat → Bool} {held : Bool}
    (hf : DataW.trod enc Tryd.prog W base spare held fuel 32 [.slice a len cap] = some x) : ∃ l : List S29, l.length = len ∧ len ≤ cap ∧ Kd.C k29 W a l.length l := by
  rcases open_slice Tryd.underlying32 hf with ⟨hcs, _⟩ | ⟨ad, l', c', m, n, D, Pl, hcs, _, hl, hm, hmm, _, hx⟩
  · simp at hcs
    obtain ⟨rfl, rfl, rfl⟩ := hcs
    exact ⟨[], rfl, Nat.le_refl _, rfl, by decide, fun h => absurd h (by decide)⟩
  · simp at hcs
    obtain ⟨rfl, rfl, rfl⟩ := hcs
    have hle : len ≤ m := by rw [hmm]; split <;> omega
    have k29c : Tryd.prog.cellsOf 29 = 3 := by kernel_rfl
    have each : ∀ i, i < m → ∃ q : S29, ∀ j u, [Value.string q.f0, .string q.f1, .string q.f2][j]? = some u → W.cell? (ad.add (i * 3 + j)) = some u := by
      intro i hi
      obtain ⟨cs', h1, h2⟩ := hx i hi
      rw [k29c] at h1
      obtain ⟨_, hlen, hcell⟩ := World.cells?_some h1
      obtain ⟨s0, s1, s2, rfl⟩ := open_opt hlen h2
      refine ⟨⟨s0, s1, s2⟩, fun j u hu => ?_⟩
      have hj : j < 3 := (List.getElem?_eq_some_iff.1 hu).1
      have := hcell j hj
      rw [Deep.add_add] at this
      rw [this, hu]
    obtain ⟨q, hq⟩ := choose_lt' each
    refine ⟨(List.range len).map q, by simp, hl, by simp, by simp only [List.length_map, List.length_range]; unfold maxLen at hm; omega, fun _ => ⟨ad, rfl, fun j p hj => ?_⟩⟩
    have hj' : j < len := by
      have := (List.getElem?_eq_some_iff.1 hj).1
      simpa using this
    rw [List.getElem?_map, List.getElem?_range hj'] at hj
    obtain rfl := Option.some.inj hj
    exact ⟨_, rfl, k29_mk W (q j), fun i u hu => hq j (by omega) i u hu⟩
theorem open_strs {H : Type} {enc : TypeId × Value → H} {W : World} {base : Nat} {a : Option Addr} {len cap : Nat} {fuel : Nat} {x : DataW H × List MemPlace} {spare : Nat → Bool} {held : Bool}
    (hf : DataW.trod enc Tryd.prog W base spare held fuel 22 [.slice a len cap] = some x) : ∃ l : List ByteArray, l.length = len ∧ len ≤ cap ∧ Kd.C Kd.string W a l.length l := by
  rcases open_strings Tryd.underlying22 Tryd.underlying9 (by kernel_rfl) hf with ⟨hcs, _⟩ | ⟨ad, l', c', ss, hcs, _, hl, hm, hz, _, hcell, _⟩
  · simp at hcs
    obtain ⟨rfl, rfl, rfl⟩ := hcs
    exact ⟨[], rfl, Nat.le_refl _, rfl, by decide, fun h => absurd h (by decide)⟩
  · simp at hcs
    obtain ⟨rfl, rfl, rfl⟩ := hcs
    have hle : len ≤ ss.length := by rw [hz]; split <;> omega
    refine ⟨ss.take len, by rw [List.length_take]; omega, hl, rfl, by rw [List.length_take]; unfold maxLen at hm; omega, fun _ => ⟨ad, rfl, fun j p hj => ?_⟩⟩
    have hj' : j < len := by
      have := (List.getElem?_eq_some_iff.1 hj).1
      rw [List.length_take] at this
      omega
    refine ⟨[.string p], rfl, rfl, fun i u hu => ?_⟩
    match i, hu with
    | 0, hu =>
      simp only [List.getElem?_cons_zero, Option.some.injEq] at hu
      subst hu
      have h := hcell j (by omega)
      rw [List.getElem?_take_of_lt hj'] at hj
      rw [List.getD_eq_getElem?_getD, hj] at h
      show W.cell? (ad.add (j * 1 + 0)) = _
      rw [Nat.mul_one, Nat.add_zero]
      exact h
theorem open_u8s {H : Type} {enc : TypeId × Value → H} {W : World} {base : Nat} {a : Option Addr} {len cap : Nat} {fuel : Nat} {x : DataW H × List MemPlace} {spare : Nat → Bool} {held : Bool}
    (hf : DataW.trod enc Tryd.prog W base spare held fuel 33 [.slice a len cap] = some x) : ∃ l : List Int, l.length = len ∧ len ≤ cap ∧ Kd.C (Kd.int .u8) W a l.length l := by
  rcases open_ints Tryd.underlying33 Tryd.underlying5 (by kernel_rfl) hf with ⟨hcs, _⟩ | ⟨ad, l', c', ss, hcs, _, hl, hm, hz, _, hcell, _⟩
  · simp at hcs
    obtain ⟨rfl, rfl, rfl⟩ := hcs
    exact ⟨[], rfl, Nat.le_refl _, rfl, by decide, fun h => absurd h (by decide)⟩
  · simp at hcs
    obtain ⟨rfl, rfl, rfl⟩ := hcs
    have hle : len ≤ ss.length := by rw [hz]; split <;> omega
    refine ⟨ss.take len, by rw [List.length_take]; omega, hl, rfl, by rw [List.length_take]; unfold maxLen at hm; omega, fun _ => ⟨ad, rfl, fun j p hj => ?_⟩⟩
    have hj' : j < len := by
      have := (List.getElem?_eq_some_iff.1 hj).1
      rw [List.length_take] at this
      omega
    refine ⟨[.int .u8 p], rfl, rfl, fun i u hu => ?_⟩
    match i, hu with
    | 0, hu =>
      simp only [List.getElem?_cons_zero, Option.some.injEq] at hu
      subst hu
      have h := hcell j (by omega)
      rw [List.getElem?_take_of_lt hj'] at hj
      rw [List.getD_eq_getElem?_getD, hj] at h
      show W.cell? (ad.add (j * 1 + 0)) = _
      rw [Nat.mul_one, Nat.add_zero]
      exact h
theorem opts_map (l : List S29) : ∃ L : List Op3', l = L.map ofOp := by
  refine ⟨l.map opOf, ?_⟩
  rw [List.map_map]
  conv => lhs; rw [← List.map_id l]
  exact List.map_congr_left fun x _ => (ofOp_opOf x).symm
theorem strs_map (l : List ByteArray) : ∃ L : List Bs, l = L.map B := by
  refine ⟨l.map (fun x => x.data.toList), ?_⟩
  rw [List.map_map]
  conv => lhs; rw [← List.map_id l]
  exact List.map_congr_left fun x _ => B_of x
end Go.Proofs.YtocdnceckljnaaaDoor.UCk
namespace Go.Proofs.YtocdnceckljnaaaDoor.QV0
open Go.RowKit Go.Proofs.YtocdnceckljnaaaDoorW.PrintWords Go.Proofs.YtocdnceckljnaaaDoorW.PrintLast Go.Proofs.YtocdnceckljnaaaDoorW.PrintMore
attribute [local go_sem] max2_int min2_int max_two min_two max_three min_three max_four min_four
set_option linter.unusedVariables false
set_option linter.unusedSimpArgs false
def IsS114 (w0 W : World) (g : Nat) (f0 : ByteArray) (f1 : Int) (f2 : Int) (f3 : Int) (f4 : Bool) : Prop := W.heap[g]? = some (.cells #[.string f0, .int .i64 f1, .int .i64 f2, .int .i64 f3, .bool f4] 114 (0, 0)) ∧ w0.heap.size ≤ g
theorem IsS114.grown {w0 W : World} {g : Nat} {f0 : ByteArray} {f1 : Int} {f2 : Int} {f3 : Int} {f4 : Bool} {W1 : World} {row : Option Nat} (h : IsS114 w0 W g f0 f1 f2 f3 f4) (hw : W.grownBy W1 row) (hne : some g ≠ row) : IsS114 w0 W1 g f0 f1 f2 f3 f4 := by
 obtain ⟨hb, hg⟩ := h
 exact ⟨blk_grown hb hw hne, hg⟩
theorem IsS114.kept {w0 W : World} {g : Nat} {f0 : ByteArray} {f1 : Int} {f2 : Int} {f3 : Int} {f4 : Bool} {W1 : World} {S : Nat → Prop} (h : IsS114 w0 W g f0 f1 f2 f3 f4) (hk : Kept W W1 S) (hne : ¬ S g) : IsS114 w0 W1 g f0 f1 f2 f3 f4 := by
 obtain ⟨hb, hg⟩ := h
 exact ⟨blk_kept hb hk hne, hg⟩
theorem IsS114.below {w0 W : World} {g : Nat} {f0 : ByteArray} {f1 : Int} {f2 : Int} {f3 : Int} {f4 : Bool} {W1 : World} (h : IsS114 w0 W g f0 f1 f2 f3 f4) (hw : Below W.heap.size W W1) : IsS114 w0 W1 g f0 f1 f2 f3 f4 := h.grown (grown_of_below hw none) (by simp)
theorem IsS114.alloc {w0 W : World} {g : Nat} {f0 : ByteArray} {f1 : Int} {f2 : Int} {f3 : Int} {f4 : Bool} (h : IsS114 w0 W g f0 f1 f2 f3 f4) (o : Obj) : IsS114 w0 (W.alloc o) g f0 f1 f2 f3 f4 := h.below (below_alloc (Below.refl _ _) o)
theorem IsS114.drewN {w0 W : World} {g : Nat} {f0 : ByteArray} {f1 : Int} {f2 : Int} {f3 : Int} {f4 : Bool} (h : IsS114 w0 W g f0 f1 f2 f3 f4) (m : Nat) : IsS114 w0 (W.drewN m) g f0 f1 f2 f3 f4 := h
theorem IsS114.drew {w0 W : World} {g : Nat} {f0 : ByteArray} {f1 : Int} {f2 : Int} {f3 : Int} {f4 : Bool} (h : IsS114 w0 W g f0 f1 f2 f3 f4) : IsS114 w0 W.drew g f0 f1 f2 f3 f4 := h
theorem IsS114.at_ {w0 W : World} {g : Nat} {f0 : ByteArray} {f1 : Int} {f2 : Int} {f3 : Int} {f4 : Bool} {w' : World} {m : Nat} (hq : W.drewN m = w') (h : IsS114 w0 W g f0 f1 f2 f3 f4) : IsS114 w0 w' g f0 f1 f2 f3 f4 := by subst hq; exact IsS114.drewN h m
theorem IsS114.apart {w0 W : World} {g : Nat} {f0 : ByteArray} {f1 : Int} {f2 : Int} {f3 : Int} {f4 : Bool} {α : Type} {d : Kd α} {e : Nat} {base : Nat} {ok : Nat → Prop} {v : Value} {xs : List α} (h : IsS114 w0 W g f0 f1 f2 f3 f4) (ho : d.R e W base ok v xs) (ht : ∀ q, q ∈ e :: d.E → q ≠ 114) : d.R e W base (fun k => ok k ∧ k ≠ g) v xs := by
 obtain ⟨hb, hg⟩ := h
 exact Kd.R_types ho hb ht
theorem IsS114.own_ne {w0 W : World} {g : Nat} {f0 : ByteArray} {f1 : Int} {f2 : Int} {f3 : Int} {f4 : Bool} {α : Type} {d : Kd α} {e : Nat} {base : Nat} {ok : Nat → Prop} {v : Value} {xs : List α} (h : IsS114 w0 W g f0 f1 f2 f3 f4) (ho : d.R e W base ok v xs) (ht : e ≠ 114) : some g ≠ v.ownBlock := by
 obtain ⟨hb, hg⟩ := h
 exact Kd.R_ne ho hb ht
theorem IsS114.lt {w0 W : World} {g : Nat} {f0 : ByteArray} {f1 : Int} {f2 : Int} {f3 : Int} {f4 : Bool} (h : IsS114 w0 W g f0 f1 f2 f3 f4) : g < W.heap.size := by
 obtain ⟨hb, hg⟩ := h
 exact blk_lt hb
theorem IsS114.ge {w0 W : World} {g : Nat} {f0 : ByteArray} {f1 : Int} {f2 : Int} {f3 : Int} {f4 : Bool} (h : IsS114 w0 W g f0 f1 f2 f3 f4) : w0.heap.size ≤ g := by
 obtain ⟨hb, hg⟩ := h
 exact hg
theorem IsS114.far {w0 W : World} {g : Nat} {f0 : ByteArray} {f1 : Int} {f2 : Int} {f3 : Int} {f4 : Bool} {p : Addr} (h : IsS114 w0 W g f0 f1 f2 f3 f4) (hne : g ≠ p.block) (u : Value) : IsS114 w0 (W.setCell p u) g f0 f1 f2 f3 f4 := by
 obtain ⟨hb, hg⟩ := h
 exact ⟨blk_far hb hne u, hg⟩
theorem IsS114.new (w0 W : World) (f0 : ByteArray) (f1 : Int) (f2 : Int) (f3 : Int) (f4 : Bool) (hB : Below w0.heap.size w0 W) : IsS114 w0 (W.alloc (.cells #[.string f0, .int .i64 f1, .int .i64 f2, .int .i64 f3, .bool f4] 114)) W.heap.size f0 f1 f2 f3 f4 := ⟨by simpa using heap_alloc_new W _, hB.size⟩
end Go.Proofs.YtocdnceckljnaaaDoor.QV0
namespace Go.Proofs.YtocdnceckljnaaaDoor.Pu
open Go.RowKit Go.Proofs.YtocdnceckljnaaaDoorW.PrintWords Go.Proofs.YtocdnceckljnaaaDoorW.PrintLast
open Go.Proofs.YtocdnceckljnaaaDoor.QV0
open Go.Proofs.YtocdnceckljnaaaDoor.U (Bs B B_data B_size Op3')
set_option linter.unusedVariables false
set_option linter.unusedSimpArgs false
def Ev {α : Type} (F : Nat → Option α) (v : α) : Prop := ∃ k0, ∀ k, k0 ≤ k → F k = some v
theorem Ev.of {α : Type} {F : Nat → Option α} {v : α} (h : ∀ k, F k = some v) : Ev F v := ⟨0, fun k _ => h k⟩
theorem Ev.of1 {α : Type} {F : Nat → Option α} {v : α} (h : ∀ k, F (k + 1) = some v) : Ev F v := ⟨1, fun k hk => by
  obtain ⟨j, rfl⟩ : ∃ j, k = j + 1 := ⟨k - 1, by omega⟩
  exact h j⟩
theorem Ev.step {α : Type} {F G : Nat → Option α} {v : α} (h : ∀ k, F (k + 1) = G k) (g : Ev G v) : Ev F v := by
  obtain ⟨k0, hg⟩ := g
  refine ⟨k0 + 1, fun k hk => ?_⟩
  obtain ⟨j, rfl⟩ : ∃ j, k = j + 1 := ⟨k - 1, by omega⟩
  rw [h j]
  exact hg j (by omega)
theorem Ev.same {α : Type} {F G : Nat → Option α} {v : α} (h : ∀ k, F k = G k) (g : Ev G v) : Ev F v := by
  obtain ⟨k0, hg⟩ := g
  exact ⟨k0, fun k hk => by rw [h k]; exact hg k hk⟩
theorem Ev.bind {α β : Type} {A : Nat → Option α} {C : α → Nat → Option β} {a : α} {v : β} (ha : Ev A a) (hc : Ev (C a) v) : Ev (fun k => (A k).bind fun t => C t k) v := by
  obtain ⟨k0, h0⟩ := ha
  obtain ⟨k1, h1⟩ := hc
  exact ⟨max k0 k1, fun k hk => by
    show (A k).bind _ = _
    rw [h0 k (by omega)]
    exact h1 k (by omega)⟩
theorem Ev.get {α : Type} {F : Nat → Option α} {v : α} (h : Ev F v) : ∃ k, F k = some v := by
  obtain ⟨k0, h0⟩ := h
  exact ⟨k0, h0 k0 (Nat.le_refl _)⟩
theorem ba_ext {s t : ByteArray} (h : s.data.toList = t.data.toList) : s = t := by
  cases s; cases t
  simpa using h
theorem B_toList (l : Bs) : (B l).toList = l := Lib.toList_data (B l)
theorem B_of (T : ByteArray) : T = B T.data.toList := ba_ext rfl
theorem B_append (a b : Bs) : B a ++ B b = B (a ++ b) := ba_ext (by simp [ByteArray.data_append, B])
theorem B_extract (l : Bs) (i j : Nat) : (B l).extract i j = B ((l.drop i).take (j - i)) := ba_ext (by rw [Lib.extract_data, B_data, B_data])
theorem bt_B (l : Bs) (i : Nat) (h : i < l.length) : bt (B l) (i : Int) = ((l[i]).toNat : Int) := by
  have e : bt (B l) (i : Int) = (((B l)[i]'(by rw [B_size]; exact h)).toNat : Int) := by
    unfold bt
    rw [dif_pos (by rw [Int.toNat_natCast, B_size]; exact h)]
    rfl
  rw [e]
  rfl
theorem bt_mid (pre : Bs) (c : UInt8) (r : Bs) : bt (B (pre ++ c :: r)) (pre.length : Int) = (c.toNat : Int) := by
  rw [bt_B _ _ (by simp)]
  simp
theorem wr_next (n : Nat) (h : n ≤ 4611686018427387904) : wrap64 ((n : Int) + 1) = ((n + 1 : Nat) : Int) := by unfold wrap64; omega
theorem wr_pred (n : Nat) (h0 : 0 < n) (h : n ≤ 4611686018427387904) : wrap64 ((n : Int) - 1) = ((n - 1 : Nat) : Int) := by unfold wrap64; omega
theorem len_snoc (pre : Bs) (c : UInt8) : (((pre ++ [c]).length : Nat) : Int) = ((pre.length + 1 : Nat) : Int) := by simp
def prn (c : UInt8) : Bool := decide (32 ≤ c.toNat) && decide (c.toNat ≤ 126)
theorem printable_ev (s : Bs) (hs : s.length ≤ 4611686018427387900) : ∀ (r pre : Bs), s = pre ++ r → Ev (fun k => laws_printable.l0 k (B s) ((B s).size : Int) (pre.length : Int)) (r.all prn)
  | [], pre, e => Ev.of1 fun k => by
    simp only [laws_printable.l0]
    rw [if_neg (by rw [B_size, e]; simp)]
    rfl
  | c :: r, pre, e => by
    have hb : bt (B s) (pre.length : Int) = (c.toNat : Int) := by rw [e]; exact bt_mid pre c r
    have hlen : s.length = pre.length + (r.length + 1) := by rw [e]; simp
    have h1 : (pre.length : Int) < ((B s).size : Int) := by rw [B_size]; omega
    have h2 : (0 : Int) ≤ (pre.length : Int) := by omega
    by_cases hc1 : c.toNat < 32
    · refine Ev.of1 fun k => ?_
      simp only [laws_printable.l0]
      rw [if_pos h1, if_pos h2, if_pos h1, hb, if_pos (by omega)]
      simp [prn]; omega
    by_cases hc2 : c.toNat > 126
    · refine Ev.of1 fun k => ?_
      simp only [laws_printable.l0]
      rw [if_pos h1, if_pos h2, if_pos h1, hb, if_neg (by omega), if_pos (by omega)]
      simp [prn]; omega
    have ih := printable_ev s hs r (pre ++ [c]) (by rw [e]; simp)
    have hp : prn c = true := by simp [prn]; omega
    rw [List.all_cons, hp, Bool.true_and]
    refine Ev.step (fun k => ?_) ih
    simp only [laws_printable.l0]
    rw [if_pos h1, if_pos h2, if_pos h1, hb, if_neg (by omega), if_neg (by omega), wr_next _ (by omega), len_snoc]
theorem printable_f (s : Bs) (hs : s.length ≤ 4611686018427387900) : Ev (fun k => laws_printable.f k (B s)) (s.all prn) := printable_ev s hs s [] rfl
theorem has1_ev (s t : Bs) (hs : s.length ≤ 4611686018427387900) (ht : t.length ≤ 4611686018427387900) (pre : Bs) (c : UInt8) (r : Bs) (e : s = pre ++ c :: r) (v : Bool)
    (hv : Ev (fun k => laws_has.l0 k (B s) (B t) ((B s).size : Int) ((pre.length + 1 : Nat) : Int)) v) : ∀ (q p : Bs), t = p ++ q → Ev (fun k => laws_has.l1 k (B s) (B t) (pre.length : Int) ((B s).size : Int) (pre.length : Int) ((B t).size : Int) (p.length : Int)) (decide (c ∈ q) || v)
  | [], p, ep => by
    have hlen : s.length = pre.length + (r.length + 1) := by rw [e]; simp
    simp only [List.not_mem_nil, decide_false, Bool.false_or]
    refine Ev.step (fun k => ?_) hv
    simp only [laws_has.l1]
    rw [if_neg (by rw [B_size t, ep]; simp), wr_next _ (by omega)]
  | d :: q, p, ep => by
    have hlen : s.length = pre.length + (r.length + 1) := by rw [e]; simp
    have hlent : t.length = p.length + (q.length + 1) := by rw [ep]; simp
    have hb : bt (B s) (pre.length : Int) = (c.toNat : Int) := by rw [e]; exact bt_mid pre c r
    have hd : bt (B t) (p.length : Int) = (d.toNat : Int) := by rw [ep]; exact bt_mid p d q
    have h1 : (p.length : Int) < ((B t).size : Int) := by rw [B_size]; omega
    have h2 : (pre.length : Int) < ((B s).size : Int) := by rw [B_size]; omega
    by_cases hcd : c = d
    · refine Ev.of1 fun k => ?_
      simp only [laws_has.l1]
      rw [if_pos h1, if_pos (by omega), if_pos h2, if_pos (by omega), if_pos h1, hb, hd, hcd, if_pos rfl]
      simp
    · have hne : (c.toNat : Int) ≠ (d.toNat : Int) := fun h => hcd (UInt8.toNat_inj.1 (by omega))
      have ih := has1_ev s t hs ht pre c r e v hv q (p ++ [d]) (by rw [ep]; simp)
      have e2 : (decide (c ∈ d :: q) || v) = (decide (c ∈ q) || v) := by simp [hcd]
      rw [e2]
      refine Ev.step (fun k => ?_) ih
      simp only [laws_has.l1]
      rw [if_pos h1, if_pos (by omega), if_pos h2, if_pos (by omega), if_pos h1, hb, hd, if_neg hne, wr_next _ (by omega), len_snoc]
theorem has_ev (s t : Bs) (hs : s.length ≤ 4611686018427387900) (ht : t.length ≤ 4611686018427387900) : ∀ (r pre : Bs), s = pre ++ r → Ev (fun k => laws_has.l0 k (B s) (B t) ((B s).size : Int) (pre.length : Int)) (r.any (fun c => decide (c ∈ t)))
  | [], pre, e => Ev.of1 fun k => by
    simp only [laws_has.l0]
    rw [if_neg (by rw [B_size, e]; simp)]
    rfl
  | c :: r, pre, e => by
    have hlen : s.length = pre.length + (r.length + 1) := by rw [e]; simp
    have ih := has_ev s t hs ht r (pre ++ [c]) (by rw [e]; simp)
    rw [len_snoc] at ih
    have h := has1_ev s t hs ht pre c r e _ ih t [] rfl
    rw [List.any_cons]
    refine Ev.step (fun k => ?_) h
    simp only [laws_has.l0]
    rw [if_pos (by rw [B_size]; omega)]
    rfl
theorem has_f (s t : Bs) (hs : s.length ≤ 4611686018427387900) (ht : t.length ≤ 4611686018427387900) : Ev (fun k => laws_has.f k (B s) (B t)) (s.any (fun c => decide (c ∈ t))) := has_ev s t hs ht s [] rfl
theorem goesOn_ev (s : Bs) : s.length ≤ 4611686018427387900 → ∃ b, Ev (fun k => laws_goesOn.l0 k (B s)) b ∧ (b = false → Lib.hasSuffix (U.cutEnd 32 s) [92] = false ∧ ∀ t, s ≠ t ++ [92]) := by
  induction s using U.snoc_ind with
  | h0 =>
    intro _
    exact ⟨false, Ev.of1 fun k => by simp only [laws_goesOn.l0]; rw [if_pos (by rw [B_toList])], fun _ => ⟨by decide, fun t h => by simp at h⟩⟩
  | h1 l c ih =>
    intro hl
    rw [List.length_append, List.length_singleton] at hl
    have e1 : ¬ ((B (l ++ [c])).toList = ([] : List UInt8)) := by rw [B_toList]; simp
    have hw : wrap64 (((B (l ++ [c])).size : Int) - 1) = (l.length : Int) := by
      rw [B_size, List.length_append, List.length_singleton, wr_pred _ (by omega) (by omega)]
      simp
    have h1 : (l.length : Int) < ((B (l ++ [c])).size : Int) := by rw [B_size]; simp; omega
    have hb : bt (B (l ++ [c])) (l.length : Int) = (c.toNat : Int) := bt_mid l c []
    by_cases hc : c = 32
    · obtain ⟨b, hev, hb2⟩ := ih (by omega)
      refine ⟨b, Ev.step (fun k => ?_) hev, fun hbf => ?_⟩
      · simp only [laws_goesOn.l0]
        rw [if_neg e1, hw, if_pos (by omega), if_pos h1, hb, if_pos (by rw [hc]; decide), if_pos (by omega), B_extract]
        simp
      · have h2 := (hb2 hbf).2
        refine ⟨?_, fun t h => ?_⟩
        · rw [hc, U.cutEnd_yes]
          cases hh : Lib.hasSuffix l [92]
          · rfl
          · obtain ⟨t, ht⟩ := (U.suffix_iff l 92).1 hh
            exact absurd ht (h2 t)
        · have := List.append_inj_right' h rfl
          rw [hc] at this
          simp at this
    · refine ⟨decide (c = 92), Ev.of1 fun k => ?_, fun hbf => ?_⟩
      · have hne : ¬ ((c.toNat : Int) = 32) := fun h => hc (UInt8.toNat_inj.1 (by have : (32 : UInt8).toNat = 32 := rfl; omega))
        simp only [laws_goesOn.l0]
        rw [if_neg e1, hw, if_pos (by omega), if_pos h1, hb, if_neg hne]
        congr 1
        rw [Bool.eq_iff_iff]
        simp only [beq_iff_eq, decide_eq_true_eq]
        constructor
        · intro h
          exact UInt8.toNat_inj.1 (by have : (92 : UInt8).toNat = 92 := rfl; omega)
        · intro h
          rw [h]; rfl
      · have h92 : c ≠ 92 := by simpa using hbf
        refine ⟨?_, fun t h => h92 (by simpa using List.append_inj_right' h rfl)⟩
        rw [U.cutEnd_other 32 c hc]
        cases hh : Lib.hasSuffix (l ++ [c]) [92]
        · rfl
        · obtain ⟨t, ht⟩ := (U.suffix_iff _ 92).1 hh
          exact absurd (by simpa using List.append_inj_right' ht rfl) h92
end Go.Proofs.YtocdnceckljnaaaDoor.Pu
namespace Go.Proofs.YtocdnceckljnaaaDoor.Pu
open Go.RowKit Go.Proofs.YtocdnceckljnaaaDoorW.PrintWords Go.Proofs.YtocdnceckljnaaaDoorW.PrintLast
open Go.Proofs.YtocdnceckljnaaaDoor.QV0
open Go.Proofs.YtocdnceckljnaaaDoor.U (Bs B B_data B_size Op3' keysF)
set_option linter.unusedVariables false
set_option linter.unusedSimpArgs false
theorem rd29 (l : List Op3') (pre : List Op3') (x : Op3') (r : List Op3') (h : l = pre ++ x :: r) : rd_T29 (l.map ofOp) (pre.length : Int) = ofOp x := by
  unfold rd_T29
  rw [h]
  simp [List.getD_eq_getElem?_getD]
theorem rdB (l : List Bs) (pre : List Bs) (x : Bs) (r : List Bs) (h : l = pre ++ x :: r) : rdOf ByteArray.empty (l.map B) (pre.length : Int) = B x := by
  unfold rdOf
  rw [h]
  simp [List.getD_eq_getElem?_getD]
theorem snoc_len {α : Type} (pre : List α) (x : α) : (((pre ++ [x]).length : Nat) : Int) = ((pre.length + 1 : Nat) : Int) := by simp
def Fit (o : Op3') : Prop := o.1.length ≤ 2147483647 ∧ o.2.1.length ≤ 2147483647 ∧ o.2.2.length ≤ 2147483647
theorem fits8_f (o : Op3') : ∃ b, laws_zzFits8.f (ofOp o).f0 (ofOp o).f1 (ofOp o).f2 = some b ∧ (b = true → Fit o) := by
  unfold laws_zzFits8.f ofOp Fit
  simp only [B_size]
  by_cases h1 : (o.1.length : Int) > 2147483647
  · rw [if_pos h1]; exact ⟨false, rfl, by simp⟩
  rw [if_neg h1]
  by_cases h2 : (o.2.1.length : Int) > 2147483647
  · rw [if_pos h2]; exact ⟨false, rfl, by simp⟩
  rw [if_neg h2]
  by_cases h3 : (o.2.2.length : Int) > 2147483647
  · rw [if_pos h3]; exact ⟨false, rfl, by simp⟩
  rw [if_neg h3]
  exact ⟨true, rfl, fun _ => ⟨by omega, by omega, by omega⟩⟩
theorem fits7_ev (L : List Op3') (hL : L.length ≤ 2147483647) : ∀ (r pre : List Op3'), L = pre ++ r → ∃ b, Ev (fun k => laws_zzFits7.l0 k (L.map ofOp) ((L.map ofOp).length : Int) (pre.length : Int)) b ∧ (b = true → ∀ o ∈ r, Fit o)
  | [], pre, e => ⟨true, Ev.of1 fun k => by
    simp only [laws_zzFits7.l0]
    rw [if_neg (by rw [List.length_map, e]; simp)], fun _ o ho => by simp at ho⟩
  | o :: r, pre, e => by
    have hlen : L.length = pre.length + (r.length + 1) := by rw [e]; simp
    have h1 : (pre.length : Int) < ((L.map ofOp).length : Int) := by rw [List.length_map]; omega
    obtain ⟨b, hb, hf⟩ := fits8_f o
    have hrd := rd29 L pre o r e
    cases b with
    | false =>
      refine ⟨false, Ev.of1 fun k => ?_, by simp⟩
      simp only [laws_zzFits7.l0]
      rw [if_pos h1, if_pos (by omega), if_pos h1, hrd, hb]
      rfl
    | true =>
      obtain ⟨b2, hev, hb2⟩ := fits7_ev L hL r (pre ++ [o]) (by rw [e]; simp)
      refine ⟨b2, Ev.step (fun k => ?_) hev, fun ht x hx => ?_⟩
      · simp only [laws_zzFits7.l0]
        rw [if_pos h1, if_pos (by omega), if_pos h1, hrd, hb, wr_next _ (by omega), snoc_len]
        rfl
      · rcases List.mem_cons.1 hx with rfl | hx
        · exact hf rfl
        · exact hb2 ht x hx
theorem fits7_f (L : List Op3') : ∃ b, Ev (fun k => laws_zzFits7.f k (L.map ofOp)) b ∧ (b = true → L.length ≤ 2147483647 ∧ ∀ o ∈ L, Fit o) := by
  by_cases h : ((L.map ofOp).length : Int) > 2147483647
  · exact ⟨false, Ev.of fun k => by unfold laws_zzFits7.f; rw [if_pos h], by simp⟩
  · have hl : L.length ≤ 2147483647 := by rw [List.length_map] at h; omega
    obtain ⟨b, hev, hb⟩ := fits7_ev L hl L [] rfl
    exact ⟨b, Ev.same (fun k => by unfold laws_zzFits7.f; rw [if_neg h]; rfl) hev, fun ht => ⟨hl, hb ht⟩⟩
theorem fits4_ev (L : List Bs) (hL : L.length ≤ 2147483647) : ∀ (r pre : List Bs), L = pre ++ r → ∃ b, Ev (fun k => laws_zzFits4.l0 k (L.map B) ((L.map B).length : Int) (pre.length : Int)) b ∧ (b = true → ∀ o ∈ r, o.length ≤ 2147483647)
  | [], pre, e => ⟨true, Ev.of1 fun k => by
    simp only [laws_zzFits4.l0]
    rw [if_neg (by rw [List.length_map, e]; simp)], fun _ o ho => by simp at ho⟩
  | o :: r, pre, e => by
    have hlen : L.length = pre.length + (r.length + 1) := by rw [e]; simp
    have h1 : (pre.length : Int) < ((L.map B).length : Int) := by rw [List.length_map]; omega
    have hrd := rdB L pre o r e
    by_cases ho : (o.length : Int) > 2147483647
    · refine ⟨false, Ev.of1 fun k => ?_, by simp⟩
      simp only [laws_zzFits4.l0]
      rw [if_pos h1, if_pos (by omega), if_pos h1, hrd, B_size, if_pos ho]
    · obtain ⟨b2, hev, hb2⟩ := fits4_ev L hL r (pre ++ [o]) (by rw [e]; simp)
      refine ⟨b2, Ev.step (fun k => ?_) hev, fun ht x hx => ?_⟩
      · simp only [laws_zzFits4.l0]
        rw [if_pos h1, if_pos (by omega), if_pos h1, hrd, B_size, if_neg ho, wr_next _ (by omega), snoc_len]
      · rcases List.mem_cons.1 hx with rfl | hx
        · omega
        · exact hb2 ht x hx
theorem fits4_f (L : List Bs) : ∃ b, Ev (fun k => laws_zzFits4.f k (L.map B)) b ∧ (b = true → L.length ≤ 2147483647 ∧ ∀ o ∈ L, o.length ≤ 2147483647) := by
  by_cases h : ((L.map B).length : Int) > 2147483647
  · exact ⟨false, Ev.of fun k => by unfold laws_zzFits4.f; rw [if_pos h], by simp⟩
  · have hl : L.length ≤ 2147483647 := by rw [List.length_map] at h; omega
    obtain ⟨b, hev, hb⟩ := fits4_ev L hl L [] rfl
    exact ⟨b, Ev.same (fun k => by unfold laws_zzFits4.f; rw [if_neg h]; rfl) hev, fun ht => ⟨hl, hb ht⟩⟩
structure Seen (s : Bs) : Prop where
  all : s.all prn = true
  len : s.length ≤ 400
  first : ∀ c t, s = c :: t → c ≠ 32
  last : ∀ c t, s = t ++ [c] → c ≠ 32
theorem u8ne {c : UInt8} {n : Nat} (hn : n < 256) (h : ¬ ((c.toNat : Int) = (n : Int))) : c ≠ UInt8.ofNat n := fun e => h (by rw [e, UInt8.toNat_ofNat_of_lt' (by simpa using hn)])
theorem ends_of (s : Bs) (hs : s ≠ []) : ∃ c t d q, s = c :: t ∧ s = q ++ [d] ∧ bt (B s) 0 = (c.toNat : Int) ∧ bt (B s) ((s.length - 1 : Nat) : Int) = (d.toNat : Int) := by
  cases h : s with
  | nil => exact absurd h hs
  | cons c t =>
    have hd : (c :: t) ≠ [] := by simp
    refine ⟨c, t, (c :: t).getLast hd, (c :: t).dropLast, rfl, (List.dropLast_concat_getLast hd).symm, bt_mid [] c t, ?_⟩
    have e := (List.dropLast_concat_getLast hd).symm
    have h2 := bt_mid ((c :: t).dropLast) ((c :: t).getLast hd) []
    rw [← e, List.length_dropLast] at h2
    exact h2
theorem seen_ev (s : Bs) (hs : s.length ≤ 2147483647) (T : Nat → Option Bool) (v : Bool) (hT : Ev T v) :
    ∃ b, Ev (fun k => (laws_printable.f k (B s)).bind fun t111 => (if t111 = true then (if (B s).toList = ([] : List UInt8) then (if ((B s).size : Int) > 400 then (some false) else T k) else (if 0 < ((B s).size : Int) then (if (bt (B s) 0) = 32 then (some false) else (if 0 ≤ (wrap64 (((B s).size : Int) - 1)) then (if (wrap64 (((B s).size : Int) - 1)) < ((B s).size : Int) then (if (bt (B s) (wrap64 (((B s).size : Int) - 1))) = 32 then (some false) else (if ((B s).size : Int) > 400 then (some false) else T k)) else (none)) else (none))) else (none))) else (some false))) b ∧ (b = true → v = true ∧ Seen s) := by
  have hp := printable_f s (by omega)
  cases hpa : s.all prn with
  | false =>
    rw [hpa] at hp
    exact ⟨false, Ev.bind hp (C := fun t k => _) (Ev.of fun k => by rw [if_neg (by simp)]), by simp⟩
  | true =>
    rw [hpa] at hp
    by_cases h0 : s = []
    · subst h0
      exact ⟨v, Ev.bind hp (C := fun t k => _) (Ev.same (fun k => by rw [if_pos rfl, if_pos (by rw [B_toList]), if_neg (by rw [B_size]; simp)]) hT), fun hv => ⟨hv, ⟨rfl, by simp, fun c t h => by simp at h, fun c t h => by simp at h⟩⟩⟩
    · obtain ⟨c, t, d, q, e1, e2, hb1, hb2⟩ := ends_of s h0
      have hpos : 0 < s.length := by rw [e1]; simp
      have hw : wrap64 (((B s).size : Int) - 1) = ((s.length - 1 : Nat) : Int) := by rw [B_size]; exact wr_pred _ hpos (by omega)
      by_cases hc : (c.toNat : Int) = 32
      · exact ⟨false, Ev.bind hp (C := fun t k => _) (Ev.of fun k => by rw [if_pos rfl, if_neg (by rw [B_toList]; exact h0), if_pos (by rw [B_size]; omega), hb1, if_pos hc]), by simp⟩
      by_cases hd : (d.toNat : Int) = 32
      · exact ⟨false, Ev.bind hp (C := fun t k => _) (Ev.of fun k => by rw [if_pos rfl, if_neg (by rw [B_toList]; exact h0), if_pos (by rw [B_size]; omega), hb1, if_neg hc, hw, if_pos (by omega), if_pos (by rw [B_size]; omega), hb2, if_pos hd]), by simp⟩
      by_cases hl : ((B s).size : Int) > 400
      · exact ⟨false, Ev.bind hp (C := fun t k => _) (Ev.of fun k => by rw [if_pos rfl, if_neg (by rw [B_toList]; exact h0), if_pos (by rw [B_size]; omega), hb1, if_neg hc, hw, if_pos (by omega), if_pos (by rw [B_size]; omega), hb2, if_neg hd, if_pos hl]), by simp⟩
      refine ⟨v, Ev.bind hp (C := fun t k => _) (Ev.same (fun k => by rw [if_pos rfl, if_neg (by rw [B_toList]; exact h0), if_pos (by rw [B_size]; omega), hb1, if_neg hc, hw, if_pos (by omega), if_pos (by rw [B_size]; omega), hb2, if_neg hd, if_neg hl]) hT), fun hv => ⟨hv, ⟨hpa, by rw [B_size] at hl; omega, fun c' t' h => ?_, fun c' t' h => ?_⟩⟩⟩
      · rw [e1] at h
        injection h with h1 _
        subst h1
        exact u8ne (n := 32) (by decide) hc
      · rw [e2] at h
        have := List.append_inj_right' h rfl
        simp at this
        subst this
        exact u8ne (n := 32) (by decide) hd
def isLetter (c : UInt8) : Bool := (decide (97 ≤ c.toNat) && decide (c.toNat ≤ 122)) || (decide (65 ≤ c.toNat) && decide (c.toNat ≤ 90))
theorem letter_f (c : UInt8) : laws_letter.f (c.toNat : Int) = some (isLetter c) := by
  unfold laws_letter.f isLetter
  by_cases h1 : (c.toNat : Int) ≥ 97
  · rw [if_pos h1]
    by_cases h2 : (c.toNat : Int) ≤ 122
    · rw [if_pos h2]; congr 1; simp; omega
    · rw [if_neg h2, if_pos (by omega)]; congr 1; rw [Bool.eq_iff_iff]; simp; omega
  · rw [if_neg h1]
    by_cases h3 : (c.toNat : Int) ≥ 65
    · rw [if_pos h3]; congr 1; rw [Bool.eq_iff_iff]; simp; omega
    · rw [if_neg h3]; congr 1; symm; simp; omega
structure Plain (o : Op3') : Prop where
  s : Seen o.1
  n : Seen o.2.1
  v : Seen o.2.2
  sec : o.1 ≠ []
  brack : (91 : UInt8) ∉ o.1 ∧ (93 : UInt8) ∉ o.1
  eqs : (61 : UInt8) ∉ o.2.1
  head : ∃ c t, o.2.1 = c :: t ∧ isLetter c = true
  tail : ∀ t, o.2.2 ≠ t ++ [92]
theorem tail_ev (o : Op3') (hf : Fit o) : ∃ b, Ev (fun k => (if (B o.1).toList = ([] : List UInt8) then (some false) else ((laws_has.f k (B o.1) (⟨#[91, 93]⟩ : ByteArray)).bind fun t112 => (if t112 = true then (some false) else (if (B o.2.1).toList = ([] : List UInt8) then (some false) else ((laws_has.f k (B o.2.1) (⟨#[61]⟩ : ByteArray)).bind fun t113 => (if t113 = true then (some false) else (if 0 < ((B o.2.1).size : Int) then ((laws_letter.f (bt (B o.2.1) 0)).bind fun t114 => (if t114 = true then (if (B o.2.2).toList = ([] : List UInt8) then (some true) else (if 0 ≤ (wrap64 (((B o.2.2).size : Int) - 1)) then (if (wrap64 (((B o.2.2).size : Int) - 1)) < ((B o.2.2).size : Int) then (some ((bt (B o.2.2) (wrap64 (((B o.2.2).size : Int) - 1))) != 92)) else (none)) else (none))) else (some false))) else (none))))))) : Option Bool)) b ∧
    (b = true → o.1 ≠ [] ∧ ((91 : UInt8) ∉ o.1 ∧ (93 : UInt8) ∉ o.1) ∧ (61 : UInt8) ∉ o.2.1 ∧ (∃ c t, o.2.1 = c :: t ∧ isLetter c = true) ∧ ∀ t, o.2.2 ≠ t ++ [92]) := by
  obtain ⟨f1, f2, f3⟩ := hf
  by_cases h1 : o.1 = []
  · exact ⟨false, Ev.of fun k => by rw [if_pos (by rw [B_toList]; exact h1)], by simp⟩
  have hb : Ev (fun k => laws_has.f k (B o.1) (⟨#[91, 93]⟩ : ByteArray)) _ := has_f o.1 [91, 93] (by omega) (by simp)
  have hn : Ev (fun k => laws_has.f k (B o.2.1) (⟨#[61]⟩ : ByteArray)) _ := has_f o.2.1 [61] (by omega) (by simp)
  have g1 : ¬ ((B o.1).toList = ([] : List UInt8)) := by rw [B_toList]; exact h1
  obtain ⟨k1, hb⟩ := hb
  obtain ⟨k2, hn⟩ := hn
  cases ha : o.1.any (fun c => decide (c ∈ ([91, 93] : Bs))) with
  | true =>
    rw [ha] at hb
    refine ⟨false, ⟨max k1 k2, fun k hk => ?_⟩, by simp⟩
    have q1 := hb k (by omega)
    dsimp only at q1 ⊢
    rw [if_neg g1, q1, Option.bind_some, if_pos rfl]
  | false =>
    rw [ha] at hb
    have hbr : (91 : UInt8) ∉ o.1 ∧ (93 : UInt8) ∉ o.1 := by
      rw [List.any_eq_false] at ha
      exact ⟨fun h => by have := ha _ h; simp at this, fun h => by have := ha _ h; simp at this⟩
    by_cases h2 : o.2.1 = []
    · refine ⟨false, ⟨max k1 k2, fun k hk => ?_⟩, by simp⟩
      have q1 := hb k (by omega)
      dsimp only at q1 ⊢
      rw [if_neg g1, q1, Option.bind_some, if_neg (by simp), if_pos (by rw [B_toList]; exact h2)]
    have g2 : ¬ ((B o.2.1).toList = ([] : List UInt8)) := by rw [B_toList]; exact h2
    cases hae : o.2.1.any (fun c => decide (c ∈ ([61] : Bs))) with
    | true =>
      rw [hae] at hn
      refine ⟨false, ⟨max k1 k2, fun k hk => ?_⟩, by simp⟩
      have q1 := hb k (by omega)
      have q2 := hn k (by omega)
      dsimp only at q1 q2 ⊢
      rw [if_neg g1, q1, Option.bind_some, if_neg (by simp), if_neg g2, q2, Option.bind_some, if_pos rfl]
    | false =>
      rw [hae] at hn
      have heq : (61 : UInt8) ∉ o.2.1 := by
        rw [List.any_eq_false] at hae
        exact fun h => by have := hae _ h; simp at this
      obtain ⟨c, t, d, q, e1, e2, hc, hd⟩ := ends_of o.2.1 h2
      have hpos : (0 : Int) < ((B o.2.1).size : Int) := by rw [B_size, e1]; simp
      cases hlt : isLetter c with
      | false =>
        refine ⟨false, ⟨max k1 k2, fun k hk => ?_⟩, by simp⟩
        have q1 := hb k (by omega)
        have q2 := hn k (by omega)
        dsimp only at q1 q2 ⊢
        rw [if_neg g1, q1, Option.bind_some, if_neg (by simp), if_neg g2, q2, Option.bind_some, if_neg (by simp), if_pos hpos, hc, letter_f, hlt, Option.bind_some, if_neg (by simp)]
      | true =>
        by_cases h3 : o.2.2 = []
        · refine ⟨true, ⟨max k1 k2, fun k hk => ?_⟩, fun _ => ⟨h1, hbr, heq, ⟨c, t, e1, hlt⟩, fun t h => by rw [h3] at h; simp at h⟩⟩
          have q1 := hb k (by omega)
          have q2 := hn k (by omega)
          dsimp only at q1 q2 ⊢
          rw [if_neg g1, q1, Option.bind_some, if_neg (by simp), if_neg g2, q2, Option.bind_some, if_neg (by simp), if_pos hpos, hc, letter_f, hlt, Option.bind_some, if_pos rfl, if_pos (by rw [B_toList]; exact h3)]
        · obtain ⟨c3, t3, d3, q3, e31, e32, hc3, hd3⟩ := ends_of o.2.2 h3
          have hpos3 : 0 < o.2.2.length := by rw [e31]; simp
          have hw : wrap64 (((B o.2.2).size : Int) - 1) = ((o.2.2.length - 1 : Nat) : Int) := by rw [B_size]; exact wr_pred _ hpos3 (by omega)
          refine ⟨((d3.toNat : Int) != 92), ⟨max k1 k2, fun k hk => ?_⟩, fun hb => ⟨h1, hbr, heq, ⟨c, t, e1, hlt⟩, fun t h => ?_⟩⟩
          · have q1 := hb k (by omega)
            have q2 := hn k (by omega)
            dsimp only at q1 q2 ⊢
            rw [if_neg g1, q1, Option.bind_some, if_neg (by simp), if_neg g2, q2, Option.bind_some, if_neg (by simp), if_pos hpos, hc, letter_f, hlt, Option.bind_some, if_pos rfl, if_neg (by rw [B_toList]; exact h3), hw, if_pos (by omega), if_pos (by rw [B_size]; omega), hd3]
          · rw [e32] at h
            have hdd := List.append_inj_right' h rfl
            simp at hdd
            subst hdd
            exact absurd hb (by decide)
theorem loop3_ev (o : Op3') (hf : Fit o) : ∃ b, Ev (fun k => laws_plainOption.f k (ofOp o).f0 (ofOp o).f1 (ofOp o).f2) b ∧ (b = true → Plain o) := by
  obtain ⟨b0, ht, hb0⟩ := tail_ev o hf
  have hlen : (((([B o.1, B o.2.1, B o.2.2] : List ByteArray)).length : Nat) : Int) = 3 := rfl
  have w1 : wrap64 (0 + 1) = 1 := by unfold wrap64; omega
  have w2 : wrap64 (1 + 1) = 2 := by unfold wrap64; omega
  have w3 : wrap64 (2 + 1) = 3 := by unfold wrap64; omega
  have e3 : Ev (fun k => laws_plainOption.l0 k [B o.1, B o.2.1, B o.2.2] 3 3 (B o.1) (B o.2.1) (B o.2.2)) b0 := Ev.step (fun k => by simp only [laws_plainOption.l0]; rw [if_neg (by omega)]) ht
  have one : ∀ (i : Int) (x : Bs) (v : Bool), 0 ≤ i → i < 3 → x.length ≤ 2147483647 → rdOf ByteArray.empty [B o.1, B o.2.1, B o.2.2] i = B x → Ev (fun k => laws_plainOption.l0 k [B o.1, B o.2.1, B o.2.2] 3 (wrap64 (i + 1)) (B o.1) (B o.2.1) (B o.2.2)) v → ∃ b, Ev (fun k => laws_plainOption.l0 k [B o.1, B o.2.1, B o.2.2] 3 i (B o.1) (B o.2.1) (B o.2.2)) b ∧ (b = true → v = true ∧ Seen x) := by
    intro i x v h0 h3 hx hr hev
    obtain ⟨b, hb, hbs⟩ := seen_ev x hx _ v hev
    refine ⟨b, Ev.step (fun k => ?_) hb, hbs⟩
    simp only [laws_plainOption.l0]
    rw [if_pos h3, if_pos h0, hlen, if_pos h3, hr]
  obtain ⟨b3, hev3, hb3⟩ := one 2 o.2.2 b0 (by omega) (by omega) hf.2.2 rfl (by rw [w3]; exact e3)
  obtain ⟨b2, hev2, hb2⟩ := one 1 o.2.1 b3 (by omega) (by omega) hf.2.1 rfl (by rw [w2]; exact hev3)
  obtain ⟨b1, hev1, hb1⟩ := one 0 o.1 b2 (by omega) (by omega) hf.1 rfl (by rw [w1]; exact hev2)
  refine ⟨b1, Ev.same (fun k => ?_) hev1, fun h => ?_⟩
  · unfold laws_plainOption.f ofOp
    rfl
  · obtain ⟨h2, s1⟩ := hb1 h
    obtain ⟨h3, s2⟩ := hb2 h2
    obtain ⟨h0, s3⟩ := hb3 h3
    obtain ⟨p1, p2, p3, p4, p5⟩ := hb0 h0
    exact ⟨s1, s2, s3, p1, p2, p3, p4, p5⟩
theorem plains_ev (L : List Op3') (hL : L.length ≤ 2147483647) (hF : ∀ o ∈ L, Fit o) : ∀ (r pre : List Op3'), L = pre ++ r → ∃ b, Ev (fun k => laws_plainOptions.l0 k (L.map ofOp) (L.map ofOp) ((L.map ofOp).length : Int) (pre.length : Int)) b ∧ (b = true → L.length ≤ 200 ∧ ∀ o ∈ r, Plain o)
  | [], pre, e => ⟨decide (((L.map ofOp).length : Int) ≤ 200), Ev.of1 fun k => by
    simp only [laws_plainOptions.l0]
    rw [if_neg (by rw [List.length_map, e]; simp)], fun h => ⟨by rw [List.length_map] at h; have := of_decide_eq_true h; omega, fun o ho => by simp at ho⟩⟩
  | o :: r, pre, e => by
    have hlen : L.length = pre.length + (r.length + 1) := by rw [e]; simp
    have h1 : (pre.length : Int) < ((L.map ofOp).length : Int) := by rw [List.length_map]; omega
    obtain ⟨b, hb, hf⟩ := loop3_ev o (hF o (by rw [e]; simp))
    have hrd := rd29 L pre o r e
    cases b with
    | false =>
      refine ⟨false, Ev.step (fun k => ?_) (Ev.bind hb (C := fun t k => if t = true then laws_plainOptions.l0 k (L.map ofOp) (L.map ofOp) ((L.map ofOp).length : Int) (wrap64 ((pre.length : Int) + 1)) else some false) (Ev.of fun k => by rw [if_neg (by simp)])), by simp⟩
      simp only [laws_plainOptions.l0]
      rw [if_pos h1, if_pos (by omega), if_pos h1, hrd]
    | true =>
      obtain ⟨b2, hev, hb2⟩ := plains_ev L hL hF r (pre ++ [o]) (by rw [e]; simp)
      refine ⟨b2, Ev.step (fun k => ?_) (Ev.bind hb (C := fun t k => if t = true then laws_plainOptions.l0 k (L.map ofOp) (L.map ofOp) ((L.map ofOp).length : Int) (wrap64 ((pre.length : Int) + 1)) else some false) (Ev.same (fun k => by rw [if_pos rfl, wr_next _ (by omega), ← snoc_len pre o]) hev)), fun ht => ⟨(hb2 ht).1, fun x hx => ?_⟩⟩
      · simp only [laws_plainOptions.l0]
        rw [if_pos h1, if_pos (by omega), if_pos h1, hrd]
      · rcases List.mem_cons.1 hx with rfl | hx
        · exact hf rfl
        · exact (hb2 ht).2 x hx
theorem plains_f (L : List Op3') (hL : L.length ≤ 2147483647) (hF : ∀ o ∈ L, Fit o) : ∃ b, Ev (fun k => laws_plainOptions.f k (L.map ofOp)) b ∧ (b = true → L.length ≤ 200 ∧ ∀ o ∈ L, Plain o) := plains_ev L hL hF L [] rfl
theorem same_ev (L : List Op3') (hL : L.length ≤ 2147483647) : ∀ (r pre : List Op3'), L = pre ++ r → Ev (fun k => laws_sameOptions.l0 k (L.map ofOp) (L.map ofOp) ((L.map ofOp).length : Int) (pre.length : Int)) true
  | [], pre, e => Ev.of1 fun k => by
    simp only [laws_sameOptions.l0]
    rw [if_neg (by rw [List.length_map, e]; simp)]
  | o :: r, pre, e => by
    have hlen : L.length = pre.length + (r.length + 1) := by rw [e]; simp
    have h1 : (pre.length : Int) < ((L.map ofOp).length : Int) := by rw [List.length_map]; omega
    have hrd := rd29 L pre o r e
    refine Ev.step (fun k => ?_) (same_ev L hL r (pre ++ [o]) (by rw [e]; simp))
    simp only [laws_sameOptions.l0]
    rw [if_pos h1, if_pos (by omega), if_pos h1, if_pos h1, hrd, if_neg (by simp), wr_next _ (by omega), snoc_len]
theorem same_f (L : List Op3') (hL : L.length ≤ 2147483647) : Ev (fun k => laws_sameOptions.f k (L.map ofOp) (L.map ofOp)) true :=
  Ev.same (fun k => by unfold laws_sameOptions.f; rw [if_pos rfl]; rfl) (same_ev L hL L [] rfl)
end Go.Proofs.YtocdnceckljnaaaDoor.Pu
namespace Go.Proofs.YtocdnceckljnaaaDoor.Pu
open Go.RowKit Go.Proofs.YtocdnceckljnaaaDoorW.PrintWords Go.Proofs.YtocdnceckljnaaaDoorW.PrintLast
open Go.Proofs.YtocdnceckljnaaaDoor.QV0
open Go.Proofs.YtocdnceckljnaaaDoor.U (Bs B B_data B_size Op3' keysF)
set_option linter.unusedVariables false
set_option linter.unusedSimpArgs false
def ofS (L : List Op3') (s : Bs) : List Op3' := L.filter (fun o => o.1 = s)
def groupK (L : List Op3') (ks : List Bs) : List Op3' := ks.flatMap (ofS L)
def groupL (L : List Op3') : List Op3' := groupK L (keysF L)
theorem ofS_len (L : List Op3') (s : Bs) : (ofS L s).length ≤ L.length := List.length_filter_le _ _
theorem groupK_len (L : List Op3') (ks : List Bs) : (groupK L ks).length ≤ ks.length * L.length := by
  induction ks with
  | nil => simp [groupK]
  | cons s ks ih =>
    unfold groupK at ih ⊢
    rw [List.flatMap_cons, List.length_append, List.length_cons, Nat.succ_mul]
    have := ofS_len L s
    omega
theorem groupK_small (L pre : List Op3') (hL : L.length ≤ 200) (hp : pre.length ≤ 200) : (groupK L (keysF pre)).length ≤ 40000 := by
  have h1 := groupK_len L (keysF pre)
  have h2 := U.keysF_len pre
  have h3 : (keysF pre).length * L.length ≤ 200 * 200 := Nat.mul_le_mul (by omega) hL
  omega
section
variable (L : List Op3') (hL : L.length ≤ 200)
include hL
omit hL in
theorem g2_ev (pre : List Op3') (o : Op3') (X : List Op3') (x6 : Bool) (v : List S29) (Y : List Op3') (hY : Y.length ≤ 200) : ∀ (r p : List Op3') (X : List Op3'), Y = p ++ r → X.length + r.length ≤ 100000 →
    Ev (fun k => laws_grouped.l0 k (L.map ofOp) ((X ++ if x6 = true then ofS r o.1 else []).map ofOp) (L.map ofOp) ((L.map ofOp).length : Int) (wrap64 ((pre.length : Int) + 1))) v →
    Ev (fun k => laws_grouped.l2 k (L.map ofOp) (X.map ofOp) x6 (L.map ofOp) ((L.map ofOp).length : Int) (pre.length : Int) (Y.map ofOp) ((Y.map ofOp).length : Int) (p.length : Int) (B o.1) (B o.2.1) (B o.2.2)) v
  | [], p, X, e, hX, h => by
    refine Ev.step (fun k => ?_) h
    simp only [laws_grouped.l2]
    rw [if_neg (by rw [List.length_map, e]; simp)]
    have : (if x6 = true then ofS [] o.1 else []) = ([] : List Op3') := by split <;> rfl
    rw [this, List.append_nil]
  | y :: r, p, X, e, hX, h => by
    have hlen : Y.length = p.length + (r.length + 1) := by rw [e]; simp
    have h1 : (p.length : Int) < ((Y.map ofOp).length : Int) := by rw [List.length_map]; omega
    have hrd := rd29 Y p y r e
    have hw : wrap64 ((p.length : Int) + 1) = (((p ++ [y]).length : Nat) : Int) := by rw [wr_next _ (by omega), snoc_len]
    rw [List.length_cons] at hX
    cases x6 with
    | false =>
      refine Ev.step (fun k => ?_) (g2_ev pre o X false v Y hY r (p ++ [y]) X (by rw [e]; simp) (by omega) (by simpa using h))
      simp only [laws_grouped.l2]
      rw [if_pos h1, if_pos (by omega), if_pos h1, if_neg (by simp), hw]
    | true =>
      by_cases hy : y.1 = o.1
      · have e2 : X ++ ofS (y :: r) o.1 = (X ++ [y]) ++ ofS r o.1 := by unfold ofS; rw [List.filter_cons, if_pos (by simpa using hy)]; simp
        refine Ev.step (fun k => ?_) (g2_ev pre o X true v Y hY r (p ++ [y]) (X ++ [y]) (by rw [e]; simp) (by simp; omega) (by rw [if_pos rfl] at h ⊢; rw [← e2]; exact h))
        simp only [laws_grouped.l2]
        rw [if_pos h1, if_pos (by omega), if_pos h1, if_pos trivial, hrd, if_pos (by show (B y.1).toList = _; rw [B_toList, B_toList]; exact hy), if_pos (by rw [List.length_map]; omega), hw, List.map_append]
        rfl
      · have e2 : ofS (y :: r) o.1 = ofS r o.1 := by unfold ofS; rw [List.filter_cons, if_neg (by simpa using hy)]
        refine Ev.step (fun k => ?_) (g2_ev pre o X true v Y hY r (p ++ [y]) X (by rw [e]; simp) (by omega) (by rw [if_pos rfl] at h ⊢; rw [← e2]; exact h))
        simp only [laws_grouped.l2]
        rw [if_pos h1, if_pos (by omega), if_pos h1, if_pos trivial, hrd, if_neg (by show ¬ (B y.1).toList = _; rw [B_toList, B_toList]; exact hy), hw]
theorem g1_ev (pre : List Op3') (o : Op3') (r0 : List Op3') (e0 : L = pre ++ o :: r0) (X : List Op3') (v : List S29) (b : Bool) : ∀ (r p : List Op3') (x6 : Bool), pre = p ++ r → b = (x6 && r.all (fun y => y.1 != o.1)) →
    Ev (fun k => laws_grouped.l2 k (L.map ofOp) (X.map ofOp) b (L.map ofOp) ((L.map ofOp).length : Int) (pre.length : Int) ((L.drop pre.length).map ofOp) (((L.drop pre.length).map ofOp).length : Int) 0 (B o.1) (B o.2.1) (B o.2.2)) v →
    Ev (fun k => laws_grouped.l1 k (L.map ofOp) (X.map ofOp) (pre.length : Int) x6 (L.map ofOp) ((L.map ofOp).length : Int) (pre.length : Int) (pre.map ofOp) ((pre.map ofOp).length : Int) (p.length : Int) (B o.1) (B o.2.1) (B o.2.2)) v
  | [], p, x6, e, hb, h => by
    have hlen : L.length = pre.length + (r0.length + 1) := by rw [e0]; simp
    have hbx : b = x6 := by rw [hb]; simp
    subst hbx
    refine Ev.step (fun k => ?_) h
    simp only [laws_grouped.l1]
    rw [if_neg (by rw [List.length_map, e]; simp), if_pos (by omega), if_pos (by rw [List.length_map]; omega), Option.bind_some, Int.toNat_natCast, List.map_drop]
  | y :: r, p, x6, e, hb, h => by
    have hlen : pre.length = p.length + (r.length + 1) := by rw [e]; simp
    have hlenL : L.length = pre.length + (r0.length + 1) := by rw [e0]; simp
    have h1 : (p.length : Int) < ((pre.map ofOp).length : Int) := by rw [List.length_map]; omega
    have hrd := rd29 pre p y r e
    have hw : wrap64 ((p.length : Int) + 1) = (((p ++ [y]).length : Nat) : Int) := by rw [wr_next _ (by omega), snoc_len]
    cases x6 with
    | false =>
      refine Ev.step (fun k => ?_) (g1_ev pre o r0 e0 X v b r (p ++ [y]) false (by rw [e]; simp) (by simpa using hb) h)
      simp only [laws_grouped.l1]
      rw [if_pos h1, if_pos (by omega), if_pos h1, if_neg (by simp), hw]
    | true =>
      refine Ev.step (fun k => ?_) (g1_ev pre o r0 e0 X v b r (p ++ [y]) (y.1 != o.1) (by rw [e]; simp) (by rw [hb, List.all_cons, Bool.true_and]) h)
      simp only [laws_grouped.l1]
      rw [if_pos h1, if_pos (by omega), if_pos h1, if_pos trivial, hrd, hw]
      show laws_grouped.l1 k _ _ _ ((B y.1).toList != (B o.1).toList) _ _ _ _ _ _ _ _ _ = _
      rw [B_toList, B_toList]
theorem g0_ev : ∀ (r pre : List Op3'), L = pre ++ r → Ev (fun k => laws_grouped.l0 k (L.map ofOp) ((groupK L (keysF pre)).map ofOp) (L.map ofOp) ((L.map ofOp).length : Int) (pre.length : Int)) ((groupL L).map ofOp)
  | [], pre, e => by
    rw [List.append_nil] at e
    subst e
    refine Ev.of1 fun k => ?_
    simp only [laws_grouped.l0]
    rw [if_neg (by simp)]
    rfl
  | o :: r, pre, e => by
    have hlen : L.length = pre.length + (r.length + 1) := by rw [e]; simp
    have h1 : (pre.length : Int) < ((L.map ofOp).length : Int) := by rw [List.length_map]; omega
    have hrd := rd29 L pre o r e
    have hsm := groupK_small L pre hL (by omega)
    have ih := g0_ev r (pre ++ [o]) (by rw [e]; simp)
    have hdrop : L.drop pre.length = o :: r := by rw [e]; simp
    have htake : L.take pre.length = pre := by rw [e]; simp
    have hstep : groupK L (keysF (pre ++ [o])) = groupK L (keysF pre) ++ if (pre.all (fun y => y.1 != o.1)) = true then ofS (o :: r) o.1 else [] := by
      rw [U.keysF_snoc]
      unfold U.addKey
      by_cases hin : o.1 ∈ keysF pre
      · rw [if_pos hin, if_neg, List.append_nil]
        rw [List.all_eq_true]
        intro hall
        rw [U.mem_keysF] at hin
        obtain ⟨y, hy, hyo⟩ := List.mem_map.1 hin
        have := hall y hy
        simp [hyo] at this
      · have hall : pre.all (fun y => y.1 != o.1) = true := by
          rw [List.all_eq_true]
          intro y hy
          rw [bne_iff_ne]
          intro hyo
          exact hin ((U.mem_keysF pre o.1).2 (List.mem_map.2 ⟨y, hy, hyo⟩))
        rw [if_neg hin, if_pos hall]
        unfold groupK
        rw [List.flatMap_append]
        congr 1
        simp only [List.flatMap_cons, List.flatMap_nil, List.append_nil]
        unfold ofS
        rw [e, List.filter_append]
        have : pre.filter (fun x => decide (x.1 = o.1)) = [] := by
          rw [List.filter_eq_nil_iff]
          intro y hy
          have := List.all_eq_true.1 hall y hy
          simpa using this
        rw [this, List.nil_append]
    have hin2 := g2_ev L pre o (groupK L (keysF pre)) (pre.all (fun y => y.1 != o.1)) ((groupL L).map ofOp) (o :: r) (by simp; omega) (o :: r) [] (groupK L (keysF pre)) rfl (by simp; omega)
      (by rw [← hstep, wr_next _ (by omega), ← snoc_len pre o]; exact ih)
    have hin1 := g1_ev L hL pre o r e (groupK L (keysF pre)) ((groupL L).map ofOp) (pre.all (fun y => y.1 != o.1)) pre [] true rfl (by simp)
      (by rw [hdrop]; exact hin2)
    refine Ev.step (fun k => ?_) hin1
    simp only [laws_grouped.l0]
    rw [if_pos h1, if_pos (by omega), if_pos h1, if_pos (by omega), Option.bind_some, hrd, Int.toNat_natCast, ← List.map_take, htake]
    rfl
theorem grouped_f : Ev (fun k => laws_grouped.f k (L.map ofOp)) ((groupL L).map ofOp) := g0_ev L hL L [] rfl
end
end Go.Proofs.YtocdnceckljnaaaDoor.Pu
namespace Go.Proofs.YtocdnceckljnaaaDoor.Pu
open Go.RowKit Go.Proofs.YtocdnceckljnaaaDoorW.PrintWords Go.Proofs.YtocdnceckljnaaaDoorW.PrintLast
open Go.Proofs.YtocdnceckljnaaaDoor.QV0
open Go.Proofs.YtocdnceckljnaaaDoor.U (Bs B B_data B_size Op3' keysF eolL eolR cutEnd upto past stepF lexF putD readF PD St soStep spN lineF linesF secF accF writeF addLast)
set_option linter.unusedVariables false
set_option linter.unusedSimpArgs false
theorem tw_app (d : UInt8) (a r : Bs) (h : d ∉ a) : (a ++ d :: r).takeWhile (fun c => c != d) = a := by
  rw [List.takeWhile_append_of_pos (fun c hc => by rw [bne_iff_ne]; rintro rfl; exact h hc)]
  simp
theorem dw_app (d : UInt8) (a r : Bs) (h : d ∉ a) : (a ++ d :: r).dropWhile (fun c => c != d) = d :: r := by
  rw [List.dropWhile_append_of_pos (fun c hc => by rw [bne_iff_ne]; rintro rfl; exact h hc)]
  simp
theorem eolL_app (a r : Bs) (h : (10 : UInt8) ∉ a) : eolL (a ++ 10 :: r) = a := tw_app 10 a r h
theorem eolR_app (a r : Bs) (h : (10 : UInt8) ∉ a) : eolR (a ++ 10 :: r) = r := by unfold eolR; rw [dw_app 10 a r h]; rfl
theorem upto_app (d : UInt8) (a r : Bs) (h : d ∉ a) : upto d (a ++ d :: r) = a := tw_app d a r h
theorem past_app (d : UInt8) (a r : Bs) (h : d ∉ a) : past d (a ++ d :: r) = r := by unfold past; rw [dw_app d a r h]; rfl
theorem near (a r : Bs) (h : a.length < 2048) : (a ++ 10 :: r).length < 2048 ∨ (10 : UInt8) ∈ (a ++ 10 :: r).take 2048 := by
  right
  rw [List.take_append, List.mem_append]
  right
  obtain ⟨j, hj⟩ : ∃ j, 2048 - a.length = j + 1 := ⟨2047 - a.length, by omega⟩
  rw [hj]
  simp
theorem prn_ne {s : Bs} (h : s.all prn = true) (d : UInt8) (hd : prn d = false) : d ∉ s := fun hm => by
  have := List.all_eq_true.1 h d hm
  rw [hd] at this
  simp at this
theorem prn_sp {c : UInt8} (h : prn c = true) (h32 : c ≠ 32) : Lib.isSp c = false := by
  unfold prn at h
  simp only [Bool.and_eq_true, decide_eq_true_eq] at h
  have h2 : c.toNat ≠ 32 := fun e => h32 (UInt8.toNat_inj.1 e)
  unfold Lib.isSp
  simp only [Bool.or_eq_false_iff, beq_eq_false_iff_ne, ne_eq]
  refine ⟨⟨⟨⟨⟨?_, ?_⟩, ?_⟩, ?_⟩, ?_⟩, h32⟩ <;> (rintro rfl; revert h; decide)
theorem dw_self {p : UInt8 → Bool} (l : Bs) (h : ∀ c t, l = c :: t → p c = false) : l.dropWhile p = l := by
  cases l with
  | nil => rfl
  | cons c t => rw [List.dropWhile_cons, if_neg (by rw [h c t rfl]; simp)]
theorem trim_seen {s : Bs} (h : Seen s) : Lib.trimSpace s = s := by
  have hp : ∀ c ∈ s, prn c = true := fun c hc => List.all_eq_true.1 h.all c hc
  have e1 : s.dropWhile Lib.isSp = s := dw_self s fun c t e => prn_sp (hp c (by rw [e]; simp)) (h.first c t e)
  have e2 : s.reverse.dropWhile Lib.isSp = s.reverse := dw_self s.reverse fun c t e => by
    have e' : s = t.reverse ++ [c] := by rw [← List.reverse_reverse s, e, List.reverse_cons]
    exact prn_sp (hp c (by rw [e']; simp)) (h.last c _ e')
  unfold Lib.trimSpace
  rw [e1, e2, List.reverse_reverse]
inductive Ln where
  | sec (s : Bs)
  | opt (n v : Bs)
  | rem (x : Bs)
def Ln.text : Ln → Bs
  | .sec s => 91 :: (s ++ [93])
  | .opt n v => n ++ 61 :: v
  | .rem x => x
def Ln.line (l : Ln) : Bs := l.text ++ [10]
def Ln.core : Ln → Bool
  | .rem _ => false
  | .sec _ => true
  | .opt _ _ => true
def textOf (d : List Ln) : Bs := d.flatMap Ln.line
theorem textOf_nil : textOf [] = [] := rfl
theorem textOf_cons (l : Ln) (d : List Ln) : textOf (l :: d) = l.text ++ 10 :: textOf d := by simp [textOf, Ln.line]
theorem textOf_app (a b : List Ln) : textOf (a ++ b) = textOf a ++ textOf b := by simp [textOf]
def RemOk (x : Bs) : Prop := x.all prn = true ∧ x.length ≤ 400 ∧ (x = [] ∨ ∃ c t, x = c :: t ∧ (c = 35 ∨ c = 59) ∧ Lib.hasSuffix (cutEnd 32 t) [92] = false)
def Ln.Ok : Ln → Prop
  | .sec s => Seen s ∧ (93 : UInt8) ∉ s
  | .opt n v => Seen n ∧ Seen v ∧ (61 : UInt8) ∉ n ∧ (∃ c t, n = c :: t ∧ isLetter c = true) ∧ ∀ t, v ≠ t ++ [92]
  | .rem x => RemOk x
theorem Ln.Ok.prn {l : Ln} (h : l.Ok) : l.text.all prn = true := by
  cases l with
  | sec s => simp [Ln.text, h.1.all]; decide
  | opt n v => simp [Ln.text, h.1.all, h.2.1.all]; decide
  | rem x => exact h.1
theorem Ln.Ok.len {l : Ln} (h : l.Ok) : l.text.length ≤ 801 := by
  cases l with
  | sec s => have := h.1.len; simp [Ln.text]; omega
  | opt n v => have := h.1.len; have := h.2.1.len; simp [Ln.text]; omega
  | rem x => have := h.2.1; simp [Ln.text]; omega
theorem Ln.Ok.nolf {l : Ln} (h : l.Ok) : (10 : UInt8) ∉ l.text := prn_ne h.prn 10 (by decide)
theorem textOf_len (d : List Ln) (h : ∀ l ∈ d, l.Ok) : (textOf d).length ≤ 802 * d.length ∧ d.length ≤ (textOf d).length := by
  induction d with
  | nil => simp [textOf]
  | cons l d ih =>
    have h1 := ih (fun l hl => h l (List.mem_cons_of_mem _ hl))
    have h2 := (h l List.mem_cons_self).len
    rw [textOf_cons]
    simp
    omega
theorem textOf_asc (d : List Ln) (h : ∀ l ∈ d, l.Ok) : ∀ c ∈ textOf d, c.toNat < 128 := by
  intro c hc
  obtain ⟨l, hl, hc⟩ := List.mem_flatMap.1 hc
  unfold Ln.line at hc
  rcases List.mem_append.1 hc with hc | hc
  · have := List.all_eq_true.1 (h l hl).prn c hc
    unfold Pu.prn at this
    simp at this
    omega
  · obtain rfl := List.mem_singleton.1 hc
    decide
def evs : Bs → List Ln → List PD
  | _, [] => []
  | _, .sec s :: r => (true, s, [], []) :: evs s r
  | s, .opt n v :: r => (false, s, n, v) :: evs s r
  | s, .rem _ :: r => evs s r
theorem evs_len (s : Bs) (d : List Ln) : (evs s d).length ≤ d.length := by
  induction d generalizing s with
  | nil => simp [evs]
  | cons l d ih =>
    cases l with
    | sec t => have := ih t; simp [evs]; omega
    | opt n v => have := ih s; simp [evs]; omega
    | rem x => have := ih s; simp [evs]; omega
theorem evs_core (s : Bs) (d : List Ln) : evs s (d.filter Ln.core) = evs s d := by
  induction d generalizing s with
  | nil => rfl
  | cons l d ih =>
    cases l with
    | sec t => rw [List.filter_cons_of_pos (by rfl)]; simp only [evs, ih]
    | opt n v => rw [List.filter_cons_of_pos (by rfl)]; simp only [evs, ih]
    | rem x => rw [List.filter_cons_of_neg (by simp [Ln.core])]; simp only [evs, ih]
def Lex (n : Nat) (st : St) (rest : Bs) (D R : List PD) : Prop := ∀ k, n ≤ k → lexF k st rest D = some R
theorem Lex.step {n : Nat} {st st' : St} {rest rest' : Bs} {D R d : List PD} (hc : rest.length < 2048 ∨ (10 : UInt8) ∈ rest.take 2048) (hs : stepF st rest = some (some st', rest', d)) (hD : D.length < 900000000) (h : Lex n st' rest' (D ++ d) R) : Lex (n + 1) st rest D R := by
  intro k hk
  obtain ⟨j, rfl⟩ : ∃ j, k = j + 1 := ⟨k - 1, by omega⟩
  simp only [lexF]
  rw [if_pos hc, hs, Option.bind_some, if_pos hD]
  exact h j (by omega)
theorem Lex.more {n m : Nat} {st : St} {rest : Bs} {D R : List PD} (h : Lex n st rest D R) (hm : n ≤ m) : Lex m st rest D R := fun k hk => h k (by omega)
theorem Lex.last {st : St} {D : List PD} (hs : stepF st [] = some (none, [], [])) (hD : D.length < 900000000) : Lex 1 st [] D D := by
  intro k hk
  obtain ⟨j, rfl⟩ : ∃ j, k = j + 1 := ⟨k - 1, by omega⟩
  simp only [lexF]
  rw [if_pos (Or.inl (by simp)), hs, Option.bind_some, if_pos hD, List.append_nil]
theorem lex_sec (n : Nat) (s : Bs) (hs : Ln.Ok (.sec s)) (r : Bs) (D R : List PD) (hD : D.length < 900000000) (h : Lex n (.secOpt s) r (D ++ [(true, s, [], [])]) R) : Lex (n + 2) .secName (s ++ 93 :: 10 :: r) D R := by
  have h10 : (10 : UInt8) ∉ s := prn_ne hs.1.all 10 (by decide)
  have hl := hs.1.len
  refine Lex.step (st' := .suffix s) (rest' := 10 :: r) (d := []) ?_ ?_ hD ?_
  · have := near (s ++ [93]) r (by simp; omega)
    simpa using this
  · simp only [stepF]
    rw [if_pos (by simp), upto_app 93 s _ hs.2, past_app 93 s _ hs.2]
  · rw [List.append_nil]
    refine Lex.step (near [] r (by simp)) ?_ hD h
    simp only [stepF]
    have e1 : eolL (10 :: r) = [] := eolL_app [] r (by simp)
    have e2 : eolR (10 :: r) = r := eolR_app [] r (by simp)
    rw [e1, e2, if_pos ⟨by simp, rfl⟩]
theorem letter_not {c : UInt8} (h : isLetter c = true) : spN c.toNat = false ∧ c.toNat ≠ 91 ∧ ¬ (c.toNat = 35 ∨ c.toNat = 59) := by
  unfold isLetter at h
  unfold spN
  simp at h ⊢
  omega
theorem lex_line (n : Nat) (l : Ln) (hl : l.Ok) (s : Bs) (r : Bs) (D R : List PD) (hD : D.length < 900000000) (h : ∀ s', evs s [l] = evs s [l] → (match l with | .sec t => s' = t | _ => s' = s) → Lex n (.secOpt s') r (D ++ evs s [l]) R) : Lex (n + 3) (.secOpt s) (l.text ++ 10 :: r) D R := by
  have hn := near l.text r (by have := hl.len; omega)
  cases l with
  | sec t =>
    refine Lex.step hn (st' := .secName) (rest' := t ++ 93 :: 10 :: r) (d := []) ?_ hD ?_
    · show stepF (.secOpt s) (91 :: (t ++ [93]) ++ 10 :: r) = _
      rw [List.cons_append]
      simp only [stepF, soStep]
      rw [if_neg (by decide), if_pos (show UInt8.toNat 91 = 91 from rfl)]
      simp
    · rw [List.append_nil]
      exact lex_sec n t hl r D R hD (h t rfl rfl)
  | opt m v =>
    obtain ⟨h1, h2, h3, ⟨c, t, rfl, hc⟩, h5⟩ := hl
    obtain ⟨q1, q2, q3⟩ := letter_not hc
    have e0 : (Ln.opt (c :: t) v).text ++ 10 :: r = (c :: t) ++ 61 :: (v ++ 10 :: r) := by simp [Ln.text]
    rw [e0] at hn ⊢
    have m10 : (10 : UInt8) ∉ (c :: t) := prn_ne h1.all 10 (by decide)
    have m13 : (13 : UInt8) ∉ (c :: t) := prn_ne h1.all 13 (by decide)
    have v10 : (10 : UInt8) ∉ v := prn_ne h2.all 10 (by decide)
    have v13 : (13 : UInt8) ∉ v := prn_ne h2.all 13 (by decide)
    refine Lex.step hn (st' := .optName s) (rest' := (c :: t) ++ 61 :: (v ++ 10 :: r)) (d := []) ?_ hD ?_
    · rw [List.cons_append]
      simp only [stepF, soStep]
      rw [q1, if_neg (by simp), if_neg q2, if_neg q3]
    · rw [List.append_nil]
      refine Lex.step hn (st' := .optVal s (c :: t)) (rest' := v ++ 10 :: r) (d := []) ?_ hD ?_
      · simp only [stepF]
        rw [upto_app 61 _ _ h3, past_app 61 _ _ h3, if_pos ⟨by simp, m10, m13⟩, trim_seen h1]
      · rw [List.append_nil]
        refine Lex.step (near v r (by have := h2.len; omega)) (st' := .secOpt s) (rest' := r) (d := [(false, s, c :: t, v)]) ?_ hD (h s rfl rfl)
        have hsf : Lib.hasSuffix v [92] = false := by
          cases hh : Lib.hasSuffix v [92]
          · rfl
          · obtain ⟨t', ht⟩ := (U.suffix_iff _ 92).1 hh
            exact absurd ht (h5 t')
        simp only [stepF]
        rw [eolL_app v r v10, eolR_app v r v10, if_pos ⟨v13, hsf⟩, trim_seen h2]
  | rem x =>
    obtain ⟨h1, h2, h3⟩ := hl
    have hs : Lex n (.secOpt s) r D R := by
      have := h s rfl rfl
      simpa [evs] using this
    rcases h3 with rfl | ⟨c, t, rfl, hc, hb⟩
    · refine (Lex.step (n := n) hn (st' := .secOpt s) (rest' := r) (d := []) ?_ hD (by rw [List.append_nil]; exact hs)).more (by omega)
      show stepF (.secOpt s) (10 :: r) = _
      simp only [stepF, soStep]
      rw [if_pos (by decide)]
    · have x10 : (10 : UInt8) ∉ t := fun hm => prn_ne h1 10 (by decide) (List.mem_cons_of_mem _ hm)
      have x13 : (13 : UInt8) ∉ t := fun hm => prn_ne h1 13 (by decide) (List.mem_cons_of_mem _ hm)
      refine (Lex.step (n := n + 1) hn (st' := .ign (some s)) (rest' := t ++ 10 :: r) (d := []) ?_ hD ?_).more (by omega)
      · show stepF (.secOpt s) (c :: t ++ 10 :: r) = _
        rw [List.cons_append]
        simp only [stepF, soStep]
        rcases hc with rfl | rfl
        · rw [if_neg (by decide), if_neg (by decide), if_pos (by decide)]
        · rw [if_neg (by decide), if_neg (by decide), if_pos (by decide)]
      · rw [List.append_nil]
        rw [List.length_cons] at h2
        refine Lex.step (near t r (by omega)) (st' := .secOpt s) (rest' := r) (d := []) ?_ hD (by rw [List.append_nil]; exact hs)
        simp only [stepF]
        rw [eolL_app t r x10, eolR_app t r x10, if_pos ⟨x13, hb⟩]
theorem evs_cons (s : Bs) (l : Ln) (d : List Ln) : evs s (l :: d) = evs s [l] ++ evs (match l with | .sec t => t | _ => s) d := by
  cases l <;> simp [evs]
theorem lex_lines (d : List Ln) (h : ∀ l ∈ d, l.Ok) : ∀ (s : Bs) (D : List PD), D.length + d.length < 900000000 → Lex (3 * d.length + 1) (.secOpt s) (textOf d) D (D ++ evs s d) := by
  induction d with
  | nil =>
    intro s D hD
    rw [textOf_nil, evs, List.append_nil]
    exact Lex.last rfl (by simpa using hD)
  | cons l d ih =>
    intro s D hD
    rw [List.length_cons] at hD ⊢
    rw [textOf_cons, evs_cons, ← List.append_assoc]
    have hle : (evs s [l]).length ≤ 1 := evs_len s [l]
    refine (lex_line (3 * d.length + 1) l (h l List.mem_cons_self) s _ D _ (by omega) (fun s' _ hs' => ?_)).more (by omega)
    have := ih (fun x hx => h x (List.mem_cons_of_mem _ hx)) s' (D ++ evs s [l]) (by rw [List.length_append]; omega)
    cases l <;> (simp only at hs'; subst hs'; exact this)
theorem lex_text (d : List Ln) (h : ∀ l ∈ d, l.Ok) (hf : d = [] ∨ ∃ t r, d = .sec t :: r) (hd : d.length < 800000000) : lexF (3 * (textOf d).length + 10) .next (textOf d) [] = some (evs [] d) := by
  have hl := (textOf_len d h).2
  rcases hf with rfl | ⟨t, r, rfl⟩
  · rfl
  · have ht : Ln.Ok (.sec t) := h _ List.mem_cons_self
    rw [List.length_cons] at hd hl
    have e0 : textOf (.sec t :: r) = 91 :: (t ++ 93 :: 10 :: textOf r) := by rw [textOf_cons]; simp [Ln.text]
    have h1 := lex_lines r (fun l hl => h l (List.mem_cons_of_mem _ hl)) t [(true, t, [], [])] (by simp; omega)
    have h2 := lex_sec _ t ht (textOf r) [] _ (by simp) h1
    have h3 : Lex _ .next (textOf (.sec t :: r)) [] _ := Lex.step (near (Ln.text (.sec t)) (textOf r) (by have := ht.len; omega) |> fun q => by rw [textOf_cons]; exact q) (st' := .secName) (rest' := t ++ 93 :: 10 :: textOf r) (d := []) (by
      rw [e0]
      simp only [stepF]
      rw [if_pos (by decide)]) (by simp) h2
    exact h3 _ (by omega)
abbrev Gs := List (Bs × List (Bs × Bs))
def gDoc (g : Bs × List (Bs × Bs)) : List Ln := .sec g.1 :: g.2.map fun e => .opt e.1 e.2
def gEvs (g : Bs × List (Bs × Bs)) : List PD := (true, g.1, [], []) :: g.2.map fun e => (false, g.1, e.1, e.2)
def gOps (g : Bs × List (Bs × Bs)) : List Op3' := g.2.map fun e => (g.1, e.1, e.2)
theorem evs_opts (s : Bs) (es : List (Bs × Bs)) (d : List Ln) : evs s ((es.map fun e => Ln.opt e.1 e.2) ++ d) = (es.map fun e => (false, s, e.1, e.2)) ++ evs s d := by
  induction es with
  | nil => rfl
  | cons e es ih => simp [evs, ih]
theorem evs_gs (gs : Gs) (s : Bs) : evs s (gs.flatMap gDoc) = gs.flatMap gEvs := by
  induction gs generalizing s with
  | nil => rfl
  | cons g gs ih =>
    rw [List.flatMap_cons, List.flatMap_cons, gDoc, gEvs, List.cons_append, evs, evs_opts, ih, List.cons_append]
theorem putD_opts (s : Bs) (es : List (Bs × Bs)) (r : List PD) : ∀ (S : Gs) (a : List (Bs × Bs)) (O : List Op3'), putD ((es.map fun e => (false, s, e.1, e.2)) ++ r) (S ++ [(s, a)]) O = putD r (S ++ [(s, a ++ es)]) (O ++ es.map fun e => (s, e.1, e.2)) := by
  induction es with
  | nil => intro S a O; simp
  | cons e es ih =>
    intro S a O
    rw [List.map_cons, List.cons_append, putD, if_neg (by simp)]
    have : addLast (S ++ [(s, a)]) (e.1, e.2) = S ++ [(s, a ++ [e])] := by unfold addLast; simp
    rw [this, ih]
    simp
theorem putD_gs (gs : Gs) : ∀ (S : Gs) (O : List Op3'), putD (gs.flatMap gEvs) S O = some (S ++ gs, O ++ gs.flatMap gOps) := by
  induction gs with
  | nil => intro S O; simp [putD]
  | cons g gs ih =>
    intro S O
    rw [List.flatMap_cons, gEvs, List.cons_append, putD, putD_opts g.1 g.2 _ S [] O, ih, List.flatMap_cons, gOps]
    simp
theorem core_gs (gs : Gs) (d : List Ln) (e : d.filter Ln.core = gs.flatMap gDoc) : evs [] d = gs.flatMap gEvs := by rw [← evs_core, e, evs_gs]
theorem read_text (d : List Ln) (h : ∀ l ∈ d, l.Ok) (hf : d = [] ∨ ∃ t r, d = .sec t :: r) (hd : d.length < 800000000) (gs : Gs) (e : d.filter Ln.core = gs.flatMap gDoc) : readF (textOf d) = some (gs, gs.flatMap gOps) := by
  unfold readF
  rw [lex_text d h hf hd, Option.bind_some, core_gs gs d e]
  have h1 := evs_len [] d
  rw [core_gs gs d e] at h1
  rw [if_pos (by omega), putD_gs gs [] []]
  rfl
def gsK (L : List Op3') (ks : List Bs) : Gs := ks.map fun s => (s, (ofS L s).map (·.2))
def docK (L : List Op3') (ks : List Bs) (j : Nat) : List Ln := (List.range j).flatMap fun i => gDoc (ks.getD i [], (ofS L (ks.getD i [])).map (·.2)) ++ if i + 1 < ks.length then [.rem []] else []
def docL (L : List Op3') : List Ln := docK L (keysF L) (keysF L).length
theorem lines_text (l : List Op3') : linesF l = textOf ((l.map (·.2)).map fun e => .opt e.1 e.2) := by
  induction l with
  | nil => rfl
  | cons o l ih =>
    unfold linesF at ih ⊢
    rw [List.flatMap_cons, ih, List.map_cons, List.map_cons, textOf_cons]
    simp [lineF, Ln.text]
theorem sec_text (L : List Op3') (s : Bs) : secF L s = textOf (gDoc (s, (ofS L s).map (·.2))) := by
  unfold secF gDoc
  rw [textOf_cons, lines_text]
  simp [Ln.text, ofS]
theorem doc_text (L : List Op3') (ks : List Bs) (j : Nat) : accF L ks j = textOf (docK L ks j) := by
  unfold accF docK
  induction j with
  | zero => rfl
  | succ j ih =>
    rw [List.range_succ, List.flatMap_append, List.flatMap_append, textOf_app, ih]
    congr 1
    simp only [List.flatMap_cons, List.flatMap_nil, List.append_nil]
    rw [textOf_app, sec_text]
    congr 1
    split <;> rfl
theorem write_text (L : List Op3') : writeF L = textOf (docL L) := doc_text L _ _
theorem gDoc_core (g : Bs × List (Bs × Bs)) : (gDoc g).filter Ln.core = gDoc g := by
  rw [List.filter_eq_self]
  intro l hl
  rcases List.mem_cons.1 hl with rfl | hl
  · rfl
  · obtain ⟨e, _, rfl⟩ := List.mem_map.1 hl
    rfl
theorem docK_core (L : List Op3') (ks : List Bs) (j : Nat) (hj : j ≤ ks.length) : (docK L ks j).filter Ln.core = (gsK L (ks.take j)).flatMap gDoc := by
  unfold docK gsK
  induction j with
  | zero => simp
  | succ j ih =>
    rw [List.range_succ, List.flatMap_append, List.filter_append, ih (by omega), List.take_add_one, List.map_append, List.flatMap_append]
    congr 1
    have hk : ks[j]? = some (ks.getD j []) := by rw [List.getD_eq_getElem?_getD, List.getElem?_eq_getElem (by omega)]; rfl
    rw [hk]
    simp only [List.flatMap_cons, List.flatMap_nil, List.append_nil, Option.toList_some, List.map_cons, List.map_nil]
    rw [List.filter_append, gDoc_core]
    split <;> simp [Ln.core]
theorem docL_core (L : List Op3') : (docL L).filter Ln.core = (gsK L (keysF L)).flatMap gDoc := by
  have := docK_core L (keysF L) _ (Nat.le_refl _)
  rwa [List.take_length] at this
theorem gsK_ops (L : List Op3') (ks : List Bs) : (gsK L ks).flatMap gOps = groupK L ks := by
  unfold gsK groupK
  induction ks with
  | nil => rfl
  | cons s ks ih =>
    rw [List.map_cons, List.flatMap_cons, ih, List.flatMap_cons]
    congr 1
    unfold gOps
    rw [List.map_map]
    conv => rhs; rw [← List.map_id (ofS L s)]
    refine List.map_congr_left fun o ho => ?_
    have : o.1 = s := by simpa [ofS] using (List.mem_filter.1 ho).2
    subst this
    rfl
theorem docL_ok (L : List Op3') (h : ∀ o ∈ L, Plain o) : ∀ l ∈ docL L, l.Ok := by
  intro l hl
  obtain ⟨i, hi, hl⟩ := List.mem_flatMap.1 hl
  rw [List.mem_range] at hi
  have hk : (keysF L).getD i [] ∈ keysF L := by
    rw [List.getD_eq_getElem?_getD, List.getElem?_eq_getElem hi]
    exact List.getElem_mem hi
  rcases List.mem_append.1 hl with hl | hl
  · rcases List.mem_cons.1 hl with rfl | hl
    · obtain ⟨o, ho, e⟩ := List.mem_map.1 ((U.mem_keysF _ _).1 hk)
      have := h o ho
      show Seen _ ∧ _
      dsimp only
      rw [← e]
      exact ⟨this.s, this.brack.2⟩
    · obtain ⟨e, he, rfl⟩ := List.mem_map.1 hl
      obtain ⟨o, ho, rfl⟩ := List.mem_map.1 he
      have := h o (List.mem_filter.1 ho).1
      exact ⟨this.n, this.v, this.eqs, this.head, this.tail⟩
  · split at hl
    · obtain rfl := List.mem_singleton.1 hl
      exact ⟨rfl, by simp, .inl rfl⟩
    · simp at hl
theorem docL_first (L : List Op3') : docL L = [] ∨ ∃ t r, docL L = .sec t :: r := by
  unfold docL docK
  cases h : (keysF L).length with
  | zero => left; rfl
  | succ n =>
    right
    rw [List.range_succ_eq_map, List.flatMap_cons, gDoc, List.cons_append, List.cons_append]
    exact ⟨_, _, rfl⟩
theorem keysF_nodup (L : List Op3') : (keysF L).Nodup := by
  induction L using U.snoc_ind with
  | h0 => simp [keysF]
  | h1 l o ih =>
    rw [U.keysF_snoc]
    unfold U.addKey
    split
    · exact ih
    · rename_i hn
      rw [List.nodup_append]
      exact ⟨ih, by simp, fun a ha b hb => by rw [List.mem_singleton] at hb; rintro rfl; exact hn (hb ▸ ha)⟩
theorem groupK_le (ks : List Bs) : ∀ L : List Op3', ks.Nodup → (groupK L ks).length ≤ L.length := by
  induction ks with
  | nil => intro L _; simp [groupK]
  | cons s ks ih =>
    intro L hnd
    rw [List.nodup_cons] at hnd
    have e1 : groupK L ks = groupK (L.filter (fun o => ¬ o.1 = s)) ks := by
      unfold groupK
      rw [List.flatMap_def, List.flatMap_def]
      congr 1
      refine List.map_congr_left fun t ht => ?_
      unfold ofS
      rw [List.filter_filter]
      refine List.filter_congr fun o _ => ?_
      by_cases h : o.1 = t
      · have : o.1 ≠ s := fun e => hnd.1 (by rw [← e, h]; exact ht)
        simp [h]
        rintro rfl
        exact hnd.1 ht
      · simp [h]
    have h2 := ih (L.filter (fun o => ¬ o.1 = s)) hnd.2
    rw [← e1] at h2
    have h3 : L.length = (ofS L s).length + (L.filter (fun o => ¬ o.1 = s)).length := by
      have := List.length_eq_countP_add_countP (l := L) (fun o : Op3' => decide (o.1 = s))
      rw [this, List.countP_eq_length_filter, List.countP_eq_length_filter]
      unfold ofS
      congr 2
      exact List.filter_congr fun o _ => by simp
    unfold groupK at h2 ⊢
    rw [List.flatMap_cons, List.length_append]
    omega
theorem gDoc_len (g : Bs × List (Bs × Bs)) : (gDoc g).length = g.2.length + 1 := by unfold gDoc; simp
theorem docK_len (L : List Op3') (ks : List Bs) (j : Nat) (hj : j ≤ ks.length) : (docK L ks j).length ≤ 2 * j + (groupK L (ks.take j)).length := by
  unfold docK groupK
  induction j with
  | zero => simp
  | succ j ih =>
    have hk : ks[j]? = some (ks.getD j []) := by rw [List.getD_eq_getElem?_getD, List.getElem?_eq_getElem (by omega)]; rfl
    have := ih (by omega)
    have hb : (if j + 1 < ks.length then [Ln.rem []] else ([] : List Ln)).length ≤ 1 := by split <;> simp
    rw [List.range_succ, List.flatMap_append, List.length_append, List.take_add_one, List.flatMap_append, List.length_append, hk]
    simp only [List.flatMap_cons, List.flatMap_nil, List.append_nil, Option.toList_some, List.length_append, gDoc_len, List.length_map]
    omega
theorem docL_len (L : List Op3') : (docL L).length ≤ 3 * L.length := by
  have h1 := docK_len L (keysF L) _ (Nat.le_refl _)
  rw [List.take_length] at h1
  have h2 := groupK_le (keysF L) L (keysF_nodup L)
  have h3 := U.keysF_len L
  unfold docL
  omega
end Go.Proofs.YtocdnceckljnaaaDoor.Pu
namespace Go.Proofs.YtocdnceckljnaaaDoor.Pu
open Go.RowKit Go.Proofs.YtocdnceckljnaaaDoorW.PrintWords Go.Proofs.YtocdnceckljnaaaDoorW.PrintLast
open Go.Proofs.YtocdnceckljnaaaDoor.QV0
open Go.Proofs.YtocdnceckljnaaaDoor.U (Bs B B_data B_size Op3' keysF cutEnd readF writeF)
set_option linter.unusedVariables false
set_option linter.unusedSimpArgs false
theorem Ev.bind' {α β : Type} {A : Nat → Option α} {C : α → Nat → Option β} {F : Nat → Option β} {a : α} {v : β} (hF : ∀ k, F k = (A k).bind fun t => C t k) (ha : Ev A a) (hc : Ev (C a) v) : Ev F v := Ev.same hF (Ev.bind ha hc)
theorem map_opOf (L : List Op3') : (L.map ofOp).map opOf = L := by
  rw [List.map_map]
  conv => rhs; rw [← List.map_id L]
  rfl
theorem plain_short (L : List Op3') (hl : L.length ≤ 200) (h : ∀ o ∈ L, Plain o) : U.Short L := ⟨by omega, fun o ho => by
  have := h o ho
  have h1 := this.s.len
  have h2 := this.n.len
  have h3 := this.v.len
  omega⟩
theorem write_f (L : List Op3') (hl : L.length ≤ 200) (h : ∀ o ∈ L, Plain o) : impl_UnitWrite.f (L.map ofOp) = some (B (textOf (docL L))) := by
  unfold impl_UnitWrite.f
  rw [map_opOf, if_pos ((shortB_iff L).2 (plain_short L hl h)), write_text]
theorem read_f (d : List Ln) (h : ∀ l ∈ d, l.Ok) (hf : d = [] ∨ ∃ t r, d = .sec t :: r) (hd : d.length ≤ 100000) (gs : Gs) (e : d.filter Ln.core = gs.flatMap gDoc) (hg : (gs.flatMap gOps).length ≤ 100000) : impl_UnitRead.f (B (textOf d)) = some ((gs.flatMap gOps).map ofOp, 0) := by
  have hl := (textOf_len d h).1
  unfold impl_UnitRead.f
  rw [if_pos ⟨by rw [B_data]; exact textOf_asc d h, by rw [B_size]; omega⟩, B_data, read_text d h hf (by omega) gs e, Option.bind_some, if_pos (by dsimp only; omega)]
section
variable (L : List Op3') (rs : List Bs) (at_ : List Int)
theorem c0_line (T : Bs) (hT : T.length ≤ 1000000000) (pre : Bs) (Ls : List Bs) (hLs : Ls.length ≤ 1000000) (v : Bool) (r : Bs) : ∀ (b a : Bs), T = pre ++ a ++ b ++ 10 :: r → (10 : UInt8) ∉ b →
    Ev (fun k => laws_FnUnitComments.l0 k (L.map ofOp) (rs.map B) at_ ((Ls ++ [a ++ b ++ [10]]).map B) ((pre ++ (a ++ b ++ [10])).length : Nat) (B T) ((B T).size : Int) ((pre ++ (a ++ b ++ [10])).length : Nat)) v →
    Ev (fun k => laws_FnUnitComments.l0 k (L.map ofOp) (rs.map B) at_ (Ls.map B) (pre.length : Nat) (B T) ((B T).size : Int) ((pre ++ a).length : Nat)) v
  | [], a, e, h10, h => by
    rw [List.append_nil] at e h
    have hlen : T.length = (pre ++ a).length + (r.length + 1) := by rw [e]; simp; omega
    have hla : (pre ++ a).length = pre.length + a.length := List.length_append
    have hl2 : (pre ++ (a ++ [10])).length = (pre ++ a).length + 1 := by simp; omega
    have hb : bt (B T) ((pre ++ a).length : Nat) = 10 := by rw [e]; exact bt_mid (pre ++ a) 10 r
    have h1 : (((pre ++ a).length : Nat) : Int) < ((B T).size : Int) := by rw [B_size]; omega
    have he : (B T).extract pre.length ((pre ++ a).length + 1) = B (a ++ [10]) := by
      rw [B_extract, e]
      congr 1
      have : pre ++ a ++ 10 :: r = pre ++ ((a ++ [10]) ++ r) := by simp
      rw [this, List.drop_left]
      exact List.take_left' (by simp; omega)
    have hw : wrap64 (((pre ++ a).length : Int) + 1) = (((pre ++ (a ++ [10])).length : Nat) : Int) := by rw [wr_next _ (by omega), hl2]
    refine Ev.step (fun k => ?_) h
    simp only [laws_FnUnitComments.l0]
    rw [if_pos h1, if_pos (by omega), if_pos h1, hb, if_pos rfl, if_pos (by omega), hw, if_pos (by rw [hl2]; omega), if_pos (by rw [B_size, hl2]; omega), if_pos (by rw [List.length_map]; omega), Int.toNat_natCast, Int.toNat_natCast, hl2, he, List.map_append]
    rfl
  | c :: b, a, e, h10, h => by
    have hlen : T.length = (pre ++ a).length + ((b.length + 1) + (r.length + 1)) := by rw [e]; simp; omega
    have hc : c ≠ 10 := fun hh => h10 (by rw [hh]; exact List.mem_cons_self)
    have hne : ¬ ((c.toNat : Int) = 10) := fun hh => hc (UInt8.toNat_inj.1 (by have : (10 : UInt8).toNat = 10 := rfl; omega))
    have hb : bt (B T) ((pre ++ a).length : Nat) = (c.toNat : Int) := by
      have : T = (pre ++ a) ++ c :: (b ++ 10 :: r) := by rw [e]; simp
      rw [this]; exact bt_mid (pre ++ a) c _
    have h1 : (((pre ++ a).length : Nat) : Int) < ((B T).size : Int) := by rw [B_size]; omega
    have ih := c0_line T hT pre Ls hLs v r b (a ++ [c]) (by rw [e]; simp) (fun hm => h10 (List.mem_cons_of_mem _ hm)) (by
      have e2 : a ++ [c] ++ b ++ [10] = a ++ c :: b ++ [10] := by simp
      rw [e2]; exact h)
    have e3 : (pre ++ (a ++ [c])).length = (pre ++ a).length + 1 := by simp; omega
    have hw : wrap64 (((pre ++ a).length : Int) + 1) = (((pre ++ (a ++ [c])).length : Nat) : Int) := by rw [wr_next _ (by omega), e3]
    refine Ev.step (fun k => ?_) ih
    simp only [laws_FnUnitComments.l0]
    rw [if_pos h1, if_pos (by omega), if_pos h1, hb, if_neg hne, hw]
theorem c0_all (D : List Ln) (hD : ∀ l ∈ D, l.Ok) (hl : D.length ≤ 100000) (v : Bool)
    (h : Ev (fun k => laws_FnUnitComments.l1 k (L.map ofOp) (rs.map B) at_ ((D.map Ln.line).map B) (B []) ((D.map Ln.line).map B) (((D.map Ln.line).map B).length : Int) ((0 : Nat) : Int)) v) : ∀ (r p : List Ln), D = p ++ r →
    Ev (fun k => laws_FnUnitComments.l0 k (L.map ofOp) (rs.map B) at_ ((p.map Ln.line).map B) ((textOf p).length : Nat) (B (textOf D)) ((B (textOf D)).size : Int) ((textOf p).length : Nat)) v
  | [], p, e => by
    rw [List.append_nil] at e
    subst e
    refine Ev.step (fun k => ?_) h
    simp only [laws_FnUnitComments.l0]
    rw [if_neg (by rw [B_size]; omega), if_pos (by rw [B_size])]
    rfl
  | l :: r, p, e => by
    have hle := (textOf_len D hD).1
    have hll : D.length = p.length + (r.length + 1) := by rw [e]; simp
    have hok : l.Ok := hD l (by rw [e]; simp)
    have ih := c0_all D hD hl v h r (p ++ [l]) (by rw [e]; simp)
    have e1 : textOf (p ++ [l]) = textOf p ++ ([] ++ l.text ++ [10]) := by rw [textOf_app, textOf_cons, textOf_nil]; simp
    have e2 : (p ++ [l]).map Ln.line = p.map Ln.line ++ [[] ++ l.text ++ [10]] := by simp [Ln.line]
    rw [e1, e2] at ih
    have := c0_line L rs at_ (textOf D) (by omega) (textOf p) (p.map Ln.line) (by rw [List.length_map]; omega) v (textOf r) l.text [] (by rw [e, textOf_app, textOf_cons]; simp) hok.nolf ih
    rwa [List.append_nil] at this
structure Out (D P p : List Ln) (j : Nat) : Prop where
  ok : ∀ l ∈ P, l.Ok
  core : P.filter Ln.core = p.filter Ln.core
  len : P.length ≤ 41 * p.length + j
  first : (P = [] ∧ p = []) ∨ ∃ t r, P = .sec t :: r
theorem suff_tail (c : UInt8) (t : Bs) (hc : c ≠ 32) (h : Lib.hasSuffix (cutEnd 32 (c :: t)) [92] = false) : Lib.hasSuffix (cutEnd 32 t) [92] = false := by
  cases hh : Lib.hasSuffix (cutEnd 32 t) [92] with
  | false => rfl
  | true =>
    obtain ⟨q, hq⟩ := (U.suffix_iff _ 92).1 hh
    have : cutEnd 32 (c :: t) = (c :: q) ++ [92] := by
      induction t using U.snoc_ind with
      | h0 =>
        have : cutEnd 32 [] = ([] : Bs) := by decide
        rw [this] at hq
        simp at hq
      | h1 t' d _ =>
        by_cases hd : d = 32
        · subst hd
          rw [U.cutEnd_yes] at hq
          rw [← List.cons_append, U.cutEnd_yes, hq]
          rfl
        · rw [U.cutEnd_other 32 d hd] at hq
          rw [← List.cons_append, U.cutEnd_other 32 d hd, List.cons_append, hq]
          rfl
    rw [(U.suffix_iff _ 92).2 ⟨c :: q, this⟩] at h
    exact absurd h (by simp)
variable (D : List Ln) (hDl : D.length ≤ 600) (hR : rs.length ≤ 40) (hRl : ∀ x ∈ rs, x.length ≤ 2147483647)
theorem out_size (P p : List Ln) (j : Nat) (h : Out D P p j) (hp : p.length ≤ 600) (hj : j ≤ 40) : (textOf P).length ≤ 50000000 := by
  have h1 := (textOf_len P h.ok).1
  have h2 := h.len
  omega
include hDl hR hRl in
theorem c2_ev (p : List Ln) (hp : p.length ≤ D.length) (hp0 : 0 < p.length) (x12 : Int)
    (h : ∀ P, Out D P p 40 → Ev (fun k => laws_FnUnitComments.l1 k (L.map ofOp) (rs.map B) at_ ((D.map Ln.line).map B) (B (textOf P)) ((D.map Ln.line).map B) (((D.map Ln.line).map B).length : Int) (p.length : Int)) true) :
    ∀ (r q : List Bs), rs = q ++ r → ∀ P, Out D P p q.length → Ev (fun k => laws_FnUnitComments.l2 k (L.map ofOp) (rs.map B) at_ ((D.map Ln.line).map B) (B (textOf P)) x12 ((D.map Ln.line).map B) (((D.map Ln.line).map B).length : Int) ((p.length - 1 : Nat) : Int) (rs.map B) ((rs.map B).length : Int) (q.length : Int)) true
  | [], q, e, P, hP => by
    rw [List.append_nil] at e
    subst e
    refine Ev.step (fun k => ?_) (h P ⟨hP.ok, hP.core, by have := hP.len; omega, hP.first⟩)
    simp only [laws_FnUnitComments.l2]
    rw [if_neg (by rw [List.length_map]; omega), wr_next _ (by omega), show p.length - 1 + 1 = p.length by omega]
  | x :: r, q, e, P, hP => by
    have hlen : rs.length = q.length + (r.length + 1) := by rw [e]; simp
    have hx : x.length ≤ 2147483647 := hRl x (by rw [e]; simp)
    have hsz := out_size D P p q.length hP (by omega) (by omega)
    have h1 : (q.length : Int) < ((rs.map B).length : Int) := by rw [List.length_map]; omega
    have hrd := rdB rs q x r e
    have hw : wrap64 ((q.length : Int) + 1) = (((q ++ [x]).length : Nat) : Int) := by rw [wr_next _ (by omega), snoc_len]
    have hskip : Ev (fun k => laws_FnUnitComments.l2 k (L.map ofOp) (rs.map B) at_ ((D.map Ln.line).map B) (B (textOf P)) x12 ((D.map Ln.line).map B) (((D.map Ln.line).map B).length : Int) ((p.length - 1 : Nat) : Int) (rs.map B) ((rs.map B).length : Int) (((q ++ [x]).length : Nat) : Int)) true :=
      c2_ev p hp hp0 x12 h r (q ++ [x]) (by rw [e]; simp) P ⟨hP.ok, hP.core, by have := hP.len; rw [List.length_append, List.length_singleton]; omega, hP.first⟩
    have hadd : RemOk x → Ev (fun k => laws_FnUnitComments.l2 k (L.map ofOp) (rs.map B) at_ ((D.map Ln.line).map B) (B (textOf P ++ (x ++ [10]))) x12 ((D.map Ln.line).map B) (((D.map Ln.line).map B).length : Int) ((p.length - 1 : Nat) : Int) (rs.map B) ((rs.map B).length : Int) (((q ++ [x]).length : Nat) : Int)) true := fun hok => by
      have e2 : textOf P ++ (x ++ [10]) = textOf (P ++ [.rem x]) := by rw [textOf_app, textOf_cons, textOf_nil]; simp [Ln.text]
      rw [e2]
      refine c2_ev p hp hp0 x12 h r (q ++ [x]) (by rw [e]; simp) (P ++ [.rem x]) ⟨fun l hl => ?_, ?_, ?_, ?_⟩
      · rcases List.mem_append.1 hl with hl | hl
        · exact hP.ok l hl
        · obtain rfl := List.mem_singleton.1 hl
          exact hok
      · rw [List.filter_append, hP.core]
        simp [Ln.core]
      · have := hP.len
        rw [List.length_append, List.length_append, List.length_singleton, List.length_singleton]
        omega
      · rcases hP.first with ⟨_, h0⟩ | ⟨t, r', h0⟩
        · rw [h0] at hp0; simp at hp0
        · exact .inr ⟨t, r' ++ [.rem x], by rw [h0]; rfl⟩
    have hj : ∀ b : Bool, Ev (fun k => laws_FnUnitComments.j5 k (L.map ofOp) (rs.map B) at_ ((D.map Ln.line).map B) (B (textOf P)) x12 (B x) ((D.map Ln.line).map B) (((D.map Ln.line).map B).length : Int) ((p.length - 1 : Nat) : Int) (rs.map B) ((rs.map B).length : Int) (q.length : Int) b) true := by
      intro b
      cases b with
      | false =>
        refine Ev.step (fun k => ?_) hskip
        simp only [laws_FnUnitComments.j5]
        rw [if_neg (by simp), hw]
      | true =>
        have hpr := printable_f x (by omega)
        refine Ev.step (fun k => by simp only [laws_FnUnitComments.j5]; rw [if_pos trivial]) (Ev.bind hpr ?_)
        cases hpa : x.all prn with
        | false => exact Ev.of fun k => by rw [if_neg (by simp)]
        | true =>
          by_cases hl : ((B x).size : Int) > 400
          · exact Ev.of fun k => by rw [if_pos rfl, if_pos hl]
          have hl' : x.length ≤ 400 := by rw [B_size] at hl; omega
          have hB : B (textOf P) ++ (B x ++ (⟨#[10]⟩ : ByteArray)) = B (textOf P ++ (x ++ [10])) := by
            have : (⟨#[10]⟩ : ByteArray) = B [10] := rfl
            rw [this, B_append, B_append]
          have s1 : (B x).size + 1 ≤ 9223372036854775807 := by rw [B_size]; omega
          have s2 : (B (textOf P)).size + (B x ++ (⟨#[10]⟩ : ByteArray)).size ≤ 9223372036854775807 := by
            have : (⟨#[10]⟩ : ByteArray) = B [10] := rfl
            rw [this, B_append, B_size, B_size]
            simp
            omega
          by_cases h0 : x = []
          · subst h0
            refine Ev.same (fun k => ?_) (hadd ⟨rfl, by simp, .inl rfl⟩)
            rw [if_pos rfl, if_neg hl, if_pos (by rw [B_toList]), if_pos s1, if_pos s2, hB, hw]
          · obtain ⟨c, t, d, q', e1, e2, hc, hd⟩ := ends_of x h0
            have hpos : (0 : Int) < ((B x).size : Int) := by rw [B_size, e1]; simp
            obtain ⟨g, hg, hg2⟩ := goesOn_ev x (by omega)
            have hnil : ¬ ((B x).toList = ([] : List UInt8)) := by rw [B_toList]; exact h0
            by_cases hc35 : (c.toNat : Int) = 35
            · refine Ev.same (fun k => by rw [if_pos rfl, if_neg hl, if_neg hnil, if_pos hpos, hc, if_pos hc35]) (Ev.bind (A := fun k => laws_goesOn.f k (B x)) hg ?_)
              cases g with
              | true => exact Ev.of fun k => by rw [if_pos rfl]
              | false =>
                have hc2 : c = 35 := UInt8.toNat_inj.1 (by have : (35 : UInt8).toNat = 35 := rfl; omega)
                have hok : RemOk x := ⟨hpa, hl', .inr ⟨c, t, e1, .inl hc2, suff_tail c t (by rw [hc2]; decide) (by rw [← e1]; exact (hg2 rfl).1)⟩⟩
                refine Ev.same (fun k => ?_) (hadd hok)
                rw [if_neg (by simp), if_pos s1, if_pos s2, hB, hw]
            by_cases hc59 : (c.toNat : Int) = 59
            · refine Ev.same (fun k => by rw [if_pos rfl, if_neg hl, if_neg hnil, if_pos hpos, hc, if_neg hc35, if_pos hc59]) (Ev.bind (A := fun k => laws_goesOn.f k (B x)) hg ?_)
              cases g with
              | true => exact Ev.of fun k => by rw [if_pos rfl]
              | false =>
                have hc2 : c = 59 := UInt8.toNat_inj.1 (by have : (59 : UInt8).toNat = 59 := rfl; omega)
                have hok : RemOk x := ⟨hpa, hl', .inr ⟨c, t, e1, .inr hc2, suff_tail c t (by rw [hc2]; decide) (by rw [← e1]; exact (hg2 rfl).1)⟩⟩
                refine Ev.same (fun k => ?_) (hadd hok)
                rw [if_neg (by simp), if_pos s1, if_pos s2, hB, hw]
            · exact Ev.of fun k => by rw [if_pos rfl, if_neg hl, if_neg hnil, if_pos hpos, hc, if_neg hc35, if_neg hc59]
    by_cases ha : (q.length : Int) < (at_.length : Int)
    · refine Ev.step (fun k => ?_) (hj ((Int.tmod (wrap64 (rd at_ (q.length : Int))) (((D.map Ln.line).map B).length : Int)) == x12))
      simp only [laws_FnUnitComments.l2]
      rw [if_pos h1, if_pos (by omega), if_pos h1, if_pos ha, if_neg (by rw [List.length_map, List.length_map]; omega), hrd]
    · refine Ev.step (fun k => ?_) (hj false)
      simp only [laws_FnUnitComments.l2]
      rw [if_pos h1, if_pos (by omega), if_pos h1, if_neg ha, hrd]
theorem c1_ev (hL : L.length ≤ 200) (hP : ∀ o ∈ L, Plain o) (hR : rs.length ≤ 40) (hRl : ∀ x ∈ rs, x.length ≤ 2147483647) : ∀ (r p : List Ln), docL L = p ++ r → ∀ P, Out (docL L) P p 40 →
    Ev (fun k => laws_FnUnitComments.l1 k (L.map ofOp) (rs.map B) at_ (((docL L).map Ln.line).map B) (B (textOf P)) (((docL L).map Ln.line).map B) ((((docL L).map Ln.line).map B).length : Int) (p.length : Int)) true
  | [], p, e, P, hO => by
    rw [List.append_nil] at e
    have hdl := docL_len L
    have hg := groupK_le (keysF L) L (keysF_nodup L)
    have hcore : P.filter Ln.core = (gsK L (keysF L)).flatMap gDoc := by rw [hO.core, ← e]; exact docL_core L
    have hread := read_f P hO.ok (hO.first.elim (fun h => .inl h.1) .inr) (by have := hO.len; rw [← e] at this; omega) (gsK L (keysF L)) hcore (by rw [gsK_ops]; omega)
    rw [gsK_ops] at hread
    refine Ev.step (fun k => ?_) (Ev.bind (grouped_f L hL) (C := fun t k => (laws_sameOptions.f k ((groupK L (keysF L)).map ofOp) t).bind fun t160 => if t160 = true then (laws_reads.f).bind fun t161 => some t161 else some false) (Ev.bind (same_f (groupL L) (by unfold groupL; omega)) (C := fun t k => if t = true then (laws_reads.f).bind fun t161 => some t161 else some false) (Ev.of fun k => by rw [if_pos rfl]; rfl)))
    simp only [laws_FnUnitComments.l1]
    rw [if_neg (by rw [List.length_map, List.length_map, e]; omega), hread, Option.bind_some, if_pos rfl]
  | l :: r, p, e, P, hO => by
    have hdl := docL_len L
    have hlen : (docL L).length = p.length + (r.length + 1) := by rw [e]; simp
    have hDok := docL_ok L hP
    have hok : l.Ok := hDok l (by rw [e]; simp)
    have hll := hok.len
    have hsz := out_size (docL L) P p 40 hO (by omega) (by omega)
    have h1 : (p.length : Int) < ((((docL L).map Ln.line).map B).length : Int) := by rw [List.length_map, List.length_map]; omega
    have hrd : rdOf ByteArray.empty (((docL L).map Ln.line).map B) (p.length : Int) = B l.line := by
      have := rdB ((docL L).map Ln.line) (p.map Ln.line) l.line (r.map Ln.line) (by rw [e]; simp)
      rwa [List.length_map] at this
    have hO2 : Out (docL L) (P ++ [l]) (p ++ [l]) ([] : List Bs).length := ⟨fun x hx => by
        rcases List.mem_append.1 hx with hx | hx
        · exact hO.ok x hx
        · obtain rfl := List.mem_singleton.1 hx
          exact hok, by rw [List.filter_append, List.filter_append, hO.core], by
        have := hO.len
        rw [List.length_append, List.length_append, List.length_singleton, List.length_nil]
        omega, by
        right
        rcases hO.first with ⟨h0, h00⟩ | ⟨t, r', h0⟩
        · rw [h00, List.nil_append] at e
          rcases docL_first L with hn | ⟨t, r', ht⟩
          · rw [hn] at e; simp at e
          · rw [ht] at e
            injection e with e1 e2
            exact ⟨t, [], by rw [h0, ← e1]; rfl⟩
        · exact ⟨t, r' ++ [l], by rw [h0]; rfl⟩⟩
    have ih := c2_ev L rs at_ (docL L) (by omega) hR hRl (p ++ [l]) (by rw [List.length_append, List.length_singleton]; omega) (by simp) (p.length : Int) (fun P' hP' => c1_ev hL hP hR hRl r (p ++ [l]) (by rw [e]; simp) P' hP') rs [] rfl (P ++ [l]) hO2
    have e2 : textOf (P ++ [l]) = textOf P ++ l.line := by rw [textOf_app]; simp [textOf]
    have e3 : (p ++ [l]).length - 1 = p.length := by simp
    rw [e2, e3, ← B_append] at ih
    refine Ev.step (fun k => ?_) ih
    simp only [laws_FnUnitComments.l1]
    rw [if_pos h1, if_pos (by omega), if_pos h1, hrd, if_pos (by rw [B_size, B_size]; unfold Ln.line; rw [List.length_append, List.length_singleton]; omega)]
    rfl
theorem comments_f : Ev (fun k => laws_FnUnitComments.f k (L.map ofOp) (rs.map B) at_) true := by
  have jt : Ev (fun k => laws_FnUnitComments.j0 k (L.map ofOp) (rs.map B) at_ true) true := Ev.of1 fun k => by simp only [laws_FnUnitComments.j0]; rw [if_pos trivial]
  have jt1 : Ev (fun k => laws_FnUnitComments.j1 k (L.map ofOp) (rs.map B) at_ true) true := Ev.of1 fun k => by simp only [laws_FnUnitComments.j1]; rw [if_pos trivial]
  obtain ⟨b7, h7, hf7⟩ := fits7_f L
  refine Ev.bind' (fun k => by unfold laws_FnUnitComments.f; rfl) h7 ?_
  cases b7 with
  | false => exact Ev.same (fun k => by rw [if_neg (by simp)]) jt
  | true =>
    obtain ⟨hl, hfit⟩ := hf7 rfl
    obtain ⟨b4, h4, hf4⟩ := fits4_f rs
    refine Ev.same (fun k => by rw [if_pos rfl]) (Ev.bind h4 ?_)
    cases b4 with
    | false => exact Ev.same (fun k => by rw [if_neg (by simp)]) jt
    | true =>
      obtain ⟨hrl, hrs⟩ := hf4 rfl
      refine Ev.same (fun k => by rw [if_pos rfl]) ?_
      cases hd : decide ((at_.length : Int) > 2147483647) with
      | true => exact jt
      | false =>
        obtain ⟨bp, hp, hpl⟩ := plains_f L hl hfit
        refine Ev.step (fun k => by simp only [laws_FnUnitComments.j0]; rw [if_neg (by simp)]) (Ev.bind hp ?_)
        cases bp with
        | false => exact Ev.same (fun k => by rw [if_neg (by simp)]) jt1
        | true =>
          obtain ⟨hL, hP⟩ := hpl rfl
          refine Ev.same (fun k => by rw [if_pos rfl]) ?_
          cases hd4 : decide (((rs.map B).length : Int) > 40) with
          | true => exact jt1
          | false =>
            have hr40 : rs.length ≤ 40 := by
              have := of_decide_eq_false hd4
              rw [List.length_map] at this
              omega
            have hdl := docL_len L
            have h1 := c1_ev L rs at_ hL hP hr40 hrs (docL L) [] rfl [] ⟨fun l hl => by simp at hl, rfl, by simp, .inl ⟨rfl, rfl⟩⟩
            have h0 := c0_all L rs at_ (docL L) (docL_ok L hP) (by omega) true h1 (docL L) [] rfl
            refine Ev.step (fun k => ?_) h0
            simp only [laws_FnUnitComments.j1]
            rw [if_neg (by simp), write_f L hL hP, Option.bind_some]
            rfl
end
end Go.Proofs.YtocdnceckljnaaaDoor.Pu
namespace Go.Proofs.YtocdnceckljnaaaDoor.fnUnitComments
open Go.ChangeShapes Go.WideShapes Go.ChangeAt Go.RowKit
open Go.Proofs.YtocdnceckljnaaaDoorW.PrintWords Go.Proofs.YtocdnceckljnaaaDoor.QV0 Go.Proofs.YtocdnceckljnaaaDoor.UCk
open Go.Proofs.YtocdnceckljnaaaDoor.U (Bs B Op3')
set_option linter.unusedVariables false
set_option linter.unusedSimpArgs false
theorem laid_met (os : Os) (args : Array Value) : laidMet Tryd.prog Rows.fnUnitCommentsRow.laid ((laidWorld os).forCall (fun _ _ => 0) ⟨#[], args, []⟩).memory :=
  (LaidIn.of_run [4, 6, N0, N0 + 1, 5, 8, 3] 8 (by kernel_rfl) (by kernel_rfl) (by kernel_rfl) (by kernel_rfl)).met
theorem witness_row (os : Os) {H : Type} (enc : TypeId × Value → H) :
    (OpenSpec.ofChange Rows.fnUnitCommentsSpec).preRow enc Tryd.prog Tryd.f5 Rows.fnUnitCommentsRow.domain false Rows.fnUnitCommentsRow.laid ((laidWorld os).forCall (fun _ _ => 0) ⟨#[], #[.slice none 0 0, .slice none 0 0, .slice none 0 0], []⟩).memory #[.slice none 0 0, .slice none 0 0, .slice none 0 0] := by
  have hw : (DataW.whole enc Tryd.prog ((laidWorld os).forCall (fun _ _ => 0) ⟨#[], #[.slice none 0 0, .slice none 0 0, .slice none 0 0], []⟩).memory Tryd.f5.params.toList Rows.fnUnitCommentsSpec.vars false (#[.slice none 0 0, .slice none 0 0, .slice none 0 0] : Array Value).toList 8).map (fun x => (x.1, x.2.1)) =
      some ([.nil, .nil, .nil], []) := by kernel_rfl
  obtain ⟨⟨x1, x2, x3⟩, hx, hx1⟩ := Option.map_eq_some_iff.1 hw
  simp only [Prod.mk.injEq] at hx1
  obtain ⟨rfl, rfl⟩ := hx1
  exact OpenSpec.preRow_of_cond 8 hx (by kernel_rfl) (fun k hk => by cases hk) (by kernel_rfl) (laid_met os _)
set_option maxRecDepth 100000 in
theorem lifted (os : Os) (started : os.Started) (H : Type) (enc : TypeId × Value → H) (F : Stop.Interp) :
    ReturnsInHanded {} Tryd.checked os 5 .any ((OpenSpec.ofChange Rows.fnUnitCommentsSpec).preRow enc Tryd.prog Tryd.f5 Rows.fnUnitCommentsRow.domain false Rows.fnUnitCommentsRow.laid) (((OpenSpec.ofChange Rows.fnUnitCommentsSpec).at F).post enc Tryd.prog Tryd.f5 false true false false) := by
  refine returnsInHanded_of_row (C := Tryd.checked) (s := OpenSpec.ofChange Rows.fnUnitCommentsSpec) own started (by kernel_rfl) Tryd.func5
    (witness_row_atRef (enc := enc) (C := Tryd.checked) false (laidWorld os) #[.slice none 0 0, .slice none 0 0, .slice none 0 0] rfl (by kernel_rfl) (by kernel_rfl) (by kernel_rfl) (witness_row os enc)) ?_
  intro W base args ds gs before hval0 hW hcnd _ hsz0 hL hsh _
  have hsz : (DataW.weightsEach Tryd.prog (Tryd.f5.params.toList ++ (OpenSpec.ofChange Rows.fnUnitCommentsSpec).bare.plain.varTypes Tryd.prog) (ds ++ gs)).all (· ≤ reachBytes) = true := hsz0
  have hval : ∀ (j : Nat) t v, Tryd.f5.params[j]? = some t → args[j]? = some v → Value.okWide Tryd.prog W .any base t v := hval0
  have hW' := hW
  obtain ⟨p, q, hA0, hV, rfl, hfz, hnd⟩ := hW
  have hA : DataW.TrodAll enc Tryd.prog W 0 (fun _ => true) true Tryd.f5.params.toList args.toList ds p := hA0
  rw [Tryd.params5] at hA hval hsz
  obtain ⟨v0, vs0, d0, ds0, p0, q0, hargs, rfl, rfl, h0, r0⟩ := trodAll_cons hA
  obtain ⟨v1, vs1, d1, ds1, p1, q1, hargs1, rfl, rfl, h1, r1⟩ := trodAll_cons r0
  obtain ⟨v2, vs2, d2, ds2, p2, q2, hargs2, rfl, rfl, h2, r2⟩ := trodAll_cons r1
  obtain ⟨rfl, rfl, rfl⟩ := trodAll_nil r2
  obtain rfl : args = #[v0, v1, v2] := by cases args; simp_all
  obtain ⟨rfl, rfl⟩ := trodVars_none hV
  obtain ⟨a0, len0, cap0, rfl⟩ := okWide_slice Tryd.underlying32 (hval 0 32 v0 rfl rfl)
  obtain ⟨a1, len1, cap1, rfl⟩ := okWide_slice Tryd.underlying22 (hval 1 22 v1 rfl rfl)
  obtain ⟨a2, len2, cap2, rfl⟩ := okWide_slice Tryd.underlying33 (hval 2 33 v2 rfl rfl)
  have k0 := h0
  have k1 := h1
  have k2 := h2
  have lt0 : ∀ x ∈ p0, x.block < W.heap.size := by obtain ⟨m, hm⟩ := k0; exact DataW.trod_lt m _ _ _ hm
  have lt1 : ∀ x ∈ p1, x.block < W.heap.size := by obtain ⟨m, hm⟩ := k1; exact DataW.trod_lt m _ _ _ hm
  have lt2 : ∀ x ∈ p2, x.block < W.heap.size := by obtain ⟨m, hm⟩ := k2; exact DataW.trod_lt m _ _ _ hm
  obtain ⟨l0, hlen0, hcap0, hC0⟩ : ∃ l : List S29, l.length = len0 ∧ len0 ≤ cap0 ∧ Kd.C k29 W a0 l.length l := by
    obtain ⟨fuel, hf⟩ := h0
    exact open_opts hf
  subst hlen0
  obtain ⟨l1, hlen1, hcap1, hC1⟩ : ∃ l : List ByteArray, l.length = len1 ∧ len1 ≤ cap1 ∧ Kd.C Kd.string W a1 l.length l := by
    obtain ⟨fuel, hf⟩ := h1
    exact open_strs hf
  subst hlen1
  obtain ⟨l2, hlen2, hcap2, hC2⟩ : ∃ l : List Int, l.length = len2 ∧ len2 ≤ cap2 ∧ Kd.C (Kd.int .u8) W a2 l.length l := by
    obtain ⟨fuel, hf⟩ := h2
    exact open_u8s hf
  subst hlen2
  clear hA0 hval0 hsz0 hsz
  obtain ⟨L0, rfl⟩ := opts_map l0
  obtain ⟨L1, rfl⟩ := strs_map l1
  obtain ⟨L2, rfl⟩ : ∃ L, L = l2 := ⟨_, rfl⟩
  obtain ⟨k, hk⟩ := (Pu.comments_f L0 L1 L2).get
  refine (laws_FnUnitComments.calls k a0 cap0 _ a1 cap1 _ a2 cap2 _ true W (tabs_of hL) hC0 hcap0 hC1 hcap1 hC2 hcap2 hk).mono fun e W' ⟨he, bel⟩ => ?_
  subst he
  exact ⟨_, rfl, _, _, _, [], _, [], hW', trodAll_mk1 (shut_bool Tryd.underlying4 _), (trodAll_cons_mk (Below.trod laidOut (by kernel_rfl) (of_decide_eq_true (by kernel_rfl)) k0 bel lt0) (trodAll_cons_mk (Below.trod laidOut (by kernel_rfl) (of_decide_eq_true (by kernel_rfl)) k1 bel lt1) (trodAll_cons_mk (Below.trod laidOut (by kernel_rfl) (of_decide_eq_true (by kernel_rfl)) k2 bel lt2) trodAll_mk0))), rfl, bel.frame _, fun h => by cases h⟩
theorem said : Rows.FnUnitCommentsSaid :=
  OpenClaim.holds_of_cond 5 Tryd.f5 rfl rfl rfl rfl rfl rfl rfl ⟨rfl, rfl, rfl, rfl, rfl⟩ rfl rfl rfl rfl rfl (by kernel_rfl) Tryd.func5 (by kernel_rfl)
    (of_decide_eq_true (by kernel_rfl)) (by unfold Func.isWrapper; first | (rw [if_pos (by decide +kernel)]; kernel_rfl) | (rw [if_neg (by decide +kernel)]; exact ⟨rfl, rfl⟩))
    (fun os started H enc _ F => by rw [OpenClaim.pre_eq_preRow]; exact lifted os started H enc F)
theorem plain (f : FuncId) (fn : Func) (hf : Tryd.pinned.checked.prog.funcNamed "pub-frontispiece/laws.FnUnitComments" = some f) (hfn : Tryd.pinned.checked.prog.funcs[f]? = some fn) :
    true = Tryd.pinned.checked.prog.looks [] ∧ ∀ (j : Nat) t, fn.params[j]? = some t → Tryd.pinned.checked.prog.wantsStandIn t = false := by
  obtain rfl : f = 5 := Option.some.inj ((show Tryd.prog.funcNamed "pub-frontispiece/laws.FnUnitComments" = some 5 by kernel_rfl).symm.trans hf) |>.symm
  obtain rfl : fn = Tryd.f5 := (Option.some.inj (Tryd.func5.symm.trans hfn)).symm
  refine ⟨by kernel_rfl, fun j t ht => ?_⟩
  rw [Tryd.params5] at ht
  have hm : t = 32 ∨ t = 22 ∨ t = 33 := by simpa using Array.mem_of_getElem? ht
  rcases hm with rfl | rfl | rfl
  · exact (show Tryd.prog.wantsStandIn 32 = false by kernel_rfl)
  · exact (show Tryd.prog.wantsStandIn 22 = false by kernel_rfl)
  · exact (show Tryd.prog.wantsStandIn 33 = false by kernel_rfl)
theorem card : Rows.FnUnitCommentsCardSaid :=
  Claim7.holds_tied_plain_at .later [] _ _ _ _ said (fun _ h => by cases h) (by kernel_rfl) (fun _ h => by cases h) fnUnitComments_row_tie rfl ⟨rfl, rfl⟩ (by kernel_rfl) rfl plain (by kernel_rfl)
#print axioms card
end Go.Proofs.YtocdnceckljnaaaDoor.fnUnitComments
namespace Go.Proofs.YtocdnceckljnaaaDoor
theorem fnUnitComments_card_holds : Rows.FnUnitCommentsCardSaid := fnUnitComments.card
end Go.Proofs.YtocdnceckljnaaaDoor
