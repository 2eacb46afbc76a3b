/- What the cards of units share: options that came in; the world in which the listed variables lie; the tables that are read. Conditions: none. -/
import Derived.Test.YtocdnceckljnaaaDoorUx
import Derived.Test.YtocdnceckljnaaaDoorCards
import Derived.Test.YtocdnceckljnaaaDoorTie
import Derived.WalkKit
import Derived.ProofKit
import Derived.OpenShut
import Derived.SizedLaws
import Derived.SliceStrings
import Derived.Deep.Slices
import Derived.Deep.DeepHandedRow
import Derived.Deep.DeepWitnessRowRef
import Derived.Lib.LaidIn
import Derived.Lib.LaidTab
import Derived.LaidSub
namespace Go.Proofs.YtocdnceckljnaaaDoor.UCk
open Go.ChangeShapes Go.WideShapes Go.ChangeAt Go.RowKit Go.Deep
open Go.Proofs.YtocdnceckljnaaaDoorW.PrintWords Go.Proofs.YtocdnceckljnaaaDoor.U
set_option linter.unusedVariables false
set_option linter.unusedSimpArgs false
theorem own : ownKnob Tryd.prog.godebug = none := by kernel_rfl
theorem laidOut : laidOutB Tryd.prog = true := by kernel_rfl
/-- Plain data as cells. -/
def lit1 : DataW Unit → Value
  | .lit (.int k n) => .int k n
  | _ => .nilIface
def flat1 : DataW Unit → List Value
  | .agg l => l.map lit1
  | _ => []
def flat2 : DataW Unit → List Value
  | .agg l => l.flatMap flat1
  | _ => []
/-- The settled world with two blocks more (the table of white space), the five variables holding what their initialisers lay. -/
noncomputable def laidWorld (os : Os) : World :=
  let N := (World.settled Tryd.prog os).heap.size
  let w0 := World.holding Tryd.prog os ⟨#[.cells #[.slice (some ⟨N + 1, 0, none⟩) 7 7, .slice none 0 0, .int .i64 2] 181, .cells (([9, 13, 1, 32, 133, 101, 160, 5760, 5600, 8192, 8202, 1, 8232, 8233, 1, 8239, 8287, 48, 12288, 12288, 1] : List Int).map fun z => Value.int .u16 z).toArray 184], #[], []⟩
  let put (h : Array Obj) (g : Nat) (cs : Array Value) : Array Obj := h.modify g fun
    | .cells _ t frozen => .cells cs t frozen
    | o => o
  let h0 := put w0.heap 6 #[.pointer (some ⟨N, 0, none⟩)]
  let h1 := put h0 3 (flat1 Rows.laid_unicode_utf8_first).toArray
  let h2 := put h1 4 (flat2 Rows.laid_unicode_utf8_acceptRanges).toArray
  let h3 := put h2 5 (flat1 Rows.laid_bytes_asciiSpace).toArray
  let h4 := put h3 8 (flat1 Rows.laid_strings_asciiSpace).toArray
  { w0 with heap := h4 }
noncomputable abbrev N0 : Nat := (World.settled Tryd.prog default).heap.size
/-- The first bytes' table. -/
def firstTab : List Int := (flat1 Rows.laid_unicode_utf8_first).map fun | .int _ n => n | _ => 0
theorem first_low : ∀ c : Nat, c < 128 → firstTab.getD c 0 = 240 := by
  have h : (List.range 128).all (fun c => firstTab.getD c 0 == 240) = true := by kernel_rfl
  intro c hc
  have := List.all_eq_true.1 h c (List.mem_range.2 hc)
  simpa using this
abbrev units : List (String × DataW Unit) := Rows.fnUnitMatchRow.laid
theorem tabs_of {W : World} (h : laidMetH Tryd.prog units W) : Tabs W := by
  have h1 : laidMetH Tryd.prog [("bytes.asciiSpace", Lib.tabData .u8 Lib.asciiSpaceTab)] W := by
    have := h.filter (fun x => x.1 == "bytes.asciiSpace")
    rw [show units.filter (fun x => x.1 == "bytes.asciiSpace") = [("bytes.asciiSpace", Lib.tabData .u8 Lib.asciiSpaceTab)] by kernel_rfl] at this
    exact this
  have h2 : laidMetH Tryd.prog [("strings.asciiSpace", Lib.tabData .u8 Lib.asciiSpaceTab)] W := by
    have := h.filter (fun x => x.1 == "strings.asciiSpace")
    rw [show units.filter (fun x => x.1 == "strings.asciiSpace") = [("strings.asciiSpace", Lib.tabData .u8 Lib.asciiSpaceTab)] by kernel_rfl] at this
    exact this
  have h3 : laidMetH Tryd.prog [("unicode/utf8.first", Lib.tabData .u8 firstTab)] W := by
    have := h.filter (fun x => x.1 == "unicode/utf8.first")
    rw [show units.filter (fun x => x.1 == "unicode/utf8.first") = [("unicode/utf8.first", Lib.tabData .u8 firstTab)] by kernel_rfl] at this
    exact this
  have t1 : Lib.TabIs Tryd.prog W "bytes.asciiSpace" .u8 Lib.asciiSpaceTab := Lib.tabIs_of_head (t := 154) (e := 5) (n := 256) (rest := []) (g := 5) (by kernel_rfl) (by kernel_rfl) (by kernel_rfl) (by kernel_rfl) (by kernel_rfl) (by kernel_rfl) h1
  have t2 : Lib.TabIs Tryd.prog W "strings.asciiSpace" .u8 Lib.asciiSpaceTab := Lib.tabIs_of_head (t := 154) (e := 5) (n := 256) (rest := []) (g := 8) (by kernel_rfl) (by kernel_rfl) (by kernel_rfl) (by kernel_rfl) (by kernel_rfl) (by kernel_rfl) h2
  have t3 : Lib.TabIs Tryd.prog W "unicode/utf8.first" .u8 firstTab := Lib.tabIs_of_head (t := 154) (e := 5) (n := 256) (rest := []) (g := 3) (by kernel_rfl) (by kernel_rfl) (by kernel_rfl) (by kernel_rfl) (by kernel_rfl) (by kernel_rfl) h3
  refine ⟨fun c hc => ?_, t1, t2⟩
  have hl : firstTab.length = 256 := by kernel_rfl
  have := t3.cell (show Tryd.prog.globalNamed "unicode/utf8.first" = some 3 by kernel_rfl) c (by rw [hl]; omega)
  rw [first_low c hc] at this
  exact this
set_option maxRecDepth 100000 in
/-- An option that came in. -/
theorem open_opt {H : Type} {enc : TypeId × Value → H} {W : World} {base : Nat} {spare : Nat → Bool} {held : Bool} {n : Nat} {cs : List Value} {y : DataW H × List MemPlace} (hl : cs.length = 3)
    (h : DataW.trod enc Tryd.prog W base spare held n 29 cs = some y) : ∃ s0 s1 s2 : ByteArray, cs = [.string s0, .string s1, .string s2] := by
  obtain ⟨xs, k, _, _, _, hxl, hf⟩ := DataW.trod_struct Tryd.underlying29 h
  match cs, hl with
  | [c0, c1, c2], _ =>
    have hxl' : xs.length = 3 := hxl
    match xs, hxl' with
    | [y0, y1, y2], _ =>
      have k9 : Tryd.prog.cellsOf 9 = 1 := by kernel_rfl
      have g0 := hf 0 _ rfl
      have g1 := hf 1 _ rfl
      have g2 := hf 2 _ rfl
      simp [k9] at g0 g1 g2
      obtain ⟨s0, e0, _⟩ := DataW.trod_string Tryd.underlying9 g0
      obtain ⟨s1, e1, _⟩ := DataW.trod_string Tryd.underlying9 g1
      obtain ⟨s2, e2, _⟩ := DataW.trod_string Tryd.underlying9 g2
      simp at e0 e1 e2
      subst e0 e1 e2
      exact ⟨s0, s1, s2, rfl⟩
theorem B_of (T : ByteArray) : T = B T.data.toList := by cases T; rfl
theorem opt_of (s0 s1 s2 : ByteArray) : (#[.string s0, .string s1, .string s2] : Array Value) = cellsOf (s0.data.toList, s1.data.toList, s2.data.toList) := by
  unfold cellsOf
  rw [← B_of, ← B_of, ← B_of]
theorem open_opt' {H : Type} {enc : TypeId × Value → H} {W : World} {base : Nat} {spare : Nat → Bool} {held : Bool} {fuel : Nat} {cs : Array Value} {x : DataW H × List MemPlace}
    (hf : DataW.trod enc Tryd.prog W base spare held fuel 29 (Value.agg cs).cells.toList = some x) : ∃ a : Op3, cs = cellsOf a := by
  obtain ⟨cs⟩ := cs
  have hf' : DataW.trod enc Tryd.prog W base spare held fuel 29 cs = some x := hf
  obtain ⟨xs, k, _, _, hlen, hxl, hg⟩ := DataW.trod_struct Tryd.underlying29 hf'
  obtain ⟨s0, s1, s2, rfl⟩ := open_opt (hlen.trans (by kernel_rfl)) hf'
  exact ⟨_, opt_of s0 s1 s2⟩
end Go.Proofs.YtocdnceckljnaaaDoor.UCk
