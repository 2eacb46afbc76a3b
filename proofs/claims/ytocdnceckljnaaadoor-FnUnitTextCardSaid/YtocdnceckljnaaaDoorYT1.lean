/- The texts UCk, UCl, QV0x6, QV0x7, QV0x8, QV0x9, QV0x10, Pa, Pb, Pc, Pd, Pe, without what the claims do not use, laid together by a program of this session (wip/tools/bundle.py). Conditions: those of each theorem. -/
import Derived.Test.YtocdnceckljnaaaDoorYc5
import Derived.Test.YtocdnceckljnaaaDoorCards
import Derived.Test.YtocdnceckljnaaaDoorTie
import Derived.WalkKit
import Derived.ProofKit
import Derived.OpenShut
import Derived.SizedLaws
import Derived.SliceStrings
import Derived.Deep.Slices
import Derived.Deep.DeepHandedRow
import Derived.Deep.DeepWitnessRowRef
import Derived.Lib.LaidIn
import Derived.Lib.LaidTab
import Derived.LaidSub
namespace Go.Proofs.YtocdnceckljnaaaDoor.UCk
open Go.ChangeShapes Go.WideShapes Go.ChangeAt Go.RowKit Go.Deep
open Go.Proofs.YtocdnceckljnaaaDoorW.PrintWords Go.Proofs.YtocdnceckljnaaaDoor.U
set_option linter.unusedVariables false
set_option linter.unusedSimpArgs false
theorem own : ownKnob Tryd.prog.godebug = none := by kernel_rfl
theorem laidOut : laidOutB Tryd.prog = true := by kernel_rfl
def lit1 : DataW Unit → Value
  | .lit (.int k n) => .int k n
  | _ => .nilIface
def flat1 : DataW Unit → List Value
  | .agg l => l.map lit1
  | _ => []
def flat2 : DataW Unit → List Value
  | .agg l => l.flatMap flat1
  | _ => []
noncomputable def laidWorld (os : Os) : World :=
  let N := (World.settled Tryd.prog os).heap.size
  let w0 := World.holding Tryd.prog os ⟨#[.cells #[.slice (some ⟨N + 1, 0, none⟩) 7 7, .slice none 0 0, .int .i64 2] 181, .cells (([9, 13, 1, 32, 133, 101, 160, 5760, 5600, 8192, 8202, 1, 8232, 8233, 1, 8239, 8287, 48, 12288, 12288, 1] : List Int).map fun z => Value.int .u16 z).toArray 184], #[], []⟩
  let put (h : Array Obj) (g : Nat) (cs : Array Value) : Array Obj := h.modify g fun
    | .cells _ t frozen => .cells cs t frozen
    | o => o
  let h0 := put w0.heap 6 #[.pointer (some ⟨N, 0, none⟩)]
  let h1 := put h0 3 (flat1 Rows.laid_unicode_utf8_first).toArray
  let h2 := put h1 4 (flat2 Rows.laid_unicode_utf8_acceptRanges).toArray
  let h3 := put h2 5 (flat1 Rows.laid_bytes_asciiSpace).toArray
  let h4 := put h3 8 (flat1 Rows.laid_strings_asciiSpace).toArray
  { w0 with heap := h4 }
noncomputable abbrev N0 : Nat := (World.settled Tryd.prog default).heap.size
def firstTab : List Int := (flat1 Rows.laid_unicode_utf8_first).map fun | .int _ n => n | _ => 0
theorem first_low : ∀ c : Nat, c < 128 → firstTab.getD c 0 = 240 := by
  have h : (List.range 128).all (fun c => firstTab.getD c 0 == 240) = true := by kernel_rfl
  intro c hc
  have := List.all_eq_true.1 h c (List.mem_range.2 hc)
  simpa using this
abbrev units : List (String × DataW Unit) := Rows.fnUnitMatchRow.laid
theorem tabs_of {W : World} (h : laidMetH Tryd.prog units W) : Tabs W := by
  have h1 : laidMetH Tryd.prog [("bytes.asciiSpace", Lib.tabData .u8 Lib.asciiSpaceTab)] W := by
    have := h.filter (fun x => x.1 == "bytes.asciiSpace")
    rw [show units.filter (fun x => x.1 == "bytes.asciiSpace") = [("bytes.asciiSpace", Lib.tabData .u8 Lib.asciiSpaceTab)] by kernel_rfl] at this
    exact this
  have h2 : laidMetH Tryd.prog [("strings.asciiSpace", Lib.tabData .u8 Lib.asciiSpaceTab)] W := by
    have := h.filter (fun x => x.1 == "strings.asciiSpace")
    rw [show units.filter (fun x => x.1 == "strings.asciiSpace") = [("strings.asciiSpace", Lib.tabData .u8 Lib.asciiSpaceTab)] by kernel_rfl] at this
    exact this
  have h3 : laidMetH Tryd.prog [("unicode/utf8.first", Lib.tabData .u8 firstTab)] W := by
    have := h.filter (fun x => x.1 == "unicode/utf8.first")
    rw [show units.filter (fun x => x.1 == "unicode/utf8.first") = [("unicode/utf8.first", Lib.tabData .u8 firstTab)] by kernel_rfl] at this
    exact this
  have t1 : Lib.TabIs Tryd.prog W "bytes.asciiSpace" .u8 Lib.asciiSpaceTab := Lib.tabIs_of_head (t := 154) (e := 5) (n := 256) (rest := []) (g := 5) (by kernel_rfl) (by kernel_rfl) (by kernel_rfl) (by kernel_rfl) (by kernel_rfl) (by kernel_rfl) h1
  have t2 : Lib.TabIs Tryd.prog W "strings.asciiSpace" .u8 Lib.asciiSpaceTab := Lib.tabIs_of_head (t := 154) (e := 5) (n := 256) (rest := []) (g := 8) (by kernel_rfl) (by kernel_rfl) (by kernel_rfl) (by kernel_rfl) (by kernel_rfl) (by kernel_rfl) h2
  have t3 : Lib.TabIs Tryd.prog W "unicode/utf8.first" .u8 firstTab := Lib.tabIs_of_head (t := 154) (e := 5) (n := 256) (rest := []) (g := 3) (by kernel_rfl) (by kernel_rfl) (by kernel_rfl) (by kernel_rfl) (by kernel_rfl) (by kernel_rfl) h3
  refine ⟨fun c hc => ?_, t1, t2⟩
  have hl : firstTab.length = 256 := by kernel_rfl
  have := t3.cell (show Tryd.prog.globalNamed "unicode/utf8.first" = some 3 by kernel_rfl) c (by rw [hl]; omega)
  rw [first_low c hc] at this
  exact this
set_option maxRecDepth 100000 in
theorem open_opt {H : Type} {enc : TypeId × Value → H} {W : World} {base : Nat} {spare : Nat → Bool} {held : Bool} {n : Nat} {cs : List Value} {y : DataW H × List MemPlace} (hl : cs.length = 3)
    (h : DataW.trod enc Tryd.prog W base spare held n 29 cs = some y) : ∃ s0 s1 s2 : ByteArray, cs = [.string s0, .string s1, .string s2] := by
  obtain ⟨xs, k, _, _, _, hxl, hf⟩ := DataW.trod_struct Tryd.underlying29 h
  match cs, hl with
  | [c0, c1, c2], _ =>
    have hxl' : xs.length = 3 := hxl
    match xs, hxl' with
    | [y0, y1, y2], _ =>
      have k9 : Tryd.prog.cellsOf 9 = 1 := by kernel_rfl
      have g0 := hf 0 _ rfl
      have g1 := hf 1 _ rfl
      have g2 := hf 2 _ rfl
      simp [k9] at g0 g1 g2
      obtain ⟨s0, e0, _⟩ := DataW.trod_string Tryd.underlying9 g0
      obtain ⟨s1, e1, _⟩ := DataW.trod_string Tryd.underlying9 g1
      obtain ⟨s2, e2, _⟩ := DataW.trod_string Tryd.underlying9 g2
      simp at e0 e1 e2
      subst e0 e1 e2
      exact ⟨s0, s1, s2, rfl⟩
end Go.Proofs.YtocdnceckljnaaaDoor.UCk
namespace Go.Proofs.YtocdnceckljnaaaDoor.UCk
open Go.ChangeShapes Go.WideShapes Go.ChangeAt Go.RowKit Go.Deep
open Go.Proofs.YtocdnceckljnaaaDoorW.PrintWords Go.Proofs.YtocdnceckljnaaaDoor.QV0
open Go.Proofs.YtocdnceckljnaaaDoor.U (Bs B Op3')
set_option linter.unusedVariables false
set_option linter.unusedSimpArgs false
theorem choose_lt' {α : Type} [Inhabited α] {n : Nat} {p : Nat → α → Prop} (h : ∀ i, i < n → ∃ q, p i q) : ∃ f : Nat → α, ∀ i, i < n → p i (f i) :=
  ⟨fun i => if hi : i < n then (h i hi).choose else default, fun i hi => by simp only [dif_pos hi]; exact (h i hi).choose_spec⟩
instance : Inhabited S29 := ⟨z29⟩
theorem open_opts {H : Type} {enc : TypeId × Value → H} {W : World} {base : Nat} {a : Option Addr} {len cap : Nat} {fuel : Nat} {x : DataW H × List MemPlace} {spare : Nat → Bool} {held : Bool}
    (hf : DataW.trod enc Tryd.prog W base spare held fuel 32 [.slice a len cap] = some x) : ∃ l : List S29, l.length = len ∧ len ≤ cap ∧ Kd.C k29 W a l.length l := by
  rcases open_slice Tryd.underlying32 hf with ⟨hcs, _⟩ | ⟨ad, l', c', m, n, D, Pl, hcs, _, hl, hm, hmm, _, hx⟩
  · simp at hcs
    obtain ⟨rfl, rfl, rfl⟩ := hcs
    exact ⟨[], rfl, Nat.le_refl _, rfl, by decide, fun h => absurd h (by decide)⟩
  · simp at hcs
    obtain ⟨rfl, rfl, rfl⟩ := hcs
    have hle : len ≤ m := by rw [hmm]; split <;> omega
    have k29c : Tryd.prog.cellsOf 29 = 3 := by kernel_rfl
    have each : ∀ i, i < m → ∃ q : S29, ∀ j u, [Value.string q.f0, .string q.f1, .string q.f2][j]? = some u → W.cell? (ad.add (i * 3 + j)) = some u := by
      intro i hi
      obtain ⟨cs', h1, h2⟩ := hx i hi
      rw [k29c] at h1
      obtain ⟨_, hlen, hcell⟩ := World.cells?_some h1
      obtain ⟨s0, s1, s2, rfl⟩ := open_opt hlen h2
      refine ⟨⟨s0, s1, s2⟩, fun j u hu => ?_⟩
      have hj : j < 3 := (List.getElem?_eq_some_iff.1 hu).1
      have := hcell j hj
      rw [Deep.add_add] at this
      rw [this, hu]
    obtain ⟨q, hq⟩ := choose_lt' each
    refine ⟨(List.range len).map q, by simp, hl, by simp, by simp only [List.length_map, List.length_range]; unfold maxLen at hm; omega, fun _ => ⟨ad, rfl, fun j p hj => ?_⟩⟩
    have hj' : j < len := by
      have := (List.getElem?_eq_some_iff.1 hj).1
      simpa using this
    rw [List.getElem?_map, List.getElem?_range hj'] at hj
    obtain rfl := Option.some.inj hj
    exact ⟨_, rfl, k29_mk W (q j), fun i u hu => hq j (by omega) i u hu⟩
theorem opts_map (l : List S29) : ∃ L : List Op3', l = L.map ofOp := by
  refine ⟨l.map opOf, ?_⟩
  rw [List.map_map]
  conv => lhs; rw [← List.map_id l]
  exact List.map_congr_left fun x _ => (ofOp_opOf x).symm
end Go.Proofs.YtocdnceckljnaaaDoor.UCk
namespace Go.Proofs.YtocdnceckljnaaaDoor.QV0
open Go.RowKit Go.Proofs.YtocdnceckljnaaaDoorW.PrintWords Go.Proofs.YtocdnceckljnaaaDoorW.PrintLast Go.Proofs.YtocdnceckljnaaaDoorW.PrintMore
attribute [local go_sem] max2_int min2_int max_two min_two max_three min_three max_four min_four
set_option linter.unusedVariables false
set_option linter.unusedSimpArgs false
def spec_sectionName.l0 : Nat → ByteArray → Int → Int → Option (Bool)
 | 0, _, _, _ => none
 | k + 1, x0, x5, x6 => if x6 < x5 then (if 0 ≤ x6 then (if x6 < (x0.size : Int) then (if (bt x0 x6) ≤ 32 then (some false) else (if (bt x0 x6) ≥ 127 then (some false) else (if (bt x0 x6) = 91 then (some false) else (if (bt x0 x6) = 93 then (some false) else (spec_sectionName.l0 k x0 x5 (wrap64 (x6 + 1))))))) else (none)) else (none)) else (some (x0.toList != ([] : List UInt8)))
def spec_sectionName.f (k : Nat) (a0 : ByteArray) : Option (Bool) := spec_sectionName.l0 k a0 (a0.size : Int) 0
set_option maxHeartbeats 8000000 in
set_option maxRecDepth 100000 in
theorem spec_sectionName.calls (k : Nat) (a0 : ByteArray) (r : Bool) (w : World) (h : spec_sectionName.f k a0 = some r) :
 Calls Tryd.prog 55 #[.string a0] w fun e w' => e = .returned (.bool r) ∧ Drawn0 w w' := by
 have H : (spec_sectionName.l0 k a0 (a0.size : Int) 0) = some r := h
 clear h
 have H' := Aside0.mk H
 clear H
 go_enter Tryd.func55, Tryd.ntmps55
 go_wp2
 go_loopg [6] k (fun kq v6 w' => ∃ (x6_1 : Int), v6 = .int .i64 x6_1 ∧ Aside0 (spec_sectionName.l0 kq a0 (a0.size : Int) x6_1 = some r) ∧ Aside0 (kq ≤ k) ∧ Drawn0 w w')
 case atStart => exact ⟨(0), (by first | rfl | (simp; done) | (simp [*]; done)), H', ⟨Nat.le_refl _⟩, by repeat (first | exact Drawn0.refl _ | apply Drawn0.step)⟩
 case round =>
  clear H'
  obtain ⟨x6_1, rfl, HA, HK1, ⟨m1, rfl⟩⟩ := hrel
  cases gk with
  | zero => exact absurd HA.out (by simp [spec_sectionName.l0])
  | succ k1 =>
   have H := HA.out
   clear HA
   simp only [spec_sectionName.l0] at H
   by_cases c2 : x6_1 < (a0.size : Int)
   · rw [if_pos c2] at H
     have c2b0 : decide (x6_1 < (a0.size : Int)) = true := decide_eq_true c2
     clear c2
     by_cases c3 : 0 ≤ x6_1
     · rw [if_pos c3] at H
       have c3b0 : decide (0 ≤ x6_1) = true := decide_eq_true c3
       clear c3
       by_cases c4 : x6_1 < (a0.size : Int)
       · rw [if_pos c4] at H
         have c4b0 : decide (x6_1 < (a0.size : Int)) = true := decide_eq_true c4
         clear c4
         by_cases c6 : (bt a0 x6_1) ≤ 32
         · rw [if_pos c6] at H
           have c6b0 : decide ((bt a0 x6_1) ≤ 32) = true := decide_eq_true c6
           clear c6
           obtain rfl := Option.some.inj H
           have p5 : 0 ≤ (x6_1 : Int) := of_decide_eq_true (by first | (with_reducible assumption) | assumption)
           have q5 : x6_1 < (a0.size : Int) := of_decide_eq_true (by first | (with_reducible assumption) | assumption)
           have hx5 := bt_at a0 x6_1
           replace p5 := eq_true p5
           replace q5 := eq_true q5
           go_wp2
           go_ret
           exact ⟨by first | rfl | (simp; done) | (simp [*]; done) | (simp; cases a0.toList <;> rfl), by repeat (first | exact Drawn0.refl _ | apply Drawn0.step)⟩
         · rw [if_neg c6] at H
           have c6b0 : decide ((bt a0 x6_1) ≤ 32) = false := decide_eq_false c6
           clear c6
           by_cases c8 : (bt a0 x6_1) ≥ 127
           · rw [if_pos c8] at H
             have c8b0 : decide (127 ≤ (bt a0 x6_1)) = true := decide_eq_true c8
             clear c8
             obtain rfl := Option.some.inj H
             have p5 : 0 ≤ (x6_1 : Int) := of_decide_eq_true (by first | (with_reducible assumption) | assumption)
             have q5 : x6_1 < (a0.size : Int) := of_decide_eq_true (by first | (with_reducible assumption) | assumption)
             have hx5 := bt_at a0 x6_1
             replace p5 := eq_true p5
             replace q5 := eq_true q5
             have p7 : 0 ≤ (x6_1 : Int) := of_decide_eq_true (by first | (with_reducible assumption) | assumption)
             have q7 : x6_1 < (a0.size : Int) := of_decide_eq_true (by first | (with_reducible assumption) | assumption)
             have hx7 := bt_at a0 x6_1
             replace p7 := eq_true p7
             replace q7 := eq_true q7
             go_wp2
             go_ret
             exact ⟨by first | rfl | (simp; done) | (simp [*]; done) | (simp; cases a0.toList <;> rfl), by repeat (first | exact Drawn0.refl _ | apply Drawn0.step)⟩
           · rw [if_neg c8] at H
             have c8b0 : decide (127 ≤ (bt a0 x6_1)) = false := decide_eq_false c8
             clear c8
             by_cases c10 : (bt a0 x6_1) = 91
             · rw [if_pos c10] at H
               have c10b0 : ((bt a0 x6_1) == 91) = true := beq_iff_eq.mpr c10
               have c10b1 : ((bt a0 x6_1) != 91) = false := bne_eq_false_iff_eq.mpr c10
               clear c10
               obtain rfl := Option.some.inj H
               have p5 : 0 ≤ (x6_1 : Int) := of_decide_eq_true (by first | (with_reducible assumption) | assumption)
               have q5 : x6_1 < (a0.size : Int) := of_decide_eq_true (by first | (with_reducible assumption) | assumption)
               have hx5 := bt_at a0 x6_1
               replace p5 := eq_true p5
               replace q5 := eq_true q5
               have p7 : 0 ≤ (x6_1 : Int) := of_decide_eq_true (by first | (with_reducible assumption) | assumption)
               have q7 : x6_1 < (a0.size : Int) := of_decide_eq_true (by first | (with_reducible assumption) | assumption)
               have hx7 := bt_at a0 x6_1
               replace p7 := eq_true p7
               replace q7 := eq_true q7
               have p9 : 0 ≤ (x6_1 : Int) := of_decide_eq_true (by first | (with_reducible assumption) | assumption)
               have q9 : x6_1 < (a0.size : Int) := of_decide_eq_true (by first | (with_reducible assumption) | assumption)
               have hx9 := bt_at a0 x6_1
               replace p9 := eq_true p9
               replace q9 := eq_true q9
               go_wp2
               go_ret
               exact ⟨by first | rfl | (simp; done) | (simp [*]; done) | (simp; cases a0.toList <;> rfl), by repeat (first | exact Drawn0.refl _ | apply Drawn0.step)⟩
             · rw [if_neg c10] at H
               have c10b0 : ((bt a0 x6_1) == 91) = false := beq_eq_false_iff_ne.mpr c10
               have c10b1 : ((bt a0 x6_1) != 91) = true := bne_iff_ne.mpr c10
               by_cases c12 : (bt a0 x6_1) = 93
               · rw [if_pos c12] at H
                 have c12b0 : ((bt a0 x6_1) == 93) = true := beq_iff_eq.mpr c12
                 have c12b1 : ((bt a0 x6_1) != 93) = false := bne_eq_false_iff_eq.mpr c12
                 clear c12
                 obtain rfl := Option.some.inj H
                 have p5 : 0 ≤ (x6_1 : Int) := of_decide_eq_true (by first | (with_reducible assumption) | assumption)
                 have q5 : x6_1 < (a0.size : Int) := of_decide_eq_true (by first | (with_reducible assumption) | assumption)
                 have hx5 := bt_at a0 x6_1
                 replace p5 := eq_true p5
                 replace q5 := eq_true q5
                 have p7 : 0 ≤ (x6_1 : Int) := of_decide_eq_true (by first | (with_reducible assumption) | assumption)
                 have q7 : x6_1 < (a0.size : Int) := of_decide_eq_true (by first | (with_reducible assumption) | assumption)
                 have hx7 := bt_at a0 x6_1
                 replace p7 := eq_true p7
                 replace q7 := eq_true q7
                 have p9 : 0 ≤ (x6_1 : Int) := of_decide_eq_true (by first | (with_reducible assumption) | assumption)
                 have q9 : x6_1 < (a0.size : Int) := of_decide_eq_true (by first | (with_reducible assumption) | assumption)
                 have hx9 := bt_at a0 x6_1
                 replace p9 := eq_true p9
                 replace q9 := eq_true q9
                 have p11 : 0 ≤ (x6_1 : Int) := of_decide_eq_true (by first | (with_reducible assumption) | assumption)
                 have q11 : x6_1 < (a0.size : Int) := of_decide_eq_true (by first | (with_reducible assumption) | assumption)
                 have hx11 := bt_at a0 x6_1
                 replace p11 := eq_true p11
                 replace q11 := eq_true q11
                 go_wp2
                 go_ret
                 exact ⟨by first | rfl | (simp; done) | (simp [*]; done) | (simp; cases a0.toList <;> rfl), by repeat (first | exact Drawn0.refl _ | apply Drawn0.step)⟩
               · rw [if_neg c12] at H
                 have c12b0 : ((bt a0 x6_1) == 93) = false := beq_eq_false_iff_ne.mpr c12
                 have c12b1 : ((bt a0 x6_1) != 93) = true := bne_iff_ne.mpr c12
                 have H' := Aside0.mk H
                 clear H
                 have p5 : 0 ≤ (x6_1 : Int) := of_decide_eq_true (by first | (with_reducible assumption) | assumption)
                 have q5 : x6_1 < (a0.size : Int) := of_decide_eq_true (by first | (with_reducible assumption) | assumption)
                 have hx5 := bt_at a0 x6_1
                 replace p5 := eq_true p5
                 replace q5 := eq_true q5
                 have p7 : 0 ≤ (x6_1 : Int) := of_decide_eq_true (by first | (with_reducible assumption) | assumption)
                 have q7 : x6_1 < (a0.size : Int) := of_decide_eq_true (by first | (with_reducible assumption) | assumption)
                 have hx7 := bt_at a0 x6_1
                 replace p7 := eq_true p7
                 replace q7 := eq_true q7
                 have p9 : 0 ≤ (x6_1 : Int) := of_decide_eq_true (by first | (with_reducible assumption) | assumption)
                 have q9 : x6_1 < (a0.size : Int) := of_decide_eq_true (by first | (with_reducible assumption) | assumption)
                 have hx9 := bt_at a0 x6_1
                 replace p9 := eq_true p9
                 replace q9 := eq_true q9
                 have p11 : 0 ≤ (x6_1 : Int) := of_decide_eq_true (by first | (with_reducible assumption) | assumption)
                 have q11 : x6_1 < (a0.size : Int) := of_decide_eq_true (by first | (with_reducible assumption) | assumption)
                 have hx11 := bt_at a0 x6_1
                 replace p11 := eq_true p11
                 replace q11 := eq_true q11
                 go_wp2
                 go_roundg k1
                 case measure => have := HK1.out; omega
                 case rel => exact ⟨(wrap64 (x6_1 + 1)), (by first | rfl | (simp; done) | (simp [*]; done)), H', ⟨by have := HK1.out; omega⟩, by repeat (first | exact Drawn0.refl _ | apply Drawn0.step)⟩
       · rw [if_neg c4] at H
         exact absurd H (by simp)
     · rw [if_neg c3] at H
       exact absurd H (by simp)
   · rw [if_neg c2] at H
     have c2b0 : decide (x6_1 < (a0.size : Int)) = false := decide_eq_false c2
     clear c2
     obtain rfl := Option.some.inj H
     go_wp2
     go_ret
     exact ⟨by first | rfl | (simp; done) | (simp [*]; done) | (simp; cases a0.toList <;> rfl), by repeat (first | exact Drawn0.refl _ | apply Drawn0.step)⟩
def spec_optionName.l0 : Nat → ByteArray → Int → Int → Option (Bool)
 | 0, _, _, _ => none
 | k + 1, x0, x5, x6 => if x6 < x5 then (if 0 ≤ x6 then (if x6 < (x0.size : Int) then (if (bt x0 x6) ≤ 32 then (some false) else (if (bt x0 x6) ≥ 127 then (some false) else (if (bt x0 x6) = 61 then (some false) else (if (bt x0 x6) = 92 then (some false) else (spec_optionName.l0 k x0 x5 (wrap64 (x6 + 1))))))) else (none)) else (none)) else (if x0.toList = ([] : List UInt8) then (some false) else (if 0 < (x0.size : Int) then (if (bt x0 0) = 35 then (some false) else (if (bt x0 0) = 59 then (some false) else (some ((bt x0 0) != 91)))) else (none)))
def spec_optionName.f (k : Nat) (a0 : ByteArray) : Option (Bool) := spec_optionName.l0 k a0 (a0.size : Int) 0
set_option maxHeartbeats 8000000 in
set_option maxRecDepth 100000 in
theorem spec_optionName.calls (k : Nat) (a0 : ByteArray) (r : Bool) (w : World) (h : spec_optionName.f k a0 = some r) :
 Calls Tryd.prog 56 #[.string a0] w fun e w' => e = .returned (.bool r) ∧ Drawn0 w w' := by
 have H : (spec_optionName.l0 k a0 (a0.size : Int) 0) = some r := h
 clear h
 have H' := Aside0.mk H
 clear H
 go_enter Tryd.func56, Tryd.ntmps56
 go_wp2
 go_loopg [6] k (fun kq v6 w' => ∃ (x6_1 : Int), v6 = .int .i64 x6_1 ∧ Aside0 (spec_optionName.l0 kq a0 (a0.size : Int) x6_1 = some r) ∧ Aside0 (kq ≤ k) ∧ Drawn0 w w')
 case atStart => exact ⟨(0), (by first | rfl | (simp; done) | (simp [*]; done)), H', ⟨Nat.le_refl _⟩, by repeat (first | exact Drawn0.refl _ | apply Drawn0.step)⟩
 case round =>
  clear H'
  obtain ⟨x6_1, rfl, HA, HK1, ⟨m1, rfl⟩⟩ := hrel
  cases gk with
  | zero => exact absurd HA.out (by simp [spec_optionName.l0])
  | succ k1 =>
   have H := HA.out
   clear HA
   simp only [spec_optionName.l0] at H
   by_cases c2 : x6_1 < (a0.size : Int)
   · rw [if_pos c2] at H
     have c2b0 : decide (x6_1 < (a0.size : Int)) = true := decide_eq_true c2
     clear c2
     by_cases c3 : 0 ≤ x6_1
     · rw [if_pos c3] at H
       have c3b0 : decide (0 ≤ x6_1) = true := decide_eq_true c3
       clear c3
       by_cases c4 : x6_1 < (a0.size : Int)
       · rw [if_pos c4] at H
         have c4b0 : decide (x6_1 < (a0.size : Int)) = true := decide_eq_true c4
         clear c4
         by_cases c6 : (bt a0 x6_1) ≤ 32
         · rw [if_pos c6] at H
           have c6b0 : decide ((bt a0 x6_1) ≤ 32) = true := decide_eq_true c6
           clear c6
           obtain rfl := Option.some.inj H
           have p5 : 0 ≤ (x6_1 : Int) := of_decide_eq_true (by first | (with_reducible assumption) | assumption)
           have q5 : x6_1 < (a0.size : Int) := of_decide_eq_true (by first | (with_reducible assumption) | assumption)
           have hx5 := bt_at a0 x6_1
           replace p5 := eq_true p5
           replace q5 := eq_true q5
           go_wp2
           go_ret
           exact ⟨by first | rfl | (simp; done) | (simp [*]; done) | (simp; cases a0.toList <;> rfl), by repeat (first | exact Drawn0.refl _ | apply Drawn0.step)⟩
         · rw [if_neg c6] at H
           have c6b0 : decide ((bt a0 x6_1) ≤ 32) = false := decide_eq_false c6
           clear c6
           by_cases c8 : (bt a0 x6_1) ≥ 127
           · rw [if_pos c8] at H
             have c8b0 : decide (127 ≤ (bt a0 x6_1)) = true := decide_eq_true c8
             clear c8
             obtain rfl := Option.some.inj H
             have p5 : 0 ≤ (x6_1 : Int) := of_decide_eq_true (by first | (with_reducible assumption) | assumption)
             have q5 : x6_1 < (a0.size : Int) := of_decide_eq_true (by first | (with_reducible assumption) | assumption)
             have hx5 := bt_at a0 x6_1
             replace p5 := eq_true p5
             replace q5 := eq_true q5
             have p7 : 0 ≤ (x6_1 : Int) := of_decide_eq_true (by first | (with_reducible assumption) | assumption)
             have q7 : x6_1 < (a0.size : Int) := of_decide_eq_true (by first | (with_reducible assumption) | assumption)
             have hx7 := bt_at a0 x6_1
             replace p7 := eq_true p7
             replace q7 := eq_true q7
             go_wp2
             go_ret
             exact ⟨by first | rfl | (simp; done) | (simp [*]; done) | (simp; cases a0.toList <;> rfl), by repeat (first | exact Drawn0.refl _ | apply Drawn0.step)⟩
           · rw [if_neg c8] at H
             have c8b0 : decide (127 ≤ (bt a0 x6_1)) = false := decide_eq_false c8
             clear c8
             by_cases c10 : (bt a0 x6_1) = 61
             · rw [if_pos c10] at H
               have c10b0 : ((bt a0 x6_1) == 61) = true := beq_iff_eq.mpr c10
               have c10b1 : ((bt a0 x6_1) != 61) = false := bne_eq_false_iff_eq.mpr c10
               clear c10
               obtain rfl := Option.some.inj H
               have p5 : 0 ≤ (x6_1 : Int) := of_decide_eq_true (by first | (with_reducible assumption) | assumption)
               have q5 : x6_1 < (a0.size : Int) := of_decide_eq_true (by first | (with_reducible assumption) | assumption)
               have hx5 := bt_at a0 x6_1
               replace p5 := eq_true p5
               replace q5 := eq_true q5
               have p7 : 0 ≤ (x6_1 : Int) := of_decide_eq_true (by first | (with_reducible assumption) | assumption)
               have q7 : x6_1 < (a0.size : Int) := of_decide_eq_true (by first | (with_reducible assumption) | assumption)
               have hx7 := bt_at a0 x6_1
               replace p7 := eq_true p7
               replace q7 := eq_true q7
               have p9 : 0 ≤ (x6_1 : Int) := of_decide_eq_true (by first | (with_reducible assumption) | assumption)
               have q9 : x6_1 < (a0.size : Int) := of_decide_eq_true (by first | (with_reducible assumption) | assumption)
               have hx9 := bt_at a0 x6_1
               replace p9 := eq_true p9
               replace q9 := eq_true q9
               go_wp2
               go_ret
               exact ⟨by first | rfl | (simp; done) | (simp [*]; done) | (simp; cases a0.toList <;> rfl), by repeat (first | exact Drawn0.refl _ | apply Drawn0.step)⟩
             · rw [if_neg c10] at H
               have c10b0 : ((bt a0 x6_1) == 61) = false := beq_eq_false_iff_ne.mpr c10
               have c10b1 : ((bt a0 x6_1) != 61) = true := bne_iff_ne.mpr c10
               by_cases c12 : (bt a0 x6_1) = 92
               · rw [if_pos c12] at H
                 have c12b0 : ((bt a0 x6_1) == 92) = true := beq_iff_eq.mpr c12
                 have c12b1 : ((bt a0 x6_1) != 92) = false := bne_eq_false_iff_eq.mpr c12
                 clear c12
                 obtain rfl := Option.some.inj H
                 have p5 : 0 ≤ (x6_1 : Int) := of_decide_eq_true (by first | (with_reducible assumption) | assumption)
                 have q5 : x6_1 < (a0.size : Int) := of_decide_eq_true (by first | (with_reducible assumption) | assumption)
                 have hx5 := bt_at a0 x6_1
                 replace p5 := eq_true p5
                 replace q5 := eq_true q5
                 have p7 : 0 ≤ (x6_1 : Int) := of_decide_eq_true (by first | (with_reducible assumption) | assumption)
                 have q7 : x6_1 < (a0.size : Int) := of_decide_eq_true (by first | (with_reducible assumption) | assumption)
                 have hx7 := bt_at a0 x6_1
                 replace p7 := eq_true p7
                 replace q7 := eq_true q7
                 have p9 : 0 ≤ (x6_1 : Int) := of_decide_eq_true (by first | (with_reducible assumption) | assumption)
                 have q9 : x6_1 < (a0.size : Int) := of_decide_eq_true (by first | (with_reducible assumption) | assumption)
                 have hx9 := bt_at a0 x6_1
                 replace p9 := eq_true p9
                 replace q9 := eq_true q9
                 have p11 : 0 ≤ (x6_1 : Int) := of_decide_eq_true (by first | (with_reducible assumption) | assumption)
                 have q11 : x6_1 < (a0.size : Int) := of_decide_eq_true (by first | (with_reducible assumption) | assumption)
                 have hx11 := bt_at a0 x6_1
                 replace p11 := eq_true p11
                 replace q11 := eq_true q11
                 go_wp2
                 go_ret
                 exact ⟨by first | rfl | (simp; done) | (simp [*]; done) | (simp; cases a0.toList <;> rfl), by repeat (first | exact Drawn0.refl _ | apply Drawn0.step)⟩
               · rw [if_neg c12] at H
                 have c12b0 : ((bt a0 x6_1) == 92) = false := beq_eq_false_iff_ne.mpr c12
                 have c12b1 : ((bt a0 x6_1) != 92) = true := bne_iff_ne.mpr c12
                 have H' := Aside0.mk H
                 clear H
                 have p5 : 0 ≤ (x6_1 : Int) := of_decide_eq_true (by first | (with_reducible assumption) | assumption)
                 have q5 : x6_1 < (a0.size : Int) := of_decide_eq_true (by first | (with_reducible assumption) | assumption)
                 have hx5 := bt_at a0 x6_1
                 replace p5 := eq_true p5
                 replace q5 := eq_true q5
                 have p7 : 0 ≤ (x6_1 : Int) := of_decide_eq_true (by first | (with_reducible assumption) | assumption)
                 have q7 : x6_1 < (a0.size : Int) := of_decide_eq_true (by first | (with_reducible assumption) | assumption)
                 have hx7 := bt_at a0 x6_1
                 replace p7 := eq_true p7
                 replace q7 := eq_true q7
                 have p9 : 0 ≤ (x6_1 : Int) := of_decide_eq_true (by first | (with_reducible assumption) | assumption)
                 have q9 : x6_1 < (a0.size : Int) := of_decide_eq_true (by first | (with_reducible assumption) | assumption)
                 have hx9 := bt_at a0 x6_1
                 replace p9 := eq_true p9
                 replace q9 := eq_true q9
                 have p11 : 0 ≤ (x6_1 : Int) := of_decide_eq_true (by first | (with_reducible assumption) | assumption)
                 have q11 : x6_1 < (a0.size : Int) := of_decide_eq_true (by first | (with_reducible assumption) | assumption)
                 have hx11 := bt_at a0 x6_1
                 replace p11 := eq_true p11
                 replace q11 := eq_true q11
                 go_wp2
                 go_roundg k1
                 case measure => have := HK1.out; omega
                 case rel => exact ⟨(wrap64 (x6_1 + 1)), (by first | rfl | (simp; done) | (simp [*]; done)), H', ⟨by have := HK1.out; omega⟩, by repeat (first | exact Drawn0.refl _ | apply Drawn0.step)⟩
       · rw [if_neg c4] at H
         exact absurd H (by simp)
     · rw [if_neg c3] at H
       exact absurd H (by simp)
   · rw [if_neg c2] at H
     have c2b0 : decide (x6_1 < (a0.size : Int)) = false := decide_eq_false c2
     clear c2
     by_cases c13 : a0.toList = ([] : List UInt8)
     · rw [if_pos c13] at H
       have c13b0 : (a0.toList == ([] : List UInt8)) = true := beq_iff_eq.mpr c13
       have c13b1 : (a0.toList != ([] : List UInt8)) = false := bne_eq_false_iff_eq.mpr c13
       clear c13
       obtain rfl := Option.some.inj H
       go_wp2
       go_ret
       exact ⟨by first | rfl | (simp; done) | (simp [*]; done) | (simp; cases a0.toList <;> rfl), by repeat (first | exact Drawn0.refl _ | apply Drawn0.step)⟩
     · rw [if_neg c13] at H
       have c13b0 : (a0.toList == ([] : List UInt8)) = false := beq_eq_false_iff_ne.mpr c13
       have c13b1 : (a0.toList != ([] : List UInt8)) = true := bne_iff_ne.mpr c13
       by_cases c14 : 0 < (a0.size : Int)
       · rw [if_pos c14] at H
         have c14b0 : decide (0 < (a0.size : Int)) = true := decide_eq_true c14
         have c14b1 : decide (0 < a0.size) = true := decide_eq_true (by omega)
         clear c14
         by_cases c16 : (bt a0 0) = 35
         · rw [if_pos c16] at H
           have c16b0 : ((bt a0 0) == 35) = true := beq_iff_eq.mpr c16
           have c16b1 : ((bt a0 0) != 35) = false := bne_eq_false_iff_eq.mpr c16
           clear c16
           obtain rfl := Option.some.inj H
           have p15 : 0 ≤ (0 : Int) := (by omega)
           have q15 : 0 < a0.size := (by have : (0 : Int) < (a0.size : Int) := of_decide_eq_true (by first | (with_reducible assumption) | assumption); omega)
           have hx15 : ∀ h : 0 < a0.size, ((a0[0]'h).toNat : Int) = bt a0 0 := bt_at a0 0
           clear p15
           have qi15 : (0 < (a0.size : Int)) = True := eq_true (of_decide_eq_true (by first | (with_reducible assumption) | assumption))
           replace q15 := eq_true q15
           go_wp2
           go_ret
           exact ⟨by first | rfl | (simp; done) | (simp [*]; done) | (simp; cases a0.toList <;> rfl), by repeat (first | exact Drawn0.refl _ | apply Drawn0.step)⟩
         · rw [if_neg c16] at H
           have c16b0 : ((bt a0 0) == 35) = false := beq_eq_false_iff_ne.mpr c16
           have c16b1 : ((bt a0 0) != 35) = true := bne_iff_ne.mpr c16
           by_cases c18 : (bt a0 0) = 59
           · rw [if_pos c18] at H
             have c18b0 : ((bt a0 0) == 59) = true := beq_iff_eq.mpr c18
             have c18b1 : ((bt a0 0) != 59) = false := bne_eq_false_iff_eq.mpr c18
             clear c18
             obtain rfl := Option.some.inj H
             have p15 : 0 ≤ (0 : Int) := (by omega)
             have q15 : 0 < a0.size := (by have : (0 : Int) < (a0.size : Int) := of_decide_eq_true (by first | (with_reducible assumption) | assumption); omega)
             have hx15 : ∀ h : 0 < a0.size, ((a0[0]'h).toNat : Int) = bt a0 0 := bt_at a0 0
             clear p15
             have qi15 : (0 < (a0.size : Int)) = True := eq_true (of_decide_eq_true (by first | (with_reducible assumption) | assumption))
             replace q15 := eq_true q15
             have p17 : 0 ≤ (0 : Int) := (by omega)
             have q17 : 0 < a0.size := (by have : (0 : Int) < (a0.size : Int) := of_decide_eq_true (by first | (with_reducible assumption) | assumption); omega)
             have hx17 : ∀ h : 0 < a0.size, ((a0[0]'h).toNat : Int) = bt a0 0 := bt_at a0 0
             clear p17
             have qi17 : (0 < (a0.size : Int)) = True := eq_true (of_decide_eq_true (by first | (with_reducible assumption) | assumption))
             replace q17 := eq_true q17
             go_wp2
             go_ret
             exact ⟨by first | rfl | (simp; done) | (simp [*]; done) | (simp; cases a0.toList <;> rfl), by repeat (first | exact Drawn0.refl _ | apply Drawn0.step)⟩
           · rw [if_neg c18] at H
             have c18b0 : ((bt a0 0) == 59) = false := beq_eq_false_iff_ne.mpr c18
             have c18b1 : ((bt a0 0) != 59) = true := bne_iff_ne.mpr c18
             obtain rfl := Option.some.inj H
             have p15 : 0 ≤ (0 : Int) := (by omega)
             have q15 : 0 < a0.size := (by have : (0 : Int) < (a0.size : Int) := of_decide_eq_true (by first | (with_reducible assumption) | assumption); omega)
             have hx15 : ∀ h : 0 < a0.size, ((a0[0]'h).toNat : Int) = bt a0 0 := bt_at a0 0
             clear p15
             have qi15 : (0 < (a0.size : Int)) = True := eq_true (of_decide_eq_true (by first | (with_reducible assumption) | assumption))
             replace q15 := eq_true q15
             have p17 : 0 ≤ (0 : Int) := (by omega)
             have q17 : 0 < a0.size := (by have : (0 : Int) < (a0.size : Int) := of_decide_eq_true (by first | (with_reducible assumption) | assumption); omega)
             have hx17 : ∀ h : 0 < a0.size, ((a0[0]'h).toNat : Int) = bt a0 0 := bt_at a0 0
             clear p17
             have qi17 : (0 < (a0.size : Int)) = True := eq_true (of_decide_eq_true (by first | (with_reducible assumption) | assumption))
             replace q17 := eq_true q17
             have p19 : 0 ≤ (0 : Int) := (by omega)
             have q19 : 0 < a0.size := (by have : (0 : Int) < (a0.size : Int) := of_decide_eq_true (by first | (with_reducible assumption) | assumption); omega)
             have hx19 : ∀ h : 0 < a0.size, ((a0[0]'h).toNat : Int) = bt a0 0 := bt_at a0 0
             clear p19
             have qi19 : (0 < (a0.size : Int)) = True := eq_true (of_decide_eq_true (by first | (with_reducible assumption) | assumption))
             replace q19 := eq_true q19
             go_wp2
             go_ret
             exact ⟨by first | rfl | (simp; done) | (simp [*]; done) | (simp; cases a0.toList <;> rfl), by repeat (first | exact Drawn0.refl _ | apply Drawn0.step)⟩
       · rw [if_neg c14] at H
         exact absurd H (by simp)
def spec_blank.f (a0 : Int) : Option (Bool) := if a0 = 32 then (some true) else (some (a0 == 9))
set_option maxHeartbeats 8000000 in
set_option maxRecDepth 100000 in
theorem spec_blank.calls (a0 : Int) (r : Bool) (w : World) (h : spec_blank.f a0 = some r) :
 Calls Tryd.prog 73 #[.int .u8 a0] w fun e w' => e = .returned (.bool r) ∧ Drawn0 w w' := by
 have H : (if a0 = 32 then (some true) else (some (a0 == 9))) = some r := h
 clear h
 by_cases c2 : a0 = 32
 · rw [if_pos c2] at H
   have c2b0 : (a0 == 32) = true := beq_iff_eq.mpr c2
   have c2b1 : (a0 != 32) = false := bne_eq_false_iff_eq.mpr c2
   clear c2
   obtain rfl := Option.some.inj H
   go_enter Tryd.func73, Tryd.ntmps73
   go_wp2
   go_ret
   exact ⟨by first | rfl | (simp; done) | (simp [*]; done) | (simp; cases a0.toList <;> rfl), by repeat (first | exact Drawn0.refl _ | apply Drawn0.step)⟩
 · rw [if_neg c2] at H
   have c2b0 : (a0 == 32) = false := beq_eq_false_iff_ne.mpr c2
   have c2b1 : (a0 != 32) = true := bne_iff_ne.mpr c2
   obtain rfl := Option.some.inj H
   go_enter Tryd.func73, Tryd.ntmps73
   go_wp2
   go_ret
   exact ⟨by first | rfl | (simp; done) | (simp [*]; done) | (simp; cases a0.toList <;> rfl), by repeat (first | exact Drawn0.refl _ | apply Drawn0.step)⟩
mutual
def spec_trimmed.j1 : Nat → ByteArray → Option (ByteArray)
 | 0, _ => none
 | k + 1, x0 => spec_trimmed.l1 k x0
def spec_trimmed.l1 : Nat → ByteArray → Option (ByteArray)
 | 0, _ => none
 | k + 1, x0 => if x0.toList = ([] : List UInt8) then (some x0) else (if 0 ≤ (wrap64 ((x0.size : Int) - 1)) then (if (wrap64 ((x0.size : Int) - 1)) < (x0.size : Int) then ((spec_blank.f (bt x0 (wrap64 ((x0.size : Int) - 1)))).bind fun t163 => (if t163 = true then (if (wrap64 ((x0.size : Int) - 1)) ≤ (x0.size : Int) then (spec_trimmed.l1 k (x0.extract 0 ((wrap64 ((x0.size : Int) - 1)) : Int).toNat)) else (none)) else (some x0))) else (none)) else (none))
def spec_trimmed.l0 : Nat → ByteArray → Option (ByteArray)
 | 0, _ => none
 | k + 1, x0 => if x0.toList = ([] : List UInt8) then (spec_trimmed.j1 k x0) else (if 0 < (x0.size : Int) then ((spec_blank.f (bt x0 0)).bind fun t162 => (if t162 = true then (if 1 ≤ (x0.size : Int) then (spec_trimmed.l0 k (x0.extract 1 x0.size)) else (none)) else (spec_trimmed.j1 k x0))) else (none))
end
def spec_trimmed.f (k : Nat) (a0 : ByteArray) : Option (ByteArray) := spec_trimmed.l0 k a0
set_option maxHeartbeats 8000000 in
set_option maxRecDepth 100000 in
theorem spec_trimmed.calls (k : Nat) (a0 : ByteArray) (r : ByteArray) (w : World) (h : spec_trimmed.f k a0 = some r) :
 Calls Tryd.prog 64 #[.string a0] w fun e w' => e = .returned (.string r) ∧ Drawn0 w w' := by
 have H : (spec_trimmed.l0 k a0) = some r := h
 clear h
 have HC2 := Aside0.mk H
 clear H
 go_enter Tryd.func64, Tryd.ntmps64
 go_upto_block 0 with (fail)
 go_cut [0] (fun v0 wc => ∃ (kq : Nat) (x0_1 : ByteArray), v0 = .string x0_1 ∧ Aside0 (spec_trimmed.j1 kq x0_1 = some r) ∧ Aside0 (kq ≤ k) ∧ Drawn0 w wc)
 case first =>
  have H := HC2.out
  clear HC2
  have H' := Aside0.mk H
  clear H
  go_wp2
  go_loopg [0] k (fun kq v0 w' => ∃ (x0_1 : ByteArray), v0 = .string x0_1 ∧ Aside0 (spec_trimmed.l0 kq x0_1 = some r) ∧ Aside0 (kq ≤ k) ∧ Drawn0 w w')
  case atStart => exact ⟨(a0), (by first | rfl | (simp; done) | (simp [*]; done)), H', ⟨Nat.le_refl _⟩, by repeat (first | exact Drawn0.refl _ | apply Drawn0.step)⟩
  case round =>
   clear H'
   try clear p2
   obtain ⟨x0_1, rfl, HA, HK1, ⟨m1, rfl⟩⟩ := hrel
   cases gk with
   | zero => exact absurd HA.out (by simp [spec_trimmed.l0])
   | succ k1 =>
    have H := HA.out
    clear HA
    simp only [spec_trimmed.l0] at H
    by_cases c3 : x0_1.toList = ([] : List UInt8)
    · rw [if_pos c3] at H
      have c3b0 : (x0_1.toList == ([] : List UInt8)) = true := beq_iff_eq.mpr c3
      have c3b1 : (x0_1.toList != ([] : List UInt8)) = false := bne_eq_false_iff_eq.mpr c3
      clear c3
      (first | rw [c3b0] | (simp only [i64_w, i32_w]; rw [c3b0]) | skip)
      have H' := Aside0.mk H
      clear H
      go_wp2
      go_meet
      case rel => exact ⟨_, (x0_1), (by first | rfl | (simp; done) | (simp [*]; done)), H', ⟨by have := HK1.out; first | omega | exact Nat.le_refl _⟩, by repeat (first | exact Drawn0.refl _ | apply Drawn0.step)⟩
    · rw [if_neg c3] at H
      have c3b0 : (x0_1.toList == ([] : List UInt8)) = false := beq_eq_false_iff_ne.mpr c3
      have c3b1 : (x0_1.toList != ([] : List UInt8)) = true := bne_iff_ne.mpr c3
      (first | rw [c3b0] | (simp only [i64_w, i32_w]; rw [c3b0]) | skip)
      by_cases c4 : 0 < (x0_1.size : Int)
      · rw [if_pos c4] at H
        have c4b0 : decide (0 < (x0_1.size : Int)) = true := decide_eq_true c4
        have c4b1 : decide (0 < x0_1.size) = true := decide_eq_true (by omega)
        clear c4
        replace H := Option.bind_eq_some_iff.mp H
        obtain ⟨t162, A60, H⟩ := H
        replace H : (if t162 = true then (if 1 ≤ (x0_1.size : Int) then (spec_trimmed.l0 k1 (x0_1.extract 1 x0_1.size)) else (none)) else (spec_trimmed.j1 k1 x0_1)) = some r := H
        have A6 := Aside0.mk A60
        clear A60
        by_cases c7 : t162 = true
        · subst c7
          have H1 : (if 1 ≤ (x0_1.size : Int) then (spec_trimmed.l0 k1 (x0_1.extract 1 x0_1.size)) else (none)) = some r := by rw [if_pos rfl] at H; exact H
          clear H
          have H := H1
          clear H1
          by_cases c8 : 1 ≤ (x0_1.size : Int)
          · rw [if_pos c8] at H
            have c8b0 := eq_true c8
            have c8b1 : decide (1 ≤ (x0_1.size : Int)) = true := decide_eq_true c8
            clear c8
            have H' := Aside0.mk H
            clear H
            have p5 : 0 ≤ (0 : Int) := (by omega)
            have q5 : 0 < x0_1.size := (by have : (0 : Int) < (x0_1.size : Int) := of_decide_eq_true (by first | (with_reducible assumption) | assumption); omega)
            have hx5 : ∀ h : 0 < x0_1.size, ((x0_1[0]'h).toNat : Int) = bt x0_1 0 := bt_at x0_1 0
            clear p5
            have qi5 : (0 < (x0_1.size : Int)) = True := eq_true (of_decide_eq_true (by first | (with_reducible assumption) | assumption))
            replace q5 := eq_true q5
            go_wp2_with (first | (go_at_call 73; (with_reducible refine (spec_blank.calls (bt x0_1 0) true _ A6.out).mono ?_); rintro e w' ⟨rfl, ⟨nd, rfl⟩⟩))
            go_roundg k1
            case measure => have := HK1.out; omega
            case rel => exact ⟨(x0_1.extract 1 x0_1.size), (by first | rfl | (simp; done) | (simp [*]; done)), H', ⟨by have := HK1.out; omega⟩, by repeat (first | exact Drawn0.refl _ | apply Drawn0.step)⟩
          · rw [if_neg c8] at H
            exact absurd H (by simp)
        · replace c7 := Bool.eq_false_iff.mpr c7
          subst c7
          have H1 : (spec_trimmed.j1 k1 x0_1) = some r := by rw [if_neg (show ¬ (false = true) by decide)] at H; exact H
          clear H
          have H := H1
          clear H1
          have H' := Aside0.mk H
          clear H
          have p5 : 0 ≤ (0 : Int) := (by omega)
          have q5 : 0 < x0_1.size := (by have : (0 : Int) < (x0_1.size : Int) := of_decide_eq_true (by first | (with_reducible assumption) | assumption); omega)
          have hx5 : ∀ h : 0 < x0_1.size, ((x0_1[0]'h).toNat : Int) = bt x0_1 0 := bt_at x0_1 0
          clear p5
          have qi5 : (0 < (x0_1.size : Int)) = True := eq_true (of_decide_eq_true (by first | (with_reducible assumption) | assumption))
          replace q5 := eq_true q5
          go_wp2_with (first | (go_at_call 73; (with_reducible refine (spec_blank.calls (bt x0_1 0) false _ A6.out).mono ?_); rintro e w' ⟨rfl, ⟨nd, rfl⟩⟩))
          go_meet
          case rel => exact ⟨_, (x0_1), (by first | rfl | (simp; done) | (simp [*]; done)), H', ⟨by have := HK1.out; first | omega | exact Nat.le_refl _⟩, by repeat (first | exact Drawn0.refl _ | apply Drawn0.step)⟩
      · rw [if_neg c4] at H
        exact absurd H (by simp)
 case rest =>
  clear HC2
  try clear p2
  try clear c3
  try clear c3b0
  try clear c3b1
  try clear c4
  try clear c4b0
  try clear c4b1
  try clear p5
  try clear q5
  try clear hx5
  try clear qi5
  try clear c6
  try clear c7
  try clear c8
  try clear c8b0
  try clear c8b1
  try clear p2
  try clear p5
  try clear q5
  obtain ⟨kq, x0_1, rfl, HA, HJ1, ⟨mc1, rfl⟩⟩ := hcut
  cases kq with
  | zero => exact absurd HA.out (by simp [spec_trimmed.j1])
  | succ kj1 =>
   have H := HA.out
   clear HA
   simp only [spec_trimmed.j1] at H
   have H' := Aside0.mk H
   clear H
   go_wp2
   go_loopg [0] kj1 (fun kq v0 w' => ∃ (x0_2 : ByteArray), v0 = .string x0_2 ∧ Aside0 (spec_trimmed.l1 kq x0_2 = some r) ∧ Aside0 (kq ≤ kj1) ∧ Drawn0 w w')
   case atStart => exact ⟨(x0_1), (by first | rfl | (simp; done) | (simp [*]; done)), H', ⟨Nat.le_refl _⟩, by repeat (first | exact Drawn0.refl _ | apply Drawn0.step)⟩
   case round =>
    clear H'
    try clear c1
    try clear p2
    try clear c3
    try clear c3b0
    try clear c3b1
    try clear c4
    try clear c4b0
    try clear c4b1
    try clear p5
    try clear q5
    try clear hx5
    try clear qi5
    try clear c6
    try clear c7
    try clear c8
    try clear c8b0
    try clear c8b1
    try clear p2
    try clear p5
    try clear q5
    obtain ⟨x0_2, rfl, HA, HK2, ⟨m2, rfl⟩⟩ := hrel
    cases gk with
    | zero => exact absurd HA.out (by simp [spec_trimmed.l1])
    | succ k2 =>
     have H := HA.out
     clear HA
     simp only [spec_trimmed.l1] at H
     by_cases c9 : x0_2.toList = ([] : List UInt8)
     · rw [if_pos c9] at H
       have c9b0 : (x0_2.toList == ([] : List UInt8)) = true := beq_iff_eq.mpr c9
       have c9b1 : (x0_2.toList != ([] : List UInt8)) = false := bne_eq_false_iff_eq.mpr c9
       clear c9
       obtain rfl := Option.some.inj H
       go_wp2
       go_ret
       exact ⟨by first | rfl | (simp; done) | (simp [*]; done) | (simp; cases a0.toList <;> rfl), by repeat (first | exact Drawn0.refl _ | apply Drawn0.step)⟩
     · rw [if_neg c9] at H
       have c9b0 : (x0_2.toList == ([] : List UInt8)) = false := beq_eq_false_iff_ne.mpr c9
       have c9b1 : (x0_2.toList != ([] : List UInt8)) = true := bne_iff_ne.mpr c9
       obtain ⟨ji10, hji10⟩ : ∃ j_ : Int, (wrap64 ((x0_2.size : Int) - 1)) = j_ := ⟨_, rfl⟩
       replace H : (if 0 ≤ (ji10) then (if (ji10) < (x0_2.size : Int) then ((spec_blank.f (bt x0_2 (ji10))).bind fun t163 => (if t163 = true then (if (ji10) ≤ (x0_2.size : Int) then (spec_trimmed.l1 k2 (x0_2.extract 0 ((ji10) : Int).toNat)) else (none)) else (some x0_2))) else (none)) else (none)) = some r := by first | (rw [hji10] at H; exact H) | (simp only [hji10] at H ⊢; exact H)
       have hji10w : (IntKind.i64.wrap ((x0_2.size : Int) - 1)) = ji10 := (i64_w _).trans hji10
       by_cases c11 : 0 ≤ (ji10)
       · rw [if_pos c11] at H
         have c11b0 : decide (0 ≤ (ji10)) = true := decide_eq_true c11
         clear c11
         by_cases c12 : (ji10) < (x0_2.size : Int)
         · rw [if_pos c12] at H
           have c12b0 : decide ((ji10) < (x0_2.size : Int)) = true := decide_eq_true c12
           clear c12
           replace H := Option.bind_eq_some_iff.mp H
           obtain ⟨t163, A140, H⟩ := H
           replace H : (if t163 = true then (if (ji10) ≤ (x0_2.size : Int) then (spec_trimmed.l1 k2 (x0_2.extract 0 ((ji10) : Int).toNat)) else (none)) else (some x0_2)) = some r := H
           have A14 := Aside0.mk A140
           clear A140
           by_cases c15 : t163 = true
           · subst c15
             have H1 : (if (ji10) ≤ (x0_2.size : Int) then (spec_trimmed.l1 k2 (x0_2.extract 0 ((ji10) : Int).toNat)) else (none)) = some r := by rw [if_pos rfl] at H; exact H
             clear H
             have H := H1
             clear H1
             have c16b0 := eq_true (of_decide_eq_true (by first | (with_reducible assumption) | assumption) : 0 ≤ (ji10))
             by_cases c17 : (ji10) ≤ (x0_2.size : Int)
             · rw [if_pos c17] at H
               have c17b0 := eq_true c17
               have c17b1 : decide ((ji10) ≤ (x0_2.size : Int)) = true := decide_eq_true c17
               clear c17
               have H' := Aside0.mk H
               clear H
               have p13 : 0 ≤ ((ji10) : Int) := of_decide_eq_true (by first | (with_reducible assumption) | assumption)
               have q13 : (ji10) < (x0_2.size : Int) := of_decide_eq_true (by first | (with_reducible assumption) | assumption)
               have hx13 := bt_at x0_2 (ji10)
               replace p13 := eq_true p13
               replace q13 := eq_true q13
               go_wp2_with (first | (go_at_call 73; (with_reducible refine (spec_blank.calls (bt x0_2 (ji10)) true _ A14.out).mono ?_); rintro e w' ⟨rfl, ⟨nd, rfl⟩⟩))
               go_roundg k2
               case measure => have := HJ1.out; have := HK2.out; omega
               case rel => exact ⟨(x0_2.extract 0 ((ji10) : Int).toNat), (by first | rfl | (simp; done) | (simp only [← hji10] <;> (first | rfl | simp)) | (simp [*]; done)), H', ⟨by have := HJ1.out; have := HK2.out; omega⟩, by repeat (first | exact Drawn0.refl _ | apply Drawn0.step)⟩
             · rw [if_neg c17] at H
               exact absurd H (by simp)
           · replace c15 := Bool.eq_false_iff.mpr c15
             subst c15
             have H1 : (some x0_2) = some r := by rw [if_neg (show ¬ (false = true) by decide)] at H; exact H
             clear H
             have H := H1
             clear H1
             obtain rfl := Option.some.inj H
             have p13 : 0 ≤ ((ji10) : Int) := of_decide_eq_true (by first | (with_reducible assumption) | assumption)
             have q13 : (ji10) < (x0_2.size : Int) := of_decide_eq_true (by first | (with_reducible assumption) | assumption)
             have hx13 := bt_at x0_2 (ji10)
             replace p13 := eq_true p13
             replace q13 := eq_true q13
             go_wp2_with (first | (go_at_call 73; (with_reducible refine (spec_blank.calls (bt x0_2 (ji10)) false _ A14.out).mono ?_); rintro e w' ⟨rfl, ⟨nd, rfl⟩⟩))
             go_ret
             exact ⟨by first | rfl | (simp; done) | (simp only [← hji10] <;> (first | rfl | simp)) | (simp [*]; done), by repeat (first | exact Drawn0.refl _ | apply Drawn0.step)⟩
         · rw [if_neg c12] at H
           exact absurd H (by simp)
       · rw [if_neg c11] at H
         exact absurd H (by simp)
end Go.Proofs.YtocdnceckljnaaaDoor.QV0
namespace Go.Proofs.YtocdnceckljnaaaDoor.QV0
open Go.RowKit Go.Proofs.YtocdnceckljnaaaDoorW.PrintWords Go.Proofs.YtocdnceckljnaaaDoorW.PrintLast Go.Proofs.YtocdnceckljnaaaDoorW.PrintMore
attribute [local go_sem] max2_int min2_int max_two min_two max_three min_three max_four min_four
set_option linter.unusedVariables false
set_option linter.unusedSimpArgs false
def spec_optionValue.l0 : Nat → ByteArray → Int → Int → Option (Bool)
 | 0, _, _, _ => none
 | k + 1, x0, x5, x6 => if x6 < x5 then (if 0 ≤ x6 then (if x6 < (x0.size : Int) then (if (bt x0 x6) < 32 then (if (bt x0 x6) = 9 then (if (bt x0 x6) ≥ 127 then (some false) else (spec_optionValue.l0 k x0 x5 (wrap64 (x6 + 1)))) else (some false)) else (if (bt x0 x6) ≥ 127 then (some false) else (spec_optionValue.l0 k x0 x5 (wrap64 (x6 + 1))))) else (none)) else (none)) else ((spec_trimmed.f k x0).bind fun t164 => (if x0.toList = t164.toList then (if x0.toList = ([] : List UInt8) then (some true) else (if 0 ≤ (wrap64 ((x0.size : Int) - 1)) then (if (wrap64 ((x0.size : Int) - 1)) < (x0.size : Int) then (some ((bt x0 (wrap64 ((x0.size : Int) - 1))) != 92)) else (none)) else (none))) else (some false)))
def spec_optionValue.f (k : Nat) (a0 : ByteArray) : Option (Bool) := spec_optionValue.l0 k a0 (a0.size : Int) 0
set_option maxHeartbeats 8000000 in
set_option maxRecDepth 100000 in
theorem spec_optionValue.calls (k : Nat) (a0 : ByteArray) (r : Bool) (w : World) (h : spec_optionValue.f k a0 = some r) :
 Calls Tryd.prog 57 #[.string a0] w fun e w' => e = .returned (.bool r) ∧ Drawn0 w w' := by
 have H : (spec_optionValue.l0 k a0 (a0.size : Int) 0) = some r := h
 clear h
 have H' := Aside0.mk H
 clear H
 go_enter Tryd.func57, Tryd.ntmps57
 go_wp2
 go_loopg [6] k (fun kq v6 w' => ∃ (x6_1 : Int), v6 = .int .i64 x6_1 ∧ Aside0 (spec_optionValue.l0 kq a0 (a0.size : Int) x6_1 = some r) ∧ Aside0 (kq ≤ k) ∧ Drawn0 w w')
 case atStart => exact ⟨(0), (by first | rfl | (simp; done) | (simp [*]; done)), H', ⟨Nat.le_refl _⟩, by repeat (first | exact Drawn0.refl _ | apply Drawn0.step)⟩
 case round =>
  clear H'
  obtain ⟨x6_1, rfl, HA, HK1, ⟨m1, rfl⟩⟩ := hrel
  cases gk with
  | zero => exact absurd HA.out (by simp [spec_optionValue.l0])
  | succ k1 =>
   have H := HA.out
   clear HA
   simp only [spec_optionValue.l0] at H
   by_cases c2 : x6_1 < (a0.size : Int)
   · rw [if_pos c2] at H
     have c2b0 : decide (x6_1 < (a0.size : Int)) = true := decide_eq_true c2
     clear c2
     by_cases c3 : 0 ≤ x6_1
     · rw [if_pos c3] at H
       have c3b0 : decide (0 ≤ x6_1) = true := decide_eq_true c3
       clear c3
       by_cases c4 : x6_1 < (a0.size : Int)
       · rw [if_pos c4] at H
         have c4b0 : decide (x6_1 < (a0.size : Int)) = true := decide_eq_true c4
         clear c4
         by_cases c6 : (bt a0 x6_1) < 32
         · rw [if_pos c6] at H
           have c6b0 : decide ((bt a0 x6_1) < 32) = true := decide_eq_true c6
           clear c6
           by_cases c8 : (bt a0 x6_1) = 9
           · rw [if_pos c8] at H
             have c8b0 : ((bt a0 x6_1) == 9) = true := beq_iff_eq.mpr c8
             have c8b1 : ((bt a0 x6_1) != 9) = false := bne_eq_false_iff_eq.mpr c8
             clear c8
             by_cases c10 : (bt a0 x6_1) ≥ 127
             · rw [if_pos c10] at H
               have c10b0 : decide (127 ≤ (bt a0 x6_1)) = true := decide_eq_true c10
               clear c10
               obtain rfl := Option.some.inj H
               have p5 : 0 ≤ (x6_1 : Int) := of_decide_eq_true (by first | (with_reducible assumption) | assumption)
               have q5 : x6_1 < (a0.size : Int) := of_decide_eq_true (by first | (with_reducible assumption) | assumption)
               have hx5 := bt_at a0 x6_1
               replace p5 := eq_true p5
               replace q5 := eq_true q5
               have p7 : 0 ≤ (x6_1 : Int) := of_decide_eq_true (by first | (with_reducible assumption) | assumption)
               have q7 : x6_1 < (a0.size : Int) := of_decide_eq_true (by first | (with_reducible assumption) | assumption)
               have hx7 := bt_at a0 x6_1
               replace p7 := eq_true p7
               replace q7 := eq_true q7
               have p9 : 0 ≤ (x6_1 : Int) := of_decide_eq_true (by first | (with_reducible assumption) | assumption)
               have q9 : x6_1 < (a0.size : Int) := of_decide_eq_true (by first | (with_reducible assumption) | assumption)
               have hx9 := bt_at a0 x6_1
               replace p9 := eq_true p9
               replace q9 := eq_true q9
               go_wp2
               go_ret
               exact ⟨by first | rfl | (simp; done) | (simp [*]; done) | (simp; cases a0.toList <;> rfl), by repeat (first | exact Drawn0.refl _ | apply Drawn0.step)⟩
             · rw [if_neg c10] at H
               have c10b0 : decide (127 ≤ (bt a0 x6_1)) = false := decide_eq_false c10
               clear c10
               have H' := Aside0.mk H
               clear H
               have p5 : 0 ≤ (x6_1 : Int) := of_decide_eq_true (by first | (with_reducible assumption) | assumption)
               have q5 : x6_1 < (a0.size : Int) := of_decide_eq_true (by first | (with_reducible assumption) | assumption)
               have hx5 := bt_at a0 x6_1
               replace p5 := eq_true p5
               replace q5 := eq_true q5
               have p7 : 0 ≤ (x6_1 : Int) := of_decide_eq_true (by first | (with_reducible assumption) | assumption)
               have q7 : x6_1 < (a0.size : Int) := of_decide_eq_true (by first | (with_reducible assumption) | assumption)
               have hx7 := bt_at a0 x6_1
               replace p7 := eq_true p7
               replace q7 := eq_true q7
               have p9 : 0 ≤ (x6_1 : Int) := of_decide_eq_true (by first | (with_reducible assumption) | assumption)
               have q9 : x6_1 < (a0.size : Int) := of_decide_eq_true (by first | (with_reducible assumption) | assumption)
               have hx9 := bt_at a0 x6_1
               replace p9 := eq_true p9
               replace q9 := eq_true q9
               go_wp2
               go_roundg k1
               case measure => have := HK1.out; omega
               case rel => exact ⟨(wrap64 (x6_1 + 1)), (by first | rfl | (simp; done) | (simp [*]; done)), H', ⟨by have := HK1.out; omega⟩, by repeat (first | exact Drawn0.refl _ | apply Drawn0.step)⟩
           · rw [if_neg c8] at H
             have c8b0 : ((bt a0 x6_1) == 9) = false := beq_eq_false_iff_ne.mpr c8
             have c8b1 : ((bt a0 x6_1) != 9) = true := bne_iff_ne.mpr c8
             obtain rfl := Option.some.inj H
             have p5 : 0 ≤ (x6_1 : Int) := of_decide_eq_true (by first | (with_reducible assumption) | assumption)
             have q5 : x6_1 < (a0.size : Int) := of_decide_eq_true (by first | (with_reducible assumption) | assumption)
             have hx5 := bt_at a0 x6_1
             replace p5 := eq_true p5
             replace q5 := eq_true q5
             have p7 : 0 ≤ (x6_1 : Int) := of_decide_eq_true (by first | (with_reducible assumption) | assumption)
             have q7 : x6_1 < (a0.size : Int) := of_decide_eq_true (by first | (with_reducible assumption) | assumption)
             have hx7 := bt_at a0 x6_1
             replace p7 := eq_true p7
             replace q7 := eq_true q7
             go_wp2
             go_ret
             exact ⟨by first | rfl | (simp; done) | (simp [*]; done) | (simp; cases a0.toList <;> rfl), by repeat (first | exact Drawn0.refl _ | apply Drawn0.step)⟩
         · rw [if_neg c6] at H
           have c6b0 : decide ((bt a0 x6_1) < 32) = false := decide_eq_false c6
           clear c6
           by_cases c12 : (bt a0 x6_1) ≥ 127
           · rw [if_pos c12] at H
             have c12b0 : decide (127 ≤ (bt a0 x6_1)) = true := decide_eq_true c12
             clear c12
             obtain rfl := Option.some.inj H
             have p5 : 0 ≤ (x6_1 : Int) := of_decide_eq_true (by first | (with_reducible assumption) | assumption)
             have q5 : x6_1 < (a0.size : Int) := of_decide_eq_true (by first | (with_reducible assumption) | assumption)
             have hx5 := bt_at a0 x6_1
             replace p5 := eq_true p5
             replace q5 := eq_true q5
             have p11 : 0 ≤ (x6_1 : Int) := of_decide_eq_true (by first | (with_reducible assumption) | assumption)
             have q11 : x6_1 < (a0.size : Int) := of_decide_eq_true (by first | (with_reducible assumption) | assumption)
             have hx11 := bt_at a0 x6_1
             replace p11 := eq_true p11
             replace q11 := eq_true q11
             go_wp2
             go_ret
             exact ⟨by first | rfl | (simp; done) | (simp [*]; done) | (simp; cases a0.toList <;> rfl), by repeat (first | exact Drawn0.refl _ | apply Drawn0.step)⟩
           · rw [if_neg c12] at H
             have c12b0 : decide (127 ≤ (bt a0 x6_1)) = false := decide_eq_false c12
             clear c12
             have H' := Aside0.mk H
             clear H
             have p5 : 0 ≤ (x6_1 : Int) := of_decide_eq_true (by first | (with_reducible assumption) | assumption)
             have q5 : x6_1 < (a0.size : Int) := of_decide_eq_true (by first | (with_reducible assumption) | assumption)
             have hx5 := bt_at a0 x6_1
             replace p5 := eq_true p5
             replace q5 := eq_true q5
             have p11 : 0 ≤ (x6_1 : Int) := of_decide_eq_true (by first | (with_reducible assumption) | assumption)
             have q11 : x6_1 < (a0.size : Int) := of_decide_eq_true (by first | (with_reducible assumption) | assumption)
             have hx11 := bt_at a0 x6_1
             replace p11 := eq_true p11
             replace q11 := eq_true q11
             go_wp2
             go_roundg k1
             case measure => have := HK1.out; omega
             case rel => exact ⟨(wrap64 (x6_1 + 1)), (by first | rfl | (simp; done) | (simp [*]; done)), H', ⟨by have := HK1.out; omega⟩, by repeat (first | exact Drawn0.refl _ | apply Drawn0.step)⟩
       · rw [if_neg c4] at H
         exact absurd H (by simp)
     · rw [if_neg c3] at H
       exact absurd H (by simp)
   · rw [if_neg c2] at H
     have c2b0 : decide (x6_1 < (a0.size : Int)) = false := decide_eq_false c2
     clear c2
     replace H := Option.bind_eq_some_iff.mp H
     obtain ⟨t164, A130, H⟩ := H
     replace H : (if a0.toList = t164.toList then (if a0.toList = ([] : List UInt8) then (some true) else (if 0 ≤ (wrap64 ((a0.size : Int) - 1)) then (if (wrap64 ((a0.size : Int) - 1)) < (a0.size : Int) then (some ((bt a0 (wrap64 ((a0.size : Int) - 1))) != 92)) else (none)) else (none))) else (some false)) = some r := H
     have A13 := Aside0.mk A130
     clear A130
     by_cases c14 : a0.toList = t164.toList
     · rw [if_pos c14] at H
       have c14b0 : (a0.toList == t164.toList) = true := beq_iff_eq.mpr c14
       have c14b1 : (a0.toList != t164.toList) = false := bne_eq_false_iff_eq.mpr c14
       clear c14
       by_cases c15 : a0.toList = ([] : List UInt8)
       · rw [if_pos c15] at H
         have c15b0 : (a0.toList == ([] : List UInt8)) = true := beq_iff_eq.mpr c15
         have c15b1 : (a0.toList != ([] : List UInt8)) = false := bne_eq_false_iff_eq.mpr c15
         clear c15
         obtain rfl := Option.some.inj H
         go_wp2_with (first | ((with_reducible refine gate_callee (f := 64) rfl ?_); refine goesL_ (some 28) rfl rfl Tryd.func64 (by kernel_rfl) rfl #[.string a0] rfl (by (try simp only [List.map_toArray, List.map_cons, List.map_nil]); first | done | rfl | (simp only [List.length_drop, List.length_take]; rfl)) ?_; (with_reducible refine (spec_trimmed.calls k1 a0 t164 _ A13.out).mono ?_); rintro e w' ⟨rfl, ⟨nd, rfl⟩⟩; refine ⟨_, rfl, ?_⟩))
         go_ret
         exact ⟨by first | rfl | (simp; done) | (simp [*]; done) | (simp; cases a0.toList <;> rfl), by repeat (first | exact Drawn0.refl _ | apply Drawn0.step)⟩
       · rw [if_neg c15] at H
         have c15b0 : (a0.toList == ([] : List UInt8)) = false := beq_eq_false_iff_ne.mpr c15
         have c15b1 : (a0.toList != ([] : List UInt8)) = true := bne_iff_ne.mpr c15
         obtain ⟨ji16, hji16⟩ : ∃ j_ : Int, (wrap64 ((a0.size : Int) - 1)) = j_ := ⟨_, rfl⟩
         replace H : (if 0 ≤ (ji16) then (if (ji16) < (a0.size : Int) then (some ((bt a0 (ji16)) != 92)) else (none)) else (none)) = some r := by first | (rw [hji16] at H; exact H) | (simp only [hji16] at H ⊢; exact H)
         (try rw [hji16] at A13)
         have hji16w : (IntKind.i64.wrap ((a0.size : Int) - 1)) = ji16 := (i64_w _).trans hji16
         by_cases c17 : 0 ≤ (ji16)
         · rw [if_pos c17] at H
           have c17b0 : decide (0 ≤ (ji16)) = true := decide_eq_true c17
           clear c17
           by_cases c18 : (ji16) < (a0.size : Int)
           · rw [if_pos c18] at H
             have c18b0 : decide ((ji16) < (a0.size : Int)) = true := decide_eq_true c18
             clear c18
             obtain rfl := Option.some.inj H
             go_wp2_with (first | ((with_reducible refine gate_callee (f := 64) rfl ?_); refine goesL_ (some 28) rfl rfl Tryd.func64 (by kernel_rfl) rfl #[.string a0] rfl (by (try simp only [List.map_toArray, List.map_cons, List.map_nil]); first | done | rfl | (simp only [List.length_drop, List.length_take]; rfl)) ?_; (with_reducible refine (spec_trimmed.calls k1 a0 t164 _ A13.out).mono ?_); rintro e w' ⟨rfl, ⟨nd, rfl⟩⟩; refine ⟨_, rfl, ?_⟩; have p19 : 0 ≤ ((ji16) : Int) := of_decide_eq_true (by first | (with_reducible assumption) | assumption); have q19 : (ji16) < (a0.size : Int) := of_decide_eq_true (by first | (with_reducible assumption) | assumption); have hx19 := bt_at a0 (ji16); replace p19 := eq_true p19; replace q19 := eq_true q19))
             go_ret
             exact ⟨by first | rfl | (simp; done) | (simp only [← hji16] <;> (first | rfl | simp)) | (simp [*]; done), by repeat (first | exact Drawn0.refl _ | apply Drawn0.step)⟩
           · rw [if_neg c18] at H
             exact absurd H (by simp)
         · rw [if_neg c17] at H
           exact absurd H (by simp)
     · rw [if_neg c14] at H
       have c14b0 : (a0.toList == t164.toList) = false := beq_eq_false_iff_ne.mpr c14
       have c14b1 : (a0.toList != t164.toList) = true := bne_iff_ne.mpr c14
       obtain rfl := Option.some.inj H
       go_wp2_with (first | ((with_reducible refine gate_callee (f := 64) rfl ?_); refine goesL_ (some 28) rfl rfl Tryd.func64 (by kernel_rfl) rfl #[.string a0] rfl (by (try simp only [List.map_toArray, List.map_cons, List.map_nil]); first | done | rfl | (simp only [List.length_drop, List.length_take]; rfl)) ?_; (with_reducible refine (spec_trimmed.calls k1 a0 t164 _ A13.out).mono ?_); rintro e w' ⟨rfl, ⟨nd, rfl⟩⟩; refine ⟨_, rfl, ?_⟩))
       go_ret
       exact ⟨by first | rfl | (simp; done) | (simp [*]; done) | (simp; cases a0.toList <;> rfl), by repeat (first | exact Drawn0.refl _ | apply Drawn0.step)⟩
def spec_Writable.l0 : Nat → List (S73) → List (S73) → Int → Int → Option (Bool)
 | 0, _, _, _, _ => none
 | k + 1, x0, x5, x6, x7 => if x7 < x6 then (if 0 ≤ x7 then (if x7 < (x5.length : Int) then ((spec_sectionName.f k ((rd_T73 x5 x7).f0)).bind fun t167 => (if t167 = true then ((spec_optionName.f k ((rd_T73 x5 x7).f1)).bind fun t168 => (if t168 = true then ((spec_optionValue.f k ((rd_T73 x5 x7).f2)).bind fun t169 => (if t169 = true then (if (wrap64 ((wrap64 ((((rd_T73 x5 x7).f0).size : Int) + (((rd_T73 x5 x7).f1).size : Int))) + (((rd_T73 x5 x7).f2).size : Int))) > 1900 then (some false) else (spec_Writable.l0 k x0 x5 x6 (wrap64 (x7 + 1)))) else (some false))) else (some false))) else (some false))) else (none)) else (none)) else (some (decide ((x0.length : Int) ≤ 200)))
def spec_Writable.f (k : Nat) (l0 : List (S73)) : Option (Bool) := spec_Writable.l0 k l0 l0 (l0.length : Int) 0
set_option maxHeartbeats 8000000 in
set_option maxRecDepth 100000 in
theorem spec_Writable.calls (k : Nat) (A0 : Option Addr) (c0 : Nat) (l0 : List (S73)) (r : Bool) (w : World) (hr0 : Kd.C k73 w A0 l0.length l0) (hc0 : l0.length ≤ c0) (h : spec_Writable.f k l0 = some r) :
 Calls Tryd.prog 41 #[.slice A0 l0.length c0] w fun e w' => e = .returned (.bool r) ∧ Below w.heap.size w w' := by
 have hu73 := Tryd.underlying73
 have HR0 := Aside0.mk hr0
 have HC0 := Aside0.mk hc0
 clear hr0 hc0
 have HB := Aside0.mk (Below.refl w.heap.size w)
 have H : (spec_Writable.l0 k l0 l0 (l0.length : Int) 0) = some r := h
 clear h
 have H' := Aside0.mk H
 clear H
 go_enter Tryd.func41, Tryd.ntmps41
 go_wp2
 go_loopg [7] k (fun kq v7 w' => ∃ (x7_1 : Int), v7 = .int .i64 x7_1 ∧ Aside0 (spec_Writable.l0 kq l0 l0 (l0.length : Int) x7_1 = some r) ∧ Aside0 (kq ≤ k) ∧ Aside0 (Below w.heap.size w w'))
 case atStart => exact ⟨(0), (by first | rfl | (simp; done) | (simp [*]; done)), H', ⟨Nat.le_refl _⟩, ⟨by repeat (first | (with_reducible first | exact HB.out | apply below_alloc | apply pw_below_drewN | apply below_drew1) | exact HB.out)⟩⟩
 case round =>
  clear H'
  obtain ⟨x7_1, rfl, HA, HK1, HB⟩ := hrel
  cases gk with
  | zero => exact absurd HA.out (by simp [spec_Writable.l0])
  | succ k1 =>
   have H := HA.out
   clear HA
   simp only [spec_Writable.l0] at H
   by_cases c2 : x7_1 < (l0.length : Int)
   · rw [if_pos c2] at H
     have c2b0 : decide (x7_1 < (l0.length : Int)) = true := decide_eq_true c2
     clear c2
     by_cases c3 : 0 ≤ x7_1
     · rw [if_pos c3] at H
       have c3b0 : decide (0 ≤ x7_1) = true := decide_eq_true c3
       clear c3
       by_cases c4 : x7_1 < (l0.length : Int)
       · rw [if_pos c4] at H
         have c4b0 : decide (x7_1 < (l0.length : Int)) = true := decide_eq_true c4
         clear c4
         replace H := Option.bind_eq_some_iff.mp H
         obtain ⟨t167, A50, H⟩ := H
         replace H : (if t167 = true then ((spec_optionName.f k1 ((rd_T73 l0 x7_1).f1)).bind fun t168 => (if t168 = true then ((spec_optionValue.f k1 ((rd_T73 l0 x7_1).f2)).bind fun t169 => (if t169 = true then (if (wrap64 ((wrap64 ((((rd_T73 l0 x7_1).f0).size : Int) + (((rd_T73 l0 x7_1).f1).size : Int))) + (((rd_T73 l0 x7_1).f2).size : Int))) > 1900 then (some false) else (spec_Writable.l0 k1 l0 l0 (l0.length : Int) (wrap64 (x7_1 + 1)))) else (some false))) else (some false))) else (some false)) = some r := H
         have A5 := Aside0.mk A50
         clear A50
         by_cases c6 : t167 = true
         · subst c6
           have H1 : ((spec_optionName.f k1 ((rd_T73 l0 x7_1).f1)).bind fun t168 => (if t168 = true then ((spec_optionValue.f k1 ((rd_T73 l0 x7_1).f2)).bind fun t169 => (if t169 = true then (if (wrap64 ((wrap64 ((((rd_T73 l0 x7_1).f0).size : Int) + (((rd_T73 l0 x7_1).f1).size : Int))) + (((rd_T73 l0 x7_1).f2).size : Int))) > 1900 then (some false) else (spec_Writable.l0 k1 l0 l0 (l0.length : Int) (wrap64 (x7_1 + 1)))) else (some false))) else (some false))) = some r := by rw [if_pos rfl] at H; exact H
           clear H
           have H := H1
           clear H1
           replace H := Option.bind_eq_some_iff.mp H
           obtain ⟨t168, A70, H⟩ := H
           replace H : (if t168 = true then ((spec_optionValue.f k1 ((rd_T73 l0 x7_1).f2)).bind fun t169 => (if t169 = true then (if (wrap64 ((wrap64 ((((rd_T73 l0 x7_1).f0).size : Int) + (((rd_T73 l0 x7_1).f1).size : Int))) + (((rd_T73 l0 x7_1).f2).size : Int))) > 1900 then (some false) else (spec_Writable.l0 k1 l0 l0 (l0.length : Int) (wrap64 (x7_1 + 1)))) else (some false))) else (some false)) = some r := H
           have A7 := Aside0.mk A70
           clear A70
           by_cases c8 : t168 = true
           · subst c8
             have H1 : ((spec_optionValue.f k1 ((rd_T73 l0 x7_1).f2)).bind fun t169 => (if t169 = true then (if (wrap64 ((wrap64 ((((rd_T73 l0 x7_1).f0).size : Int) + (((rd_T73 l0 x7_1).f1).size : Int))) + (((rd_T73 l0 x7_1).f2).size : Int))) > 1900 then (some false) else (spec_Writable.l0 k1 l0 l0 (l0.length : Int) (wrap64 (x7_1 + 1)))) else (some false))) = some r := by rw [if_pos rfl] at H; exact H
             clear H
             have H := H1
             clear H1
             replace H := Option.bind_eq_some_iff.mp H
             obtain ⟨t169, A90, H⟩ := H
             replace H : (if t169 = true then (if (wrap64 ((wrap64 ((((rd_T73 l0 x7_1).f0).size : Int) + (((rd_T73 l0 x7_1).f1).size : Int))) + (((rd_T73 l0 x7_1).f2).size : Int))) > 1900 then (some false) else (spec_Writable.l0 k1 l0 l0 (l0.length : Int) (wrap64 (x7_1 + 1)))) else (some false)) = some r := H
             have A9 := Aside0.mk A90
             clear A90
             by_cases c10 : t169 = true
             · subst c10
               have H1 : (if (wrap64 ((wrap64 ((((rd_T73 l0 x7_1).f0).size : Int) + (((rd_T73 l0 x7_1).f1).size : Int))) + (((rd_T73 l0 x7_1).f2).size : Int))) > 1900 then (some false) else (spec_Writable.l0 k1 l0 l0 (l0.length : Int) (wrap64 (x7_1 + 1)))) = some r := by rw [if_pos rfl] at H; exact H
               clear H
               have H := H1
               clear H1
               by_cases c11 : (wrap64 ((wrap64 ((((rd_T73 l0 x7_1).f0).size : Int) + (((rd_T73 l0 x7_1).f1).size : Int))) + (((rd_T73 l0 x7_1).f2).size : Int))) > 1900
               · rw [if_pos c11] at H
                 have c11b0 : decide (1900 < (wrap64 ((wrap64 ((((rd_T73 l0 x7_1).f0).size : Int) + (((rd_T73 l0 x7_1).f1).size : Int))) + (((rd_T73 l0 x7_1).f2).size : Int)))) = true := decide_eq_true c11
                 clear c11
                 obtain rfl := Option.some.inj H
                 have p165 : 0 ≤ (x7_1 : Int) := of_decide_eq_true (by first | (with_reducible assumption) | assumption)
                 have q165 : x7_1 < (l0.length : Int) := of_decide_eq_true (by first | (with_reducible assumption) | assumption)
                 obtain ⟨ad165, e165, hx165_0, hx165_1, hx165_2⟩ := at_T73 HR0.out x7_1 p165 q165
                 cases e165
                 replace hx165_0 := (HB.out.cell (World.block_lt_of_cell? w _ hx165_0)).trans hx165_0
                 replace hx165_1 := (HB.out.cell (World.block_lt_of_cell? w _ hx165_1)).trans hx165_1
                 replace hx165_2 := (HB.out.cell (World.block_lt_of_cell? w _ hx165_2)).trans hx165_2
                 replace p165 := eq_true p165
                 replace q165 := eq_true q165
                 go_wp2_with (first | ((with_reducible refine gate_dst (N := 4) rfl ?_); (try (refine gate_guard (by rfl) ?_; dsimp only)); refine box_event ?hg (N := 4) ?hd (cs := #[.string (⟨#[]⟩ : ByteArray), .string (⟨#[]⟩ : ByteArray), .string (⟨#[]⟩ : ByteArray)]) (t := 73) ?hr ?_; (case hd => rfl); (case hg => rfl); (case hr => first | (go_simp; done) | (go_simp; rfl)); intro gb166 hg w12 hbox hb; have n0_ := Aside0.mk (below_step (by repeat (first | (with_reducible first | exact HB.out | apply below_alloc | apply pw_below_drewN | apply below_drew1) | exact HB.out)) hb); have n1_ := Aside0.mk (hbox); have n2_ := Aside0.mk ((by rw [hg]; exact (below_size (by repeat (first | (with_reducible first | exact HB.out | apply below_alloc | apply pw_below_drewN | apply below_drew1) | exact HB.out))) : w.heap.size ≤ gb166)); have n3_ := Aside0.mk ((by rw [hg]; exact (below_size (by repeat (first | (with_reducible first | exact HB.out | apply below_alloc | apply pw_below_drewN | apply below_drew1) | exact HB.out))) : w.heap.size ≤ gb166)); clear HB; have HB := n0_; have BK166 := n1_; have GW166 := n2_; have GE166 := n3_; clear n0_ n1_ n2_ n3_; clear hb hbox hg; have hcz13_0 : w12.cell? ⟨gb166, 0, none⟩ = some (.string (⟨#[]⟩ : ByteArray)) := (blk_cell BK166.out 0).trans rfl; have hcz13_1 : w12.cell? ⟨gb166, 1, none⟩ = some (.string (⟨#[]⟩ : ByteArray)) := (blk_cell BK166.out 1).trans rfl; have hcz13_2 : w12.cell? ⟨gb166, 2, none⟩ = some (.string (⟨#[]⟩ : ByteArray)) := (blk_cell BK166.out 2).trans rfl; have hfz13_0 := blk_frozen BK166.out 0; have hfz13_1 := blk_frozen BK166.out 1; have hfz13_2 := blk_frozen BK166.out 2) | ((with_reducible refine gate_callee (f := 55) rfl ?_); refine goesL_ (some 13) rfl rfl Tryd.func55 (by kernel_rfl) rfl #[.string ((rd_T73 l0 x7_1).f0)] rfl (by (try simp only [List.map_toArray, List.map_cons, List.map_nil]); first | done | rfl | (simp only [List.length_drop, List.length_take]; rfl)) ?_; (with_reducible refine (spec_sectionName.calls k1 ((rd_T73 l0 x7_1).f0) true _ A5.out).mono ?_); rintro e w' ⟨rfl, ⟨nd, rfl⟩⟩; refine ⟨_, rfl, ?_⟩) | (go_at_call 56; (with_reducible refine (spec_optionName.calls k1 ((rd_T73 l0 x7_1).f1) true _ A7.out).mono ?_); rintro e w' ⟨rfl, ⟨nd, rfl⟩⟩) | (go_at_call 57; (with_reducible refine (spec_optionValue.calls k1 ((rd_T73 l0 x7_1).f2) true _ A9.out).mono ?_); rintro e w' ⟨rfl, ⟨nd, rfl⟩⟩))
                 go_ret
                 exact ⟨by first | rfl | (simp [errW_none, errW_some] <;> rfl) | (simp [*, errW_none, errW_some] <;> rfl), by repeat (first | (with_reducible first | exact HB.out | apply below_alloc | apply pw_below_drewN | apply below_drew1 | refine below_set ?_ GE166.out) | exact HB.out)⟩
               · rw [if_neg c11] at H
                 have c11b0 : decide (1900 < (wrap64 ((wrap64 ((((rd_T73 l0 x7_1).f0).size : Int) + (((rd_T73 l0 x7_1).f1).size : Int))) + (((rd_T73 l0 x7_1).f2).size : Int)))) = false := decide_eq_false c11
                 clear c11
                 have H' := Aside0.mk H
                 clear H
                 have p165 : 0 ≤ (x7_1 : Int) := of_decide_eq_true (by first | (with_reducible assumption) | assumption)
                 have q165 : x7_1 < (l0.length : Int) := of_decide_eq_true (by first | (with_reducible assumption) | assumption)
                 obtain ⟨ad165, e165, hx165_0, hx165_1, hx165_2⟩ := at_T73 HR0.out x7_1 p165 q165
                 cases e165
                 replace hx165_0 := (HB.out.cell (World.block_lt_of_cell? w _ hx165_0)).trans hx165_0
                 replace hx165_1 := (HB.out.cell (World.block_lt_of_cell? w _ hx165_1)).trans hx165_1
                 replace hx165_2 := (HB.out.cell (World.block_lt_of_cell? w _ hx165_2)).trans hx165_2
                 replace p165 := eq_true p165
                 replace q165 := eq_true q165
                 go_wp2_with (first | ((with_reducible refine gate_dst (N := 4) rfl ?_); (try (refine gate_guard (by rfl) ?_; dsimp only)); refine box_event ?hg (N := 4) ?hd (cs := #[.string (⟨#[]⟩ : ByteArray), .string (⟨#[]⟩ : ByteArray), .string (⟨#[]⟩ : ByteArray)]) (t := 73) ?hr ?_; (case hd => rfl); (case hg => rfl); (case hr => first | (go_simp; done) | (go_simp; rfl)); intro gb166 hg w14 hbox hb; have n0_ := Aside0.mk (below_step (by repeat (first | (with_reducible first | exact HB.out | apply below_alloc | apply pw_below_drewN | apply below_drew1) | exact HB.out)) hb); have n1_ := Aside0.mk (hbox); have n2_ := Aside0.mk ((by rw [hg]; exact (below_size (by repeat (first | (with_reducible first | exact HB.out | apply below_alloc | apply pw_below_drewN | apply below_drew1) | exact HB.out))) : w.heap.size ≤ gb166)); have n3_ := Aside0.mk ((by rw [hg]; exact (below_size (by repeat (first | (with_reducible first | exact HB.out | apply below_alloc | apply pw_below_drewN | apply below_drew1) | exact HB.out))) : w.heap.size ≤ gb166)); clear HB; have HB := n0_; have BK166 := n1_; have GW166 := n2_; have GE166 := n3_; clear n0_ n1_ n2_ n3_; clear hb hbox hg; have hcz15_0 : w14.cell? ⟨gb166, 0, none⟩ = some (.string (⟨#[]⟩ : ByteArray)) := (blk_cell BK166.out 0).trans rfl; have hcz15_1 : w14.cell? ⟨gb166, 1, none⟩ = some (.string (⟨#[]⟩ : ByteArray)) := (blk_cell BK166.out 1).trans rfl; have hcz15_2 : w14.cell? ⟨gb166, 2, none⟩ = some (.string (⟨#[]⟩ : ByteArray)) := (blk_cell BK166.out 2).trans rfl; have hfz15_0 := blk_frozen BK166.out 0; have hfz15_1 := blk_frozen BK166.out 1; have hfz15_2 := blk_frozen BK166.out 2) | ((with_reducible refine gate_callee (f := 55) rfl ?_); refine goesL_ (some 13) rfl rfl Tryd.func55 (by kernel_rfl) rfl #[.string ((rd_T73 l0 x7_1).f0)] rfl (by (try simp only [List.map_toArray, List.map_cons, List.map_nil]); first | done | rfl | (simp only [List.length_drop, List.length_take]; rfl)) ?_; (with_reducible refine (spec_sectionName.calls k1 ((rd_T73 l0 x7_1).f0) true _ A5.out).mono ?_); rintro e w' ⟨rfl, ⟨nd, rfl⟩⟩; refine ⟨_, rfl, ?_⟩) | (go_at_call 56; (with_reducible refine (spec_optionName.calls k1 ((rd_T73 l0 x7_1).f1) true _ A7.out).mono ?_); rintro e w' ⟨rfl, ⟨nd, rfl⟩⟩) | (go_at_call 57; (with_reducible refine (spec_optionValue.calls k1 ((rd_T73 l0 x7_1).f2) true _ A9.out).mono ?_); rintro e w' ⟨rfl, ⟨nd, rfl⟩⟩))
                 go_roundg k1
                 case measure => have := HK1.out; omega
                 case rel => exact ⟨(wrap64 (x7_1 + 1)), (by first | rfl | (simp; done) | (simp [*]; done)), H', ⟨by have := HK1.out; omega⟩, ⟨by repeat (first | (with_reducible first | exact HB.out | apply below_alloc | apply pw_below_drewN | apply below_drew1 | refine below_set ?_ GE166.out) | exact HB.out)⟩⟩
             · replace c10 := Bool.eq_false_iff.mpr c10
               subst c10
               have H1 : (some false) = some r := by rw [if_neg (show ¬ (false = true) by decide)] at H; exact H
               clear H
               have H := H1
               clear H1
               obtain rfl := Option.some.inj H
               have p165 : 0 ≤ (x7_1 : Int) := of_decide_eq_true (by first | (with_reducible assumption) | assumption)
               have q165 : x7_1 < (l0.length : Int) := of_decide_eq_true (by first | (with_reducible assumption) | assumption)
               obtain ⟨ad165, e165, hx165_0, hx165_1, hx165_2⟩ := at_T73 HR0.out x7_1 p165 q165
               cases e165
               replace hx165_0 := (HB.out.cell (World.block_lt_of_cell? w _ hx165_0)).trans hx165_0
               replace hx165_1 := (HB.out.cell (World.block_lt_of_cell? w _ hx165_1)).trans hx165_1
               replace hx165_2 := (HB.out.cell (World.block_lt_of_cell? w _ hx165_2)).trans hx165_2
               replace p165 := eq_true p165
               replace q165 := eq_true q165
               go_wp2_with (first | ((with_reducible refine gate_dst (N := 4) rfl ?_); (try (refine gate_guard (by rfl) ?_; dsimp only)); refine box_event ?hg (N := 4) ?hd (cs := #[.string (⟨#[]⟩ : ByteArray), .string (⟨#[]⟩ : ByteArray), .string (⟨#[]⟩ : ByteArray)]) (t := 73) ?hr ?_; (case hd => rfl); (case hg => rfl); (case hr => first | (go_simp; done) | (go_simp; rfl)); intro gb166 hg w16 hbox hb; have n0_ := Aside0.mk (below_step (by repeat (first | (with_reducible first | exact HB.out | apply below_alloc | apply pw_below_drewN | apply below_drew1) | exact HB.out)) hb); have n1_ := Aside0.mk (hbox); have n2_ := Aside0.mk ((by rw [hg]; exact (below_size (by repeat (first | (with_reducible first | exact HB.out | apply below_alloc | apply pw_below_drewN | apply below_drew1) | exact HB.out))) : w.heap.size ≤ gb166)); have n3_ := Aside0.mk ((by rw [hg]; exact (below_size (by repeat (first | (with_reducible first | exact HB.out | apply below_alloc | apply pw_below_drewN | apply below_drew1) | exact HB.out))) : w.heap.size ≤ gb166)); clear HB; have HB := n0_; have BK166 := n1_; have GW166 := n2_; have GE166 := n3_; clear n0_ n1_ n2_ n3_; clear hb hbox hg; have hcz17_0 : w16.cell? ⟨gb166, 0, none⟩ = some (.string (⟨#[]⟩ : ByteArray)) := (blk_cell BK166.out 0).trans rfl; have hcz17_1 : w16.cell? ⟨gb166, 1, none⟩ = some (.string (⟨#[]⟩ : ByteArray)) := (blk_cell BK166.out 1).trans rfl; have hcz17_2 : w16.cell? ⟨gb166, 2, none⟩ = some (.string (⟨#[]⟩ : ByteArray)) := (blk_cell BK166.out 2).trans rfl; have hfz17_0 := blk_frozen BK166.out 0; have hfz17_1 := blk_frozen BK166.out 1; have hfz17_2 := blk_frozen BK166.out 2) | ((with_reducible refine gate_callee (f := 55) rfl ?_); refine goesL_ (some 13) rfl rfl Tryd.func55 (by kernel_rfl) rfl #[.string ((rd_T73 l0 x7_1).f0)] rfl (by (try simp only [List.map_toArray, List.map_cons, List.map_nil]); first | done | rfl | (simp only [List.length_drop, List.length_take]; rfl)) ?_; (with_reducible refine (spec_sectionName.calls k1 ((rd_T73 l0 x7_1).f0) true _ A5.out).mono ?_); rintro e w' ⟨rfl, ⟨nd, rfl⟩⟩; refine ⟨_, rfl, ?_⟩) | (go_at_call 56; (with_reducible refine (spec_optionName.calls k1 ((rd_T73 l0 x7_1).f1) true _ A7.out).mono ?_); rintro e w' ⟨rfl, ⟨nd, rfl⟩⟩) | (go_at_call 57; (with_reducible refine (spec_optionValue.calls k1 ((rd_T73 l0 x7_1).f2) false _ A9.out).mono ?_); rintro e w' ⟨rfl, ⟨nd, rfl⟩⟩))
               go_ret
               exact ⟨by first | rfl | (simp [errW_none, errW_some] <;> rfl) | (simp [*, errW_none, errW_some] <;> rfl), by repeat (first | (with_reducible first | exact HB.out | apply below_alloc | apply pw_below_drewN | apply below_drew1 | refine below_set ?_ GE166.out) | exact HB.out)⟩
           · replace c8 := Bool.eq_false_iff.mpr c8
             subst c8
             have H1 : (some false) = some r := by rw [if_neg (show ¬ (false = true) by decide)] at H; exact H
             clear H
             have H := H1
             clear H1
             obtain rfl := Option.some.inj H
             have p165 : 0 ≤ (x7_1 : Int) := of_decide_eq_true (by first | (with_reducible assumption) | assumption)
             have q165 : x7_1 < (l0.length : Int) := of_decide_eq_true (by first | (with_reducible assumption) | assumption)
             obtain ⟨ad165, e165, hx165_0, hx165_1, hx165_2⟩ := at_T73 HR0.out x7_1 p165 q165
             cases e165
             replace hx165_0 := (HB.out.cell (World.block_lt_of_cell? w _ hx165_0)).trans hx165_0
             replace hx165_1 := (HB.out.cell (World.block_lt_of_cell? w _ hx165_1)).trans hx165_1
             replace hx165_2 := (HB.out.cell (World.block_lt_of_cell? w _ hx165_2)).trans hx165_2
             replace p165 := eq_true p165
             replace q165 := eq_true q165
             go_wp2_with (first | ((with_reducible refine gate_dst (N := 4) rfl ?_); (try (refine gate_guard (by rfl) ?_; dsimp only)); refine box_event ?hg (N := 4) ?hd (cs := #[.string (⟨#[]⟩ : ByteArray), .string (⟨#[]⟩ : ByteArray), .string (⟨#[]⟩ : ByteArray)]) (t := 73) ?hr ?_; (case hd => rfl); (case hg => rfl); (case hr => first | (go_simp; done) | (go_simp; rfl)); intro gb166 hg w18 hbox hb; have n0_ := Aside0.mk (below_step (by repeat (first | (with_reducible first | exact HB.out | apply below_alloc | apply pw_below_drewN | apply below_drew1) | exact HB.out)) hb); have n1_ := Aside0.mk (hbox); have n2_ := Aside0.mk ((by rw [hg]; exact (below_size (by repeat (first | (with_reducible first | exact HB.out | apply below_alloc | apply pw_below_drewN | apply below_drew1) | exact HB.out))) : w.heap.size ≤ gb166)); have n3_ := Aside0.mk ((by rw [hg]; exact (below_size (by repeat (first | (with_reducible first | exact HB.out | apply below_alloc | apply pw_below_drewN | apply below_drew1) | exact HB.out))) : w.heap.size ≤ gb166)); clear HB; have HB := n0_; have BK166 := n1_; have GW166 := n2_; have GE166 := n3_; clear n0_ n1_ n2_ n3_; clear hb hbox hg; have hcz19_0 : w18.cell? ⟨gb166, 0, none⟩ = some (.string (⟨#[]⟩ : ByteArray)) := (blk_cell BK166.out 0).trans rfl; have hcz19_1 : w18.cell? ⟨gb166, 1, none⟩ = some (.string (⟨#[]⟩ : ByteArray)) := (blk_cell BK166.out 1).trans rfl; have hcz19_2 : w18.cell? ⟨gb166, 2, none⟩ = some (.string (⟨#[]⟩ : ByteArray)) := (blk_cell BK166.out 2).trans rfl; have hfz19_0 := blk_frozen BK166.out 0; have hfz19_1 := blk_frozen BK166.out 1; have hfz19_2 := blk_frozen BK166.out 2) | ((with_reducible refine gate_callee (f := 55) rfl ?_); refine goesL_ (some 13) rfl rfl Tryd.func55 (by kernel_rfl) rfl #[.string ((rd_T73 l0 x7_1).f0)] rfl (by (try simp only [List.map_toArray, List.map_cons, List.map_nil]); first | done | rfl | (simp only [List.length_drop, List.length_take]; rfl)) ?_; (with_reducible refine (spec_sectionName.calls k1 ((rd_T73 l0 x7_1).f0) true _ A5.out).mono ?_); rintro e w' ⟨rfl, ⟨nd, rfl⟩⟩; refine ⟨_, rfl, ?_⟩) | (go_at_call 56; (with_reducible refine (spec_optionName.calls k1 ((rd_T73 l0 x7_1).f1) false _ A7.out).mono ?_); rintro e w' ⟨rfl, ⟨nd, rfl⟩⟩))
             go_ret
             exact ⟨by first | rfl | (simp [errW_none, errW_some] <;> rfl) | (simp [*, errW_none, errW_some] <;> rfl), by repeat (first | (with_reducible first | exact HB.out | apply below_alloc | apply pw_below_drewN | apply below_drew1 | refine below_set ?_ GE166.out) | exact HB.out)⟩
         · replace c6 := Bool.eq_false_iff.mpr c6
           subst c6
           have H1 : (some false) = some r := by rw [if_neg (show ¬ (false = true) by decide)] at H; exact H
           clear H
           have H := H1
           clear H1
           obtain rfl := Option.some.inj H
           have p165 : 0 ≤ (x7_1 : Int) := of_decide_eq_true (by first | (with_reducible assumption) | assumption)
           have q165 : x7_1 < (l0.length : Int) := of_decide_eq_true (by first | (with_reducible assumption) | assumption)
           obtain ⟨ad165, e165, hx165_0, hx165_1, hx165_2⟩ := at_T73 HR0.out x7_1 p165 q165
           cases e165
           replace hx165_0 := (HB.out.cell (World.block_lt_of_cell? w _ hx165_0)).trans hx165_0
           replace hx165_1 := (HB.out.cell (World.block_lt_of_cell? w _ hx165_1)).trans hx165_1
           replace hx165_2 := (HB.out.cell (World.block_lt_of_cell? w _ hx165_2)).trans hx165_2
           replace p165 := eq_true p165
           replace q165 := eq_true q165
           go_wp2_with (first | ((with_reducible refine gate_dst (N := 4) rfl ?_); (try (refine gate_guard (by rfl) ?_; dsimp only)); refine box_event ?hg (N := 4) ?hd (cs := #[.string (⟨#[]⟩ : ByteArray), .string (⟨#[]⟩ : ByteArray), .string (⟨#[]⟩ : ByteArray)]) (t := 73) ?hr ?_; (case hd => rfl); (case hg => rfl); (case hr => first | (go_simp; done) | (go_simp; rfl)); intro gb166 hg w20 hbox hb; have n0_ := Aside0.mk (below_step (by repeat (first | (with_reducible first | exact HB.out | apply below_alloc | apply pw_below_drewN | apply below_drew1) | exact HB.out)) hb); have n1_ := Aside0.mk (hbox); have n2_ := Aside0.mk ((by rw [hg]; exact (below_size (by repeat (first | (with_reducible first | exact HB.out | apply below_alloc | apply pw_below_drewN | apply below_drew1) | exact HB.out))) : w.heap.size ≤ gb166)); have n3_ := Aside0.mk ((by rw [hg]; exact (below_size (by repeat (first | (with_reducible first | exact HB.out | apply below_alloc | apply pw_below_drewN | apply below_drew1) | exact HB.out))) : w.heap.size ≤ gb166)); clear HB; have HB := n0_; have BK166 := n1_; have GW166 := n2_; have GE166 := n3_; clear n0_ n1_ n2_ n3_; clear hb hbox hg; have hcz21_0 : w20.cell? ⟨gb166, 0, none⟩ = some (.string (⟨#[]⟩ : ByteArray)) := (blk_cell BK166.out 0).trans rfl; have hcz21_1 : w20.cell? ⟨gb166, 1, none⟩ = some (.string (⟨#[]⟩ : ByteArray)) := (blk_cell BK166.out 1).trans rfl; have hcz21_2 : w20.cell? ⟨gb166, 2, none⟩ = some (.string (⟨#[]⟩ : ByteArray)) := (blk_cell BK166.out 2).trans rfl; have hfz21_0 := blk_frozen BK166.out 0; have hfz21_1 := blk_frozen BK166.out 1; have hfz21_2 := blk_frozen BK166.out 2) | ((with_reducible refine gate_callee (f := 55) rfl ?_); refine goesL_ (some 13) rfl rfl Tryd.func55 (by kernel_rfl) rfl #[.string ((rd_T73 l0 x7_1).f0)] rfl (by (try simp only [List.map_toArray, List.map_cons, List.map_nil]); first | done | rfl | (simp only [List.length_drop, List.length_take]; rfl)) ?_; (with_reducible refine (spec_sectionName.calls k1 ((rd_T73 l0 x7_1).f0) false _ A5.out).mono ?_); rintro e w' ⟨rfl, ⟨nd, rfl⟩⟩; refine ⟨_, rfl, ?_⟩))
           go_ret
           exact ⟨by first | rfl | (simp [errW_none, errW_some] <;> rfl) | (simp [*, errW_none, errW_some] <;> rfl), by repeat (first | (with_reducible first | exact HB.out | apply below_alloc | apply pw_below_drewN | apply below_drew1 | refine below_set ?_ GE166.out) | exact HB.out)⟩
       · rw [if_neg c4] at H
         exact absurd H (by simp)
     · rw [if_neg c3] at H
       exact absurd H (by simp)
   · rw [if_neg c2] at H
     have c2b0 : decide (x7_1 < (l0.length : Int)) = false := decide_eq_false c2
     clear c2
     obtain rfl := Option.some.inj H
     go_wp2
     go_ret
     exact ⟨by first | rfl | (simp [errW_none, errW_some] <;> rfl) | (simp [*, errW_none, errW_some] <;> rfl), by repeat (first | (with_reducible first | exact HB.out | apply below_alloc | apply pw_below_drewN | apply below_drew1) | exact HB.out)⟩
end Go.Proofs.YtocdnceckljnaaaDoor.QV0
namespace Go.Proofs.YtocdnceckljnaaaDoor.QV0
open Go.RowKit Go.Proofs.YtocdnceckljnaaaDoorW.PrintWords Go.Proofs.YtocdnceckljnaaaDoorW.PrintLast Go.Proofs.YtocdnceckljnaaaDoorW.PrintMore
attribute [local go_sem] max2_int min2_int max_two min_two max_three min_three max_four min_four
set_option linter.unusedVariables false
set_option linter.unusedSimpArgs false
mutual
def spec_Sections.l0 : Nat → List (S70) → List (S73) → Int → Int → Option ((List (S70)))
 | 0, _, _, _, _ => none
 | k + 1, x3, x8, x9, x10 => if x10 < x9 then (if 0 ≤ x10 then (if x10 < (x8.length : Int) then (spec_Sections.l1 k x3 (-1) x8 x9 x10 (x3.length : Int) 0 ((rd_T73 x8 x10).f0) ((rd_T73 x8 x10).f1) ((rd_T73 x8 x10).f2)) else (none)) else (none)) else (some x3)
def spec_Sections.l1 : Nat → List (S70) → Int → List (S73) → Int → Int → Int → Int → ByteArray → ByteArray → ByteArray → Option ((List (S70)))
 | 0, _, _, _, _, _, _, _, _, _, _ => none
 | k + 1, x3, x6, x8, x9, x10, x15, x16, x172000, x172001, x172002 => if x16 < x15 then (if 0 ≤ x16 then (if x16 < (x3.length : Int) then (if ((rd_T70 x3 x16).f0).toList = x172000.toList then (spec_Sections.l1 k x3 x16 x8 x9 x10 x15 (wrap64 (x16 + 1)) x172000 x172001 x172002) else (spec_Sections.l1 k x3 x6 x8 x9 x10 x15 (wrap64 (x16 + 1)) x172000 x172001 x172002)) else (none)) else (none)) else (if x6 < 0 then (if x3.length < 3518437208883 then ((some (x3 ++ [(⟨x172000, ([] : List (S72))⟩ : S70)] : List (S70))).bind fun y173 => (if 0 ≤ (wrap64 ((y173.length : Int) - 1)) then (if (wrap64 ((y173.length : Int) - 1)) < (y173.length : Int) then (if ((rd_T70 y173 (wrap64 ((y173.length : Int) - 1))).f1).length < 4398046511104 then (spec_Sections.l0 k (y173.set ((wrap64 ((y173.length : Int) - 1)) : Int).toNat (⟨(rd_T70 y173 (wrap64 ((y173.length : Int) - 1))).f0, (((rd_T70 y173 (wrap64 ((y173.length : Int) - 1))).f1) ++ [(⟨x172001, x172002⟩ : S72)])⟩ : S70)) x8 x9 (wrap64 (x10 + 1))) else (none)) else (none)) else (none))) else (none)) else (if 0 ≤ x6 then (if x6 < (x3.length : Int) then (if ((rd_T70 x3 x6).f1).length < 4398046511104 then (spec_Sections.l0 k (x3.set (x6 : Int).toNat (⟨(rd_T70 x3 x6).f0, (((rd_T70 x3 x6).f1) ++ [(⟨x172001, x172002⟩ : S72)])⟩ : S70)) x8 x9 (wrap64 (x10 + 1))) else (none)) else (none)) else (none)))
end
def spec_Sections.f (k : Nat) (l0 : List (S73)) : Option ((List (S70))) := spec_Sections.l0 k ([] : List (S70)) l0 (l0.length : Int) 0
def spec_Sections.T9 : Bool × List (List Nat × List Nat) := (true, [([], []), ([], []), ([0, 1], [0, 1]), ([2], [2]), ([3], [3]), ([], []), ([5], [5]), ([4, 6], [4, 6])])
def spec_Sections.B9 : List Nat := [0, 0, 3, 7, 15, 0, 32, 127]
theorem spec_Sections.tab9 : rtab .any (opsOf Tryd.f42 9) = spec_Sections.T9 := by kernel_rfl
theorem spec_Sections.bits9 : waitsOk spec_Sections.T9.2 spec_Sections.B9 = true := by kernel_rfl
def spec_Sections.T15 : Bool × List (List Nat × List Nat) := (true, [([], []), ([], []), ([], []), ([], []), ([2, 3], [2, 3]), ([4], [4]), ([5], [5]), ([], []), ([7], [7]), ([], []), ([9], [9]), ([8, 10], [8, 10]), ([11], [11]), ([6, 12], [6, 12]), ([0, 1, 0, 1, 2, 3, 4, 5, 6, 7, 8, 9, 10, 11, 12, 13], [0, 1]), ([14, 0, 1, 2, 3, 4, 5, 6, 7, 8, 9, 10, 11, 12, 13], [14]), ([15, 13, 13, 0, 1, 2, 3, 4, 5, 6, 7, 8, 9, 10, 11, 12, 13], [13, 15])])
def spec_Sections.B15 : List Nat := [0, 0, 0, 0, 12, 28, 60, 0, 128, 0, 512, 1920, 3968, 8188, 16383, 32767, 65535]
theorem spec_Sections.tab15 : rtab .any (opsOf Tryd.f42 15) = spec_Sections.T15 := by kernel_rfl
theorem spec_Sections.bits15 : waitsOk spec_Sections.T15.2 spec_Sections.B15 = true := by kernel_rfl
set_option maxHeartbeats 8000000 in
set_option maxRecDepth 100000 in
theorem spec_Sections.calls (k : Nat) (A0 : Option Addr) (c0 : Nat) (l0 : List (S73)) (r : List (S70)) (w : World) (hr0 : Kd.C k73 w A0 l0.length l0) (hc0 : l0.length ≤ c0) (h : spec_Sections.f k l0 = some r) :
 Calls Tryd.prog 42 #[.slice A0 l0.length c0] w fun e w' => ∃ v0_ : Value, e = .returned (v0_) ∧ Kd.S k70 70 w' w.heap.size (fun _ => True) v0_ r ∧ Below w.heap.size w w' := by
 have hu73 := Tryd.underlying73
 have hu70 := Tryd.underlying70
 have hu72 := Tryd.underlying72
 have HR0 := Aside0.mk hr0
 have HC0 := Aside0.mk hc0
 clear hr0 hc0
 have HB := Aside0.mk (Below.refl w.heap.size w)
 have H : (spec_Sections.l0 k ([] : List (S70)) l0 (l0.length : Int) 0) = some r := h
 clear h
 have H' := Aside0.mk H
 clear H
 go_enter Tryd.func42, Tryd.ntmps42
 go_wp2
 go_loopg [3, 10] k (fun kq v3 v10 w' => ∃ (x3_1 : List (S70)) (x10_1 : Int), v10 = .int .i64 x10_1 ∧ Aside0 (spec_Sections.l0 kq x3_1 l0 (l0.length : Int) x10_1 = some r) ∧ Aside0 (kq ≤ k) ∧ Aside0 (Kd.S k70 70 w' w.heap.size (fun _ => True) v3 x3_1) ∧ Aside0 (Below w.heap.size w w'))
 case atStart => exact ⟨(([] : List (S70))), (0), (by first | rfl | (simp; done) | (simp [*]; done)), H', ⟨Nat.le_refl _⟩, ⟨by first | exact Kd.S_nil _ _ _ _ _ | exact Kd.N_nil _ _ _ _ _ | exact Kd.V_nil _ _ _ _ _ | exact Kd.Q_nil _ _ _ _ _ | exact Kd.R_nil _ _ _ _ _⟩, ⟨by repeat (first | (with_reducible first | exact HB.out | apply below_alloc | apply pw_below_drewN | apply below_drew1) | exact HB.out)⟩⟩
 case round =>
  clear H'
  obtain ⟨x3_1, x10_1, rfl, HA, HK1, HO_3, HB⟩ := hrel
  cases gk with
  | zero => exact absurd HA.out (by simp [spec_Sections.l0])
  | succ k1 =>
   have H := HA.out
   clear HA
   simp only [spec_Sections.l0] at H
   by_cases c2 : x10_1 < (l0.length : Int)
   · rw [if_pos c2] at H
     have c2b0 : decide (x10_1 < (l0.length : Int)) = true := decide_eq_true c2
     clear c2
     by_cases c3 : 0 ≤ x10_1
     · rw [if_pos c3] at H
       have c3b0 : decide (0 ≤ x10_1) = true := decide_eq_true c3
       clear c3
       by_cases c4 : x10_1 < (l0.length : Int)
       · rw [if_pos c4] at H
         have c4b0 : decide (x10_1 < (l0.length : Int)) = true := decide_eq_true c4
         clear c4
         have H' := Aside0.mk H
         clear H
         have p170 : 0 ≤ (x10_1 : Int) := of_decide_eq_true (by first | (with_reducible assumption) | assumption)
         have q170 : x10_1 < (l0.length : Int) := of_decide_eq_true (by first | (with_reducible assumption) | assumption)
         obtain ⟨ad170, e170, hx170_0, hx170_1, hx170_2⟩ := at_T73 HR0.out x10_1 p170 q170
         cases e170
         replace hx170_0 := (HB.out.cell (World.block_lt_of_cell? w _ hx170_0)).trans hx170_0
         replace hx170_1 := (HB.out.cell (World.block_lt_of_cell? w _ hx170_1)).trans hx170_1
         replace hx170_2 := (HB.out.cell (World.block_lt_of_cell? w _ hx170_2)).trans hx170_2
         replace p170 := eq_true p170
         replace q170 := eq_true q170
         go_wp2_with (first | ((with_reducible refine gate_dst (N := 5) rfl ?_); refine box_event ?hg (N := 5) ?hd (cs := #[.string (⟨#[]⟩ : ByteArray), .string (⟨#[]⟩ : ByteArray), .string (⟨#[]⟩ : ByteArray)]) (t := 73) ?hr ?_; (case hd => rfl); (case hg => rfl); (case hr => first | (go_simp; done) | (go_simp; rfl)); intro gb171 hg w5 hbox hb; have n0_ := Aside0.mk (Kd.S_below (by (with_reducible repeat (first | apply Kd.S_alloc | apply Kd.S_drewN | apply Kd.S_drew)); exact HO_3.out) hb); have n1_ := Aside0.mk (below_step (by repeat (first | (with_reducible first | exact HB.out | apply below_alloc | apply pw_below_drewN | apply below_drew1) | exact HB.out)) hb); have n2_ := Aside0.mk (hbox); have n3_ := Aside0.mk ((by rw [hg]; exact (below_size (by repeat (first | (with_reducible first | exact HB.out | apply below_alloc | apply pw_below_drewN | apply below_drew1) | exact HB.out))) : w.heap.size ≤ gb171)); have n4_ := Aside0.mk ((by rw [hg]; exact (below_size (by repeat (first | (with_reducible first | exact HB.out | apply below_alloc | apply pw_below_drewN | apply below_drew1) | exact HB.out))) : w.heap.size ≤ gb171)); clear HO_3; clear HB; have HO_3 := n0_; have HB := n1_; have BK171 := n2_; have GW171 := n3_; have GE171 := n4_; clear n0_ n1_ n2_ n3_ n4_; clear hb hbox hg; have hcz6_0 : w5.cell? ⟨gb171, 0, none⟩ = some (.string (⟨#[]⟩ : ByteArray)) := (blk_cell BK171.out 0).trans rfl; have hcz6_1 : w5.cell? ⟨gb171, 1, none⟩ = some (.string (⟨#[]⟩ : ByteArray)) := (blk_cell BK171.out 1).trans rfl; have hcz6_2 : w5.cell? ⟨gb171, 2, none⟩ = some (.string (⟨#[]⟩ : ByteArray)) := (blk_cell BK171.out 2).trans rfl; have hfz6_0 := blk_frozen BK171.out 0; have hfz6_1 := blk_frozen BK171.out 1; have hfz6_2 := blk_frozen BK171.out 2; obtain ⟨Ao7, co7, eo7⟩ := Kd.S_slice HO_3.out; subst eo7))
         go_loopg [6, 16] k1 (fun kq v6 v16 w' => ∃ (x6_2 : Int) (x16_2 : Int), v6 = .int .i64 x6_2 ∧ v16 = .int .i64 x16_2 ∧ Aside0 (spec_Sections.l1 kq x3_1 x6_2 l0 (l0.length : Int) x10_1 (x3_1.length : Int) x16_2 ((rd_T73 l0 x10_1).f0) ((rd_T73 l0 x10_1).f1) ((rd_T73 l0 x10_1).f2) = some r) ∧ Aside0 (kq ≤ k1) ∧ Aside0 (Kd.S k70 70 w' w.heap.size (fun _ => True) (.slice Ao7 x3_1.length co7) x3_1) ∧ Aside0 (w'.heap[gb171]? = some (.cells #[.string ((rd_T73 l0 x10_1).f0), .string ((rd_T73 l0 x10_1).f1), .string ((rd_T73 l0 x10_1).f2)] 73 (0, 0))) ∧ Aside0 (Below w.heap.size w w'))
         case atStart => exact ⟨((-1)), (0), (by first | rfl | (simp; done) | (simp [*]; done)), (by first | rfl | (simp; done) | (simp [*]; done)), H', ⟨Nat.le_refl _⟩, ⟨by (with_reducible repeat (first | apply Kd.S_alloc | apply Kd.S_drewN | apply Kd.S_drew)); exact Kd.S_mono (Kd.S_far (p := ⟨gb171, 2, none⟩) (Kd.S_far (p := ⟨gb171, 1, none⟩) (Kd.S_far (p := ⟨gb171, 0, none⟩) (Kd.S_types HO_3.out BK171.out (by decide)) (fun _ hk => hk.2) (.string ((rd_T73 l0 x10_1).f0))) (fun _ hk => hk.2) (.string ((rd_T73 l0 x10_1).f1))) (fun _ hk => hk.2) (.string ((rd_T73 l0 x10_1).f2))) (fun _ hk => trivial)⟩, ⟨by (with_reducible repeat (first | refine blk_drewN ?_ _ | refine blk_drew ?_ | refine blk_alloc ?_ _)); refine blk_put (cs := #[.string ((rd_T73 l0 x10_1).f0), .string ((rd_T73 l0 x10_1).f1), .string (⟨#[]⟩ : ByteArray)]) ?_ 2 _ rfl; (with_reducible repeat (first | refine blk_drewN ?_ _ | refine blk_drew ?_ | refine blk_alloc ?_ _)); refine blk_put (cs := #[.string ((rd_T73 l0 x10_1).f0), .string (⟨#[]⟩ : ByteArray), .string (⟨#[]⟩ : ByteArray)]) ?_ 1 _ rfl; (with_reducible repeat (first | refine blk_drewN ?_ _ | refine blk_drew ?_ | refine blk_alloc ?_ _)); refine blk_put (cs := #[.string (⟨#[]⟩ : ByteArray), .string (⟨#[]⟩ : ByteArray), .string (⟨#[]⟩ : ByteArray)]) ?_ 0 _ rfl; (with_reducible repeat (first | refine blk_drewN ?_ _ | refine blk_drew ?_ | refine blk_alloc ?_ _)); exact BK171.out⟩, ⟨by repeat (first | (with_reducible first | exact HB.out | apply below_alloc | apply pw_below_drewN | apply below_drew1 | refine below_set ?_ GE171.out) | exact HB.out)⟩⟩
         case round =>
          clear H'
          try clear p1
          try clear q1
          try clear hx1
          try clear c2
          try clear c2b0
          try clear p2
          try clear c3
          try clear c3b0
          try clear c4
          try clear c4b0
          try clear hcz6_0
          try clear hcz6_1
          try clear hcz6_2
          try clear hfz6_0
          try clear hfz6_1
          try clear hfz6_2
          try clear hx170_0
          try clear hx170_1
          try clear hx170_2
          try clear p170
          try clear q170
          obtain ⟨x6_2, x16_2, rfl, rfl, HA, HK2, HO_3, BK171, HB⟩ := hrel
          cases gk with
          | zero => exact absurd HA.out (by simp [spec_Sections.l1])
          | succ k2 =>
           have H := HA.out
           clear HA
           simp only [spec_Sections.l1] at H
           by_cases c8 : x16_2 < (x3_1.length : Int)
           · rw [if_pos c8] at H
             have c8b0 : decide (x16_2 < (x3_1.length : Int)) = true := decide_eq_true c8
             clear c8
             by_cases c9 : 0 ≤ x16_2
             · rw [if_pos c9] at H
               have c9b0 : decide (0 ≤ x16_2) = true := decide_eq_true c9
               clear c9
               by_cases c10 : x16_2 < (x3_1.length : Int)
               · rw [if_pos c10] at H
                 have c10b0 : decide (x16_2 < (x3_1.length : Int)) = true := decide_eq_true c10
                 clear c10
                 by_cases c11 : ((rd_T70 x3_1 x16_2).f0).toList = ((rd_T73 l0 x10_1).f0).toList
                 · rw [if_pos c11] at H
                   have c11b0 : (((rd_T70 x3_1 x16_2).f0).toList == ((rd_T73 l0 x10_1).f0).toList) = true := beq_iff_eq.mpr c11
                   have c11b1 : (((rd_T70 x3_1 x16_2).f0).toList != ((rd_T73 l0 x10_1).f0).toList) = false := bne_eq_false_iff_eq.mpr c11
                   clear c11
                   have H' := Aside0.mk H
                   clear H
                   try go_wp2
                   have n0_ := Aside0.mk (Kd.S_drew HO_3.out)
                   have n1_ := Aside0.mk (blk_drew BK171.out)
                   have n2_ := Aside0.mk (below_drew1 HB.out)
                   clear HO_3
                   clear BK171
                   clear HB
                   have HO_3 := n0_
                   have BK171 := n1_
                   have HB := n2_
                   clear n0_ n1_ n2_
                   have p172 : 0 ≤ (x16_2 : Int) := of_decide_eq_true (by first | (with_reducible assumption) | assumption)
                   have q172 : x16_2 < (x3_1.length : Int) := of_decide_eq_true (by first | (with_reducible assumption) | assumption)
                   obtain ⟨ad172, A172_1, c172_1, e172, hx172_0, hx172_1, hl172_1, hi172_1⟩ := at_T70 (Kd.S_reads' HO_3.out).2.2 x16_2 p172 q172
                   cases e172
                   obtain ⟨ce172, hce172, hMe172, hcc172⟩ := Kd.S_get HO_3.out z70 x16_2 p172 (by first | exact q172 | exact of_decide_eq_true (by first | (with_reducible assumption) | assumption) | (have e_ := (Kd.S_reads' HO_3.out).1; omega))
                   obtain ⟨ve172_1, rfl, ge172_1⟩ := k70_openM hMe172
                   have hv172_1 := hcc172 1 _ rfl
                   rw [add_field _ _ 1 (by omega)] at hv172_1
                   replace hv172_1 := Option.some.inj (hv172_1.symm.trans hx172_1)
                   rw [hv172_1] at ge172_1
                   have HL172_1 := Aside0.mk (show Kd.R k72 72 _ _ _ _ ((rd_T70 x3_1 x16_2).f1) from ge172_1)
                   clear hv172_1 ge172_1
                   have HX172_1 := Aside0.mk hx172_1
                   clear hcc172 hce172
                   have HR172_1 := Aside0.mk hi172_1
                   have HC172_1 := Aside0.mk hl172_1
                   clear hi172_1 hl172_1
                   replace p172 := eq_true p172
                   replace q172 := eq_true q172
                   refine start_ (n := 8) (S := fun w' => w'.cell? ⟨gb171, 0, none⟩ = some (.string ((rd_T73 l0 x10_1).f0)) ∧ w'.cell? ⟨gb171, 1, none⟩ = some (.string ((rd_T73 l0 x10_1).f1)) ∧ w'.cell? ⟨gb171, 2, none⟩ = some (.string ((rd_T73 l0 x10_1).f2)) ∧ w'.cell? (ad172.add ((x16_2).toNat * 2)) = some (.string ((rd_T70 x3_1 x16_2).f0)) ∧ w'.cell? ⟨(ad172.add ((x16_2).toNat * 2)).block, (ad172.add ((x16_2).toNat * 2)).off + 1, none⟩ = some (.slice A172_1 ((rd_T70 x3_1 x16_2).f1).length c172_1)) (ds := []) #[false, false, false, false, false, false, false, false] (by kernel_rfl) rfl rfl ⟨(blk_cell BK171.out 0).trans rfl, (blk_cell BK171.out 1).trans rfl, (blk_cell BK171.out 2).trans rfl, hx172_0, hx172_1⟩ (fun hHeld => ?_); refine with_tabW spec_Sections.tab9 spec_Sections.bits9 (fun HT_ HW_ => ?_)
                   generalize wr.drew = w12 at HO_3 BK171 HB HL172_1 HR172_1 HX172_1 hx172_0 hx172_1 hHeld ⊢
                   refine pure_ (i := 0) (N := some 19) (v := ?_) (a' := ?_) #[true, false, false, false, false, false, false, false] rfl rfl (any_of HT_.out (by kernel_rfl)) (fun _ _ _ h => h) (Or.inl ⟨by rfl, ?_⟩) ?_ ?_
                   rotate_left
                   · intro w'
                     go_simp
                     with_reducible rfl
                   rotate_left
                   · simp only [Act.put, List.setIfInBounds_toArray, List.set_cons_zero, List.set_cons_succ, i64_w, i32_w]
                     rfl
                   refine pure_ (i := 1) (N := some 20) (v := ?_) (a' := ?_) #[true, true, false, false, false, false, false, false] rfl rfl (any_of HT_.out (by kernel_rfl)) (fun _ _ _ h => h) (Or.inl ⟨by rfl, ?_⟩) ?_ ?_
                   rotate_left
                   · intro w'
                     go_simp
                     with_reducible rfl
                   rotate_left
                   · simp only [Act.put, List.setIfInBounds_toArray, List.set_cons_zero, List.set_cons_succ, i64_w, i32_w]
                     rfl
                   refine pure_ (i := 2) (N := some 21) (v := ?_) (a' := ?_) #[true, true, true, false, false, false, false, false] rfl rfl (any_of HT_.out (by kernel_rfl)) (fun _ _ _ h => h) (Or.inl ⟨by rfl, ?_⟩) ?_ ?_
                   rotate_left
                   · intro w'
                     go_simp
                     with_reducible rfl
                   rotate_left
                   · simp only [Act.put, List.setIfInBounds_toArray, List.set_cons_zero, List.set_cons_succ, i64_w, i32_w]
                     rfl
                   refine pure_ (i := 3) (N := some 22) (v := ?_) (a' := ?_) #[true, true, true, true, false, false, false, false] rfl rfl (any_of HT_.out (by kernel_rfl)) (fun _ _ _ h => h) (Or.inl ⟨by rfl, ?_⟩) ?_ ?_
                   rotate_left
                   · intro w'
                     go_simp
                     with_reducible rfl
                   rotate_left
                   · simp only [Act.put, List.setIfInBounds_toArray, List.set_cons_zero, List.set_cons_succ, i64_w, i32_w]
                     rfl
                   refine pure_ (i := 5) (N := some 24) (v := ?_) (a' := ?_) #[true, true, true, true, false, true, false, false] rfl rfl (any_of HT_.out (by kernel_rfl)) (fun _ _ _ h => h) (Or.inl ⟨by rfl, ?_⟩) ?_ ?_
                   rotate_left
                   · intro w'
                     go_simp
                     with_reducible rfl
                   rotate_left
                   · simp only [Act.put, List.setIfInBounds_toArray, List.set_cons_zero, List.set_cons_succ, i64_w, i32_w]
                     rfl
                   refine take_ (i := 4) (N := some 23) (v := ?_) (a' := ?_) #[true, true, true, true, true, true, false, false] rfl rfl (take_ofW HT_.out HW_.out (by kernel_rfl)) (fun _ _ _ h => h) (Or.inl ⟨by rfl, ?_⟩) hHeld ?_ ?_
                   rotate_left
                   · rintro w' ⟨s0, s1, s2, s3, s4⟩
                     go_simp
                     with_reducible rfl
                   rotate_left
                   · simp only [Act.put, List.setIfInBounds_toArray, List.set_cons_zero, List.set_cons_succ, i64_w, i32_w]
                     rfl
                   refine take_ (i := 6) (N := some 25) (v := ?_) (a' := ?_) #[true, true, true, true, true, true, true, false] rfl rfl (take_ofW HT_.out HW_.out (by kernel_rfl)) (fun _ _ _ h => h) (Or.inl ⟨by rfl, ?_⟩) hHeld ?_ ?_
                   rotate_left
                   · rintro w' ⟨s0, s1, s2, s3, s4⟩
                     go_simp
                     with_reducible rfl
                   rotate_left
                   · simp only [Act.put, List.setIfInBounds_toArray, List.set_cons_zero, List.set_cons_succ, i64_w, i32_w]
                     rfl
                   refine pure_ (i := 7) (N := some 26) (v := ?_) (a' := ?_) #[true, true, true, true, true, true, true, true] rfl rfl (any_of HT_.out (by kernel_rfl)) (fun _ _ _ h => h) (Or.inl ⟨by rfl, ?_⟩) ?_ ?_
                   rotate_left
                   · intro w'
                     go_simp
                     with_reducible rfl
                   rotate_left
                   · simp only [Act.put, List.setIfInBounds_toArray, List.set_cons_zero, List.set_cons_succ, i64_w, i32_w]
                     rfl
                   refine done_ (done_of HT_.out (by kernel_rfl)) ?_
                   try go_wp2
                   go_roundg k2
                   case measure => have := HK1.out; have := HK2.out; omega
                   case rel => exact ⟨(x16_2), (wrap64 (x16_2 + 1)), (by first | rfl | (simp; done) | (simp [*]; done)), (by first | rfl | (simp; done) | (simp [*]; done)), H', ⟨by have := HK1.out; have := HK2.out; omega⟩, ⟨by (with_reducible repeat (first | apply Kd.S_alloc | apply Kd.S_drewN | apply Kd.S_drew)); exact HO_3.out⟩, ⟨by (with_reducible repeat (first | refine blk_drewN ?_ _ | refine blk_drew ?_ | refine blk_alloc ?_ _)); exact BK171.out⟩, ⟨by repeat (first | (with_reducible first | exact HB.out | apply below_alloc | apply pw_below_drewN | apply below_drew1 | refine below_set ?_ GE171.out) | exact HB.out)⟩⟩
                 · rw [if_neg c11] at H
                   have c11b0 : (((rd_T70 x3_1 x16_2).f0).toList == ((rd_T73 l0 x10_1).f0).toList) = false := beq_eq_false_iff_ne.mpr c11
                   have c11b1 : (((rd_T70 x3_1 x16_2).f0).toList != ((rd_T73 l0 x10_1).f0).toList) = true := bne_iff_ne.mpr c11
                   have H' := Aside0.mk H
                   clear H
                   try go_wp2
                   have n0_ := Aside0.mk (Kd.S_drew HO_3.out)
                   have n1_ := Aside0.mk (blk_drew BK171.out)
                   have n2_ := Aside0.mk (below_drew1 HB.out)
                   clear HO_3
                   clear BK171
                   clear HB
                   have HO_3 := n0_
                   have BK171 := n1_
                   have HB := n2_
                   clear n0_ n1_ n2_
                   have p172 : 0 ≤ (x16_2 : Int) := of_decide_eq_true (by first | (with_reducible assumption) | assumption)
                   have q172 : x16_2 < (x3_1.length : Int) := of_decide_eq_true (by first | (with_reducible assumption) | assumption)
                   obtain ⟨ad172, A172_1, c172_1, e172, hx172_0, hx172_1, hl172_1, hi172_1⟩ := at_T70 (Kd.S_reads' HO_3.out).2.2 x16_2 p172 q172
                   cases e172
                   obtain ⟨ce172, hce172, hMe172, hcc172⟩ := Kd.S_get HO_3.out z70 x16_2 p172 (by first | exact q172 | exact of_decide_eq_true (by first | (with_reducible assumption) | assumption) | (have e_ := (Kd.S_reads' HO_3.out).1; omega))
                   obtain ⟨ve172_1, rfl, ge172_1⟩ := k70_openM hMe172
                   have hv172_1 := hcc172 1 _ rfl
                   rw [add_field _ _ 1 (by omega)] at hv172_1
                   replace hv172_1 := Option.some.inj (hv172_1.symm.trans hx172_1)
                   rw [hv172_1] at ge172_1
                   have HL172_1 := Aside0.mk (show Kd.R k72 72 _ _ _ _ ((rd_T70 x3_1 x16_2).f1) from ge172_1)
                   clear hv172_1 ge172_1
                   have HX172_1 := Aside0.mk hx172_1
                   clear hcc172 hce172
                   have HR172_1 := Aside0.mk hi172_1
                   have HC172_1 := Aside0.mk hl172_1
                   clear hi172_1 hl172_1
                   replace p172 := eq_true p172
                   replace q172 := eq_true q172
                   refine start_ (n := 8) (S := fun w' => w'.cell? ⟨gb171, 0, none⟩ = some (.string ((rd_T73 l0 x10_1).f0)) ∧ w'.cell? ⟨gb171, 1, none⟩ = some (.string ((rd_T73 l0 x10_1).f1)) ∧ w'.cell? ⟨gb171, 2, none⟩ = some (.string ((rd_T73 l0 x10_1).f2)) ∧ w'.cell? (ad172.add ((x16_2).toNat * 2)) = some (.string ((rd_T70 x3_1 x16_2).f0)) ∧ w'.cell? ⟨(ad172.add ((x16_2).toNat * 2)).block, (ad172.add ((x16_2).toNat * 2)).off + 1, none⟩ = some (.slice A172_1 ((rd_T70 x3_1 x16_2).f1).length c172_1)) (ds := []) #[false, false, false, false, false, false, false, false] (by kernel_rfl) rfl rfl ⟨(blk_cell BK171.out 0).trans rfl, (blk_cell BK171.out 1).trans rfl, (blk_cell BK171.out 2).trans rfl, hx172_0, hx172_1⟩ (fun hHeld => ?_); refine with_tabW spec_Sections.tab9 spec_Sections.bits9 (fun HT_ HW_ => ?_)
                   generalize wr.drew = w13 at HO_3 BK171 HB HL172_1 HR172_1 HX172_1 hx172_0 hx172_1 hHeld ⊢
                   refine pure_ (i := 0) (N := some 19) (v := ?_) (a' := ?_) #[true, false, false, false, false, false, false, false] rfl rfl (any_of HT_.out (by kernel_rfl)) (fun _ _ _ h => h) (Or.inl ⟨by rfl, ?_⟩) ?_ ?_
                   rotate_left
                   · intro w'
                     go_simp
                     with_reducible rfl
                   rotate_left
                   · simp only [Act.put, List.setIfInBounds_toArray, List.set_cons_zero, List.set_cons_succ, i64_w, i32_w]
                     rfl
                   refine pure_ (i := 1) (N := some 20) (v := ?_) (a' := ?_) #[true, true, false, false, false, false, false, false] rfl rfl (any_of HT_.out (by kernel_rfl)) (fun _ _ _ h => h) (Or.inl ⟨by rfl, ?_⟩) ?_ ?_
                   rotate_left
                   · intro w'
                     go_simp
                     with_reducible rfl
                   rotate_left
                   · simp only [Act.put, List.setIfInBounds_toArray, List.set_cons_zero, List.set_cons_succ, i64_w, i32_w]
                     rfl
                   refine pure_ (i := 2) (N := some 21) (v := ?_) (a' := ?_) #[true, true, true, false, false, false, false, false] rfl rfl (any_of HT_.out (by kernel_rfl)) (fun _ _ _ h => h) (Or.inl ⟨by rfl, ?_⟩) ?_ ?_
                   rotate_left
                   · intro w'
                     go_simp
                     with_reducible rfl
                   rotate_left
                   · simp only [Act.put, List.setIfInBounds_toArray, List.set_cons_zero, List.set_cons_succ, i64_w, i32_w]
                     rfl
                   refine pure_ (i := 3) (N := some 22) (v := ?_) (a' := ?_) #[true, true, true, true, false, false, false, false] rfl rfl (any_of HT_.out (by kernel_rfl)) (fun _ _ _ h => h) (Or.inl ⟨by rfl, ?_⟩) ?_ ?_
                   rotate_left
                   · intro w'
                     go_simp
                     with_reducible rfl
                   rotate_left
                   · simp only [Act.put, List.setIfInBounds_toArray, List.set_cons_zero, List.set_cons_succ, i64_w, i32_w]
                     rfl
                   refine pure_ (i := 5) (N := some 24) (v := ?_) (a' := ?_) #[true, true, true, true, false, true, false, false] rfl rfl (any_of HT_.out (by kernel_rfl)) (fun _ _ _ h => h) (Or.inl ⟨by rfl, ?_⟩) ?_ ?_
                   rotate_left
                   · intro w'
                     go_simp
                     with_reducible rfl
                   rotate_left
                   · simp only [Act.put, List.setIfInBounds_toArray, List.set_cons_zero, List.set_cons_succ, i64_w, i32_w]
                     rfl
                   refine take_ (i := 4) (N := some 23) (v := ?_) (a' := ?_) #[true, true, true, true, true, true, false, false] rfl rfl (take_ofW HT_.out HW_.out (by kernel_rfl)) (fun _ _ _ h => h) (Or.inl ⟨by rfl, ?_⟩) hHeld ?_ ?_
                   rotate_left
                   · rintro w' ⟨s0, s1, s2, s3, s4⟩
                     go_simp
                     with_reducible rfl
                   rotate_left
                   · simp only [Act.put, List.setIfInBounds_toArray, List.set_cons_zero, List.set_cons_succ, i64_w, i32_w]
                     rfl
                   refine take_ (i := 6) (N := some 25) (v := ?_) (a' := ?_) #[true, true, true, true, true, true, true, false] rfl rfl (take_ofW HT_.out HW_.out (by kernel_rfl)) (fun _ _ _ h => h) (Or.inl ⟨by rfl, ?_⟩) hHeld ?_ ?_
                   rotate_left
                   · rintro w' ⟨s0, s1, s2, s3, s4⟩
                     go_simp
                     with_reducible rfl
                   rotate_left
                   · simp only [Act.put, List.setIfInBounds_toArray, List.set_cons_zero, List.set_cons_succ, i64_w, i32_w]
                     rfl
                   refine pure_ (i := 7) (N := some 26) (v := ?_) (a' := ?_) #[true, true, true, true, true, true, true, true] rfl rfl (any_of HT_.out (by kernel_rfl)) (fun _ _ _ h => h) (Or.inl ⟨by rfl, ?_⟩) ?_ ?_
                   rotate_left
                   · intro w'
                     go_simp
                     with_reducible rfl
                   rotate_left
                   · simp only [Act.put, List.setIfInBounds_toArray, List.set_cons_zero, List.set_cons_succ, i64_w, i32_w]
                     rfl
                   refine done_ (done_of HT_.out (by kernel_rfl)) ?_
                   try go_wp2
                   go_roundg k2
                   case measure => have := HK1.out; have := HK2.out; omega
                   case rel => exact ⟨(x6_2), (wrap64 (x16_2 + 1)), (by first | rfl | (simp; done) | (simp [*]; done)), (by first | rfl | (simp; done) | (simp [*]; done)), H', ⟨by have := HK1.out; have := HK2.out; omega⟩, ⟨by (with_reducible repeat (first | apply Kd.S_alloc | apply Kd.S_drewN | apply Kd.S_drew)); exact HO_3.out⟩, ⟨by (with_reducible repeat (first | refine blk_drewN ?_ _ | refine blk_drew ?_ | refine blk_alloc ?_ _)); exact BK171.out⟩, ⟨by repeat (first | (with_reducible first | exact HB.out | apply below_alloc | apply pw_below_drewN | apply below_drew1 | refine below_set ?_ GE171.out) | exact HB.out)⟩⟩
               · rw [if_neg c10] at H
                 exact absurd H (by simp)
             · rw [if_neg c9] at H
               exact absurd H (by simp)
           · rw [if_neg c8] at H
             have c8b0 : decide (x16_2 < (x3_1.length : Int)) = false := decide_eq_false c8
             clear c8
             by_cases c14 : x6_2 < 0
             · rw [if_pos c14] at H
               have c14b0 : decide (x6_2 < 0) = true := decide_eq_true c14
               clear c14
               by_cases c15 : x3_1.length < 3518437208883
               · rw [if_pos c15] at H
                 have LMc15 := Aside0.mk c15
                 clear c15
                 obtain ⟨y173, hy173⟩ : ∃ y_ : List (S70), y_ = (x3_1 ++ [(⟨((rd_T73 l0 x10_1).f0), ([] : List (S72))⟩ : S70)]) := ⟨_, rfl⟩
                 replace H : (if 0 ≤ (wrap64 ((y173.length : Int) - 1)) then (if (wrap64 ((y173.length : Int) - 1)) < (y173.length : Int) then (if ((rd_T70 y173 (wrap64 ((y173.length : Int) - 1))).f1).length < 4398046511104 then (spec_Sections.l0 k2 (y173.set ((wrap64 ((y173.length : Int) - 1)) : Int).toNat (⟨(rd_T70 y173 (wrap64 ((y173.length : Int) - 1))).f0, (((rd_T70 y173 (wrap64 ((y173.length : Int) - 1))).f1) ++ [(⟨((rd_T73 l0 x10_1).f1), ((rd_T73 l0 x10_1).f2)⟩ : S72)])⟩ : S70)) l0 (l0.length : Int) (wrap64 (x10_1 + 1))) else (none)) else (none)) else (none)) = some r := by first | (rw [hy173]; with_reducible exact H) | (have H2_ := (Option.bind_some _ _).symm.trans H; rw [hy173]; with_reducible exact H2_) | (have H2_ := (Option.bind_some _ _).symm.trans H; with_reducible exact H2_) | with_reducible exact H | (rw [hy173]; exact H) | exact H
                 have Ny173 := Aside0.mk hy173
                 clear hy173
                 obtain ⟨ji16, hji16⟩ : ∃ j_ : Int, (wrap64 ((y173.length : Int) - 1)) = j_ := ⟨_, rfl⟩
                 replace H : (if 0 ≤ (ji16) then (if (ji16) < (y173.length : Int) then (if ((rd_T70 y173 (ji16)).f1).length < 4398046511104 then (spec_Sections.l0 k2 (y173.set ((ji16) : Int).toNat (⟨(rd_T70 y173 (ji16)).f0, (((rd_T70 y173 (ji16)).f1) ++ [(⟨((rd_T73 l0 x10_1).f1), ((rd_T73 l0 x10_1).f2)⟩ : S72)])⟩ : S70)) l0 (l0.length : Int) (wrap64 (x10_1 + 1))) else (none)) else (none)) else (none)) = some r := by first | (rw [hji16] at H; exact H) | (simp only [hji16] at H ⊢; exact H)
                 have hji16w : (IntKind.i64.wrap ((y173.length : Int) - 1)) = ji16 := (i64_w _).trans hji16
                 by_cases c17 : 0 ≤ (ji16)
                 · rw [if_pos c17] at H
                   have c17b0 : decide (0 ≤ (ji16)) = true := decide_eq_true c17
                   clear c17
                   by_cases c18 : (ji16) < (y173.length : Int)
                   · rw [if_pos c18] at H
                     have c18b0 : decide ((ji16) < (y173.length : Int)) = true := decide_eq_true c18
                     clear c18
                     by_cases c19 : ((rd_T70 y173 (ji16)).f1).length < 4398046511104
                     · rw [if_pos c19] at H
                       have LMc19 := Aside0.mk c19
                       clear c19
                       obtain ⟨y177, hy177⟩ : ∃ y_ : List (S72), y_ = (((rd_T70 y173 (ji16)).f1) ++ [(⟨((rd_T73 l0 x10_1).f1), ((rd_T73 l0 x10_1).f2)⟩ : S72)]) := ⟨_, rfl⟩
                       replace H : (spec_Sections.l0 k2 (y173.set ((ji16) : Int).toNat (⟨(rd_T70 y173 (ji16)).f0, y177⟩ : S70)) l0 (l0.length : Int) (wrap64 (x10_1 + 1))) = some r := by first | (rw [hy177]; with_reducible exact H) | (have H2_ := (Option.bind_some _ _).symm.trans H; rw [hy177]; with_reducible exact H2_) | (have H2_ := (Option.bind_some _ _).symm.trans H; with_reducible exact H2_) | with_reducible exact H | (rw [hy177]; exact H) | exact H
                       have Ny177 := Aside0.mk hy177
                       clear hy177
                       obtain ⟨y180, hy180⟩ : ∃ y_ : List (S70), y_ = (y173.set ((ji16) : Int).toNat (⟨(rd_T70 y173 (ji16)).f0, y177⟩ : S70)) := ⟨_, rfl⟩
                       replace H : (spec_Sections.l0 k2 y180 l0 (l0.length : Int) (wrap64 (x10_1 + 1))) = some r := by first | (rw [hy180]; with_reducible exact H) | (have H2_ := (Option.bind_some _ _).symm.trans H; rw [hy180]; with_reducible exact H2_) | (have H2_ := (Option.bind_some _ _).symm.trans H; with_reducible exact H2_) | with_reducible exact H | (rw [hy180]; exact H) | exact H
                       have Ny180 := Aside0.mk hy180
                       clear hy180
                       have H' := Aside0.mk H
                       clear H
                       have hcz21_0 : wr.cell? ⟨gb171, 0, none⟩ = some (.string ((rd_T73 l0 x10_1).f0)) := (blk_cell BK171.out 0).trans rfl
                       have hcz21_1 : wr.cell? ⟨gb171, 1, none⟩ = some (.string ((rd_T73 l0 x10_1).f1)) := (blk_cell BK171.out 1).trans rfl
                       have hcz21_2 : wr.cell? ⟨gb171, 2, none⟩ = some (.string ((rd_T73 l0 x10_1).f2)) := (blk_cell BK171.out 2).trans rfl
                       have hfz21_0 := blk_frozen BK171.out 0
                       have hfz21_1 := blk_frozen BK171.out 1
                       have hfz21_2 := blk_frozen BK171.out 2
                       try go_wp2_with (first | ((with_reducible refine gate_builtin (b := .append) (xs := #[.tmp 31, .tmp 35]) rfl ?_); at_builtin; refine Kd.S_append k70 (w0 := w) w.heap.size rfl (.tmp 31) (.tmp 35) 66 70 (.agg #[(.string ⟨#[]⟩), (.slice none 0 0)]) 40 rfl Tryd.underlying66 info70 rfl (by decide) (by omega) (.slice Ao7 x3_1.length co7) x3_1 (⟨((rd_T73 l0 x10_1).f0), ([] : List (S72))⟩ : S70) [.string ((rd_T73 l0 x10_1).f0), .slice none 0 0] (fun _ => True) (fun _ => False) rfl rfl ?aP (fun k_ hk_ => hk_.elim) ?aF ?aO ?aB ?aS ?aL ?_; (case aP => exact k70_mkM _ _ _ (⟨((rd_T73 l0 x10_1).f0), ([] : List (S72))⟩ : S70) (Kd.R_nil _ _ _ _ _)); (case aB => exact (by repeat (first | (with_reducible first | exact HB.out | apply below_alloc | apply pw_below_drewN | apply below_drew1 | refine below_set ?_ GE171.out) | exact HB.out))); (case aF => exact (fun _ _ => trivial)); (case aO => exact (by (with_reducible repeat (first | apply Kd.S_alloc | apply Kd.S_drewN | apply Kd.S_drew)); exact Kd.S_mono HO_3.out (fun k_ hk => ⟨trivial, fun e_ => e_⟩))); (case aS => exact (below_size (by repeat (first | (with_reducible first | exact HB.out | apply below_alloc | apply pw_below_drewN | apply below_drew1 | refine below_set ?_ GE171.out) | exact HB.out)))); (case aL => have := LMc15.out; omega); intro v174 w22 ho hb hg hat; rw [← Ny173.out] at ho; have n0_ := Aside0.mk (blk_grown (g := gb171) (o := .cells #[.string ((rd_T73 l0 x10_1).f0), .string ((rd_T73 l0 x10_1).f1), .string ((rd_T73 l0 x10_1).f2)] 73 (0, 0)) (by (with_reducible repeat (first | refine blk_drewN ?_ _ | refine blk_drew ?_ | refine blk_alloc ?_ _)); exact BK171.out) hg (Kd.S_ne HO_3.out BK171.out (by decide))); have n1_ := Aside0.mk (hb); have n2_ := Aside0.mk (ho); clear BK171; clear HB; clear HO_3; have BK171 := n0_; have HB := n1_; have HO175 := n2_; clear n0_ n1_ n2_; clear ho hb hg hat; obtain ⟨Ao23, co23, eo23⟩ := Kd.S_slice HO175.out; subst eo23))
                       have n0_ := Aside0.mk (Kd.S_drew HO175.out)
                       have n1_ := Aside0.mk (blk_drew BK171.out)
                       have n2_ := Aside0.mk (below_drew1 HB.out)
                       clear HO175
                       clear BK171
                       clear HB
                       have HO175 := n0_
                       have BK171 := n1_
                       have HB := n2_
                       clear n0_ n1_ n2_
                       have p176 : 0 ≤ ((ji16) : Int) := of_decide_eq_true (by first | (with_reducible assumption) | assumption)
                       have q176 : (ji16) < (y173.length : Int) := of_decide_eq_true (by first | (with_reducible assumption) | assumption)
                       obtain ⟨ad176, A176_1, c176_1, e176, hx176_0, hx176_1, hl176_1, hi176_1⟩ := at_T70 (Kd.S_reads' HO175.out).2.2 (ji16) p176 q176
                       cases e176
                       obtain ⟨ce176, hce176, hMe176, hcc176⟩ := Kd.S_get HO175.out z70 (ji16) p176 (by first | exact q176 | exact of_decide_eq_true (by first | (with_reducible assumption) | assumption) | (have e_ := (Kd.S_reads' HO175.out).1; omega))
                       obtain ⟨ve176_1, rfl, ge176_1⟩ := k70_openM hMe176
                       have hv176_1 := hcc176 1 _ rfl
                       rw [add_field _ _ 1 (by omega)] at hv176_1
                       replace hv176_1 := Option.some.inj (hv176_1.symm.trans hx176_1)
                       rw [hv176_1] at ge176_1
                       have HL176_1 := Aside0.mk (show Kd.R k72 72 _ _ _ _ ((rd_T70 y173 (ji16)).f1) from ge176_1)
                       clear hv176_1 ge176_1
                       have HX176_1 := Aside0.mk hx176_1
                       clear hcc176 hce176
                       have HR176_1 := Aside0.mk hi176_1
                       have HC176_1 := Aside0.mk hl176_1
                       clear hi176_1 hl176_1
                       replace p176 := eq_true p176
                       replace q176 := eq_true q176
                       obtain ⟨go25, co25, eo25, gb25, gl25, cl25, HG25⟩ := Kd.S_form HO175.out (by have h_ : ((ji16) : Int) < ((y173.length : Int) : Int) := of_decide_eq_true (by first | (with_reducible assumption) | assumption); have h2_ : 0 ≤ ((ji16) : Int) := (of_decide_eq_true (by first | (with_reducible assumption) | assumption)); omega)
                       (first | cases eo25 | (injection eo25 with ea_ en_ ec_; (first | subst ea_ | (injection ea_ with ea_; subst ea_)); subst ec_; clear en_))
                       have GB25 := Aside0.mk gb25
                       have GG25 := Aside0.mk HG25
                       clear gb25 gl25 HG25
                       (first | simp only [add_plain] at hx176_0 | skip)
                       (first | simp only [add_plain] at hx176_1 | skip)
                       obtain ⟨oki25, ce25, hcl25, hM25, hcc25, _, _, hH25⟩ := Kd.S_elem HO175.out z70 ((ji16) : Int) (of_decide_eq_true (by first | (with_reducible assumption) | assumption)) (by have h_ : ((ji16) : Int) < ((y173.length : Int) : Int) := of_decide_eq_true (by first | (with_reducible assumption) | assumption); first | exact h_ | (have e_ := (Kd.S_reads' HO175.out).1; omega) | simpa using h_)
                       obtain ⟨ve25_1, rfl, ge25_1⟩ := k70_openM hM25
                       have hv25 := hcc25 1 _ rfl
                       have hX25 := HX176_1.out
                       (try simp only [add_plain] at hX25)
                       (try simp only [Nat.add_zero] at hv25)
                       replace hv25 := Option.some.inj (hv25.symm.trans hX25)
                       subst hv25
                       clear hX25 hcc25 hcl25
                       have UU25 := Aside0.mk (show Kd.R k72 72 _ w.heap.size oki25 (.slice A176_1 ((rd_T70 y173 (ji16)).f1).length c176_1) ((rd_T70 y173 (ji16)).f1) from ge25_1)
                       have HH25 := Aside0.mk hH25
                       have HN25 := Aside0.mk (Kd.S_reads' HO175.out).1
                       clear hH25 ge25_1
                       refine start_ (n := 17) (S := fun w' => w'.cell? ⟨gb171, 0, none⟩ = some (.string ((rd_T73 l0 x10_1).f0)) ∧ w'.cell? ⟨gb171, 1, none⟩ = some (.string ((rd_T73 l0 x10_1).f1)) ∧ w'.cell? ⟨gb171, 2, none⟩ = some (.string ((rd_T73 l0 x10_1).f2)) ∧ w'.cell? ⟨go25, (((ji16)).toNat * 2), none⟩ = some (.string ((rd_T70 y173 (ji16)).f0)) ∧ w'.cell? ⟨go25, (((ji16)).toNat * 2) + 1, none⟩ = some (.slice A176_1 ((rd_T70 y173 (ji16)).f1).length c176_1)) (ds := [16]) #[false, false, false, false, false, false, false, false, false, false, false, false, false, false, false, false, false] (by kernel_rfl) rfl rfl ⟨(blk_cell BK171.out 0).trans rfl, (blk_cell BK171.out 1).trans rfl, (blk_cell BK171.out 2).trans rfl, hx176_0, hx176_1⟩ (fun hHeld => ?_); refine with_tabW spec_Sections.tab15 spec_Sections.bits15 (fun HT_ HW_ => ?_)
                       generalize w22.drew = w24 at HO175 BK171 HB GG25 HH25 HL176_1 HR176_1 HX176_1 UU25 hx176_0 hx176_1 hHeld ⊢
                       refine pure_ (i := 0) (N := some 40) (v := ?_) (a' := ?_) #[true, false, false, false, false, false, false, false, false, false, false, false, false, false, false, false, false] rfl rfl (any_of HT_.out (by kernel_rfl)) (fun _ _ _ h => h) (Or.inl ⟨by rfl, ?_⟩) ?_ ?_
                       rotate_left
                       · intro w'
                         go_simp
                         with_reducible rfl
                       rotate_left
                       · simp only [Act.put, List.setIfInBounds_toArray, List.set_cons_zero, List.set_cons_succ, i64_w, i32_w]
                         rfl
                       refine pure_ (i := 1) (N := some 41) (v := ?_) (a' := ?_) #[true, true, false, false, false, false, false, false, false, false, false, false, false, false, false, false, false] rfl rfl (any_of HT_.out (by kernel_rfl)) (fun _ _ _ h => h) (Or.inl ⟨by rfl, ?_⟩) ?_ ?_
                       rotate_left
                       · intro w'
                         go_simp
                         with_reducible rfl
                       rotate_left
                       · simp only [Act.put, List.setIfInBounds_toArray, List.set_cons_zero, List.set_cons_succ, i64_w, i32_w]
                         rfl
                       refine pure_ (i := 2) (N := some 42) (v := ?_) (a' := ?_) #[true, true, true, false, false, false, false, false, false, false, false, false, false, false, false, false, false] rfl rfl (any_of HT_.out (by kernel_rfl)) (fun _ _ _ h => h) (Or.inl ⟨by rfl, ?_⟩) ?_ ?_
                       rotate_left
                       · intro w'
                         go_simp
                         with_reducible rfl
                       rotate_left
                       · simp only [Act.put, List.setIfInBounds_toArray, List.set_cons_zero, List.set_cons_succ, i64_w, i32_w]
                         rfl
                       refine pure_ (i := 3) (N := some 43) (v := ?_) (a' := ?_) #[true, true, true, true, false, false, false, false, false, false, false, false, false, false, false, false, false] rfl rfl (any_of HT_.out (by kernel_rfl)) (fun _ _ _ h => h) (Or.inl ⟨by rfl, ?_⟩) ?_ ?_
                       rotate_left
                       · intro w'
                         go_simp
                         with_reducible rfl
                       rotate_left
                       · simp only [Act.put, List.setIfInBounds_toArray, List.set_cons_zero, List.set_cons_succ, i64_w, i32_w]
                         rfl
                       refine pure_ (i := 4) (N := some 44) (v := ?_) (a' := ?_) #[true, true, true, true, true, false, false, false, false, false, false, false, false, false, false, false, false] rfl rfl (any_of HT_.out (by kernel_rfl)) (fun _ _ _ h => h) (Or.inl ⟨by rfl, ?_⟩) ?_ ?_
                       rotate_left
                       · intro w'
                         go_simp
                         with_reducible rfl
                       rotate_left
                       · simp only [Act.put, List.setIfInBounds_toArray, List.set_cons_zero, List.set_cons_succ, i64_w, i32_w]
                         rfl
                       refine pure_ (i := 5) (N := some 45) (v := ?_) (a' := ?_) #[true, true, true, true, true, true, false, false, false, false, false, false, false, false, false, false, false] rfl rfl (any_of HT_.out (by kernel_rfl)) (fun _ _ _ h => h) (Or.inl ⟨by rfl, ?_⟩) ?_ ?_
                       rotate_left
                       · intro w'
                         go_simp
                         with_reducible rfl
                       rotate_left
                       · simp only [Act.put, List.setIfInBounds_toArray, List.set_cons_zero, List.set_cons_succ, i64_w, i32_w]
                         rfl
                       refine pure_ (i := 7) (N := some 47) (v := ?_) (a' := ?_) #[true, true, true, true, true, true, false, true, false, false, false, false, false, false, false, false, false] rfl rfl (any_of HT_.out (by kernel_rfl)) (fun _ _ _ h => h) (Or.inl ⟨by rfl, ?_⟩) ?_ ?_
                       rotate_left
                       · intro w'
                         go_simp
                         with_reducible rfl
                       rotate_left
                       · simp only [Act.put, List.setIfInBounds_toArray, List.set_cons_zero, List.set_cons_succ, i64_w, i32_w]
                         rfl
                       refine pure_ (i := 9) (N := some 49) (v := ?_) (a' := ?_) #[true, true, true, true, true, true, false, true, false, true, false, false, false, false, false, false, false] rfl rfl (any_of HT_.out (by kernel_rfl)) (fun _ _ _ h => h) (Or.inl ⟨by rfl, ?_⟩) ?_ ?_
                       rotate_left
                       · intro w'
                         go_simp
                         with_reducible rfl
                       rotate_left
                       · simp only [Act.put, List.setIfInBounds_toArray, List.set_cons_zero, List.set_cons_succ, i64_w, i32_w]
                         rfl
                       refine take_ (i := 6) (N := some 46) (v := ?_) (a' := ?_) #[true, true, true, true, true, true, true, true, false, true, false, false, false, false, false, false, false] rfl rfl (take_ofW HT_.out HW_.out (by kernel_rfl)) (fun _ _ _ h => h) (Or.inl ⟨by rfl, ?_⟩) hHeld ?_ ?_
                       rotate_left
                       · rintro w' ⟨s0, s1, s2, s3, s4⟩
                         go_simp
                         with_reducible rfl
                       rotate_left
                       · simp only [Act.put, List.setIfInBounds_toArray, List.set_cons_zero, List.set_cons_succ, i64_w, i32_w]
                         rfl
                       refine take_ (i := 8) (N := some 48) (v := ?_) (a' := ?_) #[true, true, true, true, true, true, true, true, true, true, false, false, false, false, false, false, false] rfl rfl (take_ofW HT_.out HW_.out (by kernel_rfl)) (fun _ _ _ h => h) (Or.inl ⟨by rfl, ?_⟩) hHeld ?_ ?_
                       rotate_left
                       · rintro w' ⟨s0, s1, s2, s3, s4⟩
                         go_simp
                         with_reducible rfl
                       rotate_left
                       · simp only [Act.put, List.setIfInBounds_toArray, List.set_cons_zero, List.set_cons_succ, i64_w, i32_w]
                         rfl
                       refine take_ (i := 10) (N := some 50) (v := ?_) (a' := ?_) #[true, true, true, true, true, true, true, true, true, true, true, false, false, false, false, false, false] rfl rfl (take_ofW HT_.out HW_.out (by kernel_rfl)) (fun _ _ _ h => h) (Or.inl ⟨by rfl, ?_⟩) hHeld ?_ ?_
                       rotate_left
                       · rintro w' ⟨s0, s1, s2, s3, s4⟩
                         go_simp
                         with_reducible rfl
                       rotate_left
                       · simp only [Act.put, List.setIfInBounds_toArray, List.set_cons_zero, List.set_cons_succ, i64_w, i32_w]
                         rfl
                       refine pure_ (i := 11) (N := some 51) (v := ?_) (a' := ?_) #[true, true, true, true, true, true, true, true, true, true, true, true, false, false, false, false, false] rfl rfl (any_of HT_.out (by kernel_rfl)) (fun _ _ _ h => h) (Or.inl ⟨by rfl, ?_⟩) ?_ ?_
                       rotate_left
                       · intro w'
                         go_simp
                         with_reducible rfl
                       rotate_left
                       · simp only [Act.put, List.setIfInBounds_toArray, List.set_cons_zero, List.set_cons_succ, i64_w, i32_w]
                         rfl
                       refine one_ (i := 12) (N := some 52) #[true, true, true, true, true, true, true, true, true, true, true, true, true, false, false, false, false] rfl rfl (one_of HT_.out (by kernel_rfl)) (by decide) (fun K hK => ?_)
                       refine value_ (w1 := ?_) (v := ?_) (by rfl) rfl ?_ ?_
                       rotate_left 2
                       · go_simp
                         constructor
                         · rfl
                         · rfl
                       refine hK.out _ _ ⟨(blk_cell (blk_alloc BK171.out _) 0).trans rfl, (blk_cell (blk_alloc BK171.out _) 1).trans rfl, (blk_cell (blk_alloc BK171.out _) 2).trans rfl, (World.cell?_alloc_lt _ _ _ (World.block_lt_of_cell? _ _ (hHeld.2.2.2.1))).trans (hHeld.2.2.2.1), (World.cell?_alloc_lt _ _ _ (World.block_lt_of_cell? _ _ (hHeld.2.2.2.2))).trans (hHeld.2.2.2.2)⟩ (fun hHeld => ?_)
                       clear hK K
                       refine norm_ (a' := ?_) ?_ ?_
                       rotate_left
                       · show Act.put _ (some 52) _ = _
                         simp only [Act.put, List.setIfInBounds_toArray, List.set_cons_zero, List.set_cons_succ, i64_w, i32_w]
                         rfl
                       refine one_ (i := 13) (N := some 53) #[true, true, true, true, true, true, true, true, true, true, true, true, true, true, false, false, false] rfl rfl (one_of HT_.out (by kernel_rfl)) (by decide) (fun K hK => ?_)
                       refine Kd.R_append_step k72 (w0 := w) w.heap.size (by rfl) (.tmp 46) (.tmp 52) 68 72 (.agg #[(.string ⟨#[]⟩), (.string ⟨#[]⟩)]) 32 rfl Tryd.underlying68 info72 rfl (by decide) (by omega) (.slice A176_1 ((rd_T70 y173 (ji16)).f1).length c176_1) ((rd_T70 y173 (ji16)).f1) (⟨((rd_T73 l0 x10_1).f1), ((rd_T73 l0 x10_1).f2)⟩ : S72) [.string ((rd_T73 l0 x10_1).f1), .string ((rd_T73 l0 x10_1).f2)] (fun k_ => oki25 k_ ∨ ((fun _ => True)) k_ ∧ w24.heap.size ≤ k_) (fun _ => False) rfl rfl ?aP (fun _ hk => hk.elim) ?aF ?aO ?aB ?aS ?aL ?_
                       (case aP => exact k72_mkM _ _ _ (⟨((rd_T73 l0 x10_1).f1), ((rd_T73 l0 x10_1).f2)⟩ : S72))
                       (case aB => exact (by repeat (first | (with_reducible first | exact HB.out | apply below_alloc | apply pw_below_drewN | apply below_drew1 | refine below_set ?_ GE171.out) | exact HB.out)))
                       (case aF => exact (fun k_ hk => .inr ⟨trivial, hk⟩))
                       (case aO => exact (by (with_reducible repeat (first | apply Kd.R_alloc | apply Kd.R_drewN | apply Kd.R_drew)); exact Kd.R_mono UU25.out (fun _ hk => .inl hk)))
                       (case aS => exact (below_size (by repeat (first | (with_reducible first | exact HB.out | apply below_alloc | apply pw_below_drewN | apply below_drew1 | refine below_set ?_ GE171.out) | exact HB.out))))
                       (case aL => have := LMc19.out; omega)
                       intro v178 w26 ho hb hg hat
                       (first | have HS3_ := cell_grown hg (hHeld.2.2.2.1) (by first | (rw [add_block]; exact (fun e_ => ((HL176_1.out.1 _ e_.symm).2) rfl)) | (show some (Addr.add _ _).block ≠ _; rw [add_block]; exact (fun e_ => ((HL176_1.out.1 _ e_.symm).2) rfl)) | exact (fun e_ => ((HL176_1.out.1 _ e_.symm).2) rfl)) | have HS3_ := cell_grown hg (cell_unalloc (hHeld.2.2.2.1) (by first | (rw [add_block]; exact Kd.S_lt HO175.out _ rfl) | (show (Addr.add _ _).block < _; rw [add_block]; exact Kd.S_lt HO175.out _ rfl) | exact Kd.S_lt HO175.out _ rfl)) (by first | (rw [add_block]; exact (fun e_ => ((HL176_1.out.1 _ e_.symm).2) rfl)) | (show some (Addr.add _ _).block ≠ _; rw [add_block]; exact (fun e_ => ((HL176_1.out.1 _ e_.symm).2) rfl)) | exact (fun e_ => ((HL176_1.out.1 _ e_.symm).2) rfl)))
                       (first | have HS4_ := cell_grown hg (hHeld.2.2.2.2) (by first | (rw [add_block]; exact (fun e_ => ((HL176_1.out.1 _ e_.symm).2) rfl)) | (show some (Addr.add _ _).block ≠ _; rw [add_block]; exact (fun e_ => ((HL176_1.out.1 _ e_.symm).2) rfl)) | exact (fun e_ => ((HL176_1.out.1 _ e_.symm).2) rfl)) | have HS4_ := cell_grown hg (cell_unalloc (hHeld.2.2.2.2) (by first | (rw [add_block]; exact Kd.S_lt HO175.out _ rfl) | (show (Addr.add _ _).block < _; rw [add_block]; exact Kd.S_lt HO175.out _ rfl) | exact Kd.S_lt HO175.out _ rfl)) (by first | (rw [add_block]; exact (fun e_ => ((HL176_1.out.1 _ e_.symm).2) rfl)) | (show some (Addr.add _ _).block ≠ _; rw [add_block]; exact (fun e_ => ((HL176_1.out.1 _ e_.symm).2) rfl)) | exact (fun e_ => ((HL176_1.out.1 _ e_.symm).2) rfl)))
                       rw [← Ny177.out] at ho
                       have n0_ := Aside0.mk (blk_grown (g := gb171) (o := .cells #[.string ((rd_T73 l0 x10_1).f0), .string ((rd_T73 l0 x10_1).f1), .string ((rd_T73 l0 x10_1).f2)] 73 (0, 0)) (by (with_reducible repeat (first | refine blk_drewN ?_ _ | refine blk_drew ?_ | refine blk_alloc ?_ _)); exact BK171.out) hg (Kd.R_ne HL176_1.out BK171.out (by decide)))
                       have n1_ := Aside0.mk (hb)
                       have n2_ := Aside0.mk (Kd.H_grown (Kd.H_widen (by repeat (first | exact HH25.out | refine Kd.H_alloc ?_ _ | refine Kd.H_drewN ?_ _ | refine Kd.H_drew ?_))) hg (fun k_ e_ => .inl (UU25.out.1 k_ e_)))
                       have n3_ := Aside0.mk (ho)
                       clear BK171
                       clear HB
                       clear HH25
                       clear HO175
                       clear UU25
                       clear HL176_1
                       have BK171 := n0_
                       have HB := n1_
                       have HH25 := n2_
                       have HO179 := n3_
                       clear n0_ n1_ n2_ n3_
                       clear ho hb hg hat
                       have p20 : 0 ≤ ((ji16) : Int) := of_decide_eq_true (by first | (with_reducible assumption) | assumption)
                       have q20 : ((ji16) : Int) < ((y173.length : Int) : Int) := of_decide_eq_true (by first | (with_reducible assumption) | assumption)
                       replace p20 := eq_true p20
                       replace q20 := eq_true q20
                       obtain ⟨Ao29, co29, eo29⟩ := Kd.R_slice HO179.out
                       (first | subst eo29 | (injection eo29 with f1_ f2_ f3_; have f4_ := f1_.symm; have f5_ := f3_.symm; clear f1_ f2_ f3_; subst f4_; subst f5_))
                       obtain ⟨_, _, hraw27, _, _, hcc27, _⟩ := Kd.H_raw HH25.out (of_decide_eq_true (by first | (with_reducible assumption) | assumption)) (by have h_ : ((ji16) : Int) < ((y173.length : Int) : Int) := of_decide_eq_true (by first | (with_reducible assumption) | assumption); first | exact h_ | (have e_ := (HN25.out); omega) | simpa using h_)
                       obtain ⟨_, hfr27⟩ := Kd.H_at HH25.out (of_decide_eq_true (by first | (with_reducible assumption) | assumption)) (by have h_ : ((ji16) : Int) < ((y173.length : Int) : Int) := of_decide_eq_true (by first | (with_reducible assumption) | assumption); first | exact h_ | (have e_ := (HN25.out); omega) | simpa using h_)
                       have hx27_0 := hcc27 1 _ rfl
                       have hf27_0 := hfr27 1
                       (try rw [show (k70).sz = 2 from rfl] at hx27_0)
                       (try rw [show (k70).sz = 2 from rfl] at hf27_0)
                       have HP27 := Kd.S_seg0 HH25.out (of_decide_eq_true (by first | (with_reducible assumption) | assumption)) (by have h_ : ((ji16) : Int) < ((y173.length : Int) : Int) := of_decide_eq_true (by first | (with_reducible assumption) | assumption); first | exact h_ | (have e_ := (HN25.out); omega) | simpa using h_) (seg := [.slice Ao29 y177.length co29]) (j := 1) (show 2 ≤ 2 from by decide) (x' := (⟨(rd_T70 y173 (ji16)).f0, y177⟩ : S70)) (k70_mkM _ _ _ (⟨(rd_T70 y173 (ji16)).f0, y177⟩ : S70) HO179.out) (fun _ hk => hk)
                       clear hcc27 hfr27
                       have HNB171_go25 := Aside0.mk (show gb171 ≠ go25 from by have h_ := Kd.R_ne hraw27 BK171.out (by decide); intro e_; exact h_ (by rw [e_]; rfl))
                       have HS27 := HP27.1
                       rw [← Ny180.out] at HS27
                       have HQ27 := Aside0.mk HS27
                       obtain ⟨_, hgg27⟩ := Kd.R_typed hraw27 go25 rfl
                       have GG27_ := Aside0.mk hgg27
                       clear HP27 HS27 hgg27
                       refine hK.out _ _ ⟨(blk_cell BK171.out 0).trans rfl, (blk_cell BK171.out 1).trans rfl, (blk_cell BK171.out 2).trans rfl, HS3_, HS4_⟩ (fun hHeld => ?_)
                       clear hK K
                       refine norm_ (a' := ?_) ?_ ?_
                       rotate_left
                       · show Act.put _ (some 53) _ = _
                         simp only [Act.put, List.setIfInBounds_toArray, List.set_cons_zero, List.set_cons_succ, i64_w, i32_w]
                         rfl
                       refine pure_ (i := 14) (N := some 54) (v := ?_) (a' := ?_) #[true, true, true, true, true, true, true, true, true, true, true, true, true, true, true, false, false] rfl rfl (any_of HT_.out (by kernel_rfl)) (fun _ _ _ h => h) (Or.inl ⟨by rfl, ?_⟩) ?_ ?_
                       rotate_left
                       · intro w'
                         go_simp
                         with_reducible rfl
                       rotate_left
                       · simp only [Act.put, List.setIfInBounds_toArray, List.set_cons_zero, List.set_cons_succ, i64_w, i32_w]
                         rfl
                       refine pure_ (i := 15) (N := some 55) (v := ?_) (a' := ?_) #[true, true, true, true, true, true, true, true, true, true, true, true, true, true, true, true, false] rfl rfl (any_of HT_.out (by kernel_rfl)) (fun _ _ _ h => h) (Or.inl ⟨by rfl, ?_⟩) ?_ ?_
                       rotate_left
                       · intro w'
                         go_simp
                         with_reducible rfl
                       rotate_left
                       · simp only [Act.put, List.setIfInBounds_toArray, List.set_cons_zero, List.set_cons_succ, i64_w, i32_w]
                         rfl
                       refine last_ (i := 16) (N := none) #[true, true, true, true, true, true, true, true, true, true, true, true, true, true, true, true, true] rfl rfl (one_of HT_.out (by kernel_rfl)) (by decide) (fun K hK => ?_)
                       refine skip_ (w1 := ?_) (by rfl) rfl ?_ ?_
                       rotate_left
                       · go_simp
                         rfl
                       refine hK.out _ _ ?_
                       clear hK K
                       refine done_ (done_of HT_.out (by kernel_rfl)) ?_
                       try go_wp2
                       go_roundg k2
                       case measure => have := HK1.out; have := HK2.out; omega
                       case rel => exact ⟨(y180), (wrap64 (x10_1 + 1)), (by first | rfl | (simp; done) | (simp [*]; done)), H', ⟨by have := HK1.out; have := HK2.out; omega⟩, ⟨by (with_reducible repeat (first | apply Kd.S_alloc | apply Kd.S_drewN | apply Kd.S_drew)); exact HQ27.out⟩, ⟨by repeat (first | (with_reducible first | exact HB.out | apply below_alloc | apply pw_below_drewN | apply below_drew1 | refine below_set ?_ GB25.out | refine below_set ?_ GE171.out) | exact HB.out)⟩⟩
                     · rw [if_neg c19] at H
                       exact absurd H (by simp)
                   · rw [if_neg c18] at H
                     exact absurd H (by simp)
                 · rw [if_neg c17] at H
                   exact absurd H (by simp)
               · rw [if_neg c15] at H
                 exact absurd H (by simp)
             · rw [if_neg c14] at H
               have c14b0 : decide (x6_2 < 0) = false := decide_eq_false c14
               clear c14
               by_cases c30 : 0 ≤ x6_2
               · rw [if_pos c30] at H
                 have c30b0 : decide (0 ≤ x6_2) = true := decide_eq_true c30
                 clear c30
                 by_cases c31 : x6_2 < (x3_1.length : Int)
                 · rw [if_pos c31] at H
                   have c31b0 : decide (x6_2 < (x3_1.length : Int)) = true := decide_eq_true c31
                   clear c31
                   by_cases c32 : ((rd_T70 x3_1 x6_2).f1).length < 4398046511104
                   · rw [if_pos c32] at H
                     have LMc32 := Aside0.mk c32
                     clear c32
                     obtain ⟨y182, hy182⟩ : ∃ y_ : List (S72), y_ = (((rd_T70 x3_1 x6_2).f1) ++ [(⟨((rd_T73 l0 x10_1).f1), ((rd_T73 l0 x10_1).f2)⟩ : S72)]) := ⟨_, rfl⟩
                     replace H : (spec_Sections.l0 k2 (x3_1.set (x6_2 : Int).toNat (⟨(rd_T70 x3_1 x6_2).f0, y182⟩ : S70)) l0 (l0.length : Int) (wrap64 (x10_1 + 1))) = some r := by first | (rw [hy182]; with_reducible exact H) | (have H2_ := (Option.bind_some _ _).symm.trans H; rw [hy182]; with_reducible exact H2_) | (have H2_ := (Option.bind_some _ _).symm.trans H; with_reducible exact H2_) | with_reducible exact H | (rw [hy182]; exact H) | exact H
                     have Ny182 := Aside0.mk hy182
                     clear hy182
                     obtain ⟨y185, hy185⟩ : ∃ y_ : List (S70), y_ = (x3_1.set (x6_2 : Int).toNat (⟨(rd_T70 x3_1 x6_2).f0, y182⟩ : S70)) := ⟨_, rfl⟩
                     replace H : (spec_Sections.l0 k2 y185 l0 (l0.length : Int) (wrap64 (x10_1 + 1))) = some r := by first | (rw [hy185]; with_reducible exact H) | (have H2_ := (Option.bind_some _ _).symm.trans H; rw [hy185]; with_reducible exact H2_) | (have H2_ := (Option.bind_some _ _).symm.trans H; with_reducible exact H2_) | with_reducible exact H | (rw [hy185]; exact H) | exact H
                     have Ny185 := Aside0.mk hy185
                     clear hy185
                     have H' := Aside0.mk H
                     clear H
                     try go_wp2
                     have n0_ := Aside0.mk (Kd.S_drew HO_3.out)
                     have n1_ := Aside0.mk (blk_drew BK171.out)
                     have n2_ := Aside0.mk (below_drew1 HB.out)
                     clear HO_3
                     clear BK171
                     clear HB
                     have HO_3 := n0_
                     have BK171 := n1_
                     have HB := n2_
                     clear n0_ n1_ n2_
                     have p181 : 0 ≤ (x6_2 : Int) := of_decide_eq_true (by first | (with_reducible assumption) | assumption)
                     have q181 : x6_2 < (x3_1.length : Int) := of_decide_eq_true (by first | (with_reducible assumption) | assumption)
                     obtain ⟨ad181, A181_1, c181_1, e181, hx181_0, hx181_1, hl181_1, hi181_1⟩ := at_T70 (Kd.S_reads' HO_3.out).2.2 x6_2 p181 q181
                     cases e181
                     obtain ⟨ce181, hce181, hMe181, hcc181⟩ := Kd.S_get HO_3.out z70 x6_2 p181 (by first | exact q181 | exact of_decide_eq_true (by first | (with_reducible assumption) | assumption) | (have e_ := (Kd.S_reads' HO_3.out).1; omega))
                     obtain ⟨ve181_1, rfl, ge181_1⟩ := k70_openM hMe181
                     have hv181_1 := hcc181 1 _ rfl
                     rw [add_field _ _ 1 (by omega)] at hv181_1
                     replace hv181_1 := Option.some.inj (hv181_1.symm.trans hx181_1)
                     rw [hv181_1] at ge181_1
                     have HL181_1 := Aside0.mk (show Kd.R k72 72 _ _ _ _ ((rd_T70 x3_1 x6_2).f1) from ge181_1)
                     clear hv181_1 ge181_1
                     have HX181_1 := Aside0.mk hx181_1
                     clear hcc181 hce181
                     have HR181_1 := Aside0.mk hi181_1
                     have HC181_1 := Aside0.mk hl181_1
                     clear hi181_1 hl181_1
                     replace p181 := eq_true p181
                     replace q181 := eq_true q181
                     obtain ⟨go35, co35, eo35, gb35, gl35, cl35, HG35⟩ := Kd.S_form HO_3.out (by have h_ : (x6_2 : Int) < ((x3_1.length : Int) : Int) := of_decide_eq_true (by first | (with_reducible assumption) | assumption); have h2_ : 0 ≤ (x6_2 : Int) := (of_decide_eq_true (by first | (with_reducible assumption) | assumption)); omega)
                     (first | cases eo35 | (injection eo35 with ea_ en_ ec_; (first | subst ea_ | (injection ea_ with ea_; subst ea_)); subst ec_; clear en_))
                     have GB35 := Aside0.mk gb35
                     have GG35 := Aside0.mk HG35
                     clear gb35 gl35 HG35
                     (first | simp only [add_plain] at hx181_0 | skip)
                     (first | simp only [add_plain] at hx181_1 | skip)
                     obtain ⟨oki35, ce35, hcl35, hM35, hcc35, _, _, hH35⟩ := Kd.S_elem HO_3.out z70 (x6_2 : Int) (of_decide_eq_true (by first | (with_reducible assumption) | assumption)) (by have h_ : (x6_2 : Int) < ((x3_1.length : Int) : Int) := of_decide_eq_true (by first | (with_reducible assumption) | assumption); first | exact h_ | (have e_ := (Kd.S_reads' HO_3.out).1; omega) | simpa using h_)
                     obtain ⟨ve35_1, rfl, ge35_1⟩ := k70_openM hM35
                     have hv35 := hcc35 1 _ rfl
                     have hX35 := HX181_1.out
                     (try simp only [add_plain] at hX35)
                     (try simp only [Nat.add_zero] at hv35)
                     replace hv35 := Option.some.inj (hv35.symm.trans hX35)
                     subst hv35
                     clear hX35 hcc35 hcl35
                     have UU35 := Aside0.mk (show Kd.R k72 72 _ w.heap.size oki35 (.slice A181_1 ((rd_T70 x3_1 x6_2).f1).length c181_1) ((rd_T70 x3_1 x6_2).f1) from ge35_1)
                     have HH35 := Aside0.mk hH35
                     have HN35 := Aside0.mk (Kd.S_reads' HO_3.out).1
                     clear hH35 ge35_1
                     refine start_ (n := 17) (S := fun w' => w'.cell? ⟨gb171, 0, none⟩ = some (.string ((rd_T73 l0 x10_1).f0)) ∧ w'.cell? ⟨gb171, 1, none⟩ = some (.string ((rd_T73 l0 x10_1).f1)) ∧ w'.cell? ⟨gb171, 2, none⟩ = some (.string ((rd_T73 l0 x10_1).f2)) ∧ w'.cell? ⟨go35, ((x6_2).toNat * 2), none⟩ = some (.string ((rd_T70 x3_1 x6_2).f0)) ∧ w'.cell? ⟨go35, ((x6_2).toNat * 2) + 1, none⟩ = some (.slice A181_1 ((rd_T70 x3_1 x6_2).f1).length c181_1)) (ds := [16]) #[false, false, false, false, false, false, false, false, false, false, false, false, false, false, false, false, false] (by kernel_rfl) rfl rfl ⟨(blk_cell BK171.out 0).trans rfl, (blk_cell BK171.out 1).trans rfl, (blk_cell BK171.out 2).trans rfl, hx181_0, hx181_1⟩ (fun hHeld => ?_); refine with_tabW spec_Sections.tab15 spec_Sections.bits15 (fun HT_ HW_ => ?_)
                     generalize wr.drew = w34 at HO_3 BK171 HB GG35 HH35 HL181_1 HR181_1 HX181_1 UU35 hx181_0 hx181_1 hHeld ⊢
                     refine pure_ (i := 0) (N := some 40) (v := ?_) (a' := ?_) #[true, false, false, false, false, false, false, false, false, false, false, false, false, false, false, false, false] rfl rfl (any_of HT_.out (by kernel_rfl)) (fun _ _ _ h => h) (Or.inl ⟨by rfl, ?_⟩) ?_ ?_
                     rotate_left
                     · intro w'
                       go_simp
                       with_reducible rfl
                     rotate_left
                     · simp only [Act.put, List.setIfInBounds_toArray, List.set_cons_zero, List.set_cons_succ, i64_w, i32_w]
                       rfl
                     refine pure_ (i := 1) (N := some 41) (v := ?_) (a' := ?_) #[true, true, false, false, false, false, false, false, false, false, false, false, false, false, false, false, false] rfl rfl (any_of HT_.out (by kernel_rfl)) (fun _ _ _ h => h) (Or.inl ⟨by rfl, ?_⟩) ?_ ?_
                     rotate_left
                     · intro w'
                       go_simp
                       with_reducible rfl
                     rotate_left
                     · simp only [Act.put, List.setIfInBounds_toArray, List.set_cons_zero, List.set_cons_succ, i64_w, i32_w]
                       rfl
                     refine pure_ (i := 2) (N := some 42) (v := ?_) (a' := ?_) #[true, true, true, false, false, false, false, false, false, false, false, false, false, false, false, false, false] rfl rfl (any_of HT_.out (by kernel_rfl)) (fun _ _ _ h => h) (Or.inl ⟨by rfl, ?_⟩) ?_ ?_
                     rotate_left
                     · intro w'
                       go_simp
                       with_reducible rfl
                     rotate_left
                     · simp only [Act.put, List.setIfInBounds_toArray, List.set_cons_zero, List.set_cons_succ, i64_w, i32_w]
                       rfl
                     refine pure_ (i := 3) (N := some 43) (v := ?_) (a' := ?_) #[true, true, true, true, false, false, false, false, false, false, false, false, false, false, false, false, false] rfl rfl (any_of HT_.out (by kernel_rfl)) (fun _ _ _ h => h) (Or.inl ⟨by rfl, ?_⟩) ?_ ?_
                     rotate_left
                     · intro w'
                       go_simp
                       with_reducible rfl
                     rotate_left
                     · simp only [Act.put, List.setIfInBounds_toArray, List.set_cons_zero, List.set_cons_succ, i64_w, i32_w]
                       rfl
                     refine pure_ (i := 4) (N := some 44) (v := ?_) (a' := ?_) #[true, true, true, true, true, false, false, false, false, false, false, false, false, false, false, false, false] rfl rfl (any_of HT_.out (by kernel_rfl)) (fun _ _ _ h => h) (Or.inl ⟨by rfl, ?_⟩) ?_ ?_
                     rotate_left
                     · intro w'
                       go_simp
                       with_reducible rfl
                     rotate_left
                     · simp only [Act.put, List.setIfInBounds_toArray, List.set_cons_zero, List.set_cons_succ, i64_w, i32_w]
                       rfl
                     refine pure_ (i := 5) (N := some 45) (v := ?_) (a' := ?_) #[true, true, true, true, true, true, false, false, false, false, false, false, false, false, false, false, false] rfl rfl (any_of HT_.out (by kernel_rfl)) (fun _ _ _ h => h) (Or.inl ⟨by rfl, ?_⟩) ?_ ?_
                     rotate_left
                     · intro w'
                       go_simp
                       with_reducible rfl
                     rotate_left
                     · simp only [Act.put, List.setIfInBounds_toArray, List.set_cons_zero, List.set_cons_succ, i64_w, i32_w]
                       rfl
                     refine pure_ (i := 7) (N := some 47) (v := ?_) (a' := ?_) #[true, true, true, true, true, true, false, true, false, false, false, false, false, false, false, false, false] rfl rfl (any_of HT_.out (by kernel_rfl)) (fun _ _ _ h => h) (Or.inl ⟨by rfl, ?_⟩) ?_ ?_
                     rotate_left
                     · intro w'
                       go_simp
                       with_reducible rfl
                     rotate_left
                     · simp only [Act.put, List.setIfInBounds_toArray, List.set_cons_zero, List.set_cons_succ, i64_w, i32_w]
                       rfl
                     refine pure_ (i := 9) (N := some 49) (v := ?_) (a' := ?_) #[true, true, true, true, true, true, false, true, false, true, false, false, false, false, false, false, false] rfl rfl (any_of HT_.out (by kernel_rfl)) (fun _ _ _ h => h) (Or.inl ⟨by rfl, ?_⟩) ?_ ?_
                     rotate_left
                     · intro w'
                       go_simp
                       with_reducible rfl
                     rotate_left
                     · simp only [Act.put, List.setIfInBounds_toArray, List.set_cons_zero, List.set_cons_succ, i64_w, i32_w]
                       rfl
                     refine take_ (i := 6) (N := some 46) (v := ?_) (a' := ?_) #[true, true, true, true, true, true, true, true, false, true, false, false, false, false, false, false, false] rfl rfl (take_ofW HT_.out HW_.out (by kernel_rfl)) (fun _ _ _ h => h) (Or.inl ⟨by rfl, ?_⟩) hHeld ?_ ?_
                     rotate_left
                     · rintro w' ⟨s0, s1, s2, s3, s4⟩
                       go_simp
                       with_reducible rfl
                     rotate_left
                     · simp only [Act.put, List.setIfInBounds_toArray, List.set_cons_zero, List.set_cons_succ, i64_w, i32_w]
                       rfl
                     refine take_ (i := 8) (N := some 48) (v := ?_) (a' := ?_) #[true, true, true, true, true, true, true, true, true, true, false, false, false, false, false, false, false] rfl rfl (take_ofW HT_.out HW_.out (by kernel_rfl)) (fun _ _ _ h => h) (Or.inl ⟨by rfl, ?_⟩) hHeld ?_ ?_
                     rotate_left
                     · rintro w' ⟨s0, s1, s2, s3, s4⟩
                       go_simp
                       with_reducible rfl
                     rotate_left
                     · simp only [Act.put, List.setIfInBounds_toArray, List.set_cons_zero, List.set_cons_succ, i64_w, i32_w]
                       rfl
                     refine take_ (i := 10) (N := some 50) (v := ?_) (a' := ?_) #[true, true, true, true, true, true, true, true, true, true, true, false, false, false, false, false, false] rfl rfl (take_ofW HT_.out HW_.out (by kernel_rfl)) (fun _ _ _ h => h) (Or.inl ⟨by rfl, ?_⟩) hHeld ?_ ?_
                     rotate_left
                     · rintro w' ⟨s0, s1, s2, s3, s4⟩
                       go_simp
                       with_reducible rfl
                     rotate_left
                     · simp only [Act.put, List.setIfInBounds_toArray, List.set_cons_zero, List.set_cons_succ, i64_w, i32_w]
                       rfl
                     refine pure_ (i := 11) (N := some 51) (v := ?_) (a' := ?_) #[true, true, true, true, true, true, true, true, true, true, true, true, false, false, false, false, false] rfl rfl (any_of HT_.out (by kernel_rfl)) (fun _ _ _ h => h) (Or.inl ⟨by rfl, ?_⟩) ?_ ?_
                     rotate_left
                     · intro w'
                       go_simp
                       with_reducible rfl
                     rotate_left
                     · simp only [Act.put, List.setIfInBounds_toArray, List.set_cons_zero, List.set_cons_succ, i64_w, i32_w]
                       rfl
                     refine one_ (i := 12) (N := some 52) #[true, true, true, true, true, true, true, true, true, true, true, true, true, false, false, false, false] rfl rfl (one_of HT_.out (by kernel_rfl)) (by decide) (fun K hK => ?_)
                     refine value_ (w1 := ?_) (v := ?_) (by rfl) rfl ?_ ?_
                     rotate_left 2
                     · go_simp
                       constructor
                       · rfl
                       · rfl
                     refine hK.out _ _ ⟨(blk_cell (blk_alloc BK171.out _) 0).trans rfl, (blk_cell (blk_alloc BK171.out _) 1).trans rfl, (blk_cell (blk_alloc BK171.out _) 2).trans rfl, (World.cell?_alloc_lt _ _ _ (World.block_lt_of_cell? _ _ (hHeld.2.2.2.1))).trans (hHeld.2.2.2.1), (World.cell?_alloc_lt _ _ _ (World.block_lt_of_cell? _ _ (hHeld.2.2.2.2))).trans (hHeld.2.2.2.2)⟩ (fun hHeld => ?_)
                     clear hK K
                     refine norm_ (a' := ?_) ?_ ?_
                     rotate_left
                     · show Act.put _ (some 52) _ = _
                       simp only [Act.put, List.setIfInBounds_toArray, List.set_cons_zero, List.set_cons_succ, i64_w, i32_w]
                       rfl
                     refine one_ (i := 13) (N := some 53) #[true, true, true, true, true, true, true, true, true, true, true, true, true, true, false, false, false] rfl rfl (one_of HT_.out (by kernel_rfl)) (by decide) (fun K hK => ?_)
                     refine Kd.R_append_step k72 (w0 := w) w.heap.size (by rfl) (.tmp 46) (.tmp 52) 68 72 (.agg #[(.string ⟨#[]⟩), (.string ⟨#[]⟩)]) 32 rfl Tryd.underlying68 info72 rfl (by decide) (by omega) (.slice A181_1 ((rd_T70 x3_1 x6_2).f1).length c181_1) ((rd_T70 x3_1 x6_2).f1) (⟨((rd_T73 l0 x10_1).f1), ((rd_T73 l0 x10_1).f2)⟩ : S72) [.string ((rd_T73 l0 x10_1).f1), .string ((rd_T73 l0 x10_1).f2)] (fun k_ => oki35 k_ ∨ ((fun _ => True)) k_ ∧ w34.heap.size ≤ k_) (fun _ => False) rfl rfl ?aP (fun _ hk => hk.elim) ?aF ?aO ?aB ?aS ?aL ?_
                     (case aP => exact k72_mkM _ _ _ (⟨((rd_T73 l0 x10_1).f1), ((rd_T73 l0 x10_1).f2)⟩ : S72))
                     (case aB => exact (by repeat (first | (with_reducible first | exact HB.out | apply below_alloc | apply pw_below_drewN | apply below_drew1 | refine below_set ?_ GE171.out) | exact HB.out)))
                     (case aF => exact (fun k_ hk => .inr ⟨trivial, hk⟩))
                     (case aO => exact (by (with_reducible repeat (first | apply Kd.R_alloc | apply Kd.R_drewN | apply Kd.R_drew)); exact Kd.R_mono UU35.out (fun _ hk => .inl hk)))
                     (case aS => exact (below_size (by repeat (first | (with_reducible first | exact HB.out | apply below_alloc | apply pw_below_drewN | apply below_drew1 | refine below_set ?_ GE171.out) | exact HB.out))))
                     (case aL => have := LMc32.out; omega)
                     intro v183 w36 ho hb hg hat
                     (first | have HS3_ := cell_grown hg (hHeld.2.2.2.1) (by first | (rw [add_block]; exact (fun e_ => ((HL181_1.out.1 _ e_.symm).2) rfl)) | (show some (Addr.add _ _).block ≠ _; rw [add_block]; exact (fun e_ => ((HL181_1.out.1 _ e_.symm).2) rfl)) | exact (fun e_ => ((HL181_1.out.1 _ e_.symm).2) rfl)) | have HS3_ := cell_grown hg (cell_unalloc (hHeld.2.2.2.1) (by first | (rw [add_block]; exact Kd.S_lt HO_3.out _ rfl) | (show (Addr.add _ _).block < _; rw [add_block]; exact Kd.S_lt HO_3.out _ rfl) | exact Kd.S_lt HO_3.out _ rfl)) (by first | (rw [add_block]; exact (fun e_ => ((HL181_1.out.1 _ e_.symm).2) rfl)) | (show some (Addr.add _ _).block ≠ _; rw [add_block]; exact (fun e_ => ((HL181_1.out.1 _ e_.symm).2) rfl)) | exact (fun e_ => ((HL181_1.out.1 _ e_.symm).2) rfl)))
                     (first | have HS4_ := cell_grown hg (hHeld.2.2.2.2) (by first | (rw [add_block]; exact (fun e_ => ((HL181_1.out.1 _ e_.symm).2) rfl)) | (show some (Addr.add _ _).block ≠ _; rw [add_block]; exact (fun e_ => ((HL181_1.out.1 _ e_.symm).2) rfl)) | exact (fun e_ => ((HL181_1.out.1 _ e_.symm).2) rfl)) | have HS4_ := cell_grown hg (cell_unalloc (hHeld.2.2.2.2) (by first | (rw [add_block]; exact Kd.S_lt HO_3.out _ rfl) | (show (Addr.add _ _).block < _; rw [add_block]; exact Kd.S_lt HO_3.out _ rfl) | exact Kd.S_lt HO_3.out _ rfl)) (by first | (rw [add_block]; exact (fun e_ => ((HL181_1.out.1 _ e_.symm).2) rfl)) | (show some (Addr.add _ _).block ≠ _; rw [add_block]; exact (fun e_ => ((HL181_1.out.1 _ e_.symm).2) rfl)) | exact (fun e_ => ((HL181_1.out.1 _ e_.symm).2) rfl)))
                     rw [← Ny182.out] at ho
                     have n0_ := Aside0.mk (blk_grown (g := gb171) (o := .cells #[.string ((rd_T73 l0 x10_1).f0), .string ((rd_T73 l0 x10_1).f1), .string ((rd_T73 l0 x10_1).f2)] 73 (0, 0)) (by (with_reducible repeat (first | refine blk_drewN ?_ _ | refine blk_drew ?_ | refine blk_alloc ?_ _)); exact BK171.out) hg (Kd.R_ne HL181_1.out BK171.out (by decide)))
                     have n1_ := Aside0.mk (hb)
                     have n2_ := Aside0.mk (Kd.H_grown (Kd.H_widen (by repeat (first | exact HH35.out | refine Kd.H_alloc ?_ _ | refine Kd.H_drewN ?_ _ | refine Kd.H_drew ?_))) hg (fun k_ e_ => .inl (UU35.out.1 k_ e_)))
                     have n3_ := Aside0.mk (ho)
                     clear BK171
                     clear HB
                     clear HH35
                     clear HO_3
                     clear UU35
                     clear HL181_1
                     have BK171 := n0_
                     have HB := n1_
                     have HH35 := n2_
                     have HO184 := n3_
                     clear n0_ n1_ n2_ n3_
                     clear ho hb hg hat
                     have p33 : 0 ≤ (x6_2 : Int) := of_decide_eq_true (by first | (with_reducible assumption) | assumption)
                     have q33 : (x6_2 : Int) < ((x3_1.length : Int) : Int) := of_decide_eq_true (by first | (with_reducible assumption) | assumption)
                     replace p33 := eq_true p33
                     replace q33 := eq_true q33
                     obtain ⟨Ao39, co39, eo39⟩ := Kd.R_slice HO184.out
                     (first | subst eo39 | (injection eo39 with f1_ f2_ f3_; have f4_ := f1_.symm; have f5_ := f3_.symm; clear f1_ f2_ f3_; subst f4_; subst f5_))
                     obtain ⟨_, _, hraw37, _, _, hcc37, _⟩ := Kd.H_raw HH35.out (of_decide_eq_true (by first | (with_reducible assumption) | assumption)) (by have h_ : (x6_2 : Int) < ((x3_1.length : Int) : Int) := of_decide_eq_true (by first | (with_reducible assumption) | assumption); first | exact h_ | (have e_ := (HN35.out); omega) | simpa using h_)
                     obtain ⟨_, hfr37⟩ := Kd.H_at HH35.out (of_decide_eq_true (by first | (with_reducible assumption) | assumption)) (by have h_ : (x6_2 : Int) < ((x3_1.length : Int) : Int) := of_decide_eq_true (by first | (with_reducible assumption) | assumption); first | exact h_ | (have e_ := (HN35.out); omega) | simpa using h_)
                     have hx37_0 := hcc37 1 _ rfl
                     have hf37_0 := hfr37 1
                     (try rw [show (k70).sz = 2 from rfl] at hx37_0)
                     (try rw [show (k70).sz = 2 from rfl] at hf37_0)
                     have HP37 := Kd.S_seg0 HH35.out (of_decide_eq_true (by first | (with_reducible assumption) | assumption)) (by have h_ : (x6_2 : Int) < ((x3_1.length : Int) : Int) := of_decide_eq_true (by first | (with_reducible assumption) | assumption); first | exact h_ | (have e_ := (HN35.out); omega) | simpa using h_) (seg := [.slice Ao39 y182.length co39]) (j := 1) (show 2 ≤ 2 from by decide) (x' := (⟨(rd_T70 x3_1 x6_2).f0, y182⟩ : S70)) (k70_mkM _ _ _ (⟨(rd_T70 x3_1 x6_2).f0, y182⟩ : S70) HO184.out) (fun _ hk => hk)
                     clear hcc37 hfr37
                     have HNB171_go35 := Aside0.mk (show gb171 ≠ go35 from by have h_ := Kd.R_ne hraw37 BK171.out (by decide); intro e_; exact h_ (by rw [e_]; rfl))
                     have HS37 := HP37.1
                     rw [← Ny185.out] at HS37
                     have HQ37 := Aside0.mk HS37
                     obtain ⟨_, hgg37⟩ := Kd.R_typed hraw37 go35 rfl
                     have GG37_ := Aside0.mk hgg37
                     clear HP37 HS37 hgg37
                     refine hK.out _ _ ⟨(blk_cell BK171.out 0).trans rfl, (blk_cell BK171.out 1).trans rfl, (blk_cell BK171.out 2).trans rfl, HS3_, HS4_⟩ (fun hHeld => ?_)
                     clear hK K
                     refine norm_ (a' := ?_) ?_ ?_
                     rotate_left
                     · show Act.put _ (some 53) _ = _
                       simp only [Act.put, List.setIfInBounds_toArray, List.set_cons_zero, List.set_cons_succ, i64_w, i32_w]
                       rfl
                     refine pure_ (i := 14) (N := some 54) (v := ?_) (a' := ?_) #[true, true, true, true, true, true, true, true, true, true, true, true, true, true, true, false, false] rfl rfl (any_of HT_.out (by kernel_rfl)) (fun _ _ _ h => h) (Or.inl ⟨by rfl, ?_⟩) ?_ ?_
                     rotate_left
                     · intro w'
                       go_simp
                       with_reducible rfl
                     rotate_left
                     · simp only [Act.put, List.setIfInBounds_toArray, List.set_cons_zero, List.set_cons_succ, i64_w, i32_w]
                       rfl
                     refine pure_ (i := 15) (N := some 55) (v := ?_) (a' := ?_) #[true, true, true, true, true, true, true, true, true, true, true, true, true, true, true, true, false] rfl rfl (any_of HT_.out (by kernel_rfl)) (fun _ _ _ h => h) (Or.inl ⟨by rfl, ?_⟩) ?_ ?_
                     rotate_left
                     · intro w'
                       go_simp
                       with_reducible rfl
                     rotate_left
                     · simp only [Act.put, List.setIfInBounds_toArray, List.set_cons_zero, List.set_cons_succ, i64_w, i32_w]
                       rfl
                     refine last_ (i := 16) (N := none) #[true, true, true, true, true, true, true, true, true, true, true, true, true, true, true, true, true] rfl rfl (one_of HT_.out (by kernel_rfl)) (by decide) (fun K hK => ?_)
                     refine skip_ (w1 := ?_) (by rfl) rfl ?_ ?_
                     rotate_left
                     · go_simp
                       rfl
                     refine hK.out _ _ ?_
                     clear hK K
                     refine done_ (done_of HT_.out (by kernel_rfl)) ?_
                     try go_wp2
                     go_roundg k2
                     case measure => have := HK1.out; have := HK2.out; omega
                     case rel => exact ⟨(y185), (wrap64 (x10_1 + 1)), (by first | rfl | (simp; done) | (simp [*]; done)), H', ⟨by have := HK1.out; have := HK2.out; omega⟩, ⟨by (with_reducible repeat (first | apply Kd.S_alloc | apply Kd.S_drewN | apply Kd.S_drew)); exact HQ37.out⟩, ⟨by repeat (first | (with_reducible first | exact HB.out | apply below_alloc | apply pw_below_drewN | apply below_drew1 | refine below_set ?_ GB35.out | refine below_set ?_ GE171.out) | exact HB.out)⟩⟩
                   · rw [if_neg c32] at H
                     exact absurd H (by simp)
                 · rw [if_neg c31] at H
                   exact absurd H (by simp)
               · rw [if_neg c30] at H
                 exact absurd H (by simp)
       · rw [if_neg c4] at H
         exact absurd H (by simp)
     · rw [if_neg c3] at H
       exact absurd H (by simp)
   · rw [if_neg c2] at H
     have c2b0 : decide (x10_1 < (l0.length : Int)) = false := decide_eq_false c2
     clear c2
     obtain rfl := Option.some.inj H
     go_wp2
     go_ret
     exact ⟨_, by first | rfl | (simp [errW_none, errW_some] <;> rfl) | (simp [*, errW_none, errW_some] <;> rfl), by (with_reducible repeat (first | apply Kd.S_alloc | apply Kd.S_drewN | apply Kd.S_drew)); exact HO_3.out, by repeat (first | (with_reducible first | exact HB.out | apply below_alloc | apply pw_below_drewN | apply below_drew1) | exact HB.out)⟩
end Go.Proofs.YtocdnceckljnaaaDoor.QV0
namespace Go.Proofs.YtocdnceckljnaaaDoor.QV0
open Go.RowKit Go.Proofs.YtocdnceckljnaaaDoorW.PrintWords Go.Proofs.YtocdnceckljnaaaDoorW.PrintLast Go.Proofs.YtocdnceckljnaaaDoorW.PrintMore
attribute [local go_sem] max2_int min2_int max_two min_two max_three min_three max_four min_four
set_option linter.unusedVariables false
set_option linter.unusedSimpArgs false
def pEnt (e : S72) : U.Bs := e.f0.data.toList ++ [61] ++ e.f1.data.toList ++ [10]
def pEnts (es : List S72) : U.Bs := es.flatMap pEnt
def pHead (s : S70) : U.Bs := [91] ++ s.f0.data.toList ++ [93, 10]
def pPart (ss : List S70) (i : Nat) : U.Bs := (if 0 < i then [10] else []) ++ (pHead (ss.getD i z70) ++ pEnts (ss.getD i z70).f1)
def pTo (ss : List S70) (j : Nat) : U.Bs := (List.range j).flatMap (pPart ss)
theorem pTo_succ (ss : List S70) (j : Nat) : pTo ss (j + 1) = pTo ss j ++ pPart ss j := by
 unfold pTo
 rw [List.range_succ, List.flatMap_append]
 simp
theorem pEnts_succ (es : List S72) (q : Nat) (hq : q < es.length) : pEnts (es.take (q + 1)) = pEnts (es.take q) ++ pEnt (es.getD q z72) := by
 unfold pEnts
 rw [List.take_add_one, List.getElem?_eq_getElem hq, List.getD_eq_getElem?_getD, List.getElem?_eq_getElem hq]
 simp only [Option.toList_some, List.flatMap_append, List.flatMap_cons, List.flatMap_nil, List.append_nil, Option.getD_some]
def pShort (ss : List S70) : Bool := decide (ss.length ≤ 1000) && ss.all (fun s => decide (s.f0.size ≤ 100000) && (decide (s.f1.length ≤ 1000) && s.f1.all (fun e => decide (e.f0.size ≤ 100000) && decide (e.f1.size ≤ 100000))))
structure PShort (s : S70) : Prop where
 n : s.f0.size ≤ 100000
 l : s.f1.length ≤ 1000
 e : ∀ x ∈ s.f1, x.f0.size ≤ 100000 ∧ x.f1.size ≤ 100000
theorem pShort_iff (ss : List S70) (h : pShort ss = true) : ss.length ≤ 1000 ∧ ∀ s ∈ ss, PShort s := by
 unfold pShort at h
 simp only [Bool.and_eq_true, decide_eq_true_eq, List.all_eq_true] at h
 exact ⟨h.1, fun s hs => ⟨(h.2 s hs).1, (h.2 s hs).2.1, (h.2 s hs).2.2⟩⟩
theorem pEnts_len (es : List S72) (h : ∀ x ∈ es, x.f0.size ≤ 100000 ∧ x.f1.size ≤ 100000) : (pEnts es).length ≤ 200002 * es.length := by
 induction es with
 | nil => simp [pEnts]
 | cons x es ih =>
  have h1 := ih (fun y hy => h y (List.mem_cons_of_mem _ hy))
  have h2 := h x List.mem_cons_self
  unfold pEnts at h1 ⊢
  rw [List.flatMap_cons, List.length_append, List.length_cons]
  have : (pEnt x).length ≤ 200002 := by
   unfold pEnt
   simp only [List.length_append, List.length_cons, List.length_nil, ← Lib.size_eq]
   omega
  omega
theorem pPart_len (ss : List S70) (h : ∀ s ∈ ss, PShort s) (i : Nat) : (pPart ss i).length ≤ 300000000 := by
 have hx : PShort (ss.getD i z70) := by
  by_cases hi : i < ss.length
  · rw [List.getD_eq_getElem?_getD, List.getElem?_eq_getElem hi]
    exact h _ (List.getElem_mem hi)
  · rw [List.getD_eq_getElem?_getD, List.getElem?_eq_none (by omega)]
    exact ⟨by decide, by decide, by intro x hx; simp [z70] at hx⟩
 have h1 := pEnts_len _ hx.e
 have h2 := hx.l
 have h3 := hx.n
 have h4 : (if 0 < i then ([10] : U.Bs) else []).length ≤ 1 := by split <;> simp
 unfold pPart pHead
 simp only [List.length_append, List.length_cons, List.length_nil, ← Lib.size_eq]
 omega
theorem pTo_len (ss : List S70) (h : ∀ s ∈ ss, PShort s) (j : Nat) : (pTo ss j).length ≤ 300000000 * j := by
 induction j with
 | zero => simp [pTo]
 | succ j ih =>
  have := pPart_len ss h j
  rw [pTo_succ, List.length_append]
  omega
theorem cat_B (T : ByteArray) (l : U.Bs) (S : ByteArray) (h : S.data.toList = l) : U.B (T.data.toList) ++ S = U.B (T.data.toList ++ l) := by
 subst h
 have e : ∀ a b : ByteArray, a.data.toList = b.data.toList → a = b := fun a b h => by cases a; cases b; simpa using h
 apply e
 simp [ByteArray.data_append, U.B]
theorem cat_B' (t l : U.Bs) (S : ByteArray) (h : S.data.toList = l) : U.B t ++ S = U.B (t ++ l) := by
 have := cat_B (U.B t) l S h
 rwa [U.B_data] at this
def spec_UnitPrint.f (k : Nat) (l0 : List S73) : Option (ByteArray × Int) := (spec_Writable.f k l0).bind fun t => if t = true then (spec_Sections.f k l0).bind fun s => if pShort s = true then some (U.B (pTo s s.length), 1) else none else some ((⟨#[]⟩ : ByteArray), 2)
set_option maxHeartbeats 40000000 in
set_option maxRecDepth 100000 in
theorem spec_UnitPrint.calls (k : Nat) (A0 : Option Addr) (c0 : Nat) (l0 : List S73) (r1 : ByteArray) (r2 : Int) (w : World) (hr0 : Kd.C k73 w A0 l0.length l0) (hc0 : l0.length ≤ c0) (h : spec_UnitPrint.f k l0 = some (r1, r2)) :
 Calls Tryd.prog 25 #[.slice A0 l0.length c0] w fun e w' => e = .returned (.tuple #[.string r1, .int .i64 r2]) ∧ Below w.heap.size w w' := by
 unfold spec_UnitPrint.f at h
 obtain ⟨t, hW, h⟩ := Option.bind_eq_some_iff.mp h
 have HR0 := Aside0.mk hr0
 have HC0 := Aside0.mk hc0
 have HW := Aside0.mk hW
 clear hr0 hc0 hW
 cases t with
 | false =>
  rw [if_neg (by simp)] at h
  simp only [Option.some.injEq, Prod.mk.injEq] at h
  obtain ⟨rfl, rfl⟩ := h
  go_enter Tryd.func25, Tryd.ntmps25
  go_wp2_with (go_at_call 41; refine (spec_Writable.calls k A0 c0 l0 _ _ HR0.out HC0.out HW.out).mono ?_; rintro e w1 ⟨rfl, hb⟩; have HB1 := Aside0.mk hb; clear hb)
  go_ret2
  exact ⟨rfl, HB1.out⟩
 | true =>
  rw [if_pos rfl] at h
  obtain ⟨ss, hS, h⟩ := Option.bind_eq_some_iff.mp h
  split at h
  · rename_i hsh
    simp only [Option.some.injEq, Prod.mk.injEq] at h
    obtain ⟨rfl, rfl⟩ := h
    have HS := Aside0.mk hS
    have HSH := Aside0.mk (pShort_iff ss hsh)
    clear hS hsh
    go_enter Tryd.func25, Tryd.ntmps25
    go_wp2_with (first
     | (go_at_call 41; refine (spec_Writable.calls k A0 c0 l0 _ _ HR0.out HC0.out HW.out).mono ?_; rintro e w1 ⟨rfl, hb⟩; have HB1 := Aside0.mk hb; have HR1 := Aside0.mk (Kd.C_below HR0.out hb); clear hb)
     | (go_at_call 42; go_loud (refine (spec_Sections.calls k A0 c0 l0 _ _ HR1.out HC0.out HS.out).mono ?_; rintro e w2 ⟨v13, rfl, hSS, hb⟩; have HB2 := Aside0.mk (U.below_over HB1.out hb); obtain ⟨A2, c2, rfl, hl2, hC2⟩ := Kd.S_reads hSS; have HC2 := Aside0.mk hC2; clear hb hSS hl2 hC2)))
    clear HR0 HR1 HW HS HB1
    have HB0 := Aside0.mk (Below.refl w2.heap.size w2)
    have e00 : (⟨#[]⟩ : ByteArray) = U.B (pTo ss 0) := rfl
    rw [e00]
    go_loopg [15, 4] ss.length (fun kq v15 v4 w' => ∃ (i : Nat), v15 = .int .i64 i ∧ Aside0 (i + kq = ss.length) ∧ v4 = .string (U.B (pTo ss i)) ∧ Aside0 (Below w2.heap.size w2 w'))
    case atStart => exact ⟨0, rfl, ⟨by omega⟩, rfl, HB0⟩
    case round =>
     clear HB0
     obtain ⟨i, rfl, HI, rfl, HB⟩ := hrel
     cases gk with
     | zero =>
      obtain rfl : i = ss.length := by have := HI.out; omega
      have q1 : decide ((ss.length : Int) < (ss.length : Int)) = false := by simp
      go_wp2
      go_ret2
      exact ⟨rfl, U.below_over HB2.out HB.out⟩
     | succ k1 =>
      have hi : i < ss.length := by have := HI.out; omega
      obtain ⟨ad, A1, c1, rfl, d0, d1, hl1, hC1⟩ := at_T70 HC2.out (i : Int) (by omega) (by omega)
      rw [Int.toNat_natCast] at d0 d1
      obtain ⟨x, hx⟩ : ∃ x, x = rd_T70 ss (i : Int) := ⟨_, rfl⟩
      rw [← hx] at d0 d1 hl1 hC1
      have hx2 : x = ss.getD i z70 := by rw [hx]; unfold rd_T70; rw [Int.toNat_natCast]
      have HX := Aside0.mk hx2
      have HP := Aside0.mk (show PShort x from HSH.out.2 x (by rw [hx2, List.getD_eq_getElem?_getD, List.getElem?_eq_getElem hi]; exact List.getElem_mem hi))
      have HC1 := Aside0.mk (Kd.C_below hC1 HB.out)
      have d0' := U.keepcell HB.out d0
      have d1' := U.keepcell HB.out d1
      have HTL := Aside0.mk (pTo_len ss HSH.out.2 i)
      have HIl := Aside0.mk (show i ≤ 1000 by have := HSH.out.1; omega)
      have q1 : decide (i < ss.length) = true := by simp; omega
      have z1 : (i : Int) < (ss.length : Int) := by omega
      have hts := Aside0.mk (pTo_succ ss i)
      clear hx hx2 d0 d1 hl1 hC1 hi
      go_upto_region 7 with (fail)
      have hbn := U.below_new wr (Obj.cells #[Value.string x.f0, Value.slice A1 x.f1.length c1] 70)
      have HB3 := Aside0.mk (U.below_over HB.out hbn)
      have HC3 := Aside0.mk (Kd.C_below HC1.out hbn)
      have hb3 := heap_alloc_new wr (Obj.cells #[Value.string x.f0, Value.slice A1 x.f1.length c1] 70)
      have f0 := U.cell_of_blk hb3 0 _ rfl
      have f1 := U.cell_of_blk hb3 1 _ rfl
      clear HB HC1 d0' d1' hb3 hbn q1 z1
      generalize (wr.alloc (Obj.cells #[Value.string x.f0, Value.slice A1 x.f1.length c1] 70)) = w3 at HB3 HC3 f0 f1 ⊢
      generalize wr.heap.size = xb at *
      by_cases hi0 : 0 < i
      · have q6 : decide (0 < i) = true := by simp; omega
        have q6' : decide ((0 : Int) < (i : Int)) = true := by simp; omega
        obtain ⟨acc0, hac0⟩ : ∃ a, a = pTo ss i ++ [10] := ⟨_, rfl⟩
        have e4 : U.B (pTo ss i) ++ (⟨#[10]⟩ : ByteArray) = U.B acc0 := by rw [hac0]; exact cat_B' _ _ _ rfl
        have z4 : ¬ (9223372036854775807 < (U.B (pTo ss i)).size + 1) := by have h1 := HTL.out; have h2 := HIl.out; rw [U.B_size]; omega
        have HA0 := Aside0.mk (show acc0.length ≤ 300000000001 by have h1 := HTL.out; have h2 := HIl.out; rw [hac0, List.length_append, List.length_singleton]; omega)
        have HAC0 := Aside0.mk (show acc0 = pTo ss i ++ (if 0 < i then [10] else []) by rw [if_pos hi0, hac0])
        clear hac0 hi0
        go_upto_region 9 with (fail)
        clear q6 q6' e4 z4
        obtain ⟨S1, hS1⟩ : ∃ S, S = (⟨#[91]⟩ : ByteArray) ++ x.f0 := ⟨_, rfl⟩
        obtain ⟨S2, hS2⟩ : ∃ S, S = S1 ++ (⟨#[93, 10]⟩ : ByteArray) := ⟨_, rfl⟩
        have hS2l : S2.data.toList = pHead x := by rw [hS2, hS1]; unfold pHead; simp [ByteArray.data_append]
        obtain ⟨acc1, hac1⟩ : ∃ a, a = acc0 ++ pHead x := ⟨_, rfl⟩
        have e3 : U.B acc0 ++ S2 = U.B acc1 := by rw [hac1]; exact cat_B' acc0 _ S2 hS2l
        have hs1 : S1.size = 1 + x.f0.size := by rw [hS1, ByteArray.size_append]; rfl
        have hs2 : S2.size = S1.size + 2 := by rw [hS2, ByteArray.size_append]; rfl
        have hxn := HP.out.n
        have z1 : ¬ (9223372036854775807 < 1 + x.f0.size) := by omega
        have z2 : ¬ (9223372036854775807 < S1.size + 2) := by omega
        have z3 : ¬ (9223372036854775807 < (U.B acc0).size + S2.size) := by have := HA0.out; rw [U.B_size]; omega
        have HA1 := Aside0.mk (show acc1.length ≤ acc0.length + 100003 by rw [hac1, List.length_append, ← hS2l, ← Lib.size_eq]; omega)
        have HAC1 := Aside0.mk hac1
        have e1 := hS1.symm
        have e2 := hS2.symm
        clear hS1 hS2 hS2l hs1 hs2 hxn hac1
        go_wp2
        have HQ0 := Aside0.mk (show acc1 = acc1 ++ pEnts (x.f1.take 0) by simp [pEnts])
        go_loopg [33, 4] x.f1.length (fun kq v33 v4 w' => ∃ (q : Nat), v33 = .int .i64 q ∧ Aside0 (q + kq = x.f1.length) ∧ v4 = .string (U.B (acc1 ++ pEnts (x.f1.take q))) ∧ Aside0 (Below w2.heap.size w2 w') ∧ Aside0 (Kd.C k72 w' A1 x.f1.length x.f1))
        case atStart => exact ⟨0, rfl, ⟨by omega⟩, by rw [← HQ0.out], HB3, HC3⟩
        case round =>
         clear HB3 HC3 f0 f1 e1 e2 e3 z1 z2 z3 HQ0
         obtain ⟨q, rfl, HQ, rfl, HB4, HC4⟩ := hrel
         have hEl := Aside0.mk (show (pEnts (x.f1.take q)).length ≤ 200002000 by
          have h1 := pEnts_len (x.f1.take q) (fun y hy => HP.out.e y (List.mem_of_mem_take hy))
          have h2 := HP.out.l
          rw [List.length_take] at h1
          omega)
         cases gk with
         | zero =>
          obtain rfl : q = x.f1.length := by have := HQ.out; omega
          have q5 : decide ((x.f1.length : Int) < (x.f1.length : Int)) = false := by simp
          have hw1 := Aside0.mk (show wrap64 ((i : Int) + 1) = ((i + 1 : Nat) : Int) from U.wr1 i (by have := HIl.out; omega))
          go_wp2
          go_roundg k1
          case measure => omega
          case rel =>
           refine ⟨i + 1, by first | rfl | (simp; done) | (rw [← hw1.out]), ⟨by have := HI.out; omega⟩, ?_, HB4⟩
           rw [hts.out, List.take_length, HAC1.out, HAC0.out]
           unfold pPart
           rw [← HX.out]
           simp only [List.append_assoc]
         | succ k2 =>
          have hq : q < x.f1.length := by have := HQ.out; omega
          obtain ⟨ad2, hA1, g0, g1⟩ := at_T72 HC4.out (q : Int) (by omega) (by omega)
          subst hA1
          rw [Int.toNat_natCast] at g0 g1
          obtain ⟨y, hy⟩ : ∃ y, y = rd_T72 x.f1 (q : Int) := ⟨_, rfl⟩
          rw [← hy] at g0 g1
          have hy2 : y = x.f1.getD q z72 := by rw [hy]; unfold rd_T72; rw [Int.toNat_natCast]
          have hyP : y.f0.size ≤ 100000 ∧ y.f1.size ≤ 100000 := HP.out.e y (by rw [hy2, List.getD_eq_getElem?_getD, List.getElem?_eq_getElem hq]; exact List.getElem_mem hq)
          have hes := Aside0.mk (show pEnts (x.f1.take (q + 1)) = pEnts (x.f1.take q) ++ pEnt y by rw [hy2]; exact pEnts_succ x.f1 q hq)
          have q5 : decide (q < x.f1.length) = true := by simp; omega
          have z5 : (q : Int) < (x.f1.length : Int) := by omega
          have hw2 := Aside0.mk (show wrap64 ((q : Int) + 1) = ((q + 1 : Nat) : Int) from U.wr1 q (by have := HP.out.l; omega))
          obtain ⟨accq, haq⟩ : ∃ a, a = acc1 ++ pEnts (x.f1.take q) := ⟨_, rfl⟩
          rw [← haq]
          have HAQ := Aside0.mk haq
          have HAQl := Aside0.mk (show accq.length ≤ acc0.length + 300102003 by have := HA1.out; have := hEl.out; rw [haq, List.length_append]; omega)
          have HYP := Aside0.mk hyP
          clear hy hy2 hyP haq hq hEl
          go_upto_region 13 with (fail)
          have hbn := U.below_new wr (Obj.cells #[Value.string y.f0, Value.string y.f1] 72)
          have HB5 := Aside0.mk (U.below_over HB4.out hbn)
          have HC5 := Aside0.mk (Kd.C_below HC4.out hbn)
          have hb5 := heap_alloc_new wr (Obj.cells #[Value.string y.f0, Value.string y.f1] 72)
          have f0 := U.cell_of_blk hb5 0 _ rfl
          have f1 := U.cell_of_blk hb5 1 _ rfl
          clear HB4 HC4 g0 g1 hb5 hbn
          generalize (wr.alloc (Obj.cells #[Value.string y.f0, Value.string y.f1] 72)) = w5 at HB5 HC5 f0 f1 ⊢
          generalize wr.heap.size = yb at *
          obtain ⟨T1, hT1⟩ : ∃ S, S = y.f0 ++ (⟨#[61]⟩ : ByteArray) := ⟨_, rfl⟩
          obtain ⟨T2, hT2⟩ : ∃ S, S = T1 ++ y.f1 := ⟨_, rfl⟩
          obtain ⟨T3, hT3⟩ : ∃ S, S = T2 ++ (⟨#[10]⟩ : ByteArray) := ⟨_, rfl⟩
          have hT3l : T3.data.toList = pEnt y := by rw [hT3, hT2, hT1]; unfold pEnt; simp [ByteArray.data_append]
          obtain ⟨accr, har⟩ : ∃ a, a = accq ++ pEnt y := ⟨_, rfl⟩
          have e4 : U.B accq ++ T3 = U.B accr := by rw [har]; exact cat_B' accq _ T3 hT3l
          have ht1 : T1.size = y.f0.size + 1 := by rw [hT1, ByteArray.size_append]; rfl
          have ht2 : T2.size = T1.size + y.f1.size := by rw [hT2, ByteArray.size_append]
          have ht3 : T3.size = T2.size + 1 := by rw [hT3, ByteArray.size_append]; rfl
          have hyp := HYP.out
          have z6 : ¬ (9223372036854775807 < y.f0.size + 1) := by omega
          have z7 : ¬ (9223372036854775807 < T1.size + y.f1.size) := by omega
          have z8 : ¬ (9223372036854775807 < T2.size + 1) := by omega
          have z9 : ¬ (9223372036854775807 < (U.B accq).size + T3.size) := by have := HAQl.out; have := HA0.out; rw [U.B_size]; omega
          have e1 := hT1.symm
          have e2 := hT2.symm
          have e3 := hT3.symm
          have HAR := Aside0.mk har
          clear hT1 hT2 hT3 hT3l ht1 ht2 ht3 hyp har
          go_wp2
          go_roundg k2
          case measure => omega
          case rel => exact ⟨q + 1, by first | rfl | (simp; done) | (rw [← hw2.out]), ⟨by have := HQ.out; omega⟩, by rw [hes.out, HAR.out, HAQ.out, List.append_assoc], HB5, HC5⟩
      · have q6 : decide (0 < i) = false := by simp; omega
        have q6' : decide ((0 : Int) < (i : Int)) = false := by simp; omega
        obtain ⟨acc0, hac0⟩ : ∃ a, a = pTo ss i := ⟨_, rfl⟩
        have HA0 := Aside0.mk (show acc0.length ≤ 300000000001 by have h1 := HTL.out; have h2 := HIl.out; rw [hac0]; omega)
        have HAC0 := Aside0.mk (show acc0 = pTo ss i ++ (if 0 < i then [10] else []) by rw [if_neg hi0, hac0, List.append_nil])
        rw [← hac0]
        clear hac0 hi0
        go_upto_region 9 with (fail)
        clear q6 q6'
        obtain ⟨S1, hS1⟩ : ∃ S, S = (⟨#[91]⟩ : ByteArray) ++ x.f0 := ⟨_, rfl⟩
        obtain ⟨S2, hS2⟩ : ∃ S, S = S1 ++ (⟨#[93, 10]⟩ : ByteArray) := ⟨_, rfl⟩
        have hS2l : S2.data.toList = pHead x := by rw [hS2, hS1]; unfold pHead; simp [ByteArray.data_append]
        obtain ⟨acc1, hac1⟩ : ∃ a, a = acc0 ++ pHead x := ⟨_, rfl⟩
        have e3 : U.B acc0 ++ S2 = U.B acc1 := by rw [hac1]; exact cat_B' acc0 _ S2 hS2l
        have hs1 : S1.size = 1 + x.f0.size := by rw [hS1, ByteArray.size_append]; rfl
        have hs2 : S2.size = S1.size + 2 := by rw [hS2, ByteArray.size_append]; rfl
        have hxn := HP.out.n
        have z1 : ¬ (9223372036854775807 < 1 + x.f0.size) := by omega
        have z2 : ¬ (9223372036854775807 < S1.size + 2) := by omega
        have z3 : ¬ (9223372036854775807 < (U.B acc0).size + S2.size) := by have := HA0.out; rw [U.B_size]; omega
        have HA1 := Aside0.mk (show acc1.length ≤ acc0.length + 100003 by rw [hac1, List.length_append, ← hS2l, ← Lib.size_eq]; omega)
        have HAC1 := Aside0.mk hac1
        have e1 := hS1.symm
        have e2 := hS2.symm
        clear hS1 hS2 hS2l hs1 hs2 hxn hac1
        go_wp2
        have HQ0 := Aside0.mk (show acc1 = acc1 ++ pEnts (x.f1.take 0) by simp [pEnts])
        go_loopg [33, 4] x.f1.length (fun kq v33 v4 w' => ∃ (q : Nat), v33 = .int .i64 q ∧ Aside0 (q + kq = x.f1.length) ∧ v4 = .string (U.B (acc1 ++ pEnts (x.f1.take q))) ∧ Aside0 (Below w2.heap.size w2 w') ∧ Aside0 (Kd.C k72 w' A1 x.f1.length x.f1))
        case atStart => exact ⟨0, rfl, ⟨by omega⟩, by rw [← HQ0.out], HB3, HC3⟩
        case round =>
         clear HB3 HC3 f0 f1 e1 e2 e3 z1 z2 z3 HQ0
         obtain ⟨q, rfl, HQ, rfl, HB4, HC4⟩ := hrel
         have hEl := Aside0.mk (show (pEnts (x.f1.take q)).length ≤ 200002000 by
          have h1 := pEnts_len (x.f1.take q) (fun y hy => HP.out.e y (List.mem_of_mem_take hy))
          have h2 := HP.out.l
          rw [List.length_take] at h1
          omega)
         cases gk with
         | zero =>
          obtain rfl : q = x.f1.length := by have := HQ.out; omega
          have q5 : decide ((x.f1.length : Int) < (x.f1.length : Int)) = false := by simp
          have hw1 := Aside0.mk (show wrap64 ((i : Int) + 1) = ((i + 1 : Nat) : Int) from U.wr1 i (by have := HIl.out; omega))
          go_wp2
          go_roundg k1
          case measure => omega
          case rel =>
           refine ⟨i + 1, by first | rfl | (simp; done) | (rw [← hw1.out]), ⟨by have := HI.out; omega⟩, ?_, HB4⟩
           rw [hts.out, List.take_length, HAC1.out, HAC0.out]
           unfold pPart
           rw [← HX.out]
           simp only [List.append_assoc]
         | succ k2 =>
          have hq : q < x.f1.length := by have := HQ.out; omega
          obtain ⟨ad2, hA1, g0, g1⟩ := at_T72 HC4.out (q : Int) (by omega) (by omega)
          subst hA1
          rw [Int.toNat_natCast] at g0 g1
          obtain ⟨y, hy⟩ : ∃ y, y = rd_T72 x.f1 (q : Int) := ⟨_, rfl⟩
          rw [← hy] at g0 g1
          have hy2 : y = x.f1.getD q z72 := by rw [hy]; unfold rd_T72; rw [Int.toNat_natCast]
          have hyP : y.f0.size ≤ 100000 ∧ y.f1.size ≤ 100000 := HP.out.e y (by rw [hy2, List.getD_eq_getElem?_getD, List.getElem?_eq_getElem hq]; exact List.getElem_mem hq)
          have hes := Aside0.mk (show pEnts (x.f1.take (q + 1)) = pEnts (x.f1.take q) ++ pEnt y by rw [hy2]; exact pEnts_succ x.f1 q hq)
          have q5 : decide (q < x.f1.length) = true := by simp; omega
          have z5 : (q : Int) < (x.f1.length : Int) := by omega
          have hw2 := Aside0.mk (show wrap64 ((q : Int) + 1) = ((q + 1 : Nat) : Int) from U.wr1 q (by have := HP.out.l; omega))
          obtain ⟨accq, haq⟩ : ∃ a, a = acc1 ++ pEnts (x.f1.take q) := ⟨_, rfl⟩
          rw [← haq]
          have HAQ := Aside0.mk haq
          have HAQl := Aside0.mk (show accq.length ≤ acc0.length + 300102003 by have := HA1.out; have := hEl.out; rw [haq, List.length_append]; omega)
          have HYP := Aside0.mk hyP
          clear hy hy2 hyP haq hq hEl
          go_upto_region 13 with (fail)
          have hbn := U.below_new wr (Obj.cells #[Value.string y.f0, Value.string y.f1] 72)
          have HB5 := Aside0.mk (U.below_over HB4.out hbn)
          have HC5 := Aside0.mk (Kd.C_below HC4.out hbn)
          have hb5 := heap_alloc_new wr (Obj.cells #[Value.string y.f0, Value.string y.f1] 72)
          have f0 := U.cell_of_blk hb5 0 _ rfl
          have f1 := U.cell_of_blk hb5 1 _ rfl
          clear HB4 HC4 g0 g1 hb5 hbn
          generalize (wr.alloc (Obj.cells #[Value.string y.f0, Value.string y.f1] 72)) = w5 at HB5 HC5 f0 f1 ⊢
          generalize wr.heap.size = yb at *
          obtain ⟨T1, hT1⟩ : ∃ S, S = y.f0 ++ (⟨#[61]⟩ : ByteArray) := ⟨_, rfl⟩
          obtain ⟨T2, hT2⟩ : ∃ S, S = T1 ++ y.f1 := ⟨_, rfl⟩
          obtain ⟨T3, hT3⟩ : ∃ S, S = T2 ++ (⟨#[10]⟩ : ByteArray) := ⟨_, rfl⟩
          have hT3l : T3.data.toList = pEnt y := by rw [hT3, hT2, hT1]; unfold pEnt; simp [ByteArray.data_append]
          obtain ⟨accr, har⟩ : ∃ a, a = accq ++ pEnt y := ⟨_, rfl⟩
          have e4 : U.B accq ++ T3 = U.B accr := by rw [har]; exact cat_B' accq _ T3 hT3l
          have ht1 : T1.size = y.f0.size + 1 := by rw [hT1, ByteArray.size_append]; rfl
          have ht2 : T2.size = T1.size + y.f1.size := by rw [hT2, ByteArray.size_append]
          have ht3 : T3.size = T2.size + 1 := by rw [hT3, ByteArray.size_append]; rfl
          have hyp := HYP.out
          have z6 : ¬ (9223372036854775807 < y.f0.size + 1) := by omega
          have z7 : ¬ (9223372036854775807 < T1.size + y.f1.size) := by omega
          have z8 : ¬ (9223372036854775807 < T2.size + 1) := by omega
          have z9 : ¬ (9223372036854775807 < (U.B accq).size + T3.size) := by have := HAQl.out; have := HA0.out; rw [U.B_size]; omega
          have e1 := hT1.symm
          have e2 := hT2.symm
          have e3 := hT3.symm
          have HAR := Aside0.mk har
          clear hT1 hT2 hT3 hT3l ht1 ht2 ht3 hyp har
          go_wp2
          go_roundg k2
          case measure => omega
          case rel => exact ⟨q + 1, by first | rfl | (simp; done) | (rw [← hw2.out]), ⟨by have := HQ.out; omega⟩, by rw [hes.out, HAR.out, HAQ.out, List.append_assoc], HB5, HC5⟩
  · cases h
def laws_toSpec.l0 : Nat → List (S73) → List (S29) → Int → Int → Option ((List (S73)))
 | 0, _, _, _, _ => none
 | k + 1, x3, x6, x7, x8 => if x8 < x7 then (if 0 ≤ x8 then (if x8 < (x6.length : Int) then (if x3.length < 2932031007402 then (laws_toSpec.l0 k (x3 ++ [(⟨(rd_T29 x6 x8).f0, (rd_T29 x6 x8).f1, (rd_T29 x6 x8).f2⟩ : S73)]) x6 x7 (wrap64 (x8 + 1))) else (none)) else (none)) else (none)) else (some x3)
def laws_toSpec.f (k : Nat) (l0 : List (S29)) : Option ((List (S73))) := laws_toSpec.l0 k ([] : List (S73)) l0 (l0.length : Int) 0
set_option maxHeartbeats 8000000 in
set_option maxRecDepth 100000 in
theorem laws_toSpec.calls (k : Nat) (A0 : Option Addr) (c0 : Nat) (l0 : List (S29)) (r : List (S73)) (w : World) (hr0 : Kd.C k29 w A0 l0.length l0) (hc0 : l0.length ≤ c0) (h : laws_toSpec.f k l0 = some r) :
 Calls Tryd.prog 26 #[.slice A0 l0.length c0] w fun e w' => ∃ v0_ : Value, e = .returned (v0_) ∧ Kd.R k73 73 w' w.heap.size (fun _ => True) v0_ r ∧ Below w.heap.size w w' := by
 have hu29 := Tryd.underlying29
 have HR0 := Aside0.mk hr0
 have HC0 := Aside0.mk hc0
 clear hr0 hc0
 have HB := Aside0.mk (Below.refl w.heap.size w)
 have H : (laws_toSpec.l0 k ([] : List (S73)) l0 (l0.length : Int) 0) = some r := h
 clear h
 have H' := Aside0.mk H
 clear H
 go_enter Tryd.func26, Tryd.ntmps26
 go_wp2
 go_loopg [3, 8] k (fun kq v3 v8 w' => ∃ (x3_1 : List (S73)) (x8_1 : Int), v8 = .int .i64 x8_1 ∧ Aside0 (laws_toSpec.l0 kq x3_1 l0 (l0.length : Int) x8_1 = some r) ∧ Aside0 (kq ≤ k) ∧ Aside0 (Kd.R k73 73 w' w.heap.size (fun _ => True) v3 x3_1) ∧ Aside0 (Below w.heap.size w w'))
 case atStart => exact ⟨(([] : List (S73))), (0), (by first | rfl | (simp; done) | (simp [*]; done)), H', ⟨Nat.le_refl _⟩, ⟨by first | exact Kd.R_nil _ _ _ _ _ | exact Kd.N_nil _ _ _ _ _ | exact Kd.V_nil _ _ _ _ _ | exact Kd.Q_nil _ _ _ _ _ | exact Kd.S_nil _ _ _ _ _⟩, ⟨by repeat (first | (with_reducible first | exact HB.out | apply below_alloc | apply pw_below_drewN | apply below_drew1) | exact HB.out)⟩⟩
 case round =>
  clear H'
  obtain ⟨x3_1, x8_1, rfl, HA, HK1, HO_3, HB⟩ := hrel
  cases gk with
  | zero => exact absurd HA.out (by simp [laws_toSpec.l0])
  | succ k1 =>
   have H := HA.out
   clear HA
   simp only [laws_toSpec.l0] at H
   by_cases c2 : x8_1 < (l0.length : Int)
   · rw [if_pos c2] at H
     have c2b0 : decide (x8_1 < (l0.length : Int)) = true := decide_eq_true c2
     clear c2
     by_cases c3 : 0 ≤ x8_1
     · rw [if_pos c3] at H
       have c3b0 : decide (0 ≤ x8_1) = true := decide_eq_true c3
       clear c3
       by_cases c4 : x8_1 < (l0.length : Int)
       · rw [if_pos c4] at H
         have c4b0 : decide (x8_1 < (l0.length : Int)) = true := decide_eq_true c4
         clear c4
         by_cases c5 : x3_1.length < 2932031007402
         · rw [if_pos c5] at H
           have LMc5 := Aside0.mk c5
           clear c5
           obtain ⟨y188, hy188⟩ : ∃ y_ : List (S73), y_ = (x3_1 ++ [(⟨(rd_T29 l0 x8_1).f0, (rd_T29 l0 x8_1).f1, (rd_T29 l0 x8_1).f2⟩ : S73)]) := ⟨_, rfl⟩
           replace H : (laws_toSpec.l0 k1 y188 l0 (l0.length : Int) (wrap64 (x8_1 + 1))) = some r := by first | (rw [hy188]; with_reducible exact H) | (have H2_ := (Option.bind_some _ _).symm.trans H; rw [hy188]; with_reducible exact H2_) | (have H2_ := (Option.bind_some _ _).symm.trans H; with_reducible exact H2_) | with_reducible exact H | (rw [hy188]; exact H) | exact H
           have Ny188 := Aside0.mk hy188
           clear hy188
           have H' := Aside0.mk H
           clear H
           have p186 : 0 ≤ (x8_1 : Int) := of_decide_eq_true (by first | (with_reducible assumption) | assumption)
           have q186 : x8_1 < (l0.length : Int) := of_decide_eq_true (by first | (with_reducible assumption) | assumption)
           obtain ⟨ad186, e186, hx186_0, hx186_1, hx186_2⟩ := at_T29 HR0.out x8_1 p186 q186
           cases e186
           replace hx186_0 := (HB.out.cell (World.block_lt_of_cell? w _ hx186_0)).trans hx186_0
           replace hx186_1 := (HB.out.cell (World.block_lt_of_cell? w _ hx186_1)).trans hx186_1
           replace hx186_2 := (HB.out.cell (World.block_lt_of_cell? w _ hx186_2)).trans hx186_2
           replace p186 := eq_true p186
           replace q186 := eq_true q186
           go_wp2_with (first | ((with_reducible refine gate_dst (N := 5) rfl ?_); refine box_event ?hg (N := 5) ?hd (cs := #[.string (⟨#[]⟩ : ByteArray), .string (⟨#[]⟩ : ByteArray), .string (⟨#[]⟩ : ByteArray)]) (t := 29) ?hr ?_; (case hd => rfl); (case hg => rfl); (case hr => first | (go_simp; done) | (go_simp; rfl)); intro gb187 hg w6 hbox hb; have n0_ := Aside0.mk (Kd.R_below (by (with_reducible repeat (first | apply Kd.R_alloc | apply Kd.R_drewN | apply Kd.R_drew)); exact HO_3.out) hb); have n1_ := Aside0.mk (below_step (by repeat (first | (with_reducible first | exact HB.out | apply below_alloc | apply pw_below_drewN | apply below_drew1) | exact HB.out)) hb); have n2_ := Aside0.mk (hbox); have n3_ := Aside0.mk ((by rw [hg]; exact (below_size (by repeat (first | (with_reducible first | exact HB.out | apply below_alloc | apply pw_below_drewN | apply below_drew1) | exact HB.out))) : w.heap.size ≤ gb187)); have n4_ := Aside0.mk ((by rw [hg]; exact (below_size (by repeat (first | (with_reducible first | exact HB.out | apply below_alloc | apply pw_below_drewN | apply below_drew1) | exact HB.out))) : w.heap.size ≤ gb187)); clear HO_3; clear HB; have HO_3 := n0_; have HB := n1_; have BK187 := n2_; have GW187 := n3_; have GE187 := n4_; clear n0_ n1_ n2_ n3_ n4_; clear hb hbox hg; have hcz7_0 : w6.cell? ⟨gb187, 0, none⟩ = some (.string (⟨#[]⟩ : ByteArray)) := (blk_cell BK187.out 0).trans rfl; have hcz7_1 : w6.cell? ⟨gb187, 1, none⟩ = some (.string (⟨#[]⟩ : ByteArray)) := (blk_cell BK187.out 1).trans rfl; have hcz7_2 : w6.cell? ⟨gb187, 2, none⟩ = some (.string (⟨#[]⟩ : ByteArray)) := (blk_cell BK187.out 2).trans rfl; have hfz7_0 := blk_frozen BK187.out 0; have hfz7_1 := blk_frozen BK187.out 1; have hfz7_2 := blk_frozen BK187.out 2) | ((with_reducible refine gate_builtin (b := .append) (xs := #[.tmp 12, .tmp 14]) rfl ?_); at_builtin; refine Kd.R_append k73 (w0 := w) w.heap.size rfl (.tmp 12) (.tmp 14) 43 73 (.agg #[(.string ⟨#[]⟩), (.string ⟨#[]⟩), (.string ⟨#[]⟩)]) 48 rfl Tryd.underlying43 info73 rfl (by decide) (by omega) u3 x3_1 (⟨(rd_T29 l0 x8_1).f0, (rd_T29 l0 x8_1).f1, (rd_T29 l0 x8_1).f2⟩ : S73) [.string ((rd_T29 l0 x8_1).f0), .string ((rd_T29 l0 x8_1).f1), .string ((rd_T29 l0 x8_1).f2)] (fun _ => True) (fun _ => False) rfl (by first | (go_simp; done) | (go_simp; rfl)) ?aP (fun _ hk => hk.elim) ?aF ?aO ?aB ?aS ?aL ?_; (case aP => exact k73_mkM _ _ _ (⟨(rd_T29 l0 x8_1).f0, (rd_T29 l0 x8_1).f1, (rd_T29 l0 x8_1).f2⟩ : S73)); (case aB => exact (by repeat (first | (with_reducible first | exact HB.out | apply below_alloc | apply pw_below_drewN | apply below_drew1 | refine below_set ?_ GE187.out) | exact HB.out))); (case aF => exact (fun _ _ => trivial)); (case aO => exact (by (with_reducible repeat (first | apply Kd.R_alloc | apply Kd.R_drewN | apply Kd.R_drew)); exact Kd.R_mono (Kd.R_far (p := ⟨gb187, 2, none⟩) (Kd.R_far (p := ⟨gb187, 1, none⟩) (Kd.R_far (p := ⟨gb187, 0, none⟩) (Kd.R_types HO_3.out BK187.out (by decide)) (fun _ hk => hk.2) (.string ((rd_T29 l0 x8_1).f0))) (fun _ hk => hk.2) (.string ((rd_T29 l0 x8_1).f1))) (fun _ hk => hk.2) (.string ((rd_T29 l0 x8_1).f2))) (fun _ hk => trivial))); (case aS => exact (below_size (by repeat (first | (with_reducible first | exact HB.out | apply below_alloc | apply pw_below_drewN | apply below_drew1 | refine below_set ?_ GE187.out) | exact HB.out)))); (case aL => have := LMc5.out; omega); intro v189 w8 ho hb hg hat; rw [← Ny188.out] at ho; have n0_ := Aside0.mk (blk_grown (g := gb187) (o := .cells #[.string ((rd_T29 l0 x8_1).f0), .string ((rd_T29 l0 x8_1).f1), .string ((rd_T29 l0 x8_1).f2)] 29 (0, 0)) (by (with_reducible repeat (first | refine blk_drewN ?_ _ | refine blk_drew ?_ | refine blk_alloc ?_ _)); refine blk_put (cs := #[.string ((rd_T29 l0 x8_1).f0), .string ((rd_T29 l0 x8_1).f1), .string (⟨#[]⟩ : ByteArray)]) ?_ 2 _ rfl; (with_reducible repeat (first | refine blk_drewN ?_ _ | refine blk_drew ?_ | refine blk_alloc ?_ _)); refine blk_put (cs := #[.string ((rd_T29 l0 x8_1).f0), .string (⟨#[]⟩ : ByteArray), .string (⟨#[]⟩ : ByteArray)]) ?_ 1 _ rfl; (with_reducible repeat (first | refine blk_drewN ?_ _ | refine blk_drew ?_ | refine blk_alloc ?_ _)); refine blk_put (cs := #[.string (⟨#[]⟩ : ByteArray), .string (⟨#[]⟩ : ByteArray), .string (⟨#[]⟩ : ByteArray)]) ?_ 0 _ rfl; (with_reducible repeat (first | refine blk_drewN ?_ _ | refine blk_drew ?_ | refine blk_alloc ?_ _)); exact BK187.out) hg (Kd.R_ne HO_3.out BK187.out (by decide))); have n1_ := Aside0.mk (hb); have n2_ := Aside0.mk (ho); clear BK187; clear HB; clear HO_3; have BK187 := n0_; have HB := n1_; have HO190 := n2_; clear n0_ n1_ n2_; clear ho hb hg hat))
           go_roundg k1
           case measure => have := HK1.out; omega
           case rel => exact ⟨(y188), (wrap64 (x8_1 + 1)), (by first | rfl | (simp; done) | (simp [*]; done)), H', ⟨by have := HK1.out; omega⟩, ⟨by (with_reducible repeat (first | apply Kd.R_alloc | apply Kd.R_drewN | apply Kd.R_drew)); exact HO190.out⟩, ⟨by repeat (first | (with_reducible first | exact HB.out | apply below_alloc | apply pw_below_drewN | apply below_drew1 | refine below_set ?_ GE187.out) | exact HB.out)⟩⟩
         · rw [if_neg c5] at H
           exact absurd H (by simp)
       · rw [if_neg c4] at H
         exact absurd H (by simp)
     · rw [if_neg c3] at H
       exact absurd H (by simp)
   · rw [if_neg c2] at H
     have c2b0 : decide (x8_1 < (l0.length : Int)) = false := decide_eq_false c2
     clear c2
     obtain rfl := Option.some.inj H
     go_wp2
     go_ret
     exact ⟨_, by first | rfl | (simp [errW_none, errW_some] <;> rfl) | (simp [*, errW_none, errW_some] <;> rfl), by (with_reducible repeat (first | apply Kd.R_alloc | apply Kd.R_drewN | apply Kd.R_drew)); exact HO_3.out, by repeat (first | (with_reducible first | exact HB.out | apply below_alloc | apply pw_below_drewN | apply below_drew1) | exact HB.out)⟩
def laws_FnUnitText.f (k : Nat) (l0 : List (S29)) : Option (Bool) := (laws_zzFits7.f k l0).bind fun t191 => (if t191 = true then ((laws_plainOptions.f k l0).bind fun t192 => (if t192 = true then ((laws_toSpec.f k l0).bind fun t193 => ((spec_UnitPrint.f k t193).bind fun bt196 => (if bt196.2 = 1 then ((impl_UnitWrite.f l0).bind fun t198 => (if t198.toList = bt196.1.toList then ((laws_reads.f).bind fun t199 => (some t199)) else (some false))) else ((laws_reads.f).bind fun t200 => (some t200))))) else (some true))) else (some true))
set_option maxHeartbeats 8000000 in
set_option maxRecDepth 100000 in
theorem laws_FnUnitText.calls (k : Nat) (A0 : Option Addr) (c0 : Nat) (l0 : List (S29)) (r : Bool) (w : World) (hTabs : U.Tabs w) (hr0 : Kd.C k29 w A0 l0.length l0) (hc0 : l0.length ≤ c0) (h : laws_FnUnitText.f k l0 = some r) :
 Calls Tryd.prog 6 #[.slice A0 l0.length c0] w fun e w' => e = .returned (.bool r) ∧ Below w.heap.size w w' := by
 have HTabs := Aside0.mk hTabs
 clear hTabs
 have HR0 := Aside0.mk hr0
 have HC0 := Aside0.mk hc0
 clear hr0 hc0
 have HB := Aside0.mk (Below.refl w.heap.size w)
 have H : ((laws_zzFits7.f k l0).bind fun t191 => (if t191 = true then ((laws_plainOptions.f k l0).bind fun t192 => (if t192 = true then ((laws_toSpec.f k l0).bind fun t193 => ((spec_UnitPrint.f k t193).bind fun bt196 => (if bt196.2 = 1 then ((impl_UnitWrite.f l0).bind fun t198 => (if t198.toList = bt196.1.toList then ((laws_reads.f).bind fun t199 => (some t199)) else (some false))) else ((laws_reads.f).bind fun t200 => (some t200))))) else (some true))) else (some true))) = some r := h
 clear h
 replace H := Option.bind_eq_some_iff.mp H
 obtain ⟨t191, A20, H⟩ := H
 replace H : (if t191 = true then ((laws_plainOptions.f k l0).bind fun t192 => (if t192 = true then ((laws_toSpec.f k l0).bind fun t193 => ((spec_UnitPrint.f k t193).bind fun bt196 => (if bt196.2 = 1 then ((impl_UnitWrite.f l0).bind fun t198 => (if t198.toList = bt196.1.toList then ((laws_reads.f).bind fun t199 => (some t199)) else (some false))) else ((laws_reads.f).bind fun t200 => (some t200))))) else (some true))) else (some true)) = some r := H
 have A2 := Aside0.mk A20
 clear A20
 by_cases c3 : t191 = true
 · subst c3
   have H1 : ((laws_plainOptions.f k l0).bind fun t192 => (if t192 = true then ((laws_toSpec.f k l0).bind fun t193 => ((spec_UnitPrint.f k t193).bind fun bt196 => (if bt196.2 = 1 then ((impl_UnitWrite.f l0).bind fun t198 => (if t198.toList = bt196.1.toList then ((laws_reads.f).bind fun t199 => (some t199)) else (some false))) else ((laws_reads.f).bind fun t200 => (some t200))))) else (some true))) = some r := by rw [if_pos rfl] at H; exact H
   clear H
   have H := H1
   clear H1
   replace H := Option.bind_eq_some_iff.mp H
   obtain ⟨t192, A40, H⟩ := H
   replace H : (if t192 = true then ((laws_toSpec.f k l0).bind fun t193 => ((spec_UnitPrint.f k t193).bind fun bt196 => (if bt196.2 = 1 then ((impl_UnitWrite.f l0).bind fun t198 => (if t198.toList = bt196.1.toList then ((laws_reads.f).bind fun t199 => (some t199)) else (some false))) else ((laws_reads.f).bind fun t200 => (some t200))))) else (some true)) = some r := H
   have A4 := Aside0.mk A40
   clear A40
   by_cases c5 : t192 = true
   · subst c5
     have H1 : ((laws_toSpec.f k l0).bind fun t193 => ((spec_UnitPrint.f k t193).bind fun bt196 => (if bt196.2 = 1 then ((impl_UnitWrite.f l0).bind fun t198 => (if t198.toList = bt196.1.toList then ((laws_reads.f).bind fun t199 => (some t199)) else (some false))) else ((laws_reads.f).bind fun t200 => (some t200))))) = some r := by rw [if_pos rfl] at H; exact H
     clear H
     have H := H1
     clear H1
     replace H := Option.bind_eq_some_iff.mp H
     obtain ⟨t193, A60, H⟩ := H
     replace H : ((spec_UnitPrint.f k t193).bind fun bt196 => (if bt196.2 = 1 then ((impl_UnitWrite.f l0).bind fun t198 => (if t198.toList = bt196.1.toList then ((laws_reads.f).bind fun t199 => (some t199)) else (some false))) else ((laws_reads.f).bind fun t200 => (some t200)))) = some r := H
     have A6 := Aside0.mk A60
     clear A60
     replace H := Option.bind_eq_some_iff.mp H
     obtain ⟨⟨t196, t197⟩, A70, H⟩ := H
     replace H : (if t197 = 1 then ((impl_UnitWrite.f l0).bind fun t198 => (if t198.toList = t196.toList then ((laws_reads.f).bind fun t199 => (some t199)) else (some false))) else ((laws_reads.f).bind fun t200 => (some t200))) = some r := H
     have A7 := Aside0.mk A70
     clear A70
     by_cases c8 : t197 = 1
     · rw [if_pos c8] at H
       have c8b0 : (t197 == 1) = true := beq_iff_eq.mpr c8
       have c8b1 : (t197 != 1) = false := bne_eq_false_iff_eq.mpr c8
       clear c8
       replace H := Option.bind_eq_some_iff.mp H
       obtain ⟨t198, A90, H⟩ := H
       replace H : (if t198.toList = t196.toList then ((laws_reads.f).bind fun t199 => (some t199)) else (some false)) = some r := H
       have A9 := Aside0.mk A90
       clear A90
       by_cases c10 : t198.toList = t196.toList
       · rw [if_pos c10] at H
         have c10b0 : (t198.toList == t196.toList) = true := beq_iff_eq.mpr c10
         have c10b1 : (t198.toList != t196.toList) = false := bne_eq_false_iff_eq.mpr c10
         clear c10
         replace H := Option.bind_eq_some_iff.mp H
         obtain ⟨t199, A110, H⟩ := H
         replace H : (some t199) = some r := H
         have A11 := Aside0.mk A110
         clear A110
         obtain rfl := Option.some.inj H
         go_enter Tryd.func6, Tryd.ntmps6
         go_wp2_with (first | ((with_reducible refine gate_callee (f := 17) rfl ?_); refine goesL_ (some 6) rfl rfl Tryd.func17 (by kernel_rfl) rfl #[.slice A0 l0.length c0] rfl (by (try simp only [List.map_toArray, List.map_cons, List.map_nil]); first | done | rfl | (simp only [List.length_drop, List.length_take]; rfl)) ?_; (with_reducible refine (laws_zzFits7.calls k _ _ l0 true _ ?side1 ?side2 A2.out).mono ?_); (case side1 => repeat (first | exact HR0.out | (with_reducible refine Kd.C_alloc ?_ _) | (with_reducible refine Kd.C_drewN ?_ _) | (with_reducible refine Kd.C_drew ?_))); (case side2 => exact HC0.out); rintro e w12 ⟨rfl, hb⟩; refine ⟨_, rfl, ?_⟩; have n0_ := Aside0.mk (below_step (by repeat (first | (with_reducible first | exact HB.out | apply below_alloc | apply pw_below_drewN | apply below_drew1) | exact HB.out)) hb); clear HB; have HB := n0_; clear n0_; (try clear hb); (try clear hb2); (try clear hk); (try clear hi)) | ((with_reducible refine gate_callee (f := 18) rfl ?_); refine goesL_ (some 9) rfl rfl Tryd.func18 (by kernel_rfl) rfl #[.slice A0 l0.length c0] rfl (by (try simp only [List.map_toArray, List.map_cons, List.map_nil]); first | done | rfl | (simp only [List.length_drop, List.length_take]; rfl)) ?_; (with_reducible refine (laws_plainOptions.calls k _ _ l0 true _ ?side1 ?side2 A4.out).mono ?_); (case side1 => repeat (first | exact (Kd.C_below HR0.out HB.out) | (with_reducible refine Kd.C_alloc ?_ _) | (with_reducible refine Kd.C_drewN ?_ _) | (with_reducible refine Kd.C_drew ?_))); (case side2 => exact HC0.out); rintro e w13 ⟨rfl, hb⟩; refine ⟨_, rfl, ?_⟩; have n0_ := Aside0.mk (below_step (by repeat (first | (with_reducible first | exact HB.out | apply below_alloc | apply pw_below_drewN | apply below_drew1) | exact HB.out)) hb); clear HB; have HB := n0_; clear n0_; (try clear hb); (try clear hb2); (try clear hk); (try clear hi)) | ((with_reducible refine gate_callee (f := 26) rfl ?_); refine goesL_ (some 13) rfl rfl Tryd.func26 (by kernel_rfl) rfl #[.slice A0 l0.length c0] rfl (by (try simp only [List.map_toArray, List.map_cons, List.map_nil]); first | done | rfl | (simp only [List.length_drop, List.length_take]; rfl)) ?_; (with_reducible refine (laws_toSpec.calls k _ _ l0 t193 _ ?side1 ?side2 A6.out).mono ?_); (case side1 => repeat (first | exact (Kd.C_below HR0.out HB.out) | (with_reducible refine Kd.C_alloc ?_ _) | (with_reducible refine Kd.C_drewN ?_ _) | (with_reducible refine Kd.C_drew ?_))); (case side2 => exact HC0.out); rintro e w14 ⟨v194, rfl, ho0, hb⟩; refine ⟨_, rfl, ?_⟩; have n0_ := Aside0.mk (Kd.R_lower ho0 (below_size (by repeat (first | (with_reducible first | exact HB.out | apply below_alloc | apply pw_below_drewN | apply below_drew1) | exact HB.out)))); have n1_ := Aside0.mk (below_step (by repeat (first | (with_reducible first | exact HB.out | apply below_alloc | apply pw_below_drewN | apply below_drew1) | exact HB.out)) hb); clear HB; have HO195 := n0_; have HB := n1_; clear n0_ n1_; (try clear hb); (try clear hb2); (try clear hk); (try clear hi); (try clear ho0); obtain ⟨Ao15, co15, eo15⟩ := Kd.R_slice HO195.out; subst eo15) | ((with_reducible refine gate_callee (f := 25) rfl ?_); refine goesL_ (some 14) rfl rfl Tryd.func25 (by kernel_rfl) rfl #[.slice Ao15 t193.length co15] rfl (by (try simp only [List.map_toArray, List.map_cons, List.map_nil]); first | done | rfl | (simp only [List.length_drop, List.length_take]; rfl)) ?_; (with_reducible refine (spec_UnitPrint.calls k _ _ t193 t196 t197 _ ?side1 ?side2 A7.out).mono ?_); (case side1 => repeat (first | exact (Kd.R_reads' HO195.out).2.2 | (with_reducible refine Kd.C_alloc ?_ _) | (with_reducible refine Kd.C_drewN ?_ _) | (with_reducible refine Kd.C_drew ?_))); (case side2 => exact (Kd.R_reads' HO195.out).2.1); rintro e w16 ⟨rfl, hb⟩; refine ⟨_, rfl, ?_⟩; have n0_ := Aside0.mk (Kd.R_below (by (with_reducible repeat (first | apply Kd.R_alloc | apply Kd.R_drewN | apply Kd.R_drew)); exact HO195.out) hb); have n1_ := Aside0.mk (below_step (by repeat (first | (with_reducible first | exact HB.out | apply below_alloc | apply pw_below_drewN | apply below_drew1) | exact HB.out)) hb); clear HO195; clear HB; have HO195 := n0_; have HB := n1_; clear n0_ n1_; (try clear hb); (try clear hb2); (try clear hk); (try clear hi)) | (go_at_call 19; (with_reducible refine (impl_UnitWrite.calls _ _ l0 t198 _ ?side1 ?side2 A9.out).mono ?_); (case side1 => repeat (first | exact (Kd.C_below HR0.out HB.out) | (with_reducible refine Kd.C_alloc ?_ _) | (with_reducible refine Kd.C_drewN ?_ _) | (with_reducible refine Kd.C_drew ?_))); (case side2 => exact HC0.out); rintro e w17 ⟨rfl, hb⟩; have n0_ := Aside0.mk (Kd.R_below (by (with_reducible repeat (first | apply Kd.R_alloc | apply Kd.R_drewN | apply Kd.R_drew)); exact HO195.out) hb); have n1_ := Aside0.mk (below_step (by repeat (first | (with_reducible first | exact HB.out | apply below_alloc | apply pw_below_drewN | apply below_drew1) | exact HB.out)) hb); clear HO195; clear HB; have HO195 := n0_; have HB := n1_; clear n0_ n1_; (try clear hb); (try clear hb2); (try clear hk); (try clear hi)) | (go_at_call 16; (with_reducible refine (laws_reads.calls  t199 _ A11.out).mono ?_); rintro e w18 ⟨rfl, hb⟩; have n0_ := Aside0.mk (Kd.R_below (by (with_reducible repeat (first | apply Kd.R_alloc | apply Kd.R_drewN | apply Kd.R_drew)); exact HO195.out) hb); have n1_ := Aside0.mk (below_step (by repeat (first | (with_reducible first | exact HB.out | apply below_alloc | apply pw_below_drewN | apply below_drew1) | exact HB.out)) hb); clear HO195; clear HB; have HO195 := n0_; have HB := n1_; clear n0_ n1_; (try clear hb); (try clear hb2); (try clear hk); (try clear hi)))
         go_ret
         exact ⟨by first | rfl | (simp [errW_none, errW_some] <;> rfl) | (simp [*, errW_none, errW_some] <;> rfl), by repeat (first | (with_reducible first | exact HB.out | apply below_alloc | apply pw_below_drewN | apply below_drew1) | exact HB.out)⟩
       · rw [if_neg c10] at H
         have c10b0 : (t198.toList == t196.toList) = false := beq_eq_false_iff_ne.mpr c10
         have c10b1 : (t198.toList != t196.toList) = true := bne_iff_ne.mpr c10
         obtain rfl := Option.some.inj H
         go_enter Tryd.func6, Tryd.ntmps6
         go_wp2_with (first | ((with_reducible refine gate_callee (f := 17) rfl ?_); refine goesL_ (some 6) rfl rfl Tryd.func17 (by kernel_rfl) rfl #[.slice A0 l0.length c0] rfl (by (try simp only [List.map_toArray, List.map_cons, List.map_nil]); first | done | rfl | (simp only [List.length_drop, List.length_take]; rfl)) ?_; (with_reducible refine (laws_zzFits7.calls k _ _ l0 true _ ?side1 ?side2 A2.out).mono ?_); (case side1 => repeat (first | exact HR0.out | (with_reducible refine Kd.C_alloc ?_ _) | (with_reducible refine Kd.C_drewN ?_ _) | (with_reducible refine Kd.C_drew ?_))); (case side2 => exact HC0.out); rintro e w19 ⟨rfl, hb⟩; refine ⟨_, rfl, ?_⟩; have n0_ := Aside0.mk (below_step (by repeat (first | (with_reducible first | exact HB.out | apply below_alloc | apply pw_below_drewN | apply below_drew1) | exact HB.out)) hb); clear HB; have HB := n0_; clear n0_; (try clear hb); (try clear hb2); (try clear hk); (try clear hi)) | ((with_reducible refine gate_callee (f := 18) rfl ?_); refine goesL_ (some 9) rfl rfl Tryd.func18 (by kernel_rfl) rfl #[.slice A0 l0.length c0] rfl (by (try simp only [List.map_toArray, List.map_cons, List.map_nil]); first | done | rfl | (simp only [List.length_drop, List.length_take]; rfl)) ?_; (with_reducible refine (laws_plainOptions.calls k _ _ l0 true _ ?side1 ?side2 A4.out).mono ?_); (case side1 => repeat (first | exact (Kd.C_below HR0.out HB.out) | (with_reducible refine Kd.C_alloc ?_ _) | (with_reducible refine Kd.C_drewN ?_ _) | (with_reducible refine Kd.C_drew ?_))); (case side2 => exact HC0.out); rintro e w20 ⟨rfl, hb⟩; refine ⟨_, rfl, ?_⟩; have n0_ := Aside0.mk (below_step (by repeat (first | (with_reducible first | exact HB.out | apply below_alloc | apply pw_below_drewN | apply below_drew1) | exact HB.out)) hb); clear HB; have HB := n0_; clear n0_; (try clear hb); (try clear hb2); (try clear hk); (try clear hi)) | ((with_reducible refine gate_callee (f := 26) rfl ?_); refine goesL_ (some 13) rfl rfl Tryd.func26 (by kernel_rfl) rfl #[.slice A0 l0.length c0] rfl (by (try simp only [List.map_toArray, List.map_cons, List.map_nil]); first | done | rfl | (simp only [List.length_drop, List.length_take]; rfl)) ?_; (with_reducible refine (laws_toSpec.calls k _ _ l0 t193 _ ?side1 ?side2 A6.out).mono ?_); (case side1 => repeat (first | exact (Kd.C_below HR0.out HB.out) | (with_reducible refine Kd.C_alloc ?_ _) | (with_reducible refine Kd.C_drewN ?_ _) | (with_reducible refine Kd.C_drew ?_))); (case side2 => exact HC0.out); rintro e w21 ⟨v194, rfl, ho0, hb⟩; refine ⟨_, rfl, ?_⟩; have n0_ := Aside0.mk (Kd.R_lower ho0 (below_size (by repeat (first | (with_reducible first | exact HB.out | apply below_alloc | apply pw_below_drewN | apply below_drew1) | exact HB.out)))); have n1_ := Aside0.mk (below_step (by repeat (first | (with_reducible first | exact HB.out | apply below_alloc | apply pw_below_drewN | apply below_drew1) | exact HB.out)) hb); clear HB; have HO195 := n0_; have HB := n1_; clear n0_ n1_; (try clear hb); (try clear hb2); (try clear hk); (try clear hi); (try clear ho0); obtain ⟨Ao22, co22, eo22⟩ := Kd.R_slice HO195.out; subst eo22) | ((with_reducible refine gate_callee (f := 25) rfl ?_); refine goesL_ (some 14) rfl rfl Tryd.func25 (by kernel_rfl) rfl #[.slice Ao22 t193.length co22] rfl (by (try simp only [List.map_toArray, List.map_cons, List.map_nil]); first | done | rfl | (simp only [List.length_drop, List.length_take]; rfl)) ?_; (with_reducible refine (spec_UnitPrint.calls k _ _ t193 t196 t197 _ ?side1 ?side2 A7.out).mono ?_); (case side1 => repeat (first | exact (Kd.R_reads' HO195.out).2.2 | (with_reducible refine Kd.C_alloc ?_ _) | (with_reducible refine Kd.C_drewN ?_ _) | (with_reducible refine Kd.C_drew ?_))); (case side2 => exact (Kd.R_reads' HO195.out).2.1); rintro e w23 ⟨rfl, hb⟩; refine ⟨_, rfl, ?_⟩; have n0_ := Aside0.mk (Kd.R_below (by (with_reducible repeat (first | apply Kd.R_alloc | apply Kd.R_drewN | apply Kd.R_drew)); exact HO195.out) hb); have n1_ := Aside0.mk (below_step (by repeat (first | (with_reducible first | exact HB.out | apply below_alloc | apply pw_below_drewN | apply below_drew1) | exact HB.out)) hb); clear HO195; clear HB; have HO195 := n0_; have HB := n1_; clear n0_ n1_; (try clear hb); (try clear hb2); (try clear hk); (try clear hi)) | (go_at_call 19; (with_reducible refine (impl_UnitWrite.calls _ _ l0 t198 _ ?side1 ?side2 A9.out).mono ?_); (case side1 => repeat (first | exact (Kd.C_below HR0.out HB.out) | (with_reducible refine Kd.C_alloc ?_ _) | (with_reducible refine Kd.C_drewN ?_ _) | (with_reducible refine Kd.C_drew ?_))); (case side2 => exact HC0.out); rintro e w24 ⟨rfl, hb⟩; have n0_ := Aside0.mk (Kd.R_below (by (with_reducible repeat (first | apply Kd.R_alloc | apply Kd.R_drewN | apply Kd.R_drew)); exact HO195.out) hb); have n1_ := Aside0.mk (below_step (by repeat (first | (with_reducible first | exact HB.out | apply below_alloc | apply pw_below_drewN | apply below_drew1) | exact HB.out)) hb); clear HO195; clear HB; have HO195 := n0_; have HB := n1_; clear n0_ n1_; (try clear hb); (try clear hb2); (try clear hk); (try clear hi)))
         go_ret
         exact ⟨by first | rfl | (simp [errW_none, errW_some] <;> rfl) | (simp [*, errW_none, errW_some] <;> rfl), by repeat (first | (with_reducible first | exact HB.out | apply below_alloc | apply pw_below_drewN | apply below_drew1) | exact HB.out)⟩
     · rw [if_neg c8] at H
       have c8b0 : (t197 == 1) = false := beq_eq_false_iff_ne.mpr c8
       have c8b1 : (t197 != 1) = true := bne_iff_ne.mpr c8
       replace H := Option.bind_eq_some_iff.mp H
       obtain ⟨t200, A250, H⟩ := H
       replace H : (some t200) = some r := H
       have A25 := Aside0.mk A250
       clear A250
       obtain rfl := Option.some.inj H
       go_enter Tryd.func6, Tryd.ntmps6
       go_wp2_with (first | ((with_reducible refine gate_callee (f := 17) rfl ?_); refine goesL_ (some 6) rfl rfl Tryd.func17 (by kernel_rfl) rfl #[.slice A0 l0.length c0] rfl (by (try simp only [List.map_toArray, List.map_cons, List.map_nil]); first | done | rfl | (simp only [List.length_drop, List.length_take]; rfl)) ?_; (with_reducible refine (laws_zzFits7.calls k _ _ l0 true _ ?side1 ?side2 A2.out).mono ?_); (case side1 => repeat (first | exact HR0.out | (with_reducible refine Kd.C_alloc ?_ _) | (with_reducible refine Kd.C_drewN ?_ _) | (with_reducible refine Kd.C_drew ?_))); (case side2 => exact HC0.out); rintro e w26 ⟨rfl, hb⟩; refine ⟨_, rfl, ?_⟩; have n0_ := Aside0.mk (below_step (by repeat (first | (with_reducible first | exact HB.out | apply below_alloc | apply pw_below_drewN | apply below_drew1) | exact HB.out)) hb); clear HB; have HB := n0_; clear n0_; (try clear hb); (try clear hb2); (try clear hk); (try clear hi)) | ((with_reducible refine gate_callee (f := 18) rfl ?_); refine goesL_ (some 9) rfl rfl Tryd.func18 (by kernel_rfl) rfl #[.slice A0 l0.length c0] rfl (by (try simp only [List.map_toArray, List.map_cons, List.map_nil]); first | done | rfl | (simp only [List.length_drop, List.length_take]; rfl)) ?_; (with_reducible refine (laws_plainOptions.calls k _ _ l0 true _ ?side1 ?side2 A4.out).mono ?_); (case side1 => repeat (first | exact (Kd.C_below HR0.out HB.out) | (with_reducible refine Kd.C_alloc ?_ _) | (with_reducible refine Kd.C_drewN ?_ _) | (with_reducible refine Kd.C_drew ?_))); (case side2 => exact HC0.out); rintro e w27 ⟨rfl, hb⟩; refine ⟨_, rfl, ?_⟩; have n0_ := Aside0.mk (below_step (by repeat (first | (with_reducible first | exact HB.out | apply below_alloc | apply pw_below_drewN | apply below_drew1) | exact HB.out)) hb); clear HB; have HB := n0_; clear n0_; (try clear hb); (try clear hb2); (try clear hk); (try clear hi)) | ((with_reducible refine gate_callee (f := 26) rfl ?_); refine goesL_ (some 13) rfl rfl Tryd.func26 (by kernel_rfl) rfl #[.slice A0 l0.length c0] rfl (by (try simp only [List.map_toArray, List.map_cons, List.map_nil]); first | done | rfl | (simp only [List.length_drop, List.length_take]; rfl)) ?_; (with_reducible refine (laws_toSpec.calls k _ _ l0 t193 _ ?side1 ?side2 A6.out).mono ?_); (case side1 => repeat (first | exact (Kd.C_below HR0.out HB.out) | (with_reducible refine Kd.C_alloc ?_ _) | (with_reducible refine Kd.C_drewN ?_ _) | (with_reducible refine Kd.C_drew ?_))); (case side2 => exact HC0.out); rintro e w28 ⟨v194, rfl, ho0, hb⟩; refine ⟨_, rfl, ?_⟩; have n0_ := Aside0.mk (Kd.R_lower ho0 (below_size (by repeat (first | (with_reducible first | exact HB.out | apply below_alloc | apply pw_below_drewN | apply below_drew1) | exact HB.out)))); have n1_ := Aside0.mk (below_step (by repeat (first | (with_reducible first | exact HB.out | apply below_alloc | apply pw_below_drewN | apply below_drew1) | exact HB.out)) hb); clear HB; have HO195 := n0_; have HB := n1_; clear n0_ n1_; (try clear hb); (try clear hb2); (try clear hk); (try clear hi); (try clear ho0); obtain ⟨Ao29, co29, eo29⟩ := Kd.R_slice HO195.out; subst eo29) | ((with_reducible refine gate_callee (f := 25) rfl ?_); refine goesL_ (some 14) rfl rfl Tryd.func25 (by kernel_rfl) rfl #[.slice Ao29 t193.length co29] rfl (by (try simp only [List.map_toArray, List.map_cons, List.map_nil]); first | done | rfl | (simp only [List.length_drop, List.length_take]; rfl)) ?_; (with_reducible refine (spec_UnitPrint.calls k _ _ t193 t196 t197 _ ?side1 ?side2 A7.out).mono ?_); (case side1 => repeat (first | exact (Kd.R_reads' HO195.out).2.2 | (with_reducible refine Kd.C_alloc ?_ _) | (with_reducible refine Kd.C_drewN ?_ _) | (with_reducible refine Kd.C_drew ?_))); (case side2 => exact (Kd.R_reads' HO195.out).2.1); rintro e w30 ⟨rfl, hb⟩; refine ⟨_, rfl, ?_⟩; have n0_ := Aside0.mk (Kd.R_below (by (with_reducible repeat (first | apply Kd.R_alloc | apply Kd.R_drewN | apply Kd.R_drew)); exact HO195.out) hb); have n1_ := Aside0.mk (below_step (by repeat (first | (with_reducible first | exact HB.out | apply below_alloc | apply pw_below_drewN | apply below_drew1) | exact HB.out)) hb); clear HO195; clear HB; have HO195 := n0_; have HB := n1_; clear n0_ n1_; (try clear hb); (try clear hb2); (try clear hk); (try clear hi)) | (go_at_call 16; (with_reducible refine (laws_reads.calls  t200 _ A25.out).mono ?_); rintro e w31 ⟨rfl, hb⟩; have n0_ := Aside0.mk (Kd.R_below (by (with_reducible repeat (first | apply Kd.R_alloc | apply Kd.R_drewN | apply Kd.R_drew)); exact HO195.out) hb); have n1_ := Aside0.mk (below_step (by repeat (first | (with_reducible first | exact HB.out | apply below_alloc | apply pw_below_drewN | apply below_drew1) | exact HB.out)) hb); clear HO195; clear HB; have HO195 := n0_; have HB := n1_; clear n0_ n1_; (try clear hb); (try clear hb2); (try clear hk); (try clear hi)))
       go_ret
       exact ⟨by first | rfl | (simp [errW_none, errW_some] <;> rfl) | (simp [*, errW_none, errW_some] <;> rfl), by repeat (first | (with_reducible first | exact HB.out | apply below_alloc | apply pw_below_drewN | apply below_drew1) | exact HB.out)⟩
   · replace c5 := Bool.eq_false_iff.mpr c5
     subst c5
     have H1 : (some true) = some r := by rw [if_neg (show ¬ (false = true) by decide)] at H; exact H
     clear H
     have H := H1
     clear H1
     obtain rfl := Option.some.inj H
     go_enter Tryd.func6, Tryd.ntmps6
     go_wp2_with (first | ((with_reducible refine gate_callee (f := 17) rfl ?_); refine goesL_ (some 6) rfl rfl Tryd.func17 (by kernel_rfl) rfl #[.slice A0 l0.length c0] rfl (by (try simp only [List.map_toArray, List.map_cons, List.map_nil]); first | done | rfl | (simp only [List.length_drop, List.length_take]; rfl)) ?_; (with_reducible refine (laws_zzFits7.calls k _ _ l0 true _ ?side1 ?side2 A2.out).mono ?_); (case side1 => repeat (first | exact HR0.out | (with_reducible refine Kd.C_alloc ?_ _) | (with_reducible refine Kd.C_drewN ?_ _) | (with_reducible refine Kd.C_drew ?_))); (case side2 => exact HC0.out); rintro e w32 ⟨rfl, hb⟩; refine ⟨_, rfl, ?_⟩; have n0_ := Aside0.mk (below_step (by repeat (first | (with_reducible first | exact HB.out | apply below_alloc | apply pw_below_drewN | apply below_drew1) | exact HB.out)) hb); clear HB; have HB := n0_; clear n0_; (try clear hb); (try clear hb2); (try clear hk); (try clear hi)) | ((with_reducible refine gate_callee (f := 18) rfl ?_); refine goesL_ (some 9) rfl rfl Tryd.func18 (by kernel_rfl) rfl #[.slice A0 l0.length c0] rfl (by (try simp only [List.map_toArray, List.map_cons, List.map_nil]); first | done | rfl | (simp only [List.length_drop, List.length_take]; rfl)) ?_; (with_reducible refine (laws_plainOptions.calls k _ _ l0 false _ ?side1 ?side2 A4.out).mono ?_); (case side1 => repeat (first | exact (Kd.C_below HR0.out HB.out) | (with_reducible refine Kd.C_alloc ?_ _) | (with_reducible refine Kd.C_drewN ?_ _) | (with_reducible refine Kd.C_drew ?_))); (case side2 => exact HC0.out); rintro e w33 ⟨rfl, hb⟩; refine ⟨_, rfl, ?_⟩; have n0_ := Aside0.mk (below_step (by repeat (first | (with_reducible first | exact HB.out | apply below_alloc | apply pw_below_drewN | apply below_drew1) | exact HB.out)) hb); clear HB; have HB := n0_; clear n0_; (try clear hb); (try clear hb2); (try clear hk); (try clear hi)))
     go_ret
     exact ⟨by first | rfl | (simp [errW_none, errW_some] <;> rfl) | (simp [*, errW_none, errW_some] <;> rfl), by repeat (first | (with_reducible first | exact HB.out | apply below_alloc | apply pw_below_drewN | apply below_drew1) | exact HB.out)⟩
 · replace c3 := Bool.eq_false_iff.mpr c3
   subst c3
   have H1 : (some true) = some r := by rw [if_neg (show ¬ (false = true) by decide)] at H; exact H
   clear H
   have H := H1
   clear H1
   obtain rfl := Option.some.inj H
   go_enter Tryd.func6, Tryd.ntmps6
   go_wp2_with (first | ((with_reducible refine gate_callee (f := 17) rfl ?_); refine goesL_ (some 6) rfl rfl Tryd.func17 (by kernel_rfl) rfl #[.slice A0 l0.length c0] rfl (by (try simp only [List.map_toArray, List.map_cons, List.map_nil]); first | done | rfl | (simp only [List.length_drop, List.length_take]; rfl)) ?_; (with_reducible refine (laws_zzFits7.calls k _ _ l0 false _ ?side1 ?side2 A2.out).mono ?_); (case side1 => repeat (first | exact HR0.out | (with_reducible refine Kd.C_alloc ?_ _) | (with_reducible refine Kd.C_drewN ?_ _) | (with_reducible refine Kd.C_drew ?_))); (case side2 => exact HC0.out); rintro e w34 ⟨rfl, hb⟩; refine ⟨_, rfl, ?_⟩; have n0_ := Aside0.mk (below_step (by repeat (first | (with_reducible first | exact HB.out | apply below_alloc | apply pw_below_drewN | apply below_drew1) | exact HB.out)) hb); clear HB; have HB := n0_; clear n0_; (try clear hb); (try clear hb2); (try clear hk); (try clear hi)))
   go_ret
   exact ⟨by first | rfl | (simp [errW_none, errW_some] <;> rfl) | (simp [*, errW_none, errW_some] <;> rfl), by repeat (first | (with_reducible first | exact HB.out | apply below_alloc | apply pw_below_drewN | apply below_drew1) | exact HB.out)⟩
end Go.Proofs.YtocdnceckljnaaaDoor.QV0
namespace Go.Proofs.YtocdnceckljnaaaDoor.QV0
open Go.RowKit Go.Proofs.YtocdnceckljnaaaDoorW.PrintWords Go.Proofs.YtocdnceckljnaaaDoorW.PrintLast Go.Proofs.YtocdnceckljnaaaDoorW.PrintMore
attribute [local go_sem] max2_int min2_int max_two min_two max_three min_three max_four min_four
set_option linter.unusedVariables false
set_option linter.unusedSimpArgs false
def laws_sectionsOf.T9 : Bool × List (List Nat × List Nat) := (true, [([], []), ([], []), ([], []), ([], []), ([2, 3], [2, 3]), ([4], [4]), ([5], [5]), ([], []), ([7], [7]), ([], []), ([9], [9]), ([8, 10], [8, 10]), ([11], [11]), ([6, 12], [6, 12]), ([0, 1, 0, 1, 2, 3, 4, 5, 6, 7, 8, 9, 10, 11, 12, 13], [0, 1]), ([14, 0, 1, 2, 3, 4, 5, 6, 7, 8, 9, 10, 11, 12, 13], [14]), ([15, 13, 13, 0, 1, 2, 3, 4, 5, 6, 7, 8, 9, 10, 11, 12, 13], [13, 15])])
def laws_sectionsOf.B9 : List Nat := [0, 0, 0, 0, 12, 28, 60, 0, 128, 0, 512, 1920, 3968, 8188, 16383, 32767, 65535]
theorem laws_sectionsOf.tab9 : rtab .any (opsOf Tryd.f27 9) = laws_sectionsOf.T9 := by kernel_rfl
theorem laws_sectionsOf.bits9 : waitsOk laws_sectionsOf.T9.2 laws_sectionsOf.B9 = true := by kernel_rfl
end Go.Proofs.YtocdnceckljnaaaDoor.QV0
namespace Go.Proofs.YtocdnceckljnaaaDoor.Pu
open Go.RowKit Go.Proofs.YtocdnceckljnaaaDoorW.PrintWords Go.Proofs.YtocdnceckljnaaaDoorW.PrintLast
open Go.Proofs.YtocdnceckljnaaaDoor.QV0
open Go.Proofs.YtocdnceckljnaaaDoor.U (Bs B B_data B_size Op3')
set_option linter.unusedVariables false
set_option linter.unusedSimpArgs false
def Ev {α : Type} (F : Nat → Option α) (v : α) : Prop := ∃ k0, ∀ k, k0 ≤ k → F k = some v
theorem Ev.of {α : Type} {F : Nat → Option α} {v : α} (h : ∀ k, F k = some v) : Ev F v := ⟨0, fun k _ => h k⟩
theorem Ev.of1 {α : Type} {F : Nat → Option α} {v : α} (h : ∀ k, F (k + 1) = some v) : Ev F v := ⟨1, fun k hk => by
  obtain ⟨j, rfl⟩ : ∃ j, k = j + 1 := ⟨k - 1, by omega⟩
  exact h j⟩
theorem Ev.step {α : Type} {F G : Nat → Option α} {v : α} (h : ∀ k, F (k + 1) = G k) (g : Ev G v) : Ev F v := by
  obtain ⟨k0, hg⟩ := g
  refine ⟨k0 + 1, fun k hk => ?_⟩
  obtain ⟨j, rfl⟩ : ∃ j, k = j + 1 := ⟨k - 1, by omega⟩
  rw [h j]
  exact hg j (by omega)
theorem Ev.same {α : Type} {F G : Nat → Option α} {v : α} (h : ∀ k, F k = G k) (g : Ev G v) : Ev F v := by
  obtain ⟨k0, hg⟩ := g
  exact ⟨k0, fun k hk => by rw [h k]; exact hg k hk⟩
theorem Ev.bind {α β : Type} {A : Nat → Option α} {C : α → Nat → Option β} {a : α} {v : β} (ha : Ev A a) (hc : Ev (C a) v) : Ev (fun k => (A k).bind fun t => C t k) v := by
  obtain ⟨k0, h0⟩ := ha
  obtain ⟨k1, h1⟩ := hc
  exact ⟨max k0 k1, fun k hk => by
    show (A k).bind _ = _
    rw [h0 k (by omega)]
    exact h1 k (by omega)⟩
theorem Ev.get {α : Type} {F : Nat → Option α} {v : α} (h : Ev F v) : ∃ k, F k = some v := by
  obtain ⟨k0, h0⟩ := h
  exact ⟨k0, h0 k0 (Nat.le_refl _)⟩
theorem ba_ext {s t : ByteArray} (h : s.data.toList = t.data.toList) : s = t := by
  cases s; cases t
  simpa using h
theorem B_toList (l : Bs) : (B l).toList = l := Lib.toList_data (B l)
theorem B_append (a b : Bs) : B a ++ B b = B (a ++ b) := ba_ext (by simp [ByteArray.data_append, B])
theorem B_extract (l : Bs) (i j : Nat) : (B l).extract i j = B ((l.drop i).take (j - i)) := ba_ext (by rw [Lib.extract_data, B_data, B_data])
theorem bt_B (l : Bs) (i : Nat) (h : i < l.length) : bt (B l) (i : Int) = ((l[i]).toNat : Int) := by
  have e : bt (B l) (i : Int) = (((B l)[i]'(by rw [B_size]; exact h)).toNat : Int) := by
    unfold bt
    rw [dif_pos (by rw [Int.toNat_natCast, B_size]; exact h)]
    rfl
  rw [e]
  rfl
theorem bt_mid (pre : Bs) (c : UInt8) (r : Bs) : bt (B (pre ++ c :: r)) (pre.length : Int) = (c.toNat : Int) := by
  rw [bt_B _ _ (by simp)]
  simp
theorem wr_next (n : Nat) (h : n ≤ 4611686018427387904) : wrap64 ((n : Int) + 1) = ((n + 1 : Nat) : Int) := by unfold wrap64; omega
theorem wr_pred (n : Nat) (h0 : 0 < n) (h : n ≤ 4611686018427387904) : wrap64 ((n : Int) - 1) = ((n - 1 : Nat) : Int) := by unfold wrap64; omega
theorem len_snoc (pre : Bs) (c : UInt8) : (((pre ++ [c]).length : Nat) : Int) = ((pre.length + 1 : Nat) : Int) := by simp
def prn (c : UInt8) : Bool := decide (32 ≤ c.toNat) && decide (c.toNat ≤ 126)
theorem printable_ev (s : Bs) (hs : s.length ≤ 4611686018427387900) : ∀ (r pre : Bs), s = pre ++ r → Ev (fun k => laws_printable.l0 k (B s) ((B s).size : Int) (pre.length : Int)) (r.all prn)
  | [], pre, e => Ev.of1 fun k => by
    simp only [laws_printable.l0]
    rw [if_neg (by rw [B_size, e]; simp)]
    rfl
  | c :: r, pre, e => by
    have hb : bt (B s) (pre.length : Int) = (c.toNat : Int) := by rw [e]; exact bt_mid pre c r
    have hlen : s.length = pre.length + (r.length + 1) := by rw [e]; simp
    have h1 : (pre.length : Int) < ((B s).size : Int) := by rw [B_size]; omega
    have h2 : (0 : Int) ≤ (pre.length : Int) := by omega
    by_cases hc1 : c.toNat < 32
    · refine Ev.of1 fun k => ?_
      simp only [laws_printable.l0]
      rw [if_pos h1, if_pos h2, if_pos h1, hb, if_pos (by omega)]
      simp [prn]; omega
    by_cases hc2 : c.toNat > 126
    · refine Ev.of1 fun k => ?_
      simp only [laws_printable.l0]
      rw [if_pos h1, if_pos h2, if_pos h1, hb, if_neg (by omega), if_pos (by omega)]
      simp [prn]; omega
    have ih := printable_ev s hs r (pre ++ [c]) (by rw [e]; simp)
    have hp : prn c = true := by simp [prn]; omega
    rw [List.all_cons, hp, Bool.true_and]
    refine Ev.step (fun k => ?_) ih
    simp only [laws_printable.l0]
    rw [if_pos h1, if_pos h2, if_pos h1, hb, if_neg (by omega), if_neg (by omega), wr_next _ (by omega), len_snoc]
theorem printable_f (s : Bs) (hs : s.length ≤ 4611686018427387900) : Ev (fun k => laws_printable.f k (B s)) (s.all prn) := printable_ev s hs s [] rfl
theorem has1_ev (s t : Bs) (hs : s.length ≤ 4611686018427387900) (ht : t.length ≤ 4611686018427387900) (pre : Bs) (c : UInt8) (r : Bs) (e : s = pre ++ c :: r) (v : Bool)
    (hv : Ev (fun k => laws_has.l0 k (B s) (B t) ((B s).size : Int) ((pre.length + 1 : Nat) : Int)) v) : ∀ (q p : Bs), t = p ++ q → Ev (fun k => laws_has.l1 k (B s) (B t) (pre.length : Int) ((B s).size : Int) (pre.length : Int) ((B t).size : Int) (p.length : Int)) (decide (c ∈ q) || v)
  | [], p, ep => by
    have hlen : s.length = pre.length + (r.length + 1) := by rw [e]; simp
    simp only [List.not_mem_nil, decide_false, Bool.false_or]
    refine Ev.step (fun k => ?_) hv
    simp only [laws_has.l1]
    rw [if_neg (by rw [B_size t, ep]; simp), wr_next _ (by omega)]
  | d :: q, p, ep => by
    have hlen : s.length = pre.length + (r.length + 1) := by rw [e]; simp
    have hlent : t.length = p.length + (q.length + 1) := by rw [ep]; simp
    have hb : bt (B s) (pre.length : Int) = (c.toNat : Int) := by rw [e]; exact bt_mid pre c r
    have hd : bt (B t) (p.length : Int) = (d.toNat : Int) := by rw [ep]; exact bt_mid p d q
    have h1 : (p.length : Int) < ((B t).size : Int) := by rw [B_size]; omega
    have h2 : (pre.length : Int) < ((B s).size : Int) := by rw [B_size]; omega
    by_cases hcd : c = d
    · refine Ev.of1 fun k => ?_
      simp only [laws_has.l1]
      rw [if_pos h1, if_pos (by omega), if_pos h2, if_pos (by omega), if_pos h1, hb, hd, hcd, if_pos rfl]
      simp
    · have hne : (c.toNat : Int) ≠ (d.toNat : Int) := fun h => hcd (UInt8.toNat_inj.1 (by omega))
      have ih := has1_ev s t hs ht pre c r e v hv q (p ++ [d]) (by rw [ep]; simp)
      have e2 : (decide (c ∈ d :: q) || v) = (decide (c ∈ q) || v) := by simp [hcd]
      rw [e2]
      refine Ev.step (fun k => ?_) ih
      simp only [laws_has.l1]
      rw [if_pos h1, if_pos (by omega), if_pos h2, if_pos (by omega), if_pos h1, hb, hd, if_neg hne, wr_next _ (by omega), len_snoc]
theorem has_ev (s t : Bs) (hs : s.length ≤ 4611686018427387900) (ht : t.length ≤ 4611686018427387900) : ∀ (r pre : Bs), s = pre ++ r → Ev (fun k => laws_has.l0 k (B s) (B t) ((B s).size : Int) (pre.length : Int)) (r.any (fun c => decide (c ∈ t)))
  | [], pre, e => Ev.of1 fun k => by
    simp only [laws_has.l0]
    rw [if_neg (by rw [B_size, e]; simp)]
    rfl
  | c :: r, pre, e => by
    have hlen : s.length = pre.length + (r.length + 1) := by rw [e]; simp
    have ih := has_ev s t hs ht r (pre ++ [c]) (by rw [e]; simp)
    rw [len_snoc] at ih
    have h := has1_ev s t hs ht pre c r e _ ih t [] rfl
    rw [List.any_cons]
    refine Ev.step (fun k => ?_) h
    simp only [laws_has.l0]
    rw [if_pos (by rw [B_size]; omega)]
    rfl
theorem has_f (s t : Bs) (hs : s.length ≤ 4611686018427387900) (ht : t.length ≤ 4611686018427387900) : Ev (fun k => laws_has.f k (B s) (B t)) (s.any (fun c => decide (c ∈ t))) := has_ev s t hs ht s [] rfl
end Go.Proofs.YtocdnceckljnaaaDoor.Pu
namespace Go.Proofs.YtocdnceckljnaaaDoor.Pu
open Go.RowKit Go.Proofs.YtocdnceckljnaaaDoorW.PrintWords Go.Proofs.YtocdnceckljnaaaDoorW.PrintLast
open Go.Proofs.YtocdnceckljnaaaDoor.QV0
open Go.Proofs.YtocdnceckljnaaaDoor.U (Bs B B_data B_size Op3' keysF)
set_option linter.unusedVariables false
set_option linter.unusedSimpArgs false
theorem rd29 (l : List Op3') (pre : List Op3') (x : Op3') (r : List Op3') (h : l = pre ++ x :: r) : rd_T29 (l.map ofOp) (pre.length : Int) = ofOp x := by
  unfold rd_T29
  rw [h]
  simp [List.getD_eq_getElem?_getD]
theorem snoc_len {α : Type} (pre : List α) (x : α) : (((pre ++ [x]).length : Nat) : Int) = ((pre.length + 1 : Nat) : Int) := by simp
def Fit (o : Op3') : Prop := o.1.length ≤ 2147483647 ∧ o.2.1.length ≤ 2147483647 ∧ o.2.2.length ≤ 2147483647
theorem fits8_f (o : Op3') : ∃ b, laws_zzFits8.f (ofOp o).f0 (ofOp o).f1 (ofOp o).f2 = some b ∧ (b = true → Fit o) := by
  unfold laws_zzFits8.f ofOp Fit
  simp only [B_size]
  by_cases h1 : (o.1.length : Int) > 2147483647
  · rw [if_pos h1]; exact ⟨false, rfl, by simp⟩
  rw [if_neg h1]
  by_cases h2 : (o.2.1.length : Int) > 2147483647
  · rw [if_pos h2]; exact ⟨false, rfl, by simp⟩
  rw [if_neg h2]
  by_cases h3 : (o.2.2.length : Int) > 2147483647
  · rw [if_pos h3]; exact ⟨false, rfl, by simp⟩
  rw [if_neg h3]
  exact ⟨true, rfl, fun _ => ⟨by omega, by omega, by omega⟩⟩
theorem fits7_ev (L : List Op3') (hL : L.length ≤ 2147483647) : ∀ (r pre : List Op3'), L = pre ++ r → ∃ b, Ev (fun k => laws_zzFits7.l0 k (L.map ofOp) ((L.map ofOp).length : Int) (pre.length : Int)) b ∧ (b = true → ∀ o ∈ r, Fit o)
  | [], pre, e => ⟨true, Ev.of1 fun k => by
    simp only [laws_zzFits7.l0]
    rw [if_neg (by rw [List.length_map, e]; simp)], fun _ o ho => by simp at ho⟩
  | o :: r, pre, e => by
    have hlen : L.length = pre.length + (r.length + 1) := by rw [e]; simp
    have h1 : (pre.length : Int) < ((L.map ofOp).length : Int) := by rw [List.length_map]; omega
    obtain ⟨b, hb, hf⟩ := fits8_f o
    have hrd := rd29 L pre o r e
    cases b with
    | false =>
      refine ⟨false, Ev.of1 fun k => ?_, by simp⟩
      simp only [laws_zzFits7.l0]
      rw [if_pos h1, if_pos (by omega), if_pos h1, hrd, hb]
      rfl
    | true =>
      obtain ⟨b2, hev, hb2⟩ := fits7_ev L hL r (pre ++ [o]) (by rw [e]; simp)
      refine ⟨b2, Ev.step (fun k => ?_) hev, fun ht x hx => ?_⟩
      · simp only [laws_zzFits7.l0]
        rw [if_pos h1, if_pos (by omega), if_pos h1, hrd, hb, wr_next _ (by omega), snoc_len]
        rfl
      · rcases List.mem_cons.1 hx with rfl | hx
        · exact hf rfl
        · exact hb2 ht x hx
theorem fits7_f (L : List Op3') : ∃ b, Ev (fun k => laws_zzFits7.f k (L.map ofOp)) b ∧ (b = true → L.length ≤ 2147483647 ∧ ∀ o ∈ L, Fit o) := by
  by_cases h : ((L.map ofOp).length : Int) > 2147483647
  · exact ⟨false, Ev.of fun k => by unfold laws_zzFits7.f; rw [if_pos h], by simp⟩
  · have hl : L.length ≤ 2147483647 := by rw [List.length_map] at h; omega
    obtain ⟨b, hev, hb⟩ := fits7_ev L hl L [] rfl
    exact ⟨b, Ev.same (fun k => by unfold laws_zzFits7.f; rw [if_neg h]; rfl) hev, fun ht => ⟨hl, hb ht⟩⟩
structure Seen (s : Bs) : Prop where
  all : s.all prn = true
  len : s.length ≤ 400
  first : ∀ c t, s = c :: t → c ≠ 32
  last : ∀ c t, s = t ++ [c] → c ≠ 32
theorem u8ne {c : UInt8} {n : Nat} (hn : n < 256) (h : ¬ ((c.toNat : Int) = (n : Int))) : c ≠ UInt8.ofNat n := fun e => h (by rw [e, UInt8.toNat_ofNat_of_lt' (by simpa using hn)])
theorem ends_of (s : Bs) (hs : s ≠ []) : ∃ c t d q, s = c :: t ∧ s = q ++ [d] ∧ bt (B s) 0 = (c.toNat : Int) ∧ bt (B s) ((s.length - 1 : Nat) : Int) = (d.toNat : Int) := by
  cases h : s with
  | nil => exact absurd h hs
  | cons c t =>
    have hd : (c :: t) ≠ [] := by simp
    refine ⟨c, t, (c :: t).getLast hd, (c :: t).dropLast, rfl, (List.dropLast_concat_getLast hd).symm, bt_mid [] c t, ?_⟩
    have e := (List.dropLast_concat_getLast hd).symm
    have h2 := bt_mid ((c :: t).dropLast) ((c :: t).getLast hd) []
    rw [← e, List.length_dropLast] at h2
    exact h2
theorem seen_ev (s : Bs) (hs : s.length ≤ 2147483647) (T : Nat → Option Bool) (v : Bool) (hT : Ev T v) :
    ∃ b, Ev (fun k => (laws_printable.f k (B s)).bind fun t111 => (if t111 = true then (if (B s).toList = ([] : List UInt8) then (if ((B s).size : Int) > 400 then (some false) else T k) else (if 0 < ((B s).size : Int) then (if (bt (B s) 0) = 32 then (some false) else (if 0 ≤ (wrap64 (((B s).size : Int) - 1)) then (if (wrap64 (((B s).size : Int) - 1)) < ((B s).size : Int) then (if (bt (B s) (wrap64 (((B s).size : Int) - 1))) = 32 then (some false) else (if ((B s).size : Int) > 400 then (some false) else T k)) else (none)) else (none))) else (none))) else (some false))) b ∧ (b = true → v = true ∧ Seen s) := by
  have hp := printable_f s (by omega)
  cases hpa : s.all prn with
  | false =>
    rw [hpa] at hp
    exact ⟨false, Ev.bind hp (C := fun t k => _) (Ev.of fun k => by rw [if_neg (by simp)]), by simp⟩
  | true =>
    rw [hpa] at hp
    by_cases h0 : s = []
    · subst h0
      exact ⟨v, Ev.bind hp (C := fun t k => _) (Ev.same (fun k => by rw [if_pos rfl, if_pos (by rw [B_toList]), if_neg (by rw [B_size]; simp)]) hT), fun hv => ⟨hv, ⟨rfl, by simp, fun c t h => by simp at h, fun c t h => by simp at h⟩⟩⟩
    · obtain ⟨c, t, d, q, e1, e2, hb1, hb2⟩ := ends_of s h0
      have hpos : 0 < s.length := by rw [e1]; simp
      have hw : wrap64 (((B s).size : Int) - 1) = ((s.length - 1 : Nat) : Int) := by rw [B_size]; exact wr_pred _ hpos (by omega)
      by_cases hc : (c.toNat : Int) = 32
      · exact ⟨false, Ev.bind hp (C := fun t k => _) (Ev.of fun k => by rw [if_pos rfl, if_neg (by rw [B_toList]; exact h0), if_pos (by rw [B_size]; omega), hb1, if_pos hc]), by simp⟩
      by_cases hd : (d.toNat : Int) = 32
      · exact ⟨false, Ev.bind hp (C := fun t k => _) (Ev.of fun k => by rw [if_pos rfl, if_neg (by rw [B_toList]; exact h0), if_pos (by rw [B_size]; omega), hb1, if_neg hc, hw, if_pos (by omega), if_pos (by rw [B_size]; omega), hb2, if_pos hd]), by simp⟩
      by_cases hl : ((B s).size : Int) > 400
      · exact ⟨false, Ev.bind hp (C := fun t k => _) (Ev.of fun k => by rw [if_pos rfl, if_neg (by rw [B_toList]; exact h0), if_pos (by rw [B_size]; omega), hb1, if_neg hc, hw, if_pos (by omega), if_pos (by rw [B_size]; omega), hb2, if_neg hd, if_pos hl]), by simp⟩
      refine ⟨v, Ev.bind hp (C := fun t k => _) (Ev.same (fun k => by rw [if_pos rfl, if_neg (by rw [B_toList]; exact h0), if_pos (by rw [B_size]; omega), hb1, if_neg hc, hw, if_pos (by omega), if_pos (by rw [B_size]; omega), hb2, if_neg hd, if_neg hl]) hT), fun hv => ⟨hv, ⟨hpa, by rw [B_size] at hl; omega, fun c' t' h => ?_, fun c' t' h => ?_⟩⟩⟩
      · rw [e1] at h
        injection h with h1 _
        subst h1
        exact u8ne (n := 32) (by decide) hc
      · rw [e2] at h
        have := List.append_inj_right' h rfl
        simp at this
        subst this
        exact u8ne (n := 32) (by decide) hd
def isLetter (c : UInt8) : Bool := (decide (97 ≤ c.toNat) && decide (c.toNat ≤ 122)) || (decide (65 ≤ c.toNat) && decide (c.toNat ≤ 90))
theorem letter_f (c : UInt8) : laws_letter.f (c.toNat : Int) = some (isLetter c) := by
  unfold laws_letter.f isLetter
  by_cases h1 : (c.toNat : Int) ≥ 97
  · rw [if_pos h1]
    by_cases h2 : (c.toNat : Int) ≤ 122
    · rw [if_pos h2]; congr 1; simp; omega
    · rw [if_neg h2, if_pos (by omega)]; congr 1; rw [Bool.eq_iff_iff]; simp; omega
  · rw [if_neg h1]
    by_cases h3 : (c.toNat : Int) ≥ 65
    · rw [if_pos h3]; congr 1; rw [Bool.eq_iff_iff]; simp; omega
    · rw [if_neg h3]; congr 1; symm; simp; omega
structure Plain (o : Op3') : Prop where
  s : Seen o.1
  n : Seen o.2.1
  v : Seen o.2.2
  sec : o.1 ≠ []
  brack : (91 : UInt8) ∉ o.1 ∧ (93 : UInt8) ∉ o.1
  eqs : (61 : UInt8) ∉ o.2.1
  head : ∃ c t, o.2.1 = c :: t ∧ isLetter c = true
  tail : ∀ t, o.2.2 ≠ t ++ [92]
theorem tail_ev (o : Op3') (hf : Fit o) : ∃ b, Ev (fun k => (if (B o.1).toList = ([] : List UInt8) then (some false) else ((laws_has.f k (B o.1) (⟨#[91, 93]⟩ : ByteArray)).bind fun t112 => (if t112 = true then (some false) else (if (B o.2.1).toList = ([] : List UInt8) then (some false) else ((laws_has.f k (B o.2.1) (⟨#[61]⟩ : ByteArray)).bind fun t113 => (if t113 = true then (some false) else (if 0 < ((B o.2.1).size : Int) then ((laws_letter.f (bt (B o.2.1) 0)).bind fun t114 => (if t114 = true then (if (B o.2.2).toList = ([] : List UInt8) then (some true) else (if 0 ≤ (wrap64 (((B o.2.2).size : Int) - 1)) then (if (wrap64 (((B o.2.2).size : Int) - 1)) < ((B o.2.2).size : Int) then (some ((bt (B o.2.2) (wrap64 (((B o.2.2).size : Int) - 1))) != 92)) else (none)) else (none))) else (some false))) else (none))))))) : Option Bool)) b ∧
    (b = true → o.1 ≠ [] ∧ ((91 : UInt8) ∉ o.1 ∧ (93 : UInt8) ∉ o.1) ∧ (61 : UInt8) ∉ o.2.1 ∧ (∃ c t, o.2.1 = c :: t ∧ isLetter c = true) ∧ ∀ t, o.2.2 ≠ t ++ [92]) := by
  obtain ⟨f1, f2, f3⟩ := hf
  by_cases h1 : o.1 = []
  · exact ⟨false, Ev.of fun k => by rw [if_pos (by rw [B_toList]; exact h1)], by simp⟩
  have hb : Ev (fun k => laws_has.f k (B o.1) (⟨#[91, 93]⟩ : ByteArray)) _ := has_f o.1 [91, 93] (by omega) (by simp)
  have hn : Ev (fun k => laws_has.f k (B o.2.1) (⟨#[61]⟩ : ByteArray)) _ := has_f o.2.1 [61] (by omega) (by simp)
  have g1 : ¬ ((B o.1).toList = ([] : List UInt8)) := by rw [B_toList]; exact h1
  obtain ⟨k1, hb⟩ := hb
  obtain ⟨k2, hn⟩ := hn
  cases ha : o.1.any (fun c => decide (c ∈ ([91, 93] : Bs))) with
  | true =>
    rw [ha] at hb
    refine ⟨false, ⟨max k1 k2, fun k hk => ?_⟩, by simp⟩
    have q1 := hb k (by omega)
    dsimp only at q1 ⊢
    rw [if_neg g1, q1, Option.bind_some, if_pos rfl]
  | false =>
    rw [ha] at hb
    have hbr : (91 : UInt8) ∉ o.1 ∧ (93 : UInt8) ∉ o.1 := by
      rw [List.any_eq_false] at ha
      exact ⟨fun h => by have := ha _ h; simp at this, fun h => by have := ha _ h; simp at this⟩
    by_cases h2 : o.2.1 = []
    · refine ⟨false, ⟨max k1 k2, fun k hk => ?_⟩, by simp⟩
      have q1 := hb k (by omega)
      dsimp only at q1 ⊢
      rw [if_neg g1, q1, Option.bind_some, if_neg (by simp), if_pos (by rw [B_toList]; exact h2)]
    have g2 : ¬ ((B o.2.1).toList = ([] : List UInt8)) := by rw [B_toList]; exact h2
    cases hae : o.2.1.any (fun c => decide (c ∈ ([61] : Bs))) with
    | true =>
      rw [hae] at hn
      refine ⟨false, ⟨max k1 k2, fun k hk => ?_⟩, by simp⟩
      have q1 := hb k (by omega)
      have q2 := hn k (by omega)
      dsimp only at q1 q2 ⊢
      rw [if_neg g1, q1, Option.bind_some, if_neg (by simp), if_neg g2, q2, Option.bind_some, if_pos rfl]
    | false =>
      rw [hae] at hn
      have heq : (61 : UInt8) ∉ o.2.1 := by
        rw [List.any_eq_false] at hae
        exact fun h => by have := hae _ h; simp at this
      obtain ⟨c, t, d, q, e1, e2, hc, hd⟩ := ends_of o.2.1 h2
      have hpos : (0 : Int) < ((B o.2.1).size : Int) := by rw [B_size, e1]; simp
      cases hlt : isLetter c with
      | false =>
        refine ⟨false, ⟨max k1 k2, fun k hk => ?_⟩, by simp⟩
        have q1 := hb k (by omega)
        have q2 := hn k (by omega)
        dsimp only at q1 q2 ⊢
        rw [if_neg g1, q1, Option.bind_some, if_neg (by simp), if_neg g2, q2, Option.bind_some, if_neg (by simp), if_pos hpos, hc, letter_f, hlt, Option.bind_some, if_neg (by simp)]
      | true =>
        by_cases h3 : o.2.2 = []
        · refine ⟨true, ⟨max k1 k2, fun k hk => ?_⟩, fun _ => ⟨h1, hbr, heq, ⟨c, t, e1, hlt⟩, fun t h => by rw [h3] at h; simp at h⟩⟩
          have q1 := hb k (by omega)
          have q2 := hn k (by omega)
          dsimp only at q1 q2 ⊢
          rw [if_neg g1, q1, Option.bind_some, if_neg (by simp), if_neg g2, q2, Option.bind_some, if_neg (by simp), if_pos hpos, hc, letter_f, hlt, Option.bind_some, if_pos rfl, if_pos (by rw [B_toList]; exact h3)]
        · obtain ⟨c3, t3, d3, q3, e31, e32, hc3, hd3⟩ := ends_of o.2.2 h3
          have hpos3 : 0 < o.2.2.length := by rw [e31]; simp
          have hw : wrap64 (((B o.2.2).size : Int) - 1) = ((o.2.2.length - 1 : Nat) : Int) := by rw [B_size]; exact wr_pred _ hpos3 (by omega)
          refine ⟨((d3.toNat : Int) != 92), ⟨max k1 k2, fun k hk => ?_⟩, fun hb => ⟨h1, hbr, heq, ⟨c, t, e1, hlt⟩, fun t h => ?_⟩⟩
          · have q1 := hb k (by omega)
            have q2 := hn k (by omega)
            dsimp only at q1 q2 ⊢
            rw [if_neg g1, q1, Option.bind_some, if_neg (by simp), if_neg g2, q2, Option.bind_some, if_neg (by simp), if_pos hpos, hc, letter_f, hlt, Option.bind_some, if_pos rfl, if_neg (by rw [B_toList]; exact h3), hw, if_pos (by omega), if_pos (by rw [B_size]; omega), hd3]
          · rw [e32] at h
            have hdd := List.append_inj_right' h rfl
            simp at hdd
            subst hdd
            exact absurd hb (by decide)
theorem loop3_ev (o : Op3') (hf : Fit o) : ∃ b, Ev (fun k => laws_plainOption.f k (ofOp o).f0 (ofOp o).f1 (ofOp o).f2) b ∧ (b = true → Plain o) := by
  obtain ⟨b0, ht, hb0⟩ := tail_ev o hf
  have hlen : (((([B o.1, B o.2.1, B o.2.2] : List ByteArray)).length : Nat) : Int) = 3 := rfl
  have w1 : wrap64 (0 + 1) = 1 := by unfold wrap64; omega
  have w2 : wrap64 (1 + 1) = 2 := by unfold wrap64; omega
  have w3 : wrap64 (2 + 1) = 3 := by unfold wrap64; omega
  have e3 : Ev (fun k => laws_plainOption.l0 k [B o.1, B o.2.1, B o.2.2] 3 3 (B o.1) (B o.2.1) (B o.2.2)) b0 := Ev.step (fun k => by simp only [laws_plainOption.l0]; rw [if_neg (by omega)]) ht
  have one : ∀ (i : Int) (x : Bs) (v : Bool), 0 ≤ i → i < 3 → x.length ≤ 2147483647 → rdOf ByteArray.empty [B o.1, B o.2.1, B o.2.2] i = B x → Ev (fun k => laws_plainOption.l0 k [B o.1, B o.2.1, B o.2.2] 3 (wrap64 (i + 1)) (B o.1) (B o.2.1) (B o.2.2)) v → ∃ b, Ev (fun k => laws_plainOption.l0 k [B o.1, B o.2.1, B o.2.2] 3 i (B o.1) (B o.2.1) (B o.2.2)) b ∧ (b = true → v = true ∧ Seen x) := by
    intro i x v h0 h3 hx hr hev
    obtain ⟨b, hb, hbs⟩ := seen_ev x hx _ v hev
    refine ⟨b, Ev.step (fun k => ?_) hb, hbs⟩
    simp only [laws_plainOption.l0]
    rw [if_pos h3, if_pos h0, hlen, if_pos h3, hr]
  obtain ⟨b3, hev3, hb3⟩ := one 2 o.2.2 b0 (by omega) (by omega) hf.2.2 rfl (by rw [w3]; exact e3)
  obtain ⟨b2, hev2, hb2⟩ := one 1 o.2.1 b3 (by omega) (by omega) hf.2.1 rfl (by rw [w2]; exact hev3)
  obtain ⟨b1, hev1, hb1⟩ := one 0 o.1 b2 (by omega) (by omega) hf.1 rfl (by rw [w1]; exact hev2)
  refine ⟨b1, Ev.same (fun k => ?_) hev1, fun h => ?_⟩
  · unfold laws_plainOption.f ofOp
    rfl
  · obtain ⟨h2, s1⟩ := hb1 h
    obtain ⟨h3, s2⟩ := hb2 h2
    obtain ⟨h0, s3⟩ := hb3 h3
    obtain ⟨p1, p2, p3, p4, p5⟩ := hb0 h0
    exact ⟨s1, s2, s3, p1, p2, p3, p4, p5⟩
theorem plains_ev (L : List Op3') (hL : L.length ≤ 2147483647) (hF : ∀ o ∈ L, Fit o) : ∀ (r pre : List Op3'), L = pre ++ r → ∃ b, Ev (fun k => laws_plainOptions.l0 k (L.map ofOp) (L.map ofOp) ((L.map ofOp).length : Int) (pre.length : Int)) b ∧ (b = true → L.length ≤ 200 ∧ ∀ o ∈ r, Plain o)
  | [], pre, e => ⟨decide (((L.map ofOp).length : Int) ≤ 200), Ev.of1 fun k => by
    simp only [laws_plainOptions.l0]
    rw [if_neg (by rw [List.length_map, e]; simp)], fun h => ⟨by rw [List.length_map] at h; have := of_decide_eq_true h; omega, fun o ho => by simp at ho⟩⟩
  | o :: r, pre, e => by
    have hlen : L.length = pre.length + (r.length + 1) := by rw [e]; simp
    have h1 : (pre.length : Int) < ((L.map ofOp).length : Int) := by rw [List.length_map]; omega
    obtain ⟨b, hb, hf⟩ := loop3_ev o (hF o (by rw [e]; simp))
    have hrd := rd29 L pre o r e
    cases b with
    | false =>
      refine ⟨false, Ev.step (fun k => ?_) (Ev.bind hb (C := fun t k => if t = true then laws_plainOptions.l0 k (L.map ofOp) (L.map ofOp) ((L.map ofOp).length : Int) (wrap64 ((pre.length : Int) + 1)) else some false) (Ev.of fun k => by rw [if_neg (by simp)])), by simp⟩
      simp only [laws_plainOptions.l0]
      rw [if_pos h1, if_pos (by omega), if_pos h1, hrd]
    | true =>
      obtain ⟨b2, hev, hb2⟩ := plains_ev L hL hF r (pre ++ [o]) (by rw [e]; simp)
      refine ⟨b2, Ev.step (fun k => ?_) (Ev.bind hb (C := fun t k => if t = true then laws_plainOptions.l0 k (L.map ofOp) (L.map ofOp) ((L.map ofOp).length : Int) (wrap64 ((pre.length : Int) + 1)) else some false) (Ev.same (fun k => by rw [if_pos rfl, wr_next _ (by omega), ← snoc_len pre o]) hev)), fun ht => ⟨(hb2 ht).1, fun x hx => ?_⟩⟩
      · simp only [laws_plainOptions.l0]
        rw [if_pos h1, if_pos (by omega), if_pos h1, hrd]
      · rcases List.mem_cons.1 hx with rfl | hx
        · exact hf rfl
        · exact (hb2 ht).2 x hx
theorem plains_f (L : List Op3') (hL : L.length ≤ 2147483647) (hF : ∀ o ∈ L, Fit o) : ∃ b, Ev (fun k => laws_plainOptions.f k (L.map ofOp)) b ∧ (b = true → L.length ≤ 200 ∧ ∀ o ∈ L, Plain o) := plains_ev L hL hF L [] rfl
end Go.Proofs.YtocdnceckljnaaaDoor.Pu
namespace Go.Proofs.YtocdnceckljnaaaDoor.Pu
open Go.RowKit Go.Proofs.YtocdnceckljnaaaDoorW.PrintWords Go.Proofs.YtocdnceckljnaaaDoorW.PrintLast
open Go.Proofs.YtocdnceckljnaaaDoor.QV0
open Go.Proofs.YtocdnceckljnaaaDoor.U (Bs B B_data B_size Op3' keysF)
set_option linter.unusedVariables false
set_option linter.unusedSimpArgs false
def ofS (L : List Op3') (s : Bs) : List Op3' := L.filter (fun o => o.1 = s)
theorem ofS_len (L : List Op3') (s : Bs) : (ofS L s).length ≤ L.length := List.length_filter_le _ _
section
variable (L : List Op3') (hL : L.length ≤ 200)
include hL
omit hL in
end
end Go.Proofs.YtocdnceckljnaaaDoor.Pu
namespace Go.Proofs.YtocdnceckljnaaaDoor.Pu
open Go.RowKit Go.Proofs.YtocdnceckljnaaaDoorW.PrintWords Go.Proofs.YtocdnceckljnaaaDoorW.PrintLast
open Go.Proofs.YtocdnceckljnaaaDoor.QV0
open Go.Proofs.YtocdnceckljnaaaDoor.U (Bs B B_data B_size Op3' keysF eolL eolR cutEnd upto past stepF lexF putD readF PD St soStep spN lineF linesF secF accF writeF addLast)
set_option linter.unusedVariables false
set_option linter.unusedSimpArgs false
inductive Ln where
  | sec (s : Bs)
  | opt (n v : Bs)
  | rem (x : Bs)
def Ln.text : Ln → Bs
  | .sec s => 91 :: (s ++ [93])
  | .opt n v => n ++ 61 :: v
  | .rem x => x
def Ln.line (l : Ln) : Bs := l.text ++ [10]
def textOf (d : List Ln) : Bs := d.flatMap Ln.line
theorem textOf_cons (l : Ln) (d : List Ln) : textOf (l :: d) = l.text ++ 10 :: textOf d := by simp [textOf, Ln.line]
theorem textOf_app (a b : List Ln) : textOf (a ++ b) = textOf a ++ textOf b := by simp [textOf]
def RemOk (x : Bs) : Prop := x.all prn = true ∧ x.length ≤ 400 ∧ (x = [] ∨ ∃ c t, x = c :: t ∧ (c = 35 ∨ c = 59) ∧ Lib.hasSuffix (cutEnd 32 t) [92] = false)
def Ln.Ok : Ln → Prop
  | .sec s => Seen s ∧ (93 : UInt8) ∉ s
  | .opt n v => Seen n ∧ Seen v ∧ (61 : UInt8) ∉ n ∧ (∃ c t, n = c :: t ∧ isLetter c = true) ∧ ∀ t, v ≠ t ++ [92]
  | .rem x => RemOk x
theorem Ln.Ok.prn {l : Ln} (h : l.Ok) : l.text.all prn = true := by
  cases l with
  | sec s => simp [Ln.text, h.1.all]; decide
  | opt n v => simp [Ln.text, h.1.all, h.2.1.all]; decide
  | rem x => exact h.1
theorem Ln.Ok.len {l : Ln} (h : l.Ok) : l.text.length ≤ 801 := by
  cases l with
  | sec s => have := h.1.len; simp [Ln.text]; omega
  | opt n v => have := h.1.len; have := h.2.1.len; simp [Ln.text]; omega
  | rem x => have := h.2.1; simp [Ln.text]; omega
def Lex (n : Nat) (st : St) (rest : Bs) (D R : List PD) : Prop := ∀ k, n ≤ k → lexF k st rest D = some R
theorem Lex.step {n : Nat} {st st' : St} {rest rest' : Bs} {D R d : List PD} (hc : rest.length < 2048 ∨ (10 : UInt8) ∈ rest.take 2048) (hs : stepF st rest = some (some st', rest', d)) (hD : D.length < 900000000) (h : Lex n st' rest' (D ++ d) R) : Lex (n + 1) st rest D R := by
  intro k hk
  obtain ⟨j, rfl⟩ : ∃ j, k = j + 1 := ⟨k - 1, by omega⟩
  simp only [lexF]
  rw [if_pos hc, hs, Option.bind_some, if_pos hD]
  exact h j (by omega)
theorem Lex.more {n m : Nat} {st : St} {rest : Bs} {D R : List PD} (h : Lex n st rest D R) (hm : n ≤ m) : Lex m st rest D R := fun k hk => h k (by omega)
theorem Lex.last {st : St} {D : List PD} (hs : stepF st [] = some (none, [], [])) (hD : D.length < 900000000) : Lex 1 st [] D D := by
  intro k hk
  obtain ⟨j, rfl⟩ : ∃ j, k = j + 1 := ⟨k - 1, by omega⟩
  simp only [lexF]
  rw [if_pos (Or.inl (by simp)), hs, Option.bind_some, if_pos hD, List.append_nil]
def gDoc (g : Bs × List (Bs × Bs)) : List Ln := .sec g.1 :: g.2.map fun e => .opt e.1 e.2
def docK (L : List Op3') (ks : List Bs) (j : Nat) : List Ln := (List.range j).flatMap fun i => gDoc (ks.getD i [], (ofS L (ks.getD i [])).map (·.2)) ++ if i + 1 < ks.length then [.rem []] else []
def docL (L : List Op3') : List Ln := docK L (keysF L) (keysF L).length
theorem lines_text (l : List Op3') : linesF l = textOf ((l.map (·.2)).map fun e => .opt e.1 e.2) := by
  induction l with
  | nil => rfl
  | cons o l ih =>
    unfold linesF at ih ⊢
    rw [List.flatMap_cons, ih, List.map_cons, List.map_cons, textOf_cons]
    simp [lineF, Ln.text]
theorem sec_text (L : List Op3') (s : Bs) : secF L s = textOf (gDoc (s, (ofS L s).map (·.2))) := by
  unfold secF gDoc
  rw [textOf_cons, lines_text]
  simp [Ln.text, ofS]
theorem doc_text (L : List Op3') (ks : List Bs) (j : Nat) : accF L ks j = textOf (docK L ks j) := by
  unfold accF docK
  induction j with
  | zero => rfl
  | succ j ih =>
    rw [List.range_succ, List.flatMap_append, List.flatMap_append, textOf_app, ih]
    congr 1
    simp only [List.flatMap_cons, List.flatMap_nil, List.append_nil]
    rw [textOf_app, sec_text]
    congr 1
    split <;> rfl
theorem write_text (L : List Op3') : writeF L = textOf (docL L) := doc_text L _ _
theorem keysF_nodup (L : List Op3') : (keysF L).Nodup := by
  induction L using U.snoc_ind with
  | h0 => simp [keysF]
  | h1 l o ih =>
    rw [U.keysF_snoc]
    unfold U.addKey
    split
    · exact ih
    · rename_i hn
      rw [List.nodup_append]
      exact ⟨ih, by simp, fun a ha b hb => by rw [List.mem_singleton] at hb; rintro rfl; exact hn (hb ▸ ha)⟩
end Go.Proofs.YtocdnceckljnaaaDoor.Pu
namespace Go.Proofs.YtocdnceckljnaaaDoor.Pu
open Go.RowKit Go.Proofs.YtocdnceckljnaaaDoorW.PrintWords Go.Proofs.YtocdnceckljnaaaDoorW.PrintLast
open Go.Proofs.YtocdnceckljnaaaDoor.QV0
open Go.Proofs.YtocdnceckljnaaaDoor.U (Bs B B_data B_size Op3' keysF cutEnd readF writeF)
set_option linter.unusedVariables false
set_option linter.unusedSimpArgs false
theorem Ev.bind' {α β : Type} {A : Nat → Option α} {C : α → Nat → Option β} {F : Nat → Option β} {a : α} {v : β} (hF : ∀ k, F k = (A k).bind fun t => C t k) (ha : Ev A a) (hc : Ev (C a) v) : Ev F v := Ev.same hF (Ev.bind ha hc)
theorem map_opOf (L : List Op3') : (L.map ofOp).map opOf = L := by
  rw [List.map_map]
  conv => rhs; rw [← List.map_id L]
  rfl
theorem plain_short (L : List Op3') (hl : L.length ≤ 200) (h : ∀ o ∈ L, Plain o) : U.Short L := ⟨by omega, fun o ho => by
  have := h o ho
  have h1 := this.s.len
  have h2 := this.n.len
  have h3 := this.v.len
  omega⟩
theorem write_f (L : List Op3') (hl : L.length ≤ 200) (h : ∀ o ∈ L, Plain o) : impl_UnitWrite.f (L.map ofOp) = some (B (textOf (docL L))) := by
  unfold impl_UnitWrite.f
  rw [map_opOf, if_pos ((shortB_iff L).2 (plain_short L hl h)), write_text]
section
variable (L : List Op3') (rs : List Bs) (at_ : List Int)
variable (D : List Ln) (hDl : D.length ≤ 600) (hR : rs.length ≤ 40) (hRl : ∀ x ∈ rs, x.length ≤ 2147483647)
include hDl hR hRl in
end
end Go.Proofs.YtocdnceckljnaaaDoor.Pu
