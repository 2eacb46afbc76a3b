/- The texts UCk, UCl, QV0x8, QV0x10, Vq, Vr, Vs, without what the claims do not use, laid together by a program of this session (wip/tools/bundle.py). Conditions: those of each theorem. -/
import Derived.Test.YtocdnceckljnaaaDoorYc5
import Derived.Test.YtocdnceckljnaaaDoorCards
import Derived.Test.YtocdnceckljnaaaDoorTie
import Derived.WalkKit
import Derived.ProofKit
import Derived.OpenShut
import Derived.SizedLaws
import Derived.SliceStrings
import Derived.Deep.Slices
import Derived.Deep.DeepHandedRow
import Derived.Deep.DeepWitnessRowRef
import Derived.Lib.LaidIn
import Derived.Lib.LaidTab
import Derived.LaidSub
namespace Go.Proofs.YtocdnceckljnaaaDoor.UCk
open Go.ChangeShapes Go.WideShapes Go.ChangeAt Go.RowKit Go.Deep
open Go.Proofs.YtocdnceckljnaaaDoorW.PrintWords Go.Proofs.YtocdnceckljnaaaDoor.U
set_option linter.unusedVariables false
set_option linter.unusedSimpArgs false
theorem own : ownKnob Tryd.prog.godebug = none := by kernel_rfl
theorem laidOut : laidOutB Tryd.prog = true := by kernel_rfl
def lit1 : DataW Unit → Value
  | .lit (.int k n) => .int k n
  | _ => .nilIface
def flat1 : DataW Unit → List Value
  | .agg l => l.map lit1
  | _ => []
def flat2 : DataW Unit → List Value
  | .agg l => l.flatMap flat1
  | _ => []
noncomputable def laidWorld (os : Os) : World :=
  let N := (World.settled Tryd.prog os).heap.size
  let w0 := World.holding Tryd.prog os ⟨#[.cells #[.slice (some ⟨N + 1, 0, none⟩) 7 7, .slice none 0 0, .int .i64 2] 181, .cells (([9, 13, 1, 32, 133, 101, 160, 5760, 5600, 8192, 8202, 1, 8232, 8233, 1, 8239, 8287, 48, 12288, 12288, 1] : List Int).map fun z => Value.int .u16 z).toArray 184], #[], []⟩
  let put (h : Array Obj) (g : Nat) (cs : Array Value) : Array Obj := h.modify g fun
    | .cells _ t frozen => .cells cs t frozen
    | o => o
  let h0 := put w0.heap 6 #[.pointer (some ⟨N, 0, none⟩)]
  let h1 := put h0 3 (flat1 Rows.laid_unicode_utf8_first).toArray
  let h2 := put h1 4 (flat2 Rows.laid_unicode_utf8_acceptRanges).toArray
  let h3 := put h2 5 (flat1 Rows.laid_bytes_asciiSpace).toArray
  let h4 := put h3 8 (flat1 Rows.laid_strings_asciiSpace).toArray
  { w0 with heap := h4 }
noncomputable abbrev N0 : Nat := (World.settled Tryd.prog default).heap.size
def firstTab : List Int := (flat1 Rows.laid_unicode_utf8_first).map fun | .int _ n => n | _ => 0
theorem first_low : ∀ c : Nat, c < 128 → firstTab.getD c 0 = 240 := by
  have h : (List.range 128).all (fun c => firstTab.getD c 0 == 240) = true := by kernel_rfl
  intro c hc
  have := List.all_eq_true.1 h c (List.mem_range.2 hc)
  simpa using this
abbrev units : List (String × DataW Unit) := Rows.fnUnitMatchRow.laid
theorem tabs_of {W : World} (h : laidMetH Tryd.prog units W) : Tabs W := by
  have h1 : laidMetH Tryd.prog [("bytes.asciiSpace", Lib.tabData .u8 Lib.asciiSpaceTab)] W := by
    have := h.filter (fun x => x.1 == "bytes.asciiSpace")
    rw [show units.filter (fun x => x.1 == "bytes.asciiSpace") = [("bytes.asciiSpace", Lib.tabData .u8 Lib.asciiSpaceTab)] by kernel_rfl] at this
    exact this
  have h2 : laidMetH Tryd.prog [("strings.asciiSpace", Lib.tabData .u8 Lib.asciiSpaceTab)] W := by
    have := h.filter (fun x => x.1 == "strings.asciiSpace")
    rw [show units.filter (fun x => x.1 == "strings.asciiSpace") = [("strings.asciiSpace", Lib.tabData .u8 Lib.asciiSpaceTab)] by kernel_rfl] at this
    exact this
  have h3 : laidMetH Tryd.prog [("unicode/utf8.first", Lib.tabData .u8 firstTab)] W := by
    have := h.filter (fun x => x.1 == "unicode/utf8.first")
    rw [show units.filter (fun x => x.1 == "unicode/utf8.first") = [("unicode/utf8.first", Lib.tabData .u8 firstTab)] by kernel_rfl] at this
    exact this
  have t1 : Lib.TabIs Tryd.prog W "bytes.asciiSpace" .u8 Lib.asciiSpaceTab := Lib.tabIs_of_head (t := 154) (e := 5) (n := 256) (rest := []) (g := 5) (by kernel_rfl) (by kernel_rfl) (by kernel_rfl) (by kernel_rfl) (by kernel_rfl) (by kernel_rfl) h1
  have t2 : Lib.TabIs Tryd.prog W "strings.asciiSpace" .u8 Lib.asciiSpaceTab := Lib.tabIs_of_head (t := 154) (e := 5) (n := 256) (rest := []) (g := 8) (by kernel_rfl) (by kernel_rfl) (by kernel_rfl) (by kernel_rfl) (by kernel_rfl) (by kernel_rfl) h2
  have t3 : Lib.TabIs Tryd.prog W "unicode/utf8.first" .u8 firstTab := Lib.tabIs_of_head (t := 154) (e := 5) (n := 256) (rest := []) (g := 3) (by kernel_rfl) (by kernel_rfl) (by kernel_rfl) (by kernel_rfl) (by kernel_rfl) (by kernel_rfl) h3
  refine ⟨fun c hc => ?_, t1, t2⟩
  have hl : firstTab.length = 256 := by kernel_rfl
  have := t3.cell (show Tryd.prog.globalNamed "unicode/utf8.first" = some 3 by kernel_rfl) c (by rw [hl]; omega)
  rw [first_low c hc] at this
  exact this
set_option maxRecDepth 100000 in
theorem open_opt {H : Type} {enc : TypeId × Value → H} {W : World} {base : Nat} {spare : Nat → Bool} {held : Bool} {n : Nat} {cs : List Value} {y : DataW H × List MemPlace} (hl : cs.length = 3)
    (h : DataW.trod enc Tryd.prog W base spare held n 29 cs = some y) : ∃ s0 s1 s2 : ByteArray, cs = [.string s0, .string s1, .string s2] := by
  obtain ⟨xs, k, _, _, _, hxl, hf⟩ := DataW.trod_struct Tryd.underlying29 h
  match cs, hl with
  | [c0, c1, c2], _ =>
    have hxl' : xs.length = 3 := hxl
    match xs, hxl' with
    | [y0, y1, y2], _ =>
      have k9 : Tryd.prog.cellsOf 9 = 1 := by kernel_rfl
      have g0 := hf 0 _ rfl
      have g1 := hf 1 _ rfl
      have g2 := hf 2 _ rfl
      simp [k9] at g0 g1 g2
      obtain ⟨s0, e0, _⟩ := DataW.trod_string Tryd.underlying9 g0
      obtain ⟨s1, e1, _⟩ := DataW.trod_string Tryd.underlying9 g1
      obtain ⟨s2, e2, _⟩ := DataW.trod_string Tryd.underlying9 g2
      simp at e0 e1 e2
      subst e0 e1 e2
      exact ⟨s0, s1, s2, rfl⟩
end Go.Proofs.YtocdnceckljnaaaDoor.UCk
namespace Go.Proofs.YtocdnceckljnaaaDoor.UCk
open Go.ChangeShapes Go.WideShapes Go.ChangeAt Go.RowKit Go.Deep
open Go.Proofs.YtocdnceckljnaaaDoorW.PrintWords Go.Proofs.YtocdnceckljnaaaDoor.QV0
open Go.Proofs.YtocdnceckljnaaaDoor.U (Bs B Op3')
set_option linter.unusedVariables false
set_option linter.unusedSimpArgs false
theorem choose_lt' {α : Type} [Inhabited α] {n : Nat} {p : Nat → α → Prop} (h : ∀ i, i < n → ∃ q, p i q) : ∃ f : Nat → α, ∀ i, i < n → p i (f i) :=
  ⟨fun i => if hi : i < n then (h i hi).choose else default, fun i hi => by simp only [dif_pos hi]; exact (h i hi).choose_spec⟩
instance : Inhabited S29 := ⟨z29⟩
theorem open_opts {H : Type} {enc : TypeId × Value → H} {W : World} {base : Nat} {a : Option Addr} {len cap : Nat} {fuel : Nat} {x : DataW H × List MemPlace} {spare : Nat → Bool} {held : Bool}
    (hf : DataW.trod enc Tryd.prog W base spare held fuel 32 [.slice a len cap] = some x) : ∃ l : List S29, l.length = len ∧ len ≤ cap ∧ Kd.C k29 W a l.length l := by
  rcases open_slice Tryd.underlying32 hf with ⟨hcs, _⟩ | ⟨ad, l', c', m, n, D, Pl, hcs, _, hl, hm, hmm, _, hx⟩
  · simp at hcs
    obtain ⟨rfl, rfl, rfl⟩ := hcs
    exact ⟨[], rfl, Nat.le_refl _, rfl, by decide, fun h => absurd h (by decide)⟩
  · simp at hcs
    obtain ⟨rfl, rfl, rfl⟩ := hcs
    have hle : len ≤ m := by rw [hmm]; split <;> omega
    have k29c : Tryd.prog.cellsOf 29 = 3 := by kernel_rfl
    have each : ∀ i, i < m → ∃ q : S29, ∀ j u, [Value.string q.f0, .string q.f1, .string q.f2][j]? = some u → W.cell? (ad.add (i * 3 + j)) = some u := by
      intro i hi
      obtain ⟨cs', h1, h2⟩ := hx i hi
      rw [k29c] at h1
      obtain ⟨_, hlen, hcell⟩ := World.cells?_some h1
      obtain ⟨s0, s1, s2, rfl⟩ := open_opt hlen h2
      refine ⟨⟨s0, s1, s2⟩, fun j u hu => ?_⟩
      have hj : j < 3 := (List.getElem?_eq_some_iff.1 hu).1
      have := hcell j hj
      rw [Deep.add_add] at this
      rw [this, hu]
    obtain ⟨q, hq⟩ := choose_lt' each
    refine ⟨(List.range len).map q, by simp, hl, by simp, by simp only [List.length_map, List.length_range]; unfold maxLen at hm; omega, fun _ => ⟨ad, rfl, fun j p hj => ?_⟩⟩
    have hj' : j < len := by
      have := (List.getElem?_eq_some_iff.1 hj).1
      simpa using this
    rw [List.getElem?_map, List.getElem?_range hj'] at hj
    obtain rfl := Option.some.inj hj
    exact ⟨_, rfl, k29_mk W (q j), fun i u hu => hq j (by omega) i u hu⟩
theorem opts_map (l : List S29) : ∃ L : List Op3', l = L.map ofOp := by
  refine ⟨l.map opOf, ?_⟩
  rw [List.map_map]
  conv => lhs; rw [← List.map_id l]
  exact List.map_congr_left fun x _ => (ofOp_opOf x).symm
end Go.Proofs.YtocdnceckljnaaaDoor.UCk
namespace Go.Proofs.YtocdnceckljnaaaDoor.QV0
open Go.RowKit Go.Proofs.YtocdnceckljnaaaDoorW.PrintWords Go.Proofs.YtocdnceckljnaaaDoorW.PrintLast Go.Proofs.YtocdnceckljnaaaDoorW.PrintMore
attribute [local go_sem] max2_int min2_int max_two min_two max_three min_three max_four min_four
set_option linter.unusedVariables false
set_option linter.unusedSimpArgs false
def spec_Sections.T9 : Bool × List (List Nat × List Nat) := (true, [([], []), ([], []), ([0, 1], [0, 1]), ([2], [2]), ([3], [3]), ([], []), ([5], [5]), ([4, 6], [4, 6])])
def spec_Sections.B9 : List Nat := [0, 0, 3, 7, 15, 0, 32, 127]
theorem spec_Sections.tab9 : rtab .any (opsOf Tryd.f42 9) = spec_Sections.T9 := by kernel_rfl
theorem spec_Sections.bits9 : waitsOk spec_Sections.T9.2 spec_Sections.B9 = true := by kernel_rfl
end Go.Proofs.YtocdnceckljnaaaDoor.QV0
namespace Go.Proofs.YtocdnceckljnaaaDoor.QV0
open Go.RowKit Go.Proofs.YtocdnceckljnaaaDoorW.PrintWords Go.Proofs.YtocdnceckljnaaaDoorW.PrintLast Go.Proofs.YtocdnceckljnaaaDoorW.PrintMore
attribute [local go_sem] max2_int min2_int max_two min_two max_three min_three max_four min_four
set_option linter.unusedVariables false
set_option linter.unusedSimpArgs false
def laws_sectionsOf.l0 : Nat → List (S52) → List (S29) → Int → Int → Option ((List (S52)))
 | 0, _, _, _, _ => none
 | k + 1, x3, x9, x10, x11 => if x11 < x10 then (if 0 ≤ x11 then (if x11 < (x9.length : Int) then (if (x3.length : Int) = 0 then (if x3.length < 3518437208883 then ((some (x3 ++ [(⟨(rd_T29 x9 x11).f0, ([] : List (S74))⟩ : S52)] : List (S52))).bind fun y206 => (if 0 ≤ (wrap64 ((y206.length : Int) - 1)) then (if (wrap64 ((y206.length : Int) - 1)) < (y206.length : Int) then (if ((rd_T52 y206 (wrap64 ((y206.length : Int) - 1))).f1).length < 4398046511104 then (laws_sectionsOf.l0 k (y206.set ((wrap64 ((y206.length : Int) - 1)) : Int).toNat (⟨(rd_T52 y206 (wrap64 ((y206.length : Int) - 1))).f0, (((rd_T52 y206 (wrap64 ((y206.length : Int) - 1))).f1) ++ [(⟨(rd_T29 x9 x11).f1, (rd_T29 x9 x11).f2⟩ : S74)])⟩ : S52)) x9 x10 (wrap64 (x11 + 1))) else (none)) else (none)) else (none))) else (none)) else (if 0 ≤ (wrap64 ((x3.length : Int) - 1)) then (if (wrap64 ((x3.length : Int) - 1)) < (x3.length : Int) then (if ((rd_T52 x3 (wrap64 ((x3.length : Int) - 1))).f0).toList = ((rd_T29 x9 x11).f0).toList then (if ((rd_T52 x3 (wrap64 ((x3.length : Int) - 1))).f1).length < 4398046511104 then (laws_sectionsOf.l0 k (x3.set ((wrap64 ((x3.length : Int) - 1)) : Int).toNat (⟨(rd_T52 x3 (wrap64 ((x3.length : Int) - 1))).f0, (((rd_T52 x3 (wrap64 ((x3.length : Int) - 1))).f1) ++ [(⟨(rd_T29 x9 x11).f1, (rd_T29 x9 x11).f2⟩ : S74)])⟩ : S52)) x9 x10 (wrap64 (x11 + 1))) else (none)) else (if x3.length < 3518437208883 then ((some (x3 ++ [(⟨(rd_T29 x9 x11).f0, ([] : List (S74))⟩ : S52)] : List (S52))).bind fun y220 => (if 0 ≤ (wrap64 ((y220.length : Int) - 1)) then (if (wrap64 ((y220.length : Int) - 1)) < (y220.length : Int) then (if ((rd_T52 y220 (wrap64 ((y220.length : Int) - 1))).f1).length < 4398046511104 then (laws_sectionsOf.l0 k (y220.set ((wrap64 ((y220.length : Int) - 1)) : Int).toNat (⟨(rd_T52 y220 (wrap64 ((y220.length : Int) - 1))).f0, (((rd_T52 y220 (wrap64 ((y220.length : Int) - 1))).f1) ++ [(⟨(rd_T29 x9 x11).f1, (rd_T29 x9 x11).f2⟩ : S74)])⟩ : S52)) x9 x10 (wrap64 (x11 + 1))) else (none)) else (none)) else (none))) else (none))) else (none)) else (none))) else (none)) else (none)) else (some x3)
def laws_sectionsOf.f (k : Nat) (l0 : List (S29)) : Option ((List (S52))) := (laws_grouped.f k l0).bind fun t201 => (laws_sectionsOf.l0 k ([] : List (S52)) t201 (t201.length : Int) 0)
def laws_sectionsOf.T6 : Bool × List (List Nat × List Nat) := (true, [([], []), ([0], [0]), ([1], [1]), ([2], [2]), ([2], [2]), ([4, 2], [2, 4]), ([3, 5, 2], [2, 3, 5]), ([6, 2], [2, 6]), ([7, 2], [2, 7]), ([2], [2]), ([9, 2], [2, 9]), ([8, 10, 2], [2, 8, 10]), ([2, 11], [2, 11])])
def laws_sectionsOf.B6 : List Nat := [0, 1, 3, 7, 7, 23, 63, 127, 255, 7, 519, 2047, 4095]
theorem laws_sectionsOf.tab6 : rtab .any (opsOf Tryd.f27 6) = laws_sectionsOf.T6 := by kernel_rfl
theorem laws_sectionsOf.bits6 : waitsOk laws_sectionsOf.T6.2 laws_sectionsOf.B6 = true := by kernel_rfl
def laws_sectionsOf.T9 : Bool × List (List Nat × List Nat) := (true, [([], []), ([], []), ([], []), ([], []), ([2, 3], [2, 3]), ([4], [4]), ([5], [5]), ([], []), ([7], [7]), ([], []), ([9], [9]), ([8, 10], [8, 10]), ([11], [11]), ([6, 12], [6, 12]), ([0, 1, 0, 1, 2, 3, 4, 5, 6, 7, 8, 9, 10, 11, 12, 13], [0, 1]), ([14, 0, 1, 2, 3, 4, 5, 6, 7, 8, 9, 10, 11, 12, 13], [14]), ([15, 13, 13, 0, 1, 2, 3, 4, 5, 6, 7, 8, 9, 10, 11, 12, 13], [13, 15])])
def laws_sectionsOf.B9 : List Nat := [0, 0, 0, 0, 12, 28, 60, 0, 128, 0, 512, 1920, 3968, 8188, 16383, 32767, 65535]
theorem laws_sectionsOf.tab9 : rtab .any (opsOf Tryd.f27 9) = laws_sectionsOf.T9 := by kernel_rfl
theorem laws_sectionsOf.bits9 : waitsOk laws_sectionsOf.T9.2 laws_sectionsOf.B9 = true := by kernel_rfl
set_option maxHeartbeats 8000000 in
set_option maxRecDepth 100000 in
theorem laws_sectionsOf.calls (k : Nat) (A0 : Option Addr) (c0 : Nat) (l0 : List (S29)) (r : List (S52)) (w : World) (hr0 : Kd.C k29 w A0 l0.length l0) (hc0 : l0.length ≤ c0) (h : laws_sectionsOf.f k l0 = some r) :
 Calls Tryd.prog 27 #[.slice A0 l0.length c0] w fun e w' => ∃ v0_ : Value, e = .returned (v0_) ∧ Kd.S k52 52 w' w.heap.size (fun _ => True) v0_ r ∧ Below w.heap.size w w' := by
 have hu29 := Tryd.underlying29
 have hu52 := Tryd.underlying52
 have hu74 := Tryd.underlying74
 have HR0 := Aside0.mk hr0
 have HC0 := Aside0.mk hc0
 clear hr0 hc0
 have HB := Aside0.mk (Below.refl w.heap.size w)
 have H : ((laws_grouped.f k l0).bind fun t201 => (laws_sectionsOf.l0 k ([] : List (S52)) t201 (t201.length : Int) 0)) = some r := h
 clear h
 replace H := Option.bind_eq_some_iff.mp H
 obtain ⟨t201, A20, H⟩ := H
 replace H : (laws_sectionsOf.l0 k ([] : List (S52)) t201 (t201.length : Int) 0) = some r := H
 have A2 := Aside0.mk A20
 clear A20
 have H' := Aside0.mk H
 clear H
 go_enter Tryd.func27, Tryd.ntmps27
 go_wp2_with (first | ((with_reducible refine gate_callee (f := 24) rfl ?_); refine goesL_ (some 9) rfl rfl Tryd.func24 (by kernel_rfl) rfl #[.slice A0 l0.length c0] rfl (by (try simp only [List.map_toArray, List.map_cons, List.map_nil]); first | done | rfl | (simp only [List.length_drop, List.length_take]; rfl)) ?_; (with_reducible refine (laws_grouped.calls k _ _ l0 t201 _ ?side1 ?side2 A2.out).mono ?_); (case side1 => repeat (first | exact HR0.out | (with_reducible refine Kd.C_alloc ?_ _) | (with_reducible refine Kd.C_drewN ?_ _) | (with_reducible refine Kd.C_drew ?_))); (case side2 => exact HC0.out); rintro e w3 ⟨v202, rfl, ho0, hb⟩; refine ⟨_, rfl, ?_⟩; have n0_ := Aside0.mk (Kd.R_lower ho0 (below_size (by repeat (first | (with_reducible first | exact HB.out | apply below_alloc | apply pw_below_drewN | apply below_drew1) | exact HB.out)))); have n1_ := Aside0.mk (below_step (by repeat (first | (with_reducible first | exact HB.out | apply below_alloc | apply pw_below_drewN | apply below_drew1) | exact HB.out)) hb); clear HB; have HO203 := n0_; have HB := n1_; clear n0_ n1_; (try clear hb); (try clear hb2); (try clear hk); (try clear hi); (try clear ho0); obtain ⟨Ao4, co4, eo4⟩ := Kd.R_slice HO203.out; subst eo4))
 go_loopg [3, 11] k (fun kq v3 v11 w' => ∃ (x3_1 : List (S52)) (x11_1 : Int), v11 = .int .i64 x11_1 ∧ Aside0 (laws_sectionsOf.l0 kq x3_1 t201 (t201.length : Int) x11_1 = some r) ∧ Aside0 (kq ≤ k) ∧ Aside0 (Kd.S k52 52 w' w.heap.size (fun _ => True) v3 x3_1) ∧ Aside0 (Kd.R k29 29 w' w.heap.size (fun _ => True) (.slice Ao4 t201.length co4) t201) ∧ Aside0 (Below w.heap.size w w'))
 case atStart => exact ⟨(([] : List (S52))), (0), (by first | rfl | (simp; done) | (simp [*]; done)), H', ⟨Nat.le_refl _⟩, ⟨by first | exact Kd.S_nil _ _ _ _ _ | exact Kd.N_nil _ _ _ _ _ | exact Kd.V_nil _ _ _ _ _ | exact Kd.Q_nil _ _ _ _ _ | exact Kd.R_nil _ _ _ _ _⟩, ⟨by (with_reducible repeat (first | apply Kd.R_alloc | apply Kd.R_drewN | apply Kd.R_drew)); exact HO203.out⟩, ⟨by repeat (first | (with_reducible first | exact HB.out | apply below_alloc | apply pw_below_drewN | apply below_drew1) | exact HB.out)⟩⟩
 case round =>
  clear H'
  try clear c2
  try clear p2
  obtain ⟨x3_1, x11_1, rfl, HA, HK1, HO_3, HO_9, HB⟩ := hrel
  cases gk with
  | zero => exact absurd HA.out (by simp [laws_sectionsOf.l0])
  | succ k1 =>
   have H := HA.out
   clear HA
   simp only [laws_sectionsOf.l0] at H
   by_cases c5 : x11_1 < (t201.length : Int)
   · rw [if_pos c5] at H
     have c5b0 : decide (x11_1 < (t201.length : Int)) = true := decide_eq_true c5
     clear c5
     by_cases c6 : 0 ≤ x11_1
     · rw [if_pos c6] at H
       have c6b0 : decide (0 ≤ x11_1) = true := decide_eq_true c6
       clear c6
       by_cases c7 : x11_1 < (t201.length : Int)
       · rw [if_pos c7] at H
         have c7b0 : decide (x11_1 < (t201.length : Int)) = true := decide_eq_true c7
         clear c7
         by_cases c8 : (x3_1.length : Int) = 0
         · rw [if_pos c8] at H
           have c8b0 : ((x3_1.length : Int) == 0) = true := beq_iff_eq.mpr c8
           have c8b1 : ((x3_1.length : Int) != 0) = false := bne_eq_false_iff_eq.mpr c8
           clear c8
           by_cases c9 : x3_1.length < 3518437208883
           · rw [if_pos c9] at H
             have LMc9 := Aside0.mk c9
             clear c9
             obtain ⟨y206, hy206⟩ : ∃ y_ : List (S52), y_ = (x3_1 ++ [(⟨(rd_T29 t201 x11_1).f0, ([] : List (S74))⟩ : S52)]) := ⟨_, rfl⟩
             replace H : (if 0 ≤ (wrap64 ((y206.length : Int) - 1)) then (if (wrap64 ((y206.length : Int) - 1)) < (y206.length : Int) then (if ((rd_T52 y206 (wrap64 ((y206.length : Int) - 1))).f1).length < 4398046511104 then (laws_sectionsOf.l0 k1 (y206.set ((wrap64 ((y206.length : Int) - 1)) : Int).toNat (⟨(rd_T52 y206 (wrap64 ((y206.length : Int) - 1))).f0, (((rd_T52 y206 (wrap64 ((y206.length : Int) - 1))).f1) ++ [(⟨(rd_T29 t201 x11_1).f1, (rd_T29 t201 x11_1).f2⟩ : S74)])⟩ : S52)) t201 (t201.length : Int) (wrap64 (x11_1 + 1))) else (none)) else (none)) else (none)) = some r := by first | (rw [hy206]; with_reducible exact H) | (have H2_ := (Option.bind_some _ _).symm.trans H; rw [hy206]; with_reducible exact H2_) | (have H2_ := (Option.bind_some _ _).symm.trans H; with_reducible exact H2_) | with_reducible exact H | (rw [hy206]; exact H) | exact H
             have Ny206 := Aside0.mk hy206
             clear hy206
             obtain ⟨ji10, hji10⟩ : ∃ j_ : Int, (wrap64 ((y206.length : Int) - 1)) = j_ := ⟨_, rfl⟩
             replace H : (if 0 ≤ (ji10) then (if (ji10) < (y206.length : Int) then (if ((rd_T52 y206 (ji10)).f1).length < 4398046511104 then (laws_sectionsOf.l0 k1 (y206.set ((ji10) : Int).toNat (⟨(rd_T52 y206 (ji10)).f0, (((rd_T52 y206 (ji10)).f1) ++ [(⟨(rd_T29 t201 x11_1).f1, (rd_T29 t201 x11_1).f2⟩ : S74)])⟩ : S52)) t201 (t201.length : Int) (wrap64 (x11_1 + 1))) else (none)) else (none)) else (none)) = some r := by first | (rw [hji10] at H; exact H) | (simp only [hji10] at H ⊢; exact H)
             have hji10w : (IntKind.i64.wrap ((y206.length : Int) - 1)) = ji10 := (i64_w _).trans hji10
             by_cases c11 : 0 ≤ (ji10)
             · rw [if_pos c11] at H
               have c11b0 : decide (0 ≤ (ji10)) = true := decide_eq_true c11
               clear c11
               by_cases c12 : (ji10) < (y206.length : Int)
               · rw [if_pos c12] at H
                 have c12b0 : decide ((ji10) < (y206.length : Int)) = true := decide_eq_true c12
                 clear c12
                 by_cases c13 : ((rd_T52 y206 (ji10)).f1).length < 4398046511104
                 · rw [if_pos c13] at H
                   have LMc13 := Aside0.mk c13
                   clear c13
                   obtain ⟨y210, hy210⟩ : ∃ y_ : List (S74), y_ = (((rd_T52 y206 (ji10)).f1) ++ [(⟨(rd_T29 t201 x11_1).f1, (rd_T29 t201 x11_1).f2⟩ : S74)]) := ⟨_, rfl⟩
                   replace H : (laws_sectionsOf.l0 k1 (y206.set ((ji10) : Int).toNat (⟨(rd_T52 y206 (ji10)).f0, y210⟩ : S52)) t201 (t201.length : Int) (wrap64 (x11_1 + 1))) = some r := by first | (rw [hy210]; with_reducible exact H) | (have H2_ := (Option.bind_some _ _).symm.trans H; rw [hy210]; with_reducible exact H2_) | (have H2_ := (Option.bind_some _ _).symm.trans H; with_reducible exact H2_) | with_reducible exact H | (rw [hy210]; exact H) | exact H
                   have Ny210 := Aside0.mk hy210
                   clear hy210
                   obtain ⟨y213, hy213⟩ : ∃ y_ : List (S52), y_ = (y206.set ((ji10) : Int).toNat (⟨(rd_T52 y206 (ji10)).f0, y210⟩ : S52)) := ⟨_, rfl⟩
                   replace H : (laws_sectionsOf.l0 k1 y213 t201 (t201.length : Int) (wrap64 (x11_1 + 1))) = some r := by first | (rw [hy213]; with_reducible exact H) | (have H2_ := (Option.bind_some _ _).symm.trans H; rw [hy213]; with_reducible exact H2_) | (have H2_ := (Option.bind_some _ _).symm.trans H; with_reducible exact H2_) | with_reducible exact H | (rw [hy213]; exact H) | exact H
                   have Ny213 := Aside0.mk hy213
                   clear hy213
                   have H' := Aside0.mk H
                   clear H
                   have p204 : 0 ≤ (x11_1 : Int) := of_decide_eq_true (by first | (with_reducible assumption) | assumption)
                   have q204 : x11_1 < (t201.length : Int) := of_decide_eq_true (by first | (with_reducible assumption) | assumption)
                   obtain ⟨ad204, e204, hx204_0, hx204_1, hx204_2⟩ := at_T29 (Kd.R_reads' HO_9.out).2.2 x11_1 p204 q204
                   cases e204
                   replace p204 := eq_true p204
                   replace q204 := eq_true q204
                   try go_wp2_with (first | ((with_reducible refine gate_dst (N := 5) rfl ?_); refine box_event ?hg (N := 5) ?hd (cs := #[.string (⟨#[]⟩ : ByteArray), .string (⟨#[]⟩ : ByteArray), .string (⟨#[]⟩ : ByteArray)]) (t := 29) ?hr ?_; (case hd => rfl); (case hg => rfl); (case hr => first | (go_simp; done) | (go_simp; rfl)); intro gb205 hg w15 hbox hb; have n0_ := Aside0.mk (Kd.S_below (by (with_reducible repeat (first | apply Kd.S_alloc | apply Kd.S_drewN | apply Kd.S_drew)); exact HO_3.out) hb); have n1_ := Aside0.mk (Kd.R_below (Kd.R_elderB (by (with_reducible repeat (first | apply Kd.R_alloc | apply Kd.R_drewN | apply Kd.R_drew)); exact HO_9.out) gb205 (Nat.le_of_eq hg.symm)) hb); have n2_ := Aside0.mk (below_step (by repeat (first | (with_reducible first | exact HB.out | apply below_alloc | apply pw_below_drewN | apply below_drew1) | exact HB.out)) hb); have n3_ := Aside0.mk (hbox); have n4_ := Aside0.mk ((by rw [hg]; exact (below_size (by repeat (first | (with_reducible first | exact HB.out | apply below_alloc | apply pw_below_drewN | apply below_drew1) | exact HB.out))) : w.heap.size ≤ gb205)); have n5_ := Aside0.mk ((by rw [hg]; exact (below_size (by repeat (first | (with_reducible first | exact HB.out | apply below_alloc | apply pw_below_drewN | apply below_drew1) | exact HB.out))) : w.heap.size ≤ gb205)); clear HO_3; clear HO_9; clear HB; have HO_3 := n0_; have HO_9 := n1_; have HB := n2_; have BK205 := n3_; have GW205 := n4_; have GE205 := n5_; clear n0_ n1_ n2_ n3_ n4_ n5_; clear hb hbox hg; have hcz16_0 : w15.cell? ⟨gb205, 0, none⟩ = some (.string (⟨#[]⟩ : ByteArray)) := (blk_cell BK205.out 0).trans rfl; have hcz16_1 : w15.cell? ⟨gb205, 1, none⟩ = some (.string (⟨#[]⟩ : ByteArray)) := (blk_cell BK205.out 1).trans rfl; have hcz16_2 : w15.cell? ⟨gb205, 2, none⟩ = some (.string (⟨#[]⟩ : ByteArray)) := (blk_cell BK205.out 2).trans rfl; have hfz16_0 := blk_frozen BK205.out 0; have hfz16_1 := blk_frozen BK205.out 1; have hfz16_2 := blk_frozen BK205.out 2; obtain ⟨Ao17, co17, eo17⟩ := Kd.S_slice HO_3.out; subst eo17))
                   have n0_ : Aside0 (Kd.S k52 52 (((w15.setCell ⟨gb205, 0, none⟩ (.string ((rd_T29 t201 x11_1).f0))).setCell ⟨gb205, 1, none⟩ (.string ((rd_T29 t201 x11_1).f1))).setCell ⟨gb205, 2, none⟩ (.string ((rd_T29 t201 x11_1).f2))) w.heap.size (fun _ => True) (.slice Ao17 x3_1.length co17) x3_1) := ⟨by (with_reducible repeat (first | apply Kd.S_alloc | apply Kd.S_drewN | apply Kd.S_drew)); exact Kd.S_mono (Kd.S_far (p := ⟨gb205, 2, none⟩) (Kd.S_far (p := ⟨gb205, 1, none⟩) (Kd.S_far (p := ⟨gb205, 0, none⟩) (Kd.S_types HO_3.out BK205.out (by decide)) (fun _ hk => hk.2) (.string ((rd_T29 t201 x11_1).f0))) (fun _ hk => hk.2) (.string ((rd_T29 t201 x11_1).f1))) (fun _ hk => hk.2) (.string ((rd_T29 t201 x11_1).f2))) (fun _ hk => trivial)⟩
                   have n1_ : Aside0 (Kd.R k29 29 (((w15.setCell ⟨gb205, 0, none⟩ (.string ((rd_T29 t201 x11_1).f0))).setCell ⟨gb205, 1, none⟩ (.string ((rd_T29 t201 x11_1).f1))).setCell ⟨gb205, 2, none⟩ (.string ((rd_T29 t201 x11_1).f2))) w.heap.size (fun k_ => k_ ≠ gb205) (.slice (some ad204) t201.length co4) t201) := ⟨by (with_reducible repeat (first | apply Kd.R_alloc | apply Kd.R_drewN | apply Kd.R_drew)); exact Kd.R_mono (Kd.R_far (p := ⟨gb205, 2, none⟩) (Kd.R_far (p := ⟨gb205, 1, none⟩) (Kd.R_far (p := ⟨gb205, 0, none⟩) (Kd.R_mono HO_9.out (fun k_ hk => (⟨hk, hk.2⟩ : _ ∧ k_ ≠ gb205))) (fun _ hk => hk.2) (.string ((rd_T29 t201 x11_1).f0))) (fun _ hk => hk.2) (.string ((rd_T29 t201 x11_1).f1))) (fun _ hk => hk.2) (.string ((rd_T29 t201 x11_1).f2))) (fun _ hk => hk.1.2)⟩
                   have n2_ : Aside0 ((((w15.setCell ⟨gb205, 0, none⟩ (.string ((rd_T29 t201 x11_1).f0))).setCell ⟨gb205, 1, none⟩ (.string ((rd_T29 t201 x11_1).f1))).setCell ⟨gb205, 2, none⟩ (.string ((rd_T29 t201 x11_1).f2))).heap[gb205]? = some (.cells #[.string ((rd_T29 t201 x11_1).f0), .string ((rd_T29 t201 x11_1).f1), .string ((rd_T29 t201 x11_1).f2)] 29 (0, 0))) := ⟨by (with_reducible repeat (first | refine blk_drewN ?_ _ | refine blk_drew ?_ | refine blk_alloc ?_ _)); refine blk_put (cs := #[.string ((rd_T29 t201 x11_1).f0), .string ((rd_T29 t201 x11_1).f1), .string (⟨#[]⟩ : ByteArray)]) ?_ 2 _ rfl; (with_reducible repeat (first | refine blk_drewN ?_ _ | refine blk_drew ?_ | refine blk_alloc ?_ _)); refine blk_put (cs := #[.string ((rd_T29 t201 x11_1).f0), .string (⟨#[]⟩ : ByteArray), .string (⟨#[]⟩ : ByteArray)]) ?_ 1 _ rfl; (with_reducible repeat (first | refine blk_drewN ?_ _ | refine blk_drew ?_ | refine blk_alloc ?_ _)); refine blk_put (cs := #[.string (⟨#[]⟩ : ByteArray), .string (⟨#[]⟩ : ByteArray), .string (⟨#[]⟩ : ByteArray)]) ?_ 0 _ rfl; (with_reducible repeat (first | refine blk_drewN ?_ _ | refine blk_drew ?_ | refine blk_alloc ?_ _)); exact BK205.out⟩
                   have n3_ : Aside0 (Below w.heap.size w (((w15.setCell ⟨gb205, 0, none⟩ (.string ((rd_T29 t201 x11_1).f0))).setCell ⟨gb205, 1, none⟩ (.string ((rd_T29 t201 x11_1).f1))).setCell ⟨gb205, 2, none⟩ (.string ((rd_T29 t201 x11_1).f2)))) := ⟨by repeat (first | (with_reducible first | exact HB.out | apply below_alloc | apply pw_below_drewN | apply below_drew1 | refine below_set ?_ GE205.out) | exact HB.out)⟩
                   (try clear HO_3)
                   (try clear HO_9)
                   (try clear BK205)
                   (try clear HB)
                   generalize (((w15.setCell ⟨gb205, 0, none⟩ (.string ((rd_T29 t201 x11_1).f0))).setCell ⟨gb205, 1, none⟩ (.string ((rd_T29 t201 x11_1).f1))).setCell ⟨gb205, 2, none⟩ (.string ((rd_T29 t201 x11_1).f2))) = w18 at n0_ n1_ n2_ n3_ ⊢
                   have HO_3 := n0_
                   have HO_9 := n1_
                   have BK205 := n2_
                   have HB := n3_
                   clear n0_ n1_ n2_ n3_
                   have n0_ := Aside0.mk (Kd.S_drew HO_3.out)
                   have n1_ := Aside0.mk (Kd.R_drew HO_9.out)
                   have n2_ := Aside0.mk (blk_drew BK205.out)
                   have n3_ := Aside0.mk (below_drew1 HB.out)
                   clear HO_3
                   clear HO_9
                   clear BK205
                   clear HB
                   have HO_3 := n0_
                   have HO_9 := n1_
                   have BK205 := n2_
                   have HB := n3_
                   clear n0_ n1_ n2_ n3_
                   refine start_ (n := 13) (S := fun w' => True) (ds := []) #[false, false, false, false, false, false, false, false, false, false, false, false, false] (by kernel_rfl) rfl rfl trivial (fun hHeld => ?_); refine with_tabW laws_sectionsOf.tab6 laws_sectionsOf.bits6 (fun HT_ HW_ => ?_)
                   generalize w18.drew = w19 at HO_3 HO_9 BK205 HB hHeld ⊢
                   refine pure_ (i := 0) (N := some 17) (v := ?_) (a' := ?_) #[true, false, false, false, false, false, false, false, false, false, false, false, false] rfl rfl (any_of HT_.out (by kernel_rfl)) (fun _ _ _ h => h) (Or.inl ⟨by rfl, ?_⟩) ?_ ?_
                   rotate_left
                   · intro w'
                     go_simp
                     with_reducible rfl
                   rotate_left
                   · simp only [Act.put, List.setIfInBounds_toArray, List.set_cons_zero, List.set_cons_succ, i64_w, i32_w]
                     rfl
                   refine pure_ (i := 1) (N := some 18) (v := ?_) (a' := ?_) #[true, true, false, false, false, false, false, false, false, false, false, false, false] rfl rfl (any_of HT_.out (by kernel_rfl)) (fun _ _ _ h => h) (Or.inl ⟨by rfl, ?_⟩) ?_ ?_
                   rotate_left
                   · intro w'
                     go_simp
                     with_reducible rfl
                   rotate_left
                   · simp only [Act.put, List.setIfInBounds_toArray, List.set_cons_zero, List.set_cons_succ, i64_w, i32_w]
                     rfl
                   refine pure_ (i := 2) (N := some 19) (v := ?_) (a' := ?_) #[true, true, true, false, false, false, false, false, false, false, false, false, false] rfl rfl (any_of HT_.out (by kernel_rfl)) (fun _ _ _ h => h) (Or.inl ⟨by rfl, ?_⟩) ?_ ?_
                   rotate_left
                   · intro w'
                     go_simp
                     with_reducible rfl
                   rotate_left
                   · simp only [Act.put, List.setIfInBounds_toArray, List.set_cons_zero, List.set_cons_succ, i64_w, i32_w]
                     rfl
                   refine pure_ (i := 3) (N := some 20) (v := undef) (a' := ?_) #[true, true, true, true, false, false, false, false, false, false, false, false, false] rfl rfl (any_of HT_.out (by kernel_rfl)) (fun _ _ _ h => h) (Or.inr ⟨by rfl, rfl⟩) ?_ ?_
                   rotate_left
                   · simp only [Act.put, List.setIfInBounds_toArray, List.set_cons_zero, List.set_cons_succ, i64_w, i32_w]
                     rfl
                   refine pure_ (i := 4) (N := some 21) (v := undef) (a' := ?_) #[true, true, true, true, true, false, false, false, false, false, false, false, false] rfl rfl (any_of HT_.out (by kernel_rfl)) (fun _ _ _ h => h) (Or.inr ⟨by rfl, rfl⟩) ?_ ?_
                   rotate_left
                   · simp only [Act.put, List.setIfInBounds_toArray, List.set_cons_zero, List.set_cons_succ, i64_w, i32_w]
                     rfl
                   refine pure_ (i := 5) (N := some 22) (v := undef) (a' := ?_) #[true, true, true, true, true, true, false, false, false, false, false, false, false] rfl rfl (any_of HT_.out (by kernel_rfl)) (fun _ _ _ h => h) (Or.inr ⟨by rfl, rfl⟩) ?_ ?_
                   rotate_left
                   · simp only [Act.put, List.setIfInBounds_toArray, List.set_cons_zero, List.set_cons_succ, i64_w, i32_w]
                     rfl
                   refine pure_ (i := 6) (N := some 23) (v := undef) (a' := ?_) #[true, true, true, true, true, true, true, false, false, false, false, false, false] rfl rfl (any_of HT_.out (by kernel_rfl)) (fun _ _ _ h => h) (Or.inr ⟨by rfl, rfl⟩) ?_ ?_
                   rotate_left
                   · simp only [Act.put, List.setIfInBounds_toArray, List.set_cons_zero, List.set_cons_succ, i64_w, i32_w]
                     rfl
                   refine pure_ (i := 7) (N := some 24) (v := undef) (a' := ?_) #[true, true, true, true, true, true, true, true, false, false, false, false, false] rfl rfl (any_of HT_.out (by kernel_rfl)) (fun _ _ _ h => h) (Or.inr ⟨by rfl, rfl⟩) ?_ ?_
                   rotate_left
                   · simp only [Act.put, List.setIfInBounds_toArray, List.set_cons_zero, List.set_cons_succ, i64_w, i32_w]
                     rfl
                   refine pure_ (i := 8) (N := some 25) (v := undef) (a' := ?_) #[true, true, true, true, true, true, true, true, true, false, false, false, false] rfl rfl (any_of HT_.out (by kernel_rfl)) (fun _ _ _ h => h) (Or.inr ⟨by rfl, rfl⟩) ?_ ?_
                   rotate_left
                   · simp only [Act.put, List.setIfInBounds_toArray, List.set_cons_zero, List.set_cons_succ, i64_w, i32_w]
                     rfl
                   refine pure_ (i := 9) (N := some 26) (v := undef) (a' := ?_) #[true, true, true, true, true, true, true, true, true, true, false, false, false] rfl rfl (any_of HT_.out (by kernel_rfl)) (fun _ _ _ h => h) (Or.inr ⟨by rfl, rfl⟩) ?_ ?_
                   rotate_left
                   · simp only [Act.put, List.setIfInBounds_toArray, List.set_cons_zero, List.set_cons_succ, i64_w, i32_w]
                     rfl
                   refine pure_ (i := 10) (N := some 27) (v := undef) (a' := ?_) #[true, true, true, true, true, true, true, true, true, true, true, false, false] rfl rfl (any_of HT_.out (by kernel_rfl)) (fun _ _ _ h => h) (Or.inr ⟨by rfl, rfl⟩) ?_ ?_
                   rotate_left
                   · simp only [Act.put, List.setIfInBounds_toArray, List.set_cons_zero, List.set_cons_succ, i64_w, i32_w]
                     rfl
                   refine pure_ (i := 11) (N := some 28) (v := undef) (a' := ?_) #[true, true, true, true, true, true, true, true, true, true, true, true, false] rfl rfl (any_of HT_.out (by kernel_rfl)) (fun _ _ _ h => h) (Or.inr ⟨by rfl, rfl⟩) ?_ ?_
                   rotate_left
                   · simp only [Act.put, List.setIfInBounds_toArray, List.set_cons_zero, List.set_cons_succ, i64_w, i32_w]
                     rfl
                   refine pure_ (i := 12) (N := some 29) (v := ?_) (a' := ?_) #[true, true, true, true, true, true, true, true, true, true, true, true, true] rfl rfl (any_of HT_.out (by kernel_rfl)) (fun _ _ _ h => h) (Or.inl ⟨by rfl, ?_⟩) ?_ ?_
                   rotate_left
                   · intro w'
                     go_simp
                     with_reducible rfl
                   rotate_left
                   · simp only [Act.put, List.setIfInBounds_toArray, List.set_cons_zero, List.set_cons_succ, i64_w, i32_w]
                     rfl
                   refine done_ (done_of HT_.out (by kernel_rfl)) ?_
                   have hcz20_0 : w19.cell? ⟨gb205, 0, none⟩ = some (.string ((rd_T29 t201 x11_1).f0)) := (blk_cell BK205.out 0).trans rfl
                   have hcz20_1 : w19.cell? ⟨gb205, 1, none⟩ = some (.string ((rd_T29 t201 x11_1).f1)) := (blk_cell BK205.out 1).trans rfl
                   have hcz20_2 : w19.cell? ⟨gb205, 2, none⟩ = some (.string ((rd_T29 t201 x11_1).f2)) := (blk_cell BK205.out 2).trans rfl
                   have hfz20_0 := blk_frozen BK205.out 0
                   have hfz20_1 := blk_frozen BK205.out 1
                   have hfz20_2 := blk_frozen BK205.out 2
                   try go_wp2_with (first | ((with_reducible refine gate_builtin (b := .append) (xs := #[.tmp 30, .tmp 34]) rfl ?_); at_builtin; refine Kd.S_append k52 (w0 := w) w.heap.size rfl (.tmp 30) (.tmp 34) 45 52 (.agg #[(.string ⟨#[]⟩), (.slice none 0 0)]) 40 rfl Tryd.underlying45 info52 rfl (by decide) (by omega) (.slice Ao17 x3_1.length co17) x3_1 (⟨(rd_T29 t201 x11_1).f0, ([] : List (S74))⟩ : S52) [.string ((rd_T29 t201 x11_1).f0), .slice none 0 0] (fun _ => True) (fun _ => False) rfl rfl ?aP (fun k_ hk_ => hk_.elim) ?aF ?aO ?aB ?aS ?aL ?_; (case aP => exact k52_mkM _ _ _ (⟨(rd_T29 t201 x11_1).f0, ([] : List (S74))⟩ : S52) (Kd.R_nil _ _ _ _ _)); (case aB => exact (by repeat (first | (with_reducible first | exact HB.out | apply below_alloc | apply pw_below_drewN | apply below_drew1 | refine below_set ?_ GE205.out) | exact HB.out))); (case aF => exact (fun _ _ => trivial)); (case aO => exact (by (with_reducible repeat (first | apply Kd.S_alloc | apply Kd.S_drewN | apply Kd.S_drew)); exact Kd.S_mono HO_3.out (fun k_ hk => ⟨trivial, fun e_ => e_⟩))); (case aS => exact (below_size (by repeat (first | (with_reducible first | exact HB.out | apply below_alloc | apply pw_below_drewN | apply below_drew1 | refine below_set ?_ GE205.out) | exact HB.out)))); (case aL => have := LMc9.out; omega); intro v207 w21 ho hb hg hat; rw [← Ny206.out] at ho; have n0_ := Aside0.mk (Kd.R_over' (by (with_reducible repeat (first | apply Kd.R_alloc | apply Kd.R_drewN | apply Kd.R_drew)); exact HO_9.out) (Kd.S_typed (by (with_reducible repeat (first | apply Kd.S_alloc | apply Kd.S_drewN | apply Kd.S_drew)); exact HO_3.out)) (by decide) hg); have n1_ := Aside0.mk (blk_grown (g := gb205) (o := .cells #[.string ((rd_T29 t201 x11_1).f0), .string ((rd_T29 t201 x11_1).f1), .string ((rd_T29 t201 x11_1).f2)] 29 (0, 0)) (by (with_reducible repeat (first | refine blk_drewN ?_ _ | refine blk_drew ?_ | refine blk_alloc ?_ _)); exact BK205.out) hg (Kd.S_ne HO_3.out BK205.out (by decide))); have n2_ := Aside0.mk (hb); have n3_ := Aside0.mk (ho); clear HO_9; clear BK205; clear HB; clear HO_3; have HO_9 := n0_; have BK205 := n1_; have HB := n2_; have HO208 := n3_; clear n0_ n1_ n2_ n3_; clear ho hb hg hat; obtain ⟨Ao22, co22, eo22⟩ := Kd.S_slice HO208.out; subst eo22))
                   have n0_ := Aside0.mk (Kd.R_drew HO_9.out)
                   have n1_ := Aside0.mk (Kd.S_drew HO208.out)
                   have n2_ := Aside0.mk (blk_drew BK205.out)
                   have n3_ := Aside0.mk (below_drew1 HB.out)
                   clear HO_9
                   clear HO208
                   clear BK205
                   clear HB
                   have HO_9 := n0_
                   have HO208 := n1_
                   have BK205 := n2_
                   have HB := n3_
                   clear n0_ n1_ n2_ n3_
                   have p209 : 0 ≤ ((ji10) : Int) := of_decide_eq_true (by first | (with_reducible assumption) | assumption)
                   have q209 : (ji10) < (y206.length : Int) := of_decide_eq_true (by first | (with_reducible assumption) | assumption)
                   obtain ⟨ad209, A209_1, c209_1, e209, hx209_0, hx209_1, hl209_1, hi209_1⟩ := at_T52 (Kd.S_reads' HO208.out).2.2 (ji10) p209 q209
                   cases e209
                   obtain ⟨ce209, hce209, hMe209, hcc209⟩ := Kd.S_get HO208.out z52 (ji10) p209 (by first | exact q209 | exact of_decide_eq_true (by first | (with_reducible assumption) | assumption) | (have e_ := (Kd.S_reads' HO208.out).1; omega))
                   obtain ⟨ve209_1, rfl, ge209_1⟩ := k52_openM hMe209
                   have hv209_1 := hcc209 1 _ rfl
                   rw [add_field _ _ 1 (by omega)] at hv209_1
                   replace hv209_1 := Option.some.inj (hv209_1.symm.trans hx209_1)
                   rw [hv209_1] at ge209_1
                   have HL209_1 := Aside0.mk (show Kd.R k74 74 _ _ _ _ ((rd_T52 y206 (ji10)).f1) from ge209_1)
                   clear hv209_1 ge209_1
                   have HX209_1 := Aside0.mk hx209_1
                   clear hcc209 hce209
                   have HR209_1 := Aside0.mk hi209_1
                   have HC209_1 := Aside0.mk hl209_1
                   clear hi209_1 hl209_1
                   replace p209 := eq_true p209
                   replace q209 := eq_true q209
                   obtain ⟨go24, co24, eo24, gb24, gl24, cl24, HG24⟩ := Kd.S_form HO208.out (by have h_ : ((ji10) : Int) < ((y206.length : Int) : Int) := of_decide_eq_true (by first | (with_reducible assumption) | assumption); have h2_ : 0 ≤ ((ji10) : Int) := (of_decide_eq_true (by first | (with_reducible assumption) | assumption)); omega)
                   (first | cases eo24 | (injection eo24 with ea_ en_ ec_; (first | subst ea_ | (injection ea_ with ea_; subst ea_)); subst ec_; clear en_))
                   have GB24 := Aside0.mk gb24
                   have GG24 := Aside0.mk HG24
                   clear gb24 gl24 HG24
                   (first | simp only [add_plain] at hx209_0 | skip)
                   (first | simp only [add_plain] at hx209_1 | skip)
                   obtain ⟨oki24, ce24, hcl24, hM24, hcc24, _, _, hH24⟩ := Kd.S_elem HO208.out z52 ((ji10) : Int) (of_decide_eq_true (by first | (with_reducible assumption) | assumption)) (by have h_ : ((ji10) : Int) < ((y206.length : Int) : Int) := of_decide_eq_true (by first | (with_reducible assumption) | assumption); first | exact h_ | (have e_ := (Kd.S_reads' HO208.out).1; omega) | simpa using h_)
                   obtain ⟨ve24_1, rfl, ge24_1⟩ := k52_openM hM24
                   have hv24 := hcc24 1 _ rfl
                   have hX24 := HX209_1.out
                   (try simp only [add_plain] at hX24)
                   (try simp only [Nat.add_zero] at hv24)
                   replace hv24 := Option.some.inj (hv24.symm.trans hX24)
                   subst hv24
                   clear hX24 hcc24 hcl24
                   have UU24 := Aside0.mk (show Kd.R k74 74 _ w.heap.size oki24 (.slice A209_1 ((rd_T52 y206 (ji10)).f1).length c209_1) ((rd_T52 y206 (ji10)).f1) from ge24_1)
                   have HH24 := Aside0.mk hH24
                   have HN24 := Aside0.mk (Kd.S_reads' HO208.out).1
                   clear hH24 ge24_1
                   refine start_ (n := 17) (S := fun w' => w'.cell? ⟨gb205, 0, none⟩ = some (.string ((rd_T29 t201 x11_1).f0)) ∧ w'.cell? ⟨gb205, 1, none⟩ = some (.string ((rd_T29 t201 x11_1).f1)) ∧ w'.cell? ⟨gb205, 2, none⟩ = some (.string ((rd_T29 t201 x11_1).f2)) ∧ w'.cell? ⟨go24, (((ji10)).toNat * 2), none⟩ = some (.string ((rd_T52 y206 (ji10)).f0)) ∧ w'.cell? ⟨go24, (((ji10)).toNat * 2) + 1, none⟩ = some (.slice A209_1 ((rd_T52 y206 (ji10)).f1).length c209_1)) (ds := [16]) #[false, false, false, false, false, false, false, false, false, false, false, false, false, false, false, false, false] (by kernel_rfl) rfl rfl ⟨(blk_cell BK205.out 0).trans rfl, (blk_cell BK205.out 1).trans rfl, (blk_cell BK205.out 2).trans rfl, hx209_0, hx209_1⟩ (fun hHeld => ?_); refine with_tabW laws_sectionsOf.tab9 laws_sectionsOf.bits9 (fun HT_ HW_ => ?_)
                   generalize w21.drew = w23 at HO_9 HO208 BK205 HB GG24 HH24 HL209_1 HR209_1 HX209_1 UU24 hx209_0 hx209_1 hHeld ⊢
                   refine pure_ (i := 0) (N := some 39) (v := ?_) (a' := ?_) #[true, false, false, false, false, false, false, false, false, false, false, false, false, false, false, false, false] rfl rfl (any_of HT_.out (by kernel_rfl)) (fun _ _ _ h => h) (Or.inl ⟨by rfl, ?_⟩) ?_ ?_
                   rotate_left
                   · intro w'
                     go_simp
                     with_reducible rfl
                   rotate_left
                   · simp only [Act.put, List.setIfInBounds_toArray, List.set_cons_zero, List.set_cons_succ, i64_w, i32_w]
                     rfl
                   refine pure_ (i := 1) (N := some 40) (v := ?_) (a' := ?_) #[true, true, false, false, false, false, false, false, false, false, false, false, false, false, false, false, false] rfl rfl (any_of HT_.out (by kernel_rfl)) (fun _ _ _ h => h) (Or.inl ⟨by rfl, ?_⟩) ?_ ?_
                   rotate_left
                   · intro w'
                     go_simp
                     with_reducible rfl
                   rotate_left
                   · simp only [Act.put, List.setIfInBounds_toArray, List.set_cons_zero, List.set_cons_succ, i64_w, i32_w]
                     rfl
                   refine pure_ (i := 2) (N := some 41) (v := ?_) (a' := ?_) #[true, true, true, false, false, false, false, false, false, false, false, false, false, false, false, false, false] rfl rfl (any_of HT_.out (by kernel_rfl)) (fun _ _ _ h => h) (Or.inl ⟨by rfl, ?_⟩) ?_ ?_
                   rotate_left
                   · intro w'
                     go_simp
                     with_reducible rfl
                   rotate_left
                   · simp only [Act.put, List.setIfInBounds_toArray, List.set_cons_zero, List.set_cons_succ, i64_w, i32_w]
                     rfl
                   refine pure_ (i := 3) (N := some 42) (v := ?_) (a' := ?_) #[true, true, true, true, false, false, false, false, false, false, false, false, false, false, false, false, false] rfl rfl (any_of HT_.out (by kernel_rfl)) (fun _ _ _ h => h) (Or.inl ⟨by rfl, ?_⟩) ?_ ?_
                   rotate_left
                   · intro w'
                     go_simp
                     with_reducible rfl
                   rotate_left
                   · simp only [Act.put, List.setIfInBounds_toArray, List.set_cons_zero, List.set_cons_succ, i64_w, i32_w]
                     rfl
                   refine pure_ (i := 4) (N := some 43) (v := ?_) (a' := ?_) #[true, true, true, true, true, false, false, false, false, false, false, false, false, false, false, false, false] rfl rfl (any_of HT_.out (by kernel_rfl)) (fun _ _ _ h => h) (Or.inl ⟨by rfl, ?_⟩) ?_ ?_
                   rotate_left
                   · intro w'
                     go_simp
                     with_reducible rfl
                   rotate_left
                   · simp only [Act.put, List.setIfInBounds_toArray, List.set_cons_zero, List.set_cons_succ, i64_w, i32_w]
                     rfl
                   refine pure_ (i := 5) (N := some 44) (v := ?_) (a' := ?_) #[true, true, true, true, true, true, false, false, false, false, false, false, false, false, false, false, false] rfl rfl (any_of HT_.out (by kernel_rfl)) (fun _ _ _ h => h) (Or.inl ⟨by rfl, ?_⟩) ?_ ?_
                   rotate_left
                   · intro w'
                     go_simp
                     with_reducible rfl
                   rotate_left
                   · simp only [Act.put, List.setIfInBounds_toArray, List.set_cons_zero, List.set_cons_succ, i64_w, i32_w]
                     rfl
                   refine pure_ (i := 7) (N := some 46) (v := ?_) (a' := ?_) #[true, true, true, true, true, true, false, true, false, false, false, false, false, false, false, false, false] rfl rfl (any_of HT_.out (by kernel_rfl)) (fun _ _ _ h => h) (Or.inl ⟨by rfl, ?_⟩) ?_ ?_
                   rotate_left
                   · intro w'
                     go_simp
                     with_reducible rfl
                   rotate_left
                   · simp only [Act.put, List.setIfInBounds_toArray, List.set_cons_zero, List.set_cons_succ, i64_w, i32_w]
                     rfl
                   refine pure_ (i := 9) (N := some 48) (v := ?_) (a' := ?_) #[true, true, true, true, true, true, false, true, false, true, false, false, false, false, false, false, false] rfl rfl (any_of HT_.out (by kernel_rfl)) (fun _ _ _ h => h) (Or.inl ⟨by rfl, ?_⟩) ?_ ?_
                   rotate_left
                   · intro w'
                     go_simp
                     with_reducible rfl
                   rotate_left
                   · simp only [Act.put, List.setIfInBounds_toArray, List.set_cons_zero, List.set_cons_succ, i64_w, i32_w]
                     rfl
                   refine take_ (i := 6) (N := some 45) (v := ?_) (a' := ?_) #[true, true, true, true, true, true, true, true, false, true, false, false, false, false, false, false, false] rfl rfl (take_ofW HT_.out HW_.out (by kernel_rfl)) (fun _ _ _ h => h) (Or.inl ⟨by rfl, ?_⟩) hHeld ?_ ?_
                   rotate_left
                   · rintro w' ⟨s0, s1, s2, s3, s4⟩
                     go_simp
                     with_reducible rfl
                   rotate_left
                   · simp only [Act.put, List.setIfInBounds_toArray, List.set_cons_zero, List.set_cons_succ, i64_w, i32_w]
                     rfl
                   refine take_ (i := 8) (N := some 47) (v := ?_) (a' := ?_) #[true, true, true, true, true, true, true, true, true, true, false, false, false, false, false, false, false] rfl rfl (take_ofW HT_.out HW_.out (by kernel_rfl)) (fun _ _ _ h => h) (Or.inl ⟨by rfl, ?_⟩) hHeld ?_ ?_
                   rotate_left
                   · rintro w' ⟨s0, s1, s2, s3, s4⟩
                     go_simp
                     with_reducible rfl
                   rotate_left
                   · simp only [Act.put, List.setIfInBounds_toArray, List.set_cons_zero, List.set_cons_succ, i64_w, i32_w]
                     rfl
                   refine take_ (i := 10) (N := some 49) (v := ?_) (a' := ?_) #[true, true, true, true, true, true, true, true, true, true, true, false, false, false, false, false, false] rfl rfl (take_ofW HT_.out HW_.out (by kernel_rfl)) (fun _ _ _ h => h) (Or.inl ⟨by rfl, ?_⟩) hHeld ?_ ?_
                   rotate_left
                   · rintro w' ⟨s0, s1, s2, s3, s4⟩
                     go_simp
                     with_reducible rfl
                   rotate_left
                   · simp only [Act.put, List.setIfInBounds_toArray, List.set_cons_zero, List.set_cons_succ, i64_w, i32_w]
                     rfl
                   refine pure_ (i := 11) (N := some 50) (v := ?_) (a' := ?_) #[true, true, true, true, true, true, true, true, true, true, true, true, false, false, false, false, false] rfl rfl (any_of HT_.out (by kernel_rfl)) (fun _ _ _ h => h) (Or.inl ⟨by rfl, ?_⟩) ?_ ?_
                   rotate_left
                   · intro w'
                     go_simp
                     with_reducible rfl
                   rotate_left
                   · simp only [Act.put, List.setIfInBounds_toArray, List.set_cons_zero, List.set_cons_succ, i64_w, i32_w]
                     rfl
                   refine one_ (i := 12) (N := some 51) #[true, true, true, true, true, true, true, true, true, true, true, true, true, false, false, false, false] rfl rfl (one_of HT_.out (by kernel_rfl)) (by decide) (fun K hK => ?_)
                   refine value_ (w1 := ?_) (v := ?_) (by rfl) rfl ?_ ?_
                   rotate_left 2
                   · go_simp
                     constructor
                     · rfl
                     · rfl
                   refine hK.out _ _ ⟨(blk_cell (blk_alloc BK205.out _) 0).trans rfl, (blk_cell (blk_alloc BK205.out _) 1).trans rfl, (blk_cell (blk_alloc BK205.out _) 2).trans rfl, (World.cell?_alloc_lt _ _ _ (World.block_lt_of_cell? _ _ (hHeld.2.2.2.1))).trans (hHeld.2.2.2.1), (World.cell?_alloc_lt _ _ _ (World.block_lt_of_cell? _ _ (hHeld.2.2.2.2))).trans (hHeld.2.2.2.2)⟩ (fun hHeld => ?_)
                   clear hK K
                   refine norm_ (a' := ?_) ?_ ?_
                   rotate_left
                   · show Act.put _ (some 51) _ = _
                     simp only [Act.put, List.setIfInBounds_toArray, List.set_cons_zero, List.set_cons_succ, i64_w, i32_w]
                     rfl
                   refine one_ (i := 13) (N := some 52) #[true, true, true, true, true, true, true, true, true, true, true, true, true, true, false, false, false] rfl rfl (one_of HT_.out (by kernel_rfl)) (by decide) (fun K hK => ?_)
                   refine Kd.R_append_step k74 (w0 := w) w.heap.size (by rfl) (.tmp 45) (.tmp 51) 50 74 (.agg #[(.string ⟨#[]⟩), (.string ⟨#[]⟩)]) 32 rfl Tryd.underlying50 info74 rfl (by decide) (by omega) (.slice A209_1 ((rd_T52 y206 (ji10)).f1).length c209_1) ((rd_T52 y206 (ji10)).f1) (⟨(rd_T29 t201 x11_1).f1, (rd_T29 t201 x11_1).f2⟩ : S74) [.string ((rd_T29 t201 x11_1).f1), .string ((rd_T29 t201 x11_1).f2)] (fun k_ => oki24 k_ ∨ ((fun _ => True)) k_ ∧ w23.heap.size ≤ k_) (fun _ => False) rfl rfl ?aP (fun _ hk => hk.elim) ?aF ?aO ?aB ?aS ?aL ?_
                   (case aP => exact k74_mkM _ _ _ (⟨(rd_T29 t201 x11_1).f1, (rd_T29 t201 x11_1).f2⟩ : S74))
                   (case aB => exact (by repeat (first | (with_reducible first | exact HB.out | apply below_alloc | apply pw_below_drewN | apply below_drew1 | refine below_set ?_ GE205.out) | exact HB.out)))
                   (case aF => exact (fun k_ hk => .inr ⟨trivial, hk⟩))
                   (case aO => exact (by (with_reducible repeat (first | apply Kd.R_alloc | apply Kd.R_drewN | apply Kd.R_drew)); exact Kd.R_mono UU24.out (fun _ hk => .inl hk)))
                   (case aS => exact (below_size (by repeat (first | (with_reducible first | exact HB.out | apply below_alloc | apply pw_below_drewN | apply below_drew1 | refine below_set ?_ GE205.out) | exact HB.out))))
                   (case aL => have := LMc13.out; omega)
                   intro v211 w25 ho hb hg hat
                   (first | have HS3_ := cell_grown hg (hHeld.2.2.2.1) (by first | (rw [add_block]; exact (fun e_ => ((HL209_1.out.1 _ e_.symm).2) rfl)) | (show some (Addr.add _ _).block ≠ _; rw [add_block]; exact (fun e_ => ((HL209_1.out.1 _ e_.symm).2) rfl)) | exact (fun e_ => ((HL209_1.out.1 _ e_.symm).2) rfl)) | have HS3_ := cell_grown hg (cell_unalloc (hHeld.2.2.2.1) (by first | (rw [add_block]; exact Kd.S_lt HO208.out _ rfl) | (show (Addr.add _ _).block < _; rw [add_block]; exact Kd.S_lt HO208.out _ rfl) | exact Kd.S_lt HO208.out _ rfl)) (by first | (rw [add_block]; exact (fun e_ => ((HL209_1.out.1 _ e_.symm).2) rfl)) | (show some (Addr.add _ _).block ≠ _; rw [add_block]; exact (fun e_ => ((HL209_1.out.1 _ e_.symm).2) rfl)) | exact (fun e_ => ((HL209_1.out.1 _ e_.symm).2) rfl)))
                   (first | have HS4_ := cell_grown hg (hHeld.2.2.2.2) (by first | (rw [add_block]; exact (fun e_ => ((HL209_1.out.1 _ e_.symm).2) rfl)) | (show some (Addr.add _ _).block ≠ _; rw [add_block]; exact (fun e_ => ((HL209_1.out.1 _ e_.symm).2) rfl)) | exact (fun e_ => ((HL209_1.out.1 _ e_.symm).2) rfl)) | have HS4_ := cell_grown hg (cell_unalloc (hHeld.2.2.2.2) (by first | (rw [add_block]; exact Kd.S_lt HO208.out _ rfl) | (show (Addr.add _ _).block < _; rw [add_block]; exact Kd.S_lt HO208.out _ rfl) | exact Kd.S_lt HO208.out _ rfl)) (by first | (rw [add_block]; exact (fun e_ => ((HL209_1.out.1 _ e_.symm).2) rfl)) | (show some (Addr.add _ _).block ≠ _; rw [add_block]; exact (fun e_ => ((HL209_1.out.1 _ e_.symm).2) rfl)) | exact (fun e_ => ((HL209_1.out.1 _ e_.symm).2) rfl)))
                   rw [← Ny210.out] at ho
                   have n0_ := Aside0.mk (Kd.R_over' (v := (.slice A209_1 ((rd_T52 y206 (ji10)).f1).length c209_1)) (by (with_reducible repeat (first | apply Kd.R_alloc | apply Kd.R_drewN | apply Kd.R_drew)); exact HO_9.out) (Kd.R_typed HL209_1.out) (by decide) hg)
                   have n1_ := Aside0.mk (blk_grown (g := gb205) (o := .cells #[.string ((rd_T29 t201 x11_1).f0), .string ((rd_T29 t201 x11_1).f1), .string ((rd_T29 t201 x11_1).f2)] 29 (0, 0)) (by (with_reducible repeat (first | refine blk_drewN ?_ _ | refine blk_drew ?_ | refine blk_alloc ?_ _)); exact BK205.out) hg (Kd.R_ne HL209_1.out BK205.out (by decide)))
                   have n2_ := Aside0.mk (hb)
                   have n3_ := Aside0.mk (Kd.H_grown (Kd.H_widen (by repeat (first | exact HH24.out | refine Kd.H_alloc ?_ _ | refine Kd.H_drewN ?_ _ | refine Kd.H_drew ?_))) hg (fun k_ e_ => .inl (UU24.out.1 k_ e_)))
                   have n4_ := Aside0.mk (ho)
                   clear HO_9
                   clear BK205
                   clear HB
                   clear HH24
                   clear HO208
                   clear UU24
                   clear HL209_1
                   have HO_9 := n0_
                   have BK205 := n1_
                   have HB := n2_
                   have HH24 := n3_
                   have HO212 := n4_
                   clear n0_ n1_ n2_ n3_ n4_
                   clear ho hb hg hat
                   have p14 : 0 ≤ ((ji10) : Int) := of_decide_eq_true (by first | (with_reducible assumption) | assumption)
                   have q14 : ((ji10) : Int) < ((y206.length : Int) : Int) := of_decide_eq_true (by first | (with_reducible assumption) | assumption)
                   replace p14 := eq_true p14
                   replace q14 := eq_true q14
                   obtain ⟨Ao28, co28, eo28⟩ := Kd.R_slice HO212.out
                   (first | subst eo28 | (injection eo28 with f1_ f2_ f3_; have f4_ := f1_.symm; have f5_ := f3_.symm; clear f1_ f2_ f3_; subst f4_; subst f5_))
                   obtain ⟨_, _, hraw26, _, _, hcc26, _⟩ := Kd.H_raw HH24.out (of_decide_eq_true (by first | (with_reducible assumption) | assumption)) (by have h_ : ((ji10) : Int) < ((y206.length : Int) : Int) := of_decide_eq_true (by first | (with_reducible assumption) | assumption); first | exact h_ | (have e_ := (HN24.out); omega) | simpa using h_)
                   obtain ⟨_, hfr26⟩ := Kd.H_at HH24.out (of_decide_eq_true (by first | (with_reducible assumption) | assumption)) (by have h_ : ((ji10) : Int) < ((y206.length : Int) : Int) := of_decide_eq_true (by first | (with_reducible assumption) | assumption); first | exact h_ | (have e_ := (HN24.out); omega) | simpa using h_)
                   have hx26_0 := hcc26 1 _ rfl
                   have hf26_0 := hfr26 1
                   (try rw [show (k52).sz = 2 from rfl] at hx26_0)
                   (try rw [show (k52).sz = 2 from rfl] at hf26_0)
                   have HP26 := Kd.S_seg0 HH24.out (of_decide_eq_true (by first | (with_reducible assumption) | assumption)) (by have h_ : ((ji10) : Int) < ((y206.length : Int) : Int) := of_decide_eq_true (by first | (with_reducible assumption) | assumption); first | exact h_ | (have e_ := (HN24.out); omega) | simpa using h_) (seg := [.slice Ao28 y210.length co28]) (j := 1) (show 2 ≤ 2 from by decide) (x' := (⟨(rd_T52 y206 (ji10)).f0, y210⟩ : S52)) (k52_mkM _ _ _ (⟨(rd_T52 y206 (ji10)).f0, y210⟩ : S52) HO212.out) (fun _ hk => hk)
                   clear hcc26 hfr26
                   have HNB205_go24 := Aside0.mk (show gb205 ≠ go24 from by have h_ := Kd.R_ne hraw26 BK205.out (by decide); intro e_; exact h_ (by rw [e_]; rfl))
                   have HS26 := HP26.1
                   rw [← Ny213.out] at HS26
                   have HQ26 := Aside0.mk HS26
                   obtain ⟨_, hgg26⟩ := Kd.R_typed hraw26 go24 rfl
                   have GG26_ := Aside0.mk hgg26
                   clear HP26 HS26 hgg26
                   refine hK.out _ _ ⟨(blk_cell BK205.out 0).trans rfl, (blk_cell BK205.out 1).trans rfl, (blk_cell BK205.out 2).trans rfl, HS3_, HS4_⟩ (fun hHeld => ?_)
                   clear hK K
                   refine norm_ (a' := ?_) ?_ ?_
                   rotate_left
                   · show Act.put _ (some 52) _ = _
                     simp only [Act.put, List.setIfInBounds_toArray, List.set_cons_zero, List.set_cons_succ, i64_w, i32_w]
                     rfl
                   refine pure_ (i := 14) (N := some 53) (v := ?_) (a' := ?_) #[true, true, true, true, true, true, true, true, true, true, true, true, true, true, true, false, false] rfl rfl (any_of HT_.out (by kernel_rfl)) (fun _ _ _ h => h) (Or.inl ⟨by rfl, ?_⟩) ?_ ?_
                   rotate_left
                   · intro w'
                     go_simp
                     with_reducible rfl
                   rotate_left
                   · simp only [Act.put, List.setIfInBounds_toArray, List.set_cons_zero, List.set_cons_succ, i64_w, i32_w]
                     rfl
                   refine pure_ (i := 15) (N := some 54) (v := ?_) (a' := ?_) #[true, true, true, true, true, true, true, true, true, true, true, true, true, true, true, true, false] rfl rfl (any_of HT_.out (by kernel_rfl)) (fun _ _ _ h => h) (Or.inl ⟨by rfl, ?_⟩) ?_ ?_
                   rotate_left
                   · intro w'
                     go_simp
                     with_reducible rfl
                   rotate_left
                   · simp only [Act.put, List.setIfInBounds_toArray, List.set_cons_zero, List.set_cons_succ, i64_w, i32_w]
                     rfl
                   refine last_ (i := 16) (N := none) #[true, true, true, true, true, true, true, true, true, true, true, true, true, true, true, true, true] rfl rfl (one_of HT_.out (by kernel_rfl)) (by decide) (fun K hK => ?_)
                   refine skip_ (w1 := ?_) (by rfl) rfl ?_ ?_
                   rotate_left
                   · go_simp
                     rfl
                   refine hK.out _ _ ?_
                   clear hK K
                   refine done_ (done_of HT_.out (by kernel_rfl)) ?_
                   try go_wp2
                   go_roundg k1
                   case measure => have := HK1.out; omega
                   case rel => exact ⟨(y213), (wrap64 (x11_1 + 1)), (by first | rfl | (simp; done) | (simp [*]; done)), H', ⟨by have := HK1.out; omega⟩, ⟨by (with_reducible repeat (first | apply Kd.S_alloc | apply Kd.S_drewN | apply Kd.S_drew)); exact HQ26.out⟩, ⟨by (with_reducible repeat (first | apply Kd.R_alloc | apply Kd.R_drewN | apply Kd.R_drew)); exact Kd.R_mono (Kd.R_far (p := ⟨go24, ((ji10) : Int).toNat * 2 + 1, none⟩) (Kd.R_types HO_9.out GG26_.out (by decide)) (fun _ hk => hk.2) (.slice Ao28 y210.length co28)) (fun _ hk => trivial)⟩, ⟨by repeat (first | (with_reducible first | exact HB.out | apply below_alloc | apply pw_below_drewN | apply below_drew1 | refine below_set ?_ GB24.out | refine below_set ?_ GE205.out) | exact HB.out)⟩⟩
                 · rw [if_neg c13] at H
                   exact absurd H (by simp)
               · rw [if_neg c12] at H
                 exact absurd H (by simp)
             · rw [if_neg c11] at H
               exact absurd H (by simp)
           · rw [if_neg c9] at H
             exact absurd H (by simp)
         · rw [if_neg c8] at H
           have c8b0 : ((x3_1.length : Int) == 0) = false := beq_eq_false_iff_ne.mpr c8
           have c8b1 : ((x3_1.length : Int) != 0) = true := bne_iff_ne.mpr c8
           have c8b2 : ¬ (x3_1 = []) := fun h_ => c8 (by rw [h_]; rfl)
           obtain ⟨ji29, hji29⟩ : ∃ j_ : Int, (wrap64 ((x3_1.length : Int) - 1)) = j_ := ⟨_, rfl⟩
           replace H : (if 0 ≤ (ji29) then (if (ji29) < (x3_1.length : Int) then (if ((rd_T52 x3_1 (ji29)).f0).toList = ((rd_T29 t201 x11_1).f0).toList then (if ((rd_T52 x3_1 (ji29)).f1).length < 4398046511104 then (laws_sectionsOf.l0 k1 (x3_1.set ((ji29) : Int).toNat (⟨(rd_T52 x3_1 (ji29)).f0, (((rd_T52 x3_1 (ji29)).f1) ++ [(⟨(rd_T29 t201 x11_1).f1, (rd_T29 t201 x11_1).f2⟩ : S74)])⟩ : S52)) t201 (t201.length : Int) (wrap64 (x11_1 + 1))) else (none)) else (if x3_1.length < 3518437208883 then ((some (x3_1 ++ [(⟨(rd_T29 t201 x11_1).f0, ([] : List (S74))⟩ : S52)] : List (S52))).bind fun y220 => (if 0 ≤ (wrap64 ((y220.length : Int) - 1)) then (if (wrap64 ((y220.length : Int) - 1)) < (y220.length : Int) then (if ((rd_T52 y220 (wrap64 ((y220.length : Int) - 1))).f1).length < 4398046511104 then (laws_sectionsOf.l0 k1 (y220.set ((wrap64 ((y220.length : Int) - 1)) : Int).toNat (⟨(rd_T52 y220 (wrap64 ((y220.length : Int) - 1))).f0, (((rd_T52 y220 (wrap64 ((y220.length : Int) - 1))).f1) ++ [(⟨(rd_T29 t201 x11_1).f1, (rd_T29 t201 x11_1).f2⟩ : S74)])⟩ : S52)) t201 (t201.length : Int) (wrap64 (x11_1 + 1))) else (none)) else (none)) else (none))) else (none))) else (none)) else (none)) = some r := by first | (rw [hji29] at H; exact H) | (simp only [hji29] at H ⊢; exact H)
           have hji29w : (IntKind.i64.wrap ((x3_1.length : Int) - 1)) = ji29 := (i64_w _).trans hji29
           by_cases c30 : 0 ≤ (ji29)
           · rw [if_pos c30] at H
             have c30b0 : decide (0 ≤ (ji29)) = true := decide_eq_true c30
             clear c30
             by_cases c31 : (ji29) < (x3_1.length : Int)
             · rw [if_pos c31] at H
               have c31b0 : decide ((ji29) < (x3_1.length : Int)) = true := decide_eq_true c31
               clear c31
               by_cases c32 : ((rd_T52 x3_1 (ji29)).f0).toList = ((rd_T29 t201 x11_1).f0).toList
               · rw [if_pos c32] at H
                 have c32b0 : (((rd_T52 x3_1 (ji29)).f0).toList == ((rd_T29 t201 x11_1).f0).toList) = true := beq_iff_eq.mpr c32
                 have c32b1 : (((rd_T52 x3_1 (ji29)).f0).toList != ((rd_T29 t201 x11_1).f0).toList) = false := bne_eq_false_iff_eq.mpr c32
                 clear c32
                 by_cases c33 : ((rd_T52 x3_1 (ji29)).f1).length < 4398046511104
                 · rw [if_pos c33] at H
                   have LMc33 := Aside0.mk c33
                   clear c33
                   obtain ⟨y216, hy216⟩ : ∃ y_ : List (S74), y_ = (((rd_T52 x3_1 (ji29)).f1) ++ [(⟨(rd_T29 t201 x11_1).f1, (rd_T29 t201 x11_1).f2⟩ : S74)]) := ⟨_, rfl⟩
                   replace H : (laws_sectionsOf.l0 k1 (x3_1.set ((ji29) : Int).toNat (⟨(rd_T52 x3_1 (ji29)).f0, y216⟩ : S52)) t201 (t201.length : Int) (wrap64 (x11_1 + 1))) = some r := by first | (rw [hy216]; with_reducible exact H) | (have H2_ := (Option.bind_some _ _).symm.trans H; rw [hy216]; with_reducible exact H2_) | (have H2_ := (Option.bind_some _ _).symm.trans H; with_reducible exact H2_) | with_reducible exact H | (rw [hy216]; exact H) | exact H
                   have Ny216 := Aside0.mk hy216
                   clear hy216
                   obtain ⟨y219, hy219⟩ : ∃ y_ : List (S52), y_ = (x3_1.set ((ji29) : Int).toNat (⟨(rd_T52 x3_1 (ji29)).f0, y216⟩ : S52)) := ⟨_, rfl⟩
                   replace H : (laws_sectionsOf.l0 k1 y219 t201 (t201.length : Int) (wrap64 (x11_1 + 1))) = some r := by first | (rw [hy219]; with_reducible exact H) | (have H2_ := (Option.bind_some _ _).symm.trans H; rw [hy219]; with_reducible exact H2_) | (have H2_ := (Option.bind_some _ _).symm.trans H; with_reducible exact H2_) | with_reducible exact H | (rw [hy219]; exact H) | exact H
                   have Ny219 := Aside0.mk hy219
                   clear hy219
                   have H' := Aside0.mk H
                   clear H
                   have p204 : 0 ≤ (x11_1 : Int) := of_decide_eq_true (by first | (with_reducible assumption) | assumption)
                   have q204 : x11_1 < (t201.length : Int) := of_decide_eq_true (by first | (with_reducible assumption) | assumption)
                   obtain ⟨ad204, e204, hx204_0, hx204_1, hx204_2⟩ := at_T29 (Kd.R_reads' HO_9.out).2.2 x11_1 p204 q204
                   cases e204
                   replace p204 := eq_true p204
                   replace q204 := eq_true q204
                   try go_wp2_with (first | ((with_reducible refine gate_dst (N := 5) rfl ?_); refine box_event ?hg (N := 5) ?hd (cs := #[.string (⟨#[]⟩ : ByteArray), .string (⟨#[]⟩ : ByteArray), .string (⟨#[]⟩ : ByteArray)]) (t := 29) ?hr ?_; (case hd => rfl); (case hg => rfl); (case hr => first | (go_simp; done) | (go_simp; rfl)); intro gb205 hg w35 hbox hb; have n0_ := Aside0.mk (Kd.S_below (by (with_reducible repeat (first | apply Kd.S_alloc | apply Kd.S_drewN | apply Kd.S_drew)); exact HO_3.out) hb); have n1_ := Aside0.mk (Kd.R_below (Kd.R_elderB (by (with_reducible repeat (first | apply Kd.R_alloc | apply Kd.R_drewN | apply Kd.R_drew)); exact HO_9.out) gb205 (Nat.le_of_eq hg.symm)) hb); have n2_ := Aside0.mk (below_step (by repeat (first | (with_reducible first | exact HB.out | apply below_alloc | apply pw_below_drewN | apply below_drew1) | exact HB.out)) hb); have n3_ := Aside0.mk (hbox); have n4_ := Aside0.mk ((by rw [hg]; exact (below_size (by repeat (first | (with_reducible first | exact HB.out | apply below_alloc | apply pw_below_drewN | apply below_drew1) | exact HB.out))) : w.heap.size ≤ gb205)); have n5_ := Aside0.mk ((by rw [hg]; exact (below_size (by repeat (first | (with_reducible first | exact HB.out | apply below_alloc | apply pw_below_drewN | apply below_drew1) | exact HB.out))) : w.heap.size ≤ gb205)); clear HO_3; clear HO_9; clear HB; have HO_3 := n0_; have HO_9 := n1_; have HB := n2_; have BK205 := n3_; have GW205 := n4_; have GE205 := n5_; clear n0_ n1_ n2_ n3_ n4_ n5_; clear hb hbox hg; have hcz36_0 : w35.cell? ⟨gb205, 0, none⟩ = some (.string (⟨#[]⟩ : ByteArray)) := (blk_cell BK205.out 0).trans rfl; have hcz36_1 : w35.cell? ⟨gb205, 1, none⟩ = some (.string (⟨#[]⟩ : ByteArray)) := (blk_cell BK205.out 1).trans rfl; have hcz36_2 : w35.cell? ⟨gb205, 2, none⟩ = some (.string (⟨#[]⟩ : ByteArray)) := (blk_cell BK205.out 2).trans rfl; have hfz36_0 := blk_frozen BK205.out 0; have hfz36_1 := blk_frozen BK205.out 1; have hfz36_2 := blk_frozen BK205.out 2; obtain ⟨Ao37, co37, eo37⟩ := Kd.S_slice HO_3.out; subst eo37))
                   have n0_ : Aside0 (Kd.S k52 52 (((w35.setCell ⟨gb205, 0, none⟩ (.string ((rd_T29 t201 x11_1).f0))).setCell ⟨gb205, 1, none⟩ (.string ((rd_T29 t201 x11_1).f1))).setCell ⟨gb205, 2, none⟩ (.string ((rd_T29 t201 x11_1).f2))) w.heap.size (fun _ => True) (.slice Ao37 x3_1.length co37) x3_1) := ⟨by (with_reducible repeat (first | apply Kd.S_alloc | apply Kd.S_drewN | apply Kd.S_drew)); exact Kd.S_mono (Kd.S_far (p := ⟨gb205, 2, none⟩) (Kd.S_far (p := ⟨gb205, 1, none⟩) (Kd.S_far (p := ⟨gb205, 0, none⟩) (Kd.S_types HO_3.out BK205.out (by decide)) (fun _ hk => hk.2) (.string ((rd_T29 t201 x11_1).f0))) (fun _ hk => hk.2) (.string ((rd_T29 t201 x11_1).f1))) (fun _ hk => hk.2) (.string ((rd_T29 t201 x11_1).f2))) (fun _ hk => trivial)⟩
                   have n1_ : Aside0 (Kd.R k29 29 (((w35.setCell ⟨gb205, 0, none⟩ (.string ((rd_T29 t201 x11_1).f0))).setCell ⟨gb205, 1, none⟩ (.string ((rd_T29 t201 x11_1).f1))).setCell ⟨gb205, 2, none⟩ (.string ((rd_T29 t201 x11_1).f2))) w.heap.size (fun k_ => k_ ≠ gb205) (.slice (some ad204) t201.length co4) t201) := ⟨by (with_reducible repeat (first | apply Kd.R_alloc | apply Kd.R_drewN | apply Kd.R_drew)); exact Kd.R_mono (Kd.R_far (p := ⟨gb205, 2, none⟩) (Kd.R_far (p := ⟨gb205, 1, none⟩) (Kd.R_far (p := ⟨gb205, 0, none⟩) (Kd.R_mono HO_9.out (fun k_ hk => (⟨hk, hk.2⟩ : _ ∧ k_ ≠ gb205))) (fun _ hk => hk.2) (.string ((rd_T29 t201 x11_1).f0))) (fun _ hk => hk.2) (.string ((rd_T29 t201 x11_1).f1))) (fun _ hk => hk.2) (.string ((rd_T29 t201 x11_1).f2))) (fun _ hk => hk.1.2)⟩
                   have n2_ : Aside0 ((((w35.setCell ⟨gb205, 0, none⟩ (.string ((rd_T29 t201 x11_1).f0))).setCell ⟨gb205, 1, none⟩ (.string ((rd_T29 t201 x11_1).f1))).setCell ⟨gb205, 2, none⟩ (.string ((rd_T29 t201 x11_1).f2))).heap[gb205]? = some (.cells #[.string ((rd_T29 t201 x11_1).f0), .string ((rd_T29 t201 x11_1).f1), .string ((rd_T29 t201 x11_1).f2)] 29 (0, 0))) := ⟨by (with_reducible repeat (first | refine blk_drewN ?_ _ | refine blk_drew ?_ | refine blk_alloc ?_ _)); refine blk_put (cs := #[.string ((rd_T29 t201 x11_1).f0), .string ((rd_T29 t201 x11_1).f1), .string (⟨#[]⟩ : ByteArray)]) ?_ 2 _ rfl; (with_reducible repeat (first | refine blk_drewN ?_ _ | refine blk_drew ?_ | refine blk_alloc ?_ _)); refine blk_put (cs := #[.string ((rd_T29 t201 x11_1).f0), .string (⟨#[]⟩ : ByteArray), .string (⟨#[]⟩ : ByteArray)]) ?_ 1 _ rfl; (with_reducible repeat (first | refine blk_drewN ?_ _ | refine blk_drew ?_ | refine blk_alloc ?_ _)); refine blk_put (cs := #[.string (⟨#[]⟩ : ByteArray), .string (⟨#[]⟩ : ByteArray), .string (⟨#[]⟩ : ByteArray)]) ?_ 0 _ rfl; (with_reducible repeat (first | refine blk_drewN ?_ _ | refine blk_drew ?_ | refine blk_alloc ?_ _)); exact BK205.out⟩
                   have n3_ : Aside0 (Below w.heap.size w (((w35.setCell ⟨gb205, 0, none⟩ (.string ((rd_T29 t201 x11_1).f0))).setCell ⟨gb205, 1, none⟩ (.string ((rd_T29 t201 x11_1).f1))).setCell ⟨gb205, 2, none⟩ (.string ((rd_T29 t201 x11_1).f2)))) := ⟨by repeat (first | (with_reducible first | exact HB.out | apply below_alloc | apply pw_below_drewN | apply below_drew1 | refine below_set ?_ GE205.out) | exact HB.out)⟩
                   (try clear HO_3)
                   (try clear HO_9)
                   (try clear BK205)
                   (try clear HB)
                   generalize (((w35.setCell ⟨gb205, 0, none⟩ (.string ((rd_T29 t201 x11_1).f0))).setCell ⟨gb205, 1, none⟩ (.string ((rd_T29 t201 x11_1).f1))).setCell ⟨gb205, 2, none⟩ (.string ((rd_T29 t201 x11_1).f2))) = w38 at n0_ n1_ n2_ n3_ ⊢
                   have HO_3 := n0_
                   have HO_9 := n1_
                   have BK205 := n2_
                   have HB := n3_
                   clear n0_ n1_ n2_ n3_
                   have n0_ := Aside0.mk (Kd.S_drew HO_3.out)
                   have n1_ := Aside0.mk (Kd.R_drew HO_9.out)
                   have n2_ := Aside0.mk (blk_drew BK205.out)
                   have n3_ := Aside0.mk (below_drew1 HB.out)
                   clear HO_3
                   clear HO_9
                   clear BK205
                   clear HB
                   have HO_3 := n0_
                   have HO_9 := n1_
                   have BK205 := n2_
                   have HB := n3_
                   clear n0_ n1_ n2_ n3_
                   have p214 : 0 ≤ ((ji29) : Int) := of_decide_eq_true (by first | (with_reducible assumption) | assumption)
                   have q214 : (ji29) < (x3_1.length : Int) := of_decide_eq_true (by first | (with_reducible assumption) | assumption)
                   obtain ⟨ad214, A214_1, c214_1, e214, hx214_0, hx214_1, hl214_1, hi214_1⟩ := at_T52 (Kd.S_reads' HO_3.out).2.2 (ji29) p214 q214
                   cases e214
                   obtain ⟨ce214, hce214, hMe214, hcc214⟩ := Kd.S_get HO_3.out z52 (ji29) p214 (by first | exact q214 | exact of_decide_eq_true (by first | (with_reducible assumption) | assumption) | (have e_ := (Kd.S_reads' HO_3.out).1; omega))
                   obtain ⟨ve214_1, rfl, ge214_1⟩ := k52_openM hMe214
                   have hv214_1 := hcc214 1 _ rfl
                   rw [add_field _ _ 1 (by omega)] at hv214_1
                   replace hv214_1 := Option.some.inj (hv214_1.symm.trans hx214_1)
                   rw [hv214_1] at ge214_1
                   have HL214_1 := Aside0.mk (show Kd.R k74 74 _ _ _ _ ((rd_T52 x3_1 (ji29)).f1) from ge214_1)
                   clear hv214_1 ge214_1
                   have HX214_1 := Aside0.mk hx214_1
                   clear hcc214 hce214
                   have HR214_1 := Aside0.mk hi214_1
                   have HC214_1 := Aside0.mk hl214_1
                   clear hi214_1 hl214_1
                   replace p214 := eq_true p214
                   replace q214 := eq_true q214
                   refine start_ (n := 13) (S := fun w' => w'.cell? ⟨gb205, 0, none⟩ = some (.string ((rd_T29 t201 x11_1).f0)) ∧ w'.cell? ⟨gb205, 1, none⟩ = some (.string ((rd_T29 t201 x11_1).f1)) ∧ w'.cell? ⟨gb205, 2, none⟩ = some (.string ((rd_T29 t201 x11_1).f2)) ∧ w'.cell? (ad214.add (((ji29)).toNat * 2)) = some (.string ((rd_T52 x3_1 (ji29)).f0)) ∧ w'.cell? ⟨(ad214.add (((ji29)).toNat * 2)).block, (ad214.add (((ji29)).toNat * 2)).off + 1, none⟩ = some (.slice A214_1 ((rd_T52 x3_1 (ji29)).f1).length c214_1)) (ds := []) #[false, false, false, false, false, false, false, false, false, false, false, false, false] (by kernel_rfl) rfl rfl ⟨(blk_cell BK205.out 0).trans rfl, (blk_cell BK205.out 1).trans rfl, (blk_cell BK205.out 2).trans rfl, hx214_0, hx214_1⟩ (fun hHeld => ?_); refine with_tabW laws_sectionsOf.tab6 laws_sectionsOf.bits6 (fun HT_ HW_ => ?_)
                   generalize w38.drew = w39 at HO_3 HO_9 BK205 HB HL214_1 HR214_1 HX214_1 hx214_0 hx214_1 hHeld ⊢
                   refine pure_ (i := 0) (N := some 17) (v := ?_) (a' := ?_) #[true, false, false, false, false, false, false, false, false, false, false, false, false] rfl rfl (any_of HT_.out (by kernel_rfl)) (fun _ _ _ h => h) (Or.inl ⟨by rfl, ?_⟩) ?_ ?_
                   rotate_left
                   · intro w'
                     go_simp
                     with_reducible rfl
                   rotate_left
                   · simp only [Act.put, List.setIfInBounds_toArray, List.set_cons_zero, List.set_cons_succ, i64_w, i32_w]
                     rfl
                   refine pure_ (i := 1) (N := some 18) (v := ?_) (a' := ?_) #[true, true, false, false, false, false, false, false, false, false, false, false, false] rfl rfl (any_of HT_.out (by kernel_rfl)) (fun _ _ _ h => h) (Or.inl ⟨by rfl, ?_⟩) ?_ ?_
                   rotate_left
                   · intro w'
                     go_simp
                     with_reducible rfl
                   rotate_left
                   · simp only [Act.put, List.setIfInBounds_toArray, List.set_cons_zero, List.set_cons_succ, i64_w, i32_w]
                     rfl
                   refine pure_ (i := 2) (N := some 19) (v := ?_) (a' := ?_) #[true, true, true, false, false, false, false, false, false, false, false, false, false] rfl rfl (any_of HT_.out (by kernel_rfl)) (fun _ _ _ h => h) (Or.inl ⟨by rfl, ?_⟩) ?_ ?_
                   rotate_left
                   · intro w'
                     go_simp
                     with_reducible rfl
                   rotate_left
                   · simp only [Act.put, List.setIfInBounds_toArray, List.set_cons_zero, List.set_cons_succ, i64_w, i32_w]
                     rfl
                   refine pure_ (i := 3) (N := some 20) (v := ?_) (a' := ?_) #[true, true, true, true, false, false, false, false, false, false, false, false, false] rfl rfl (any_of HT_.out (by kernel_rfl)) (fun _ _ _ h => h) (Or.inl ⟨by rfl, ?_⟩) ?_ ?_
                   rotate_left
                   · intro w'
                     go_simp
                     with_reducible rfl
                   rotate_left
                   · simp only [Act.put, List.setIfInBounds_toArray, List.set_cons_zero, List.set_cons_succ, i64_w, i32_w]
                     rfl
                   refine pure_ (i := 4) (N := some 21) (v := ?_) (a' := ?_) #[true, true, true, true, true, false, false, false, false, false, false, false, false] rfl rfl (any_of HT_.out (by kernel_rfl)) (fun _ _ _ h => h) (Or.inl ⟨by rfl, ?_⟩) ?_ ?_
                   rotate_left
                   · intro w'
                     go_simp
                     with_reducible rfl
                   rotate_left
                   · simp only [Act.put, List.setIfInBounds_toArray, List.set_cons_zero, List.set_cons_succ, i64_w, i32_w]
                     rfl
                   refine pure_ (i := 5) (N := some 22) (v := ?_) (a' := ?_) #[true, true, true, true, true, true, false, false, false, false, false, false, false] rfl rfl (any_of HT_.out (by kernel_rfl)) (fun _ _ _ h => h) (Or.inl ⟨by rfl, ?_⟩) ?_ ?_
                   rotate_left
                   · intro w'
                     go_simp
                     with_reducible rfl
                   rotate_left
                   · simp only [Act.put, List.setIfInBounds_toArray, List.set_cons_zero, List.set_cons_succ, i64_w, i32_w]
                     rfl
                   refine pure_ (i := 6) (N := some 23) (v := ?_) (a' := ?_) #[true, true, true, true, true, true, true, false, false, false, false, false, false] rfl rfl (any_of HT_.out (by kernel_rfl)) (fun _ _ _ h => h) (Or.inl ⟨by rfl, ?_⟩) ?_ ?_
                   rotate_left
                   · intro w'
                     go_simp
                     with_reducible rfl
                   rotate_left
                   · simp only [Act.put, List.setIfInBounds_toArray, List.set_cons_zero, List.set_cons_succ, i64_w, i32_w]
                     rfl
                   refine pure_ (i := 7) (N := some 24) (v := ?_) (a' := ?_) #[true, true, true, true, true, true, true, true, false, false, false, false, false] rfl rfl (any_of HT_.out (by kernel_rfl)) (fun _ _ _ h => h) (Or.inl ⟨by rfl, ?_⟩) ?_ ?_
                   rotate_left
                   · intro w'
                     go_simp
                     with_reducible rfl
                   rotate_left
                   · simp only [Act.put, List.setIfInBounds_toArray, List.set_cons_zero, List.set_cons_succ, i64_w, i32_w]
                     rfl
                   refine pure_ (i := 9) (N := some 26) (v := ?_) (a' := ?_) #[true, true, true, true, true, true, true, true, false, true, false, false, false] rfl rfl (any_of HT_.out (by kernel_rfl)) (fun _ _ _ h => h) (Or.inl ⟨by rfl, ?_⟩) ?_ ?_
                   rotate_left
                   · intro w'
                     go_simp
                     with_reducible rfl
                   rotate_left
                   · simp only [Act.put, List.setIfInBounds_toArray, List.set_cons_zero, List.set_cons_succ, i64_w, i32_w]
                     rfl
                   refine take_ (i := 8) (N := some 25) (v := ?_) (a' := ?_) #[true, true, true, true, true, true, true, true, true, true, false, false, false] rfl rfl (take_ofW HT_.out HW_.out (by kernel_rfl)) (fun _ _ _ h => h) (Or.inl ⟨by rfl, ?_⟩) hHeld ?_ ?_
                   rotate_left
                   · rintro w' ⟨s0, s1, s2, s3, s4⟩
                     go_simp
                     with_reducible rfl
                   rotate_left
                   · simp only [Act.put, List.setIfInBounds_toArray, List.set_cons_zero, List.set_cons_succ, i64_w, i32_w]
                     rfl
                   refine take_ (i := 10) (N := some 27) (v := ?_) (a' := ?_) #[true, true, true, true, true, true, true, true, true, true, true, false, false] rfl rfl (take_ofW HT_.out HW_.out (by kernel_rfl)) (fun _ _ _ h => h) (Or.inl ⟨by rfl, ?_⟩) hHeld ?_ ?_
                   rotate_left
                   · rintro w' ⟨s0, s1, s2, s3, s4⟩
                     go_simp
                     with_reducible rfl
                   rotate_left
                   · simp only [Act.put, List.setIfInBounds_toArray, List.set_cons_zero, List.set_cons_succ, i64_w, i32_w]
                     rfl
                   refine pure_ (i := 11) (N := some 28) (v := ?_) (a' := ?_) #[true, true, true, true, true, true, true, true, true, true, true, true, false] rfl rfl (any_of HT_.out (by kernel_rfl)) (fun _ _ _ h => h) (Or.inl ⟨by rfl, ?_⟩) ?_ ?_
                   rotate_left
                   · intro w'
                     go_simp
                     with_reducible rfl
                   rotate_left
                   · simp only [Act.put, List.setIfInBounds_toArray, List.set_cons_zero, List.set_cons_succ, i64_w, i32_w]
                     rfl
                   refine pure_ (i := 12) (N := some 29) (v := ?_) (a' := ?_) #[true, true, true, true, true, true, true, true, true, true, true, true, true] rfl rfl (any_of HT_.out (by kernel_rfl)) (fun _ _ _ h => h) (Or.inl ⟨by rfl, ?_⟩) ?_ ?_
                   rotate_left
                   · intro w'
                     go_simp
                     with_reducible rfl
                   rotate_left
                   · simp only [Act.put, List.setIfInBounds_toArray, List.set_cons_zero, List.set_cons_succ, i64_w, i32_w]
                     rfl
                   refine done_ (done_of HT_.out (by kernel_rfl)) ?_
                   try go_wp2
                   have n0_ := Aside0.mk (Kd.S_drew HO_3.out)
                   have n1_ := Aside0.mk (Kd.R_drew HO_9.out)
                   have n2_ := Aside0.mk (Kd.R_drew HL214_1.out)
                   have n3_ := Aside0.mk (blk_drew BK205.out)
                   have n4_ := Aside0.mk (Kd.C_drew HR214_1.out)
                   have n5_ := Aside0.mk (below_drew1 HB.out)
                   clear HO_3
                   clear HO_9
                   clear HL214_1
                   clear BK205
                   clear HR214_1
                   clear HB
                   have HO_3 := n0_
                   have HO_9 := n1_
                   have HL214_1 := n2_
                   have BK205 := n3_
                   have HR214_1 := n4_
                   have HB := n5_
                   clear n0_ n1_ n2_ n3_ n4_ n5_
                   have p215 : 0 ≤ ((ji29) : Int) := of_decide_eq_true (by first | (with_reducible assumption) | assumption)
                   have q215 : (ji29) < (x3_1.length : Int) := of_decide_eq_true (by first | (with_reducible assumption) | assumption)
                   obtain ⟨ad215, A215_1, c215_1, e215, hx215_0, hx215_1, hl215_1, hi215_1⟩ := at_T52 (Kd.S_reads' HO_3.out).2.2 (ji29) p215 q215
                   obtain rfl : ad214 = ad215 := (by injection e215)
                   obtain ⟨ce215, hce215, hMe215, hcc215⟩ := Kd.S_get HO_3.out z52 (ji29) p215 (by first | exact q215 | exact of_decide_eq_true (by first | (with_reducible assumption) | assumption) | (have e_ := (Kd.S_reads' HO_3.out).1; omega))
                   obtain ⟨ve215_1, rfl, ge215_1⟩ := k52_openM hMe215
                   have hv215_1 := hcc215 1 _ rfl
                   rw [add_field _ _ 1 (by omega)] at hv215_1
                   replace hv215_1 := Option.some.inj (hv215_1.symm.trans hx215_1)
                   rw [hv215_1] at ge215_1
                   have HL215_1 := Aside0.mk (show Kd.R k74 74 _ _ _ _ ((rd_T52 x3_1 (ji29)).f1) from ge215_1)
                   clear hv215_1 ge215_1
                   have HX215_1 := Aside0.mk hx215_1
                   clear hcc215 hce215
                   have HR215_1 := Aside0.mk hi215_1
                   have HC215_1 := Aside0.mk hl215_1
                   clear hi215_1 hl215_1
                   replace p215 := eq_true p215
                   replace q215 := eq_true q215
                   obtain ⟨go41, co41, eo41, gb41, gl41, cl41, HG41⟩ := Kd.S_form HO_3.out (by have h_ : ((ji29) : Int) < ((x3_1.length : Int) : Int) := of_decide_eq_true (by first | (with_reducible assumption) | assumption); have h2_ : 0 ≤ ((ji29) : Int) := (of_decide_eq_true (by first | (with_reducible assumption) | assumption)); omega)
                   (first | cases eo41 | (injection eo41 with ea_ en_ ec_; (first | subst ea_ | (injection ea_ with ea_; subst ea_)); subst ec_; clear en_))
                   have GB41 := Aside0.mk gb41
                   have GG41 := Aside0.mk HG41
                   clear gb41 gl41 HG41
                   (first | simp only [add_plain] at hx214_0 | skip)
                   (first | simp only [add_plain] at hx214_1 | skip)
                   (first | simp only [add_plain] at hx215_0 | skip)
                   (first | simp only [add_plain] at hx215_1 | skip)
                   obtain ⟨oki41, ce41, hcl41, hM41, hcc41, _, _, hH41⟩ := Kd.S_elem HO_3.out z52 ((ji29) : Int) (of_decide_eq_true (by first | (with_reducible assumption) | assumption)) (by have h_ : ((ji29) : Int) < ((x3_1.length : Int) : Int) := of_decide_eq_true (by first | (with_reducible assumption) | assumption); first | exact h_ | (have e_ := (Kd.S_reads' HO_3.out).1; omega) | simpa using h_)
                   obtain ⟨ve41_1, rfl, ge41_1⟩ := k52_openM hM41
                   have hv41 := hcc41 1 _ rfl
                   have hX41 := HX215_1.out
                   (try simp only [add_plain] at hX41)
                   (try simp only [Nat.add_zero] at hv41)
                   replace hv41 := Option.some.inj (hv41.symm.trans hX41)
                   subst hv41
                   clear hX41 hcc41 hcl41
                   have UU41 := Aside0.mk (show Kd.R k74 74 _ w.heap.size oki41 (.slice A215_1 ((rd_T52 x3_1 (ji29)).f1).length c215_1) ((rd_T52 x3_1 (ji29)).f1) from ge41_1)
                   have HH41 := Aside0.mk hH41
                   have HN41 := Aside0.mk (Kd.S_reads' HO_3.out).1
                   clear hH41 ge41_1
                   refine start_ (n := 17) (S := fun w' => w'.cell? ⟨gb205, 0, none⟩ = some (.string ((rd_T29 t201 x11_1).f0)) ∧ w'.cell? ⟨gb205, 1, none⟩ = some (.string ((rd_T29 t201 x11_1).f1)) ∧ w'.cell? ⟨gb205, 2, none⟩ = some (.string ((rd_T29 t201 x11_1).f2)) ∧ w'.cell? ⟨go41, (((ji29)).toNat * 2), none⟩ = some (.string ((rd_T52 x3_1 (ji29)).f0)) ∧ w'.cell? ⟨go41, (((ji29)).toNat * 2) + 1, none⟩ = some (.slice A215_1 ((rd_T52 x3_1 (ji29)).f1).length c215_1)) (ds := [16]) #[false, false, false, false, false, false, false, false, false, false, false, false, false, false, false, false, false] (by kernel_rfl) rfl rfl ⟨(blk_cell BK205.out 0).trans rfl, (blk_cell BK205.out 1).trans rfl, (blk_cell BK205.out 2).trans rfl, hx215_0, hx215_1⟩ (fun hHeld => ?_); refine with_tabW laws_sectionsOf.tab9 laws_sectionsOf.bits9 (fun HT_ HW_ => ?_)
                   generalize w39.drew = w40 at HO_3 HO_9 HL214_1 BK205 HR214_1 HB GG41 HH41 HL215_1 HR215_1 HX215_1 UU41 hx214_0 hx214_1 hx215_0 hx215_1 hHeld ⊢
                   refine pure_ (i := 0) (N := some 39) (v := ?_) (a' := ?_) #[true, false, false, false, false, false, false, false, false, false, false, false, false, false, false, false, false] rfl rfl (any_of HT_.out (by kernel_rfl)) (fun _ _ _ h => h) (Or.inl ⟨by rfl, ?_⟩) ?_ ?_
                   rotate_left
                   · intro w'
                     go_simp
                     with_reducible rfl
                   rotate_left
                   · simp only [Act.put, List.setIfInBounds_toArray, List.set_cons_zero, List.set_cons_succ, i64_w, i32_w]
                     rfl
                   refine pure_ (i := 1) (N := some 40) (v := ?_) (a' := ?_) #[true, true, false, false, false, false, false, false, false, false, false, false, false, false, false, false, false] rfl rfl (any_of HT_.out (by kernel_rfl)) (fun _ _ _ h => h) (Or.inl ⟨by rfl, ?_⟩) ?_ ?_
                   rotate_left
                   · intro w'
                     go_simp
                     with_reducible rfl
                   rotate_left
                   · simp only [Act.put, List.setIfInBounds_toArray, List.set_cons_zero, List.set_cons_succ, i64_w, i32_w]
                     rfl
                   refine pure_ (i := 2) (N := some 41) (v := ?_) (a' := ?_) #[true, true, true, false, false, false, false, false, false, false, false, false, false, false, false, false, false] rfl rfl (any_of HT_.out (by kernel_rfl)) (fun _ _ _ h => h) (Or.inl ⟨by rfl, ?_⟩) ?_ ?_
                   rotate_left
                   · intro w'
                     go_simp
                     with_reducible rfl
                   rotate_left
                   · simp only [Act.put, List.setIfInBounds_toArray, List.set_cons_zero, List.set_cons_succ, i64_w, i32_w]
                     rfl
                   refine pure_ (i := 3) (N := some 42) (v := ?_) (a' := ?_) #[true, true, true, true, false, false, false, false, false, false, false, false, false, false, false, false, false] rfl rfl (any_of HT_.out (by kernel_rfl)) (fun _ _ _ h => h) (Or.inl ⟨by rfl, ?_⟩) ?_ ?_
                   rotate_left
                   · intro w'
                     go_simp
                     with_reducible rfl
                   rotate_left
                   · simp only [Act.put, List.setIfInBounds_toArray, List.set_cons_zero, List.set_cons_succ, i64_w, i32_w]
                     rfl
                   refine pure_ (i := 4) (N := some 43) (v := ?_) (a' := ?_) #[true, true, true, true, true, false, false, false, false, false, false, false, false, false, false, false, false] rfl rfl (any_of HT_.out (by kernel_rfl)) (fun _ _ _ h => h) (Or.inl ⟨by rfl, ?_⟩) ?_ ?_
                   rotate_left
                   · intro w'
                     go_simp
                     with_reducible rfl
                   rotate_left
                   · simp only [Act.put, List.setIfInBounds_toArray, List.set_cons_zero, List.set_cons_succ, i64_w, i32_w]
                     rfl
                   refine pure_ (i := 5) (N := some 44) (v := ?_) (a' := ?_) #[true, true, true, true, true, true, false, false, false, false, false, false, false, false, false, false, false] rfl rfl (any_of HT_.out (by kernel_rfl)) (fun _ _ _ h => h) (Or.inl ⟨by rfl, ?_⟩) ?_ ?_
                   rotate_left
                   · intro w'
                     go_simp
                     with_reducible rfl
                   rotate_left
                   · simp only [Act.put, List.setIfInBounds_toArray, List.set_cons_zero, List.set_cons_succ, i64_w, i32_w]
                     rfl
                   refine pure_ (i := 7) (N := some 46) (v := ?_) (a' := ?_) #[true, true, true, true, true, true, false, true, false, false, false, false, false, false, false, false, false] rfl rfl (any_of HT_.out (by kernel_rfl)) (fun _ _ _ h => h) (Or.inl ⟨by rfl, ?_⟩) ?_ ?_
                   rotate_left
                   · intro w'
                     go_simp
                     with_reducible rfl
                   rotate_left
                   · simp only [Act.put, List.setIfInBounds_toArray, List.set_cons_zero, List.set_cons_succ, i64_w, i32_w]
                     rfl
                   refine pure_ (i := 9) (N := some 48) (v := ?_) (a' := ?_) #[true, true, true, true, true, true, false, true, false, true, false, false, false, false, false, false, false] rfl rfl (any_of HT_.out (by kernel_rfl)) (fun _ _ _ h => h) (Or.inl ⟨by rfl, ?_⟩) ?_ ?_
                   rotate_left
                   · intro w'
                     go_simp
                     with_reducible rfl
                   rotate_left
                   · simp only [Act.put, List.setIfInBounds_toArray, List.set_cons_zero, List.set_cons_succ, i64_w, i32_w]
                     rfl
                   refine take_ (i := 6) (N := some 45) (v := ?_) (a' := ?_) #[true, true, true, true, true, true, true, true, false, true, false, false, false, false, false, false, false] rfl rfl (take_ofW HT_.out HW_.out (by kernel_rfl)) (fun _ _ _ h => h) (Or.inl ⟨by rfl, ?_⟩) hHeld ?_ ?_
                   rotate_left
                   · rintro w' ⟨s0, s1, s2, s3, s4⟩
                     go_simp
                     with_reducible rfl
                   rotate_left
                   · simp only [Act.put, List.setIfInBounds_toArray, List.set_cons_zero, List.set_cons_succ, i64_w, i32_w]
                     rfl
                   refine take_ (i := 8) (N := some 47) (v := ?_) (a' := ?_) #[true, true, true, true, true, true, true, true, true, true, false, false, false, false, false, false, false] rfl rfl (take_ofW HT_.out HW_.out (by kernel_rfl)) (fun _ _ _ h => h) (Or.inl ⟨by rfl, ?_⟩) hHeld ?_ ?_
                   rotate_left
                   · rintro w' ⟨s0, s1, s2, s3, s4⟩
                     go_simp
                     with_reducible rfl
                   rotate_left
                   · simp only [Act.put, List.setIfInBounds_toArray, List.set_cons_zero, List.set_cons_succ, i64_w, i32_w]
                     rfl
                   refine take_ (i := 10) (N := some 49) (v := ?_) (a' := ?_) #[true, true, true, true, true, true, true, true, true, true, true, false, false, false, false, false, false] rfl rfl (take_ofW HT_.out HW_.out (by kernel_rfl)) (fun _ _ _ h => h) (Or.inl ⟨by rfl, ?_⟩) hHeld ?_ ?_
                   rotate_left
                   · rintro w' ⟨s0, s1, s2, s3, s4⟩
                     go_simp
                     with_reducible rfl
                   rotate_left
                   · simp only [Act.put, List.setIfInBounds_toArray, List.set_cons_zero, List.set_cons_succ, i64_w, i32_w]
                     rfl
                   refine pure_ (i := 11) (N := some 50) (v := ?_) (a' := ?_) #[true, true, true, true, true, true, true, true, true, true, true, true, false, false, false, false, false] rfl rfl (any_of HT_.out (by kernel_rfl)) (fun _ _ _ h => h) (Or.inl ⟨by rfl, ?_⟩) ?_ ?_
                   rotate_left
                   · intro w'
                     go_simp
                     with_reducible rfl
                   rotate_left
                   · simp only [Act.put, List.setIfInBounds_toArray, List.set_cons_zero, List.set_cons_succ, i64_w, i32_w]
                     rfl
                   refine one_ (i := 12) (N := some 51) #[true, true, true, true, true, true, true, true, true, true, true, true, true, false, false, false, false] rfl rfl (one_of HT_.out (by kernel_rfl)) (by decide) (fun K hK => ?_)
                   refine value_ (w1 := ?_) (v := ?_) (by rfl) rfl ?_ ?_
                   rotate_left 2
                   · go_simp
                     constructor
                     · rfl
                     · rfl
                   refine hK.out _ _ ⟨(blk_cell (blk_alloc BK205.out _) 0).trans rfl, (blk_cell (blk_alloc BK205.out _) 1).trans rfl, (blk_cell (blk_alloc BK205.out _) 2).trans rfl, (World.cell?_alloc_lt _ _ _ (World.block_lt_of_cell? _ _ (hHeld.2.2.2.1))).trans (hHeld.2.2.2.1), (World.cell?_alloc_lt _ _ _ (World.block_lt_of_cell? _ _ (hHeld.2.2.2.2))).trans (hHeld.2.2.2.2)⟩ (fun hHeld => ?_)
                   clear hK K
                   refine norm_ (a' := ?_) ?_ ?_
                   rotate_left
                   · show Act.put _ (some 51) _ = _
                     simp only [Act.put, List.setIfInBounds_toArray, List.set_cons_zero, List.set_cons_succ, i64_w, i32_w]
                     rfl
                   refine one_ (i := 13) (N := some 52) #[true, true, true, true, true, true, true, true, true, true, true, true, true, true, false, false, false] rfl rfl (one_of HT_.out (by kernel_rfl)) (by decide) (fun K hK => ?_)
                   refine Kd.R_append_step k74 (w0 := w) w.heap.size (by rfl) (.tmp 45) (.tmp 51) 50 74 (.agg #[(.string ⟨#[]⟩), (.string ⟨#[]⟩)]) 32 rfl Tryd.underlying50 info74 rfl (by decide) (by omega) (.slice A215_1 ((rd_T52 x3_1 (ji29)).f1).length c215_1) ((rd_T52 x3_1 (ji29)).f1) (⟨(rd_T29 t201 x11_1).f1, (rd_T29 t201 x11_1).f2⟩ : S74) [.string ((rd_T29 t201 x11_1).f1), .string ((rd_T29 t201 x11_1).f2)] (fun k_ => oki41 k_ ∨ ((fun _ => True)) k_ ∧ w40.heap.size ≤ k_) (fun _ => False) rfl rfl ?aP (fun _ hk => hk.elim) ?aF ?aO ?aB ?aS ?aL ?_
                   (case aP => exact k74_mkM _ _ _ (⟨(rd_T29 t201 x11_1).f1, (rd_T29 t201 x11_1).f2⟩ : S74))
                   (case aB => exact (by repeat (first | (with_reducible first | exact HB.out | apply below_alloc | apply pw_below_drewN | apply below_drew1 | refine below_set ?_ GE205.out) | exact HB.out)))
                   (case aF => exact (fun k_ hk => .inr ⟨trivial, hk⟩))
                   (case aO => exact (by (with_reducible repeat (first | apply Kd.R_alloc | apply Kd.R_drewN | apply Kd.R_drew)); exact Kd.R_mono UU41.out (fun _ hk => .inl hk)))
                   (case aS => exact (below_size (by repeat (first | (with_reducible first | exact HB.out | apply below_alloc | apply pw_below_drewN | apply below_drew1 | refine below_set ?_ GE205.out) | exact HB.out))))
                   (case aL => have := LMc33.out; omega)
                   intro v217 w42 ho hb hg hat
                   (first | have HS3_ := cell_grown hg (hHeld.2.2.2.1) (by first | (rw [add_block]; exact (fun e_ => ((HL215_1.out.1 _ e_.symm).2) rfl)) | (show some (Addr.add _ _).block ≠ _; rw [add_block]; exact (fun e_ => ((HL215_1.out.1 _ e_.symm).2) rfl)) | exact (fun e_ => ((HL215_1.out.1 _ e_.symm).2) rfl)) | have HS3_ := cell_grown hg (cell_unalloc (hHeld.2.2.2.1) (by first | (rw [add_block]; exact Kd.S_lt HO_3.out _ rfl) | (show (Addr.add _ _).block < _; rw [add_block]; exact Kd.S_lt HO_3.out _ rfl) | exact Kd.S_lt HO_3.out _ rfl)) (by first | (rw [add_block]; exact (fun e_ => ((HL215_1.out.1 _ e_.symm).2) rfl)) | (show some (Addr.add _ _).block ≠ _; rw [add_block]; exact (fun e_ => ((HL215_1.out.1 _ e_.symm).2) rfl)) | exact (fun e_ => ((HL215_1.out.1 _ e_.symm).2) rfl)))
                   (first | have HS4_ := cell_grown hg (hHeld.2.2.2.2) (by first | (rw [add_block]; exact (fun e_ => ((HL215_1.out.1 _ e_.symm).2) rfl)) | (show some (Addr.add _ _).block ≠ _; rw [add_block]; exact (fun e_ => ((HL215_1.out.1 _ e_.symm).2) rfl)) | exact (fun e_ => ((HL215_1.out.1 _ e_.symm).2) rfl)) | have HS4_ := cell_grown hg (cell_unalloc (hHeld.2.2.2.2) (by first | (rw [add_block]; exact Kd.S_lt HO_3.out _ rfl) | (show (Addr.add _ _).block < _; rw [add_block]; exact Kd.S_lt HO_3.out _ rfl) | exact Kd.S_lt HO_3.out _ rfl)) (by first | (rw [add_block]; exact (fun e_ => ((HL215_1.out.1 _ e_.symm).2) rfl)) | (show some (Addr.add _ _).block ≠ _; rw [add_block]; exact (fun e_ => ((HL215_1.out.1 _ e_.symm).2) rfl)) | exact (fun e_ => ((HL215_1.out.1 _ e_.symm).2) rfl)))
                   rw [← Ny216.out] at ho
                   have n0_ := Aside0.mk (Kd.R_over' (v := (.slice A215_1 ((rd_T52 x3_1 (ji29)).f1).length c215_1)) (by (with_reducible repeat (first | apply Kd.R_alloc | apply Kd.R_drewN | apply Kd.R_drew)); exact HO_9.out) (Kd.R_typed HL215_1.out) (by decide) hg)
                   have n1_ := Aside0.mk (blk_grown (g := gb205) (o := .cells #[.string ((rd_T29 t201 x11_1).f0), .string ((rd_T29 t201 x11_1).f1), .string ((rd_T29 t201 x11_1).f2)] 29 (0, 0)) (by (with_reducible repeat (first | refine blk_drewN ?_ _ | refine blk_drew ?_ | refine blk_alloc ?_ _)); exact BK205.out) hg (Kd.R_ne HL215_1.out BK205.out (by decide)))
                   have n2_ := Aside0.mk (hb)
                   have n3_ := Aside0.mk (Kd.H_grown (Kd.H_widen (by repeat (first | exact HH41.out | refine Kd.H_alloc ?_ _ | refine Kd.H_drewN ?_ _ | refine Kd.H_drew ?_))) hg (fun k_ e_ => .inl (UU41.out.1 k_ e_)))
                   have n4_ := Aside0.mk (ho)
                   clear HO_9
                   clear BK205
                   clear HB
                   clear HH41
                   clear HO_3
                   clear UU41
                   clear HL214_1
                   clear HL215_1
                   have HO_9 := n0_
                   have BK205 := n1_
                   have HB := n2_
                   have HH41 := n3_
                   have HO218 := n4_
                   clear n0_ n1_ n2_ n3_ n4_
                   clear ho hb hg hat
                   have p34 : 0 ≤ ((ji29) : Int) := of_decide_eq_true (by first | (with_reducible assumption) | assumption)
                   have q34 : ((ji29) : Int) < ((x3_1.length : Int) : Int) := of_decide_eq_true (by first | (with_reducible assumption) | assumption)
                   replace p34 := eq_true p34
                   replace q34 := eq_true q34
                   obtain ⟨Ao45, co45, eo45⟩ := Kd.R_slice HO218.out
                   (first | subst eo45 | (injection eo45 with f1_ f2_ f3_; have f4_ := f1_.symm; have f5_ := f3_.symm; clear f1_ f2_ f3_; subst f4_; subst f5_))
                   obtain ⟨_, _, hraw43, _, _, hcc43, _⟩ := Kd.H_raw HH41.out (of_decide_eq_true (by first | (with_reducible assumption) | assumption)) (by have h_ : ((ji29) : Int) < ((x3_1.length : Int) : Int) := of_decide_eq_true (by first | (with_reducible assumption) | assumption); first | exact h_ | (have e_ := (HN41.out); omega) | simpa using h_)
                   obtain ⟨_, hfr43⟩ := Kd.H_at HH41.out (of_decide_eq_true (by first | (with_reducible assumption) | assumption)) (by have h_ : ((ji29) : Int) < ((x3_1.length : Int) : Int) := of_decide_eq_true (by first | (with_reducible assumption) | assumption); first | exact h_ | (have e_ := (HN41.out); omega) | simpa using h_)
                   have hx43_0 := hcc43 1 _ rfl
                   have hf43_0 := hfr43 1
                   (try rw [show (k52).sz = 2 from rfl] at hx43_0)
                   (try rw [show (k52).sz = 2 from rfl] at hf43_0)
                   have HP43 := Kd.S_seg0 HH41.out (of_decide_eq_true (by first | (with_reducible assumption) | assumption)) (by have h_ : ((ji29) : Int) < ((x3_1.length : Int) : Int) := of_decide_eq_true (by first | (with_reducible assumption) | assumption); first | exact h_ | (have e_ := (HN41.out); omega) | simpa using h_) (seg := [.slice Ao45 y216.length co45]) (j := 1) (show 2 ≤ 2 from by decide) (x' := (⟨(rd_T52 x3_1 (ji29)).f0, y216⟩ : S52)) (k52_mkM _ _ _ (⟨(rd_T52 x3_1 (ji29)).f0, y216⟩ : S52) HO218.out) (fun _ hk => hk)
                   clear hcc43 hfr43
                   have HNB205_go41 := Aside0.mk (show gb205 ≠ go41 from by have h_ := Kd.R_ne hraw43 BK205.out (by decide); intro e_; exact h_ (by rw [e_]; rfl))
                   have HS43 := HP43.1
                   rw [← Ny219.out] at HS43
                   have HQ43 := Aside0.mk HS43
                   obtain ⟨_, hgg43⟩ := Kd.R_typed hraw43 go41 rfl
                   have GG43_ := Aside0.mk hgg43
                   clear HP43 HS43 hgg43
                   refine hK.out _ _ ⟨(blk_cell BK205.out 0).trans rfl, (blk_cell BK205.out 1).trans rfl, (blk_cell BK205.out 2).trans rfl, HS3_, HS4_⟩ (fun hHeld => ?_)
                   clear hK K
                   refine norm_ (a' := ?_) ?_ ?_
                   rotate_left
                   · show Act.put _ (some 52) _ = _
                     simp only [Act.put, List.setIfInBounds_toArray, List.set_cons_zero, List.set_cons_succ, i64_w, i32_w]
                     rfl
                   refine pure_ (i := 14) (N := some 53) (v := ?_) (a' := ?_) #[true, true, true, true, true, true, true, true, true, true, true, true, true, true, true, false, false] rfl rfl (any_of HT_.out (by kernel_rfl)) (fun _ _ _ h => h) (Or.inl ⟨by rfl, ?_⟩) ?_ ?_
                   rotate_left
                   · intro w'
                     go_simp
                     with_reducible rfl
                   rotate_left
                   · simp only [Act.put, List.setIfInBounds_toArray, List.set_cons_zero, List.set_cons_succ, i64_w, i32_w]
                     rfl
                   refine pure_ (i := 15) (N := some 54) (v := ?_) (a' := ?_) #[true, true, true, true, true, true, true, true, true, true, true, true, true, true, true, true, false] rfl rfl (any_of HT_.out (by kernel_rfl)) (fun _ _ _ h => h) (Or.inl ⟨by rfl, ?_⟩) ?_ ?_
                   rotate_left
                   · intro w'
                     go_simp
                     with_reducible rfl
                   rotate_left
                   · simp only [Act.put, List.setIfInBounds_toArray, List.set_cons_zero, List.set_cons_succ, i64_w, i32_w]
                     rfl
                   refine last_ (i := 16) (N := none) #[true, true, true, true, true, true, true, true, true, true, true, true, true, true, true, true, true] rfl rfl (one_of HT_.out (by kernel_rfl)) (by decide) (fun K hK => ?_)
                   refine skip_ (w1 := ?_) (by rfl) rfl ?_ ?_
                   rotate_left
                   · go_simp
                     rfl
                   refine hK.out _ _ ?_
                   clear hK K
                   refine done_ (done_of HT_.out (by kernel_rfl)) ?_
                   try go_wp2
                   go_roundg k1
                   case measure => have := HK1.out; omega
                   case rel => exact ⟨(y219), (wrap64 (x11_1 + 1)), (by first | rfl | (simp; done) | (simp [*]; done)), H', ⟨by have := HK1.out; omega⟩, ⟨by (with_reducible repeat (first | apply Kd.S_alloc | apply Kd.S_drewN | apply Kd.S_drew)); exact HQ43.out⟩, ⟨by (with_reducible repeat (first | apply Kd.R_alloc | apply Kd.R_drewN | apply Kd.R_drew)); exact Kd.R_mono (Kd.R_far (p := ⟨go41, ((ji29) : Int).toNat * 2 + 1, none⟩) (Kd.R_types HO_9.out GG43_.out (by decide)) (fun _ hk => hk.2) (.slice Ao45 y216.length co45)) (fun _ hk => trivial)⟩, ⟨by repeat (first | (with_reducible first | exact HB.out | apply below_alloc | apply pw_below_drewN | apply below_drew1 | refine below_set ?_ GB41.out | refine below_set ?_ GE205.out) | exact HB.out)⟩⟩
                 · rw [if_neg c33] at H
                   exact absurd H (by simp)
               · rw [if_neg c32] at H
                 have c32b0 : (((rd_T52 x3_1 (ji29)).f0).toList == ((rd_T29 t201 x11_1).f0).toList) = false := beq_eq_false_iff_ne.mpr c32
                 have c32b1 : (((rd_T52 x3_1 (ji29)).f0).toList != ((rd_T29 t201 x11_1).f0).toList) = true := bne_iff_ne.mpr c32
                 by_cases c46 : x3_1.length < 3518437208883
                 · rw [if_pos c46] at H
                   have LMc46 := Aside0.mk c46
                   clear c46
                   obtain ⟨y220, hy220⟩ : ∃ y_ : List (S52), y_ = (x3_1 ++ [(⟨(rd_T29 t201 x11_1).f0, ([] : List (S74))⟩ : S52)]) := ⟨_, rfl⟩
                   replace H : (if 0 ≤ (wrap64 ((y220.length : Int) - 1)) then (if (wrap64 ((y220.length : Int) - 1)) < (y220.length : Int) then (if ((rd_T52 y220 (wrap64 ((y220.length : Int) - 1))).f1).length < 4398046511104 then (laws_sectionsOf.l0 k1 (y220.set ((wrap64 ((y220.length : Int) - 1)) : Int).toNat (⟨(rd_T52 y220 (wrap64 ((y220.length : Int) - 1))).f0, (((rd_T52 y220 (wrap64 ((y220.length : Int) - 1))).f1) ++ [(⟨(rd_T29 t201 x11_1).f1, (rd_T29 t201 x11_1).f2⟩ : S74)])⟩ : S52)) t201 (t201.length : Int) (wrap64 (x11_1 + 1))) else (none)) else (none)) else (none)) = some r := by first | (rw [hy220]; with_reducible exact H) | (have H2_ := (Option.bind_some _ _).symm.trans H; rw [hy220]; with_reducible exact H2_) | (have H2_ := (Option.bind_some _ _).symm.trans H; with_reducible exact H2_) | with_reducible exact H | (rw [hy220]; exact H) | exact H
                   have Ny220 := Aside0.mk hy220
                   clear hy220
                   obtain ⟨ji47, hji47⟩ : ∃ j_ : Int, (wrap64 ((y220.length : Int) - 1)) = j_ := ⟨_, rfl⟩
                   replace H : (if 0 ≤ (ji47) then (if (ji47) < (y220.length : Int) then (if ((rd_T52 y220 (ji47)).f1).length < 4398046511104 then (laws_sectionsOf.l0 k1 (y220.set ((ji47) : Int).toNat (⟨(rd_T52 y220 (ji47)).f0, (((rd_T52 y220 (ji47)).f1) ++ [(⟨(rd_T29 t201 x11_1).f1, (rd_T29 t201 x11_1).f2⟩ : S74)])⟩ : S52)) t201 (t201.length : Int) (wrap64 (x11_1 + 1))) else (none)) else (none)) else (none)) = some r := by first | (rw [hji47] at H; exact H) | (simp only [hji47] at H ⊢; exact H)
                   have hji47w : (IntKind.i64.wrap ((y220.length : Int) - 1)) = ji47 := (i64_w _).trans hji47
                   by_cases c48 : 0 ≤ (ji47)
                   · rw [if_pos c48] at H
                     have c48b0 : decide (0 ≤ (ji47)) = true := decide_eq_true c48
                     clear c48
                     by_cases c49 : (ji47) < (y220.length : Int)
                     · rw [if_pos c49] at H
                       have c49b0 : decide ((ji47) < (y220.length : Int)) = true := decide_eq_true c49
                       clear c49
                       by_cases c50 : ((rd_T52 y220 (ji47)).f1).length < 4398046511104
                       · rw [if_pos c50] at H
                         have LMc50 := Aside0.mk c50
                         clear c50
                         obtain ⟨y224, hy224⟩ : ∃ y_ : List (S74), y_ = (((rd_T52 y220 (ji47)).f1) ++ [(⟨(rd_T29 t201 x11_1).f1, (rd_T29 t201 x11_1).f2⟩ : S74)]) := ⟨_, rfl⟩
                         replace H : (laws_sectionsOf.l0 k1 (y220.set ((ji47) : Int).toNat (⟨(rd_T52 y220 (ji47)).f0, y224⟩ : S52)) t201 (t201.length : Int) (wrap64 (x11_1 + 1))) = some r := by first | (rw [hy224]; with_reducible exact H) | (have H2_ := (Option.bind_some _ _).symm.trans H; rw [hy224]; with_reducible exact H2_) | (have H2_ := (Option.bind_some _ _).symm.trans H; with_reducible exact H2_) | with_reducible exact H | (rw [hy224]; exact H) | exact H
                         have Ny224 := Aside0.mk hy224
                         clear hy224
                         obtain ⟨y227, hy227⟩ : ∃ y_ : List (S52), y_ = (y220.set ((ji47) : Int).toNat (⟨(rd_T52 y220 (ji47)).f0, y224⟩ : S52)) := ⟨_, rfl⟩
                         replace H : (laws_sectionsOf.l0 k1 y227 t201 (t201.length : Int) (wrap64 (x11_1 + 1))) = some r := by first | (rw [hy227]; with_reducible exact H) | (have H2_ := (Option.bind_some _ _).symm.trans H; rw [hy227]; with_reducible exact H2_) | (have H2_ := (Option.bind_some _ _).symm.trans H; with_reducible exact H2_) | with_reducible exact H | (rw [hy227]; exact H) | exact H
                         have Ny227 := Aside0.mk hy227
                         clear hy227
                         have H' := Aside0.mk H
                         clear H
                         have p204 : 0 ≤ (x11_1 : Int) := of_decide_eq_true (by first | (with_reducible assumption) | assumption)
                         have q204 : x11_1 < (t201.length : Int) := of_decide_eq_true (by first | (with_reducible assumption) | assumption)
                         obtain ⟨ad204, e204, hx204_0, hx204_1, hx204_2⟩ := at_T29 (Kd.R_reads' HO_9.out).2.2 x11_1 p204 q204
                         cases e204
                         replace p204 := eq_true p204
                         replace q204 := eq_true q204
                         try go_wp2_with (first | ((with_reducible refine gate_dst (N := 5) rfl ?_); refine box_event ?hg (N := 5) ?hd (cs := #[.string (⟨#[]⟩ : ByteArray), .string (⟨#[]⟩ : ByteArray), .string (⟨#[]⟩ : ByteArray)]) (t := 29) ?hr ?_; (case hd => rfl); (case hg => rfl); (case hr => first | (go_simp; done) | (go_simp; rfl)); intro gb205 hg w52 hbox hb; have n0_ := Aside0.mk (Kd.S_below (by (with_reducible repeat (first | apply Kd.S_alloc | apply Kd.S_drewN | apply Kd.S_drew)); exact HO_3.out) hb); have n1_ := Aside0.mk (Kd.R_below (Kd.R_elderB (by (with_reducible repeat (first | apply Kd.R_alloc | apply Kd.R_drewN | apply Kd.R_drew)); exact HO_9.out) gb205 (Nat.le_of_eq hg.symm)) hb); have n2_ := Aside0.mk (below_step (by repeat (first | (with_reducible first | exact HB.out | apply below_alloc | apply pw_below_drewN | apply below_drew1) | exact HB.out)) hb); have n3_ := Aside0.mk (hbox); have n4_ := Aside0.mk ((by rw [hg]; exact (below_size (by repeat (first | (with_reducible first | exact HB.out | apply below_alloc | apply pw_below_drewN | apply below_drew1) | exact HB.out))) : w.heap.size ≤ gb205)); have n5_ := Aside0.mk ((by rw [hg]; exact (below_size (by repeat (first | (with_reducible first | exact HB.out | apply below_alloc | apply pw_below_drewN | apply below_drew1) | exact HB.out))) : w.heap.size ≤ gb205)); clear HO_3; clear HO_9; clear HB; have HO_3 := n0_; have HO_9 := n1_; have HB := n2_; have BK205 := n3_; have GW205 := n4_; have GE205 := n5_; clear n0_ n1_ n2_ n3_ n4_ n5_; clear hb hbox hg; have hcz53_0 : w52.cell? ⟨gb205, 0, none⟩ = some (.string (⟨#[]⟩ : ByteArray)) := (blk_cell BK205.out 0).trans rfl; have hcz53_1 : w52.cell? ⟨gb205, 1, none⟩ = some (.string (⟨#[]⟩ : ByteArray)) := (blk_cell BK205.out 1).trans rfl; have hcz53_2 : w52.cell? ⟨gb205, 2, none⟩ = some (.string (⟨#[]⟩ : ByteArray)) := (blk_cell BK205.out 2).trans rfl; have hfz53_0 := blk_frozen BK205.out 0; have hfz53_1 := blk_frozen BK205.out 1; have hfz53_2 := blk_frozen BK205.out 2; obtain ⟨Ao54, co54, eo54⟩ := Kd.S_slice HO_3.out; subst eo54))
                         have n0_ : Aside0 (Kd.S k52 52 (((w52.setCell ⟨gb205, 0, none⟩ (.string ((rd_T29 t201 x11_1).f0))).setCell ⟨gb205, 1, none⟩ (.string ((rd_T29 t201 x11_1).f1))).setCell ⟨gb205, 2, none⟩ (.string ((rd_T29 t201 x11_1).f2))) w.heap.size (fun _ => True) (.slice Ao54 x3_1.length co54) x3_1) := ⟨by (with_reducible repeat (first | apply Kd.S_alloc | apply Kd.S_drewN | apply Kd.S_drew)); exact Kd.S_mono (Kd.S_far (p := ⟨gb205, 2, none⟩) (Kd.S_far (p := ⟨gb205, 1, none⟩) (Kd.S_far (p := ⟨gb205, 0, none⟩) (Kd.S_types HO_3.out BK205.out (by decide)) (fun _ hk => hk.2) (.string ((rd_T29 t201 x11_1).f0))) (fun _ hk => hk.2) (.string ((rd_T29 t201 x11_1).f1))) (fun _ hk => hk.2) (.string ((rd_T29 t201 x11_1).f2))) (fun _ hk => trivial)⟩
                         have n1_ : Aside0 (Kd.R k29 29 (((w52.setCell ⟨gb205, 0, none⟩ (.string ((rd_T29 t201 x11_1).f0))).setCell ⟨gb205, 1, none⟩ (.string ((rd_T29 t201 x11_1).f1))).setCell ⟨gb205, 2, none⟩ (.string ((rd_T29 t201 x11_1).f2))) w.heap.size (fun k_ => k_ ≠ gb205) (.slice (some ad204) t201.length co4) t201) := ⟨by (with_reducible repeat (first | apply Kd.R_alloc | apply Kd.R_drewN | apply Kd.R_drew)); exact Kd.R_mono (Kd.R_far (p := ⟨gb205, 2, none⟩) (Kd.R_far (p := ⟨gb205, 1, none⟩) (Kd.R_far (p := ⟨gb205, 0, none⟩) (Kd.R_mono HO_9.out (fun k_ hk => (⟨hk, hk.2⟩ : _ ∧ k_ ≠ gb205))) (fun _ hk => hk.2) (.string ((rd_T29 t201 x11_1).f0))) (fun _ hk => hk.2) (.string ((rd_T29 t201 x11_1).f1))) (fun _ hk => hk.2) (.string ((rd_T29 t201 x11_1).f2))) (fun _ hk => hk.1.2)⟩
                         have n2_ : Aside0 ((((w52.setCell ⟨gb205, 0, none⟩ (.string ((rd_T29 t201 x11_1).f0))).setCell ⟨gb205, 1, none⟩ (.string ((rd_T29 t201 x11_1).f1))).setCell ⟨gb205, 2, none⟩ (.string ((rd_T29 t201 x11_1).f2))).heap[gb205]? = some (.cells #[.string ((rd_T29 t201 x11_1).f0), .string ((rd_T29 t201 x11_1).f1), .string ((rd_T29 t201 x11_1).f2)] 29 (0, 0))) := ⟨by (with_reducible repeat (first | refine blk_drewN ?_ _ | refine blk_drew ?_ | refine blk_alloc ?_ _)); refine blk_put (cs := #[.string ((rd_T29 t201 x11_1).f0), .string ((rd_T29 t201 x11_1).f1), .string (⟨#[]⟩ : ByteArray)]) ?_ 2 _ rfl; (with_reducible repeat (first | refine blk_drewN ?_ _ | refine blk_drew ?_ | refine blk_alloc ?_ _)); refine blk_put (cs := #[.string ((rd_T29 t201 x11_1).f0), .string (⟨#[]⟩ : ByteArray), .string (⟨#[]⟩ : ByteArray)]) ?_ 1 _ rfl; (with_reducible repeat (first | refine blk_drewN ?_ _ | refine blk_drew ?_ | refine blk_alloc ?_ _)); refine blk_put (cs := #[.string (⟨#[]⟩ : ByteArray), .string (⟨#[]⟩ : ByteArray), .string (⟨#[]⟩ : ByteArray)]) ?_ 0 _ rfl; (with_reducible repeat (first | refine blk_drewN ?_ _ | refine blk_drew ?_ | refine blk_alloc ?_ _)); exact BK205.out⟩
                         have n3_ : Aside0 (Below w.heap.size w (((w52.setCell ⟨gb205, 0, none⟩ (.string ((rd_T29 t201 x11_1).f0))).setCell ⟨gb205, 1, none⟩ (.string ((rd_T29 t201 x11_1).f1))).setCell ⟨gb205, 2, none⟩ (.string ((rd_T29 t201 x11_1).f2)))) := ⟨by repeat (first | (with_reducible first | exact HB.out | apply below_alloc | apply pw_below_drewN | apply below_drew1 | refine below_set ?_ GE205.out) | exact HB.out)⟩
                         (try clear HO_3)
                         (try clear HO_9)
                         (try clear BK205)
                         (try clear HB)
                         generalize (((w52.setCell ⟨gb205, 0, none⟩ (.string ((rd_T29 t201 x11_1).f0))).setCell ⟨gb205, 1, none⟩ (.string ((rd_T29 t201 x11_1).f1))).setCell ⟨gb205, 2, none⟩ (.string ((rd_T29 t201 x11_1).f2))) = w55 at n0_ n1_ n2_ n3_ ⊢
                         have HO_3 := n0_
                         have HO_9 := n1_
                         have BK205 := n2_
                         have HB := n3_
                         clear n0_ n1_ n2_ n3_
                         have n0_ := Aside0.mk (Kd.S_drew HO_3.out)
                         have n1_ := Aside0.mk (Kd.R_drew HO_9.out)
                         have n2_ := Aside0.mk (blk_drew BK205.out)
                         have n3_ := Aside0.mk (below_drew1 HB.out)
                         clear HO_3
                         clear HO_9
                         clear BK205
                         clear HB
                         have HO_3 := n0_
                         have HO_9 := n1_
                         have BK205 := n2_
                         have HB := n3_
                         clear n0_ n1_ n2_ n3_
                         have p214 : 0 ≤ ((ji29) : Int) := of_decide_eq_true (by first | (with_reducible assumption) | assumption)
                         have q214 : (ji29) < (x3_1.length : Int) := of_decide_eq_true (by first | (with_reducible assumption) | assumption)
                         obtain ⟨ad214, A214_1, c214_1, e214, hx214_0, hx214_1, hl214_1, hi214_1⟩ := at_T52 (Kd.S_reads' HO_3.out).2.2 (ji29) p214 q214
                         cases e214
                         obtain ⟨ce214, hce214, hMe214, hcc214⟩ := Kd.S_get HO_3.out z52 (ji29) p214 (by first | exact q214 | exact of_decide_eq_true (by first | (with_reducible assumption) | assumption) | (have e_ := (Kd.S_reads' HO_3.out).1; omega))
                         obtain ⟨ve214_1, rfl, ge214_1⟩ := k52_openM hMe214
                         have hv214_1 := hcc214 1 _ rfl
                         rw [add_field _ _ 1 (by omega)] at hv214_1
                         replace hv214_1 := Option.some.inj (hv214_1.symm.trans hx214_1)
                         rw [hv214_1] at ge214_1
                         have HL214_1 := Aside0.mk (show Kd.R k74 74 _ _ _ _ ((rd_T52 x3_1 (ji29)).f1) from ge214_1)
                         clear hv214_1 ge214_1
                         have HX214_1 := Aside0.mk hx214_1
                         clear hcc214 hce214
                         have HR214_1 := Aside0.mk hi214_1
                         have HC214_1 := Aside0.mk hl214_1
                         clear hi214_1 hl214_1
                         replace p214 := eq_true p214
                         replace q214 := eq_true q214
                         refine start_ (n := 13) (S := fun w' => w'.cell? ⟨gb205, 0, none⟩ = some (.string ((rd_T29 t201 x11_1).f0)) ∧ w'.cell? ⟨gb205, 1, none⟩ = some (.string ((rd_T29 t201 x11_1).f1)) ∧ w'.cell? ⟨gb205, 2, none⟩ = some (.string ((rd_T29 t201 x11_1).f2)) ∧ w'.cell? (ad214.add (((ji29)).toNat * 2)) = some (.string ((rd_T52 x3_1 (ji29)).f0)) ∧ w'.cell? ⟨(ad214.add (((ji29)).toNat * 2)).block, (ad214.add (((ji29)).toNat * 2)).off + 1, none⟩ = some (.slice A214_1 ((rd_T52 x3_1 (ji29)).f1).length c214_1)) (ds := []) #[false, false, false, false, false, false, false, false, false, false, false, false, false] (by kernel_rfl) rfl rfl ⟨(blk_cell BK205.out 0).trans rfl, (blk_cell BK205.out 1).trans rfl, (blk_cell BK205.out 2).trans rfl, hx214_0, hx214_1⟩ (fun hHeld => ?_); refine with_tabW laws_sectionsOf.tab6 laws_sectionsOf.bits6 (fun HT_ HW_ => ?_)
                         generalize w55.drew = w56 at HO_3 HO_9 BK205 HB HL214_1 HR214_1 HX214_1 hx214_0 hx214_1 hHeld ⊢
                         refine pure_ (i := 0) (N := some 17) (v := ?_) (a' := ?_) #[true, false, false, false, false, false, false, false, false, false, false, false, false] rfl rfl (any_of HT_.out (by kernel_rfl)) (fun _ _ _ h => h) (Or.inl ⟨by rfl, ?_⟩) ?_ ?_
                         rotate_left
                         · intro w'
                           go_simp
                           with_reducible rfl
                         rotate_left
                         · simp only [Act.put, List.setIfInBounds_toArray, List.set_cons_zero, List.set_cons_succ, i64_w, i32_w]
                           rfl
                         refine pure_ (i := 1) (N := some 18) (v := ?_) (a' := ?_) #[true, true, false, false, false, false, false, false, false, false, false, false, false] rfl rfl (any_of HT_.out (by kernel_rfl)) (fun _ _ _ h => h) (Or.inl ⟨by rfl, ?_⟩) ?_ ?_
                         rotate_left
                         · intro w'
                           go_simp
                           with_reducible rfl
                         rotate_left
                         · simp only [Act.put, List.setIfInBounds_toArray, List.set_cons_zero, List.set_cons_succ, i64_w, i32_w]
                           rfl
                         refine pure_ (i := 2) (N := some 19) (v := ?_) (a' := ?_) #[true, true, true, false, false, false, false, false, false, false, false, false, false] rfl rfl (any_of HT_.out (by kernel_rfl)) (fun _ _ _ h => h) (Or.inl ⟨by rfl, ?_⟩) ?_ ?_
                         rotate_left
                         · intro w'
                           go_simp
                           with_reducible rfl
                         rotate_left
                         · simp only [Act.put, List.setIfInBounds_toArray, List.set_cons_zero, List.set_cons_succ, i64_w, i32_w]
                           rfl
                         refine pure_ (i := 3) (N := some 20) (v := ?_) (a' := ?_) #[true, true, true, true, false, false, false, false, false, false, false, false, false] rfl rfl (any_of HT_.out (by kernel_rfl)) (fun _ _ _ h => h) (Or.inl ⟨by rfl, ?_⟩) ?_ ?_
                         rotate_left
                         · intro w'
                           go_simp
                           with_reducible rfl
                         rotate_left
                         · simp only [Act.put, List.setIfInBounds_toArray, List.set_cons_zero, List.set_cons_succ, i64_w, i32_w]
                           rfl
                         refine pure_ (i := 4) (N := some 21) (v := ?_) (a' := ?_) #[true, true, true, true, true, false, false, false, false, false, false, false, false] rfl rfl (any_of HT_.out (by kernel_rfl)) (fun _ _ _ h => h) (Or.inl ⟨by rfl, ?_⟩) ?_ ?_
                         rotate_left
                         · intro w'
                           go_simp
                           with_reducible rfl
                         rotate_left
                         · simp only [Act.put, List.setIfInBounds_toArray, List.set_cons_zero, List.set_cons_succ, i64_w, i32_w]
                           rfl
                         refine pure_ (i := 5) (N := some 22) (v := ?_) (a' := ?_) #[true, true, true, true, true, true, false, false, false, false, false, false, false] rfl rfl (any_of HT_.out (by kernel_rfl)) (fun _ _ _ h => h) (Or.inl ⟨by rfl, ?_⟩) ?_ ?_
                         rotate_left
                         · intro w'
                           go_simp
                           with_reducible rfl
                         rotate_left
                         · simp only [Act.put, List.setIfInBounds_toArray, List.set_cons_zero, List.set_cons_succ, i64_w, i32_w]
                           rfl
                         refine pure_ (i := 6) (N := some 23) (v := ?_) (a' := ?_) #[true, true, true, true, true, true, true, false, false, false, false, false, false] rfl rfl (any_of HT_.out (by kernel_rfl)) (fun _ _ _ h => h) (Or.inl ⟨by rfl, ?_⟩) ?_ ?_
                         rotate_left
                         · intro w'
                           go_simp
                           with_reducible rfl
                         rotate_left
                         · simp only [Act.put, List.setIfInBounds_toArray, List.set_cons_zero, List.set_cons_succ, i64_w, i32_w]
                           rfl
                         refine pure_ (i := 7) (N := some 24) (v := ?_) (a' := ?_) #[true, true, true, true, true, true, true, true, false, false, false, false, false] rfl rfl (any_of HT_.out (by kernel_rfl)) (fun _ _ _ h => h) (Or.inl ⟨by rfl, ?_⟩) ?_ ?_
                         rotate_left
                         · intro w'
                           go_simp
                           with_reducible rfl
                         rotate_left
                         · simp only [Act.put, List.setIfInBounds_toArray, List.set_cons_zero, List.set_cons_succ, i64_w, i32_w]
                           rfl
                         refine pure_ (i := 9) (N := some 26) (v := ?_) (a' := ?_) #[true, true, true, true, true, true, true, true, false, true, false, false, false] rfl rfl (any_of HT_.out (by kernel_rfl)) (fun _ _ _ h => h) (Or.inl ⟨by rfl, ?_⟩) ?_ ?_
                         rotate_left
                         · intro w'
                           go_simp
                           with_reducible rfl
                         rotate_left
                         · simp only [Act.put, List.setIfInBounds_toArray, List.set_cons_zero, List.set_cons_succ, i64_w, i32_w]
                           rfl
                         refine take_ (i := 8) (N := some 25) (v := ?_) (a' := ?_) #[true, true, true, true, true, true, true, true, true, true, false, false, false] rfl rfl (take_ofW HT_.out HW_.out (by kernel_rfl)) (fun _ _ _ h => h) (Or.inl ⟨by rfl, ?_⟩) hHeld ?_ ?_
                         rotate_left
                         · rintro w' ⟨s0, s1, s2, s3, s4⟩
                           go_simp
                           with_reducible rfl
                         rotate_left
                         · simp only [Act.put, List.setIfInBounds_toArray, List.set_cons_zero, List.set_cons_succ, i64_w, i32_w]
                           rfl
                         refine take_ (i := 10) (N := some 27) (v := ?_) (a' := ?_) #[true, true, true, true, true, true, true, true, true, true, true, false, false] rfl rfl (take_ofW HT_.out HW_.out (by kernel_rfl)) (fun _ _ _ h => h) (Or.inl ⟨by rfl, ?_⟩) hHeld ?_ ?_
                         rotate_left
                         · rintro w' ⟨s0, s1, s2, s3, s4⟩
                           go_simp
                           with_reducible rfl
                         rotate_left
                         · simp only [Act.put, List.setIfInBounds_toArray, List.set_cons_zero, List.set_cons_succ, i64_w, i32_w]
                           rfl
                         refine pure_ (i := 11) (N := some 28) (v := ?_) (a' := ?_) #[true, true, true, true, true, true, true, true, true, true, true, true, false] rfl rfl (any_of HT_.out (by kernel_rfl)) (fun _ _ _ h => h) (Or.inl ⟨by rfl, ?_⟩) ?_ ?_
                         rotate_left
                         · intro w'
                           go_simp
                           with_reducible rfl
                         rotate_left
                         · simp only [Act.put, List.setIfInBounds_toArray, List.set_cons_zero, List.set_cons_succ, i64_w, i32_w]
                           rfl
                         refine pure_ (i := 12) (N := some 29) (v := ?_) (a' := ?_) #[true, true, true, true, true, true, true, true, true, true, true, true, true] rfl rfl (any_of HT_.out (by kernel_rfl)) (fun _ _ _ h => h) (Or.inl ⟨by rfl, ?_⟩) ?_ ?_
                         rotate_left
                         · intro w'
                           go_simp
                           with_reducible rfl
                         rotate_left
                         · simp only [Act.put, List.setIfInBounds_toArray, List.set_cons_zero, List.set_cons_succ, i64_w, i32_w]
                           rfl
                         refine done_ (done_of HT_.out (by kernel_rfl)) ?_
                         have hcz57_0 : w56.cell? ⟨gb205, 0, none⟩ = some (.string ((rd_T29 t201 x11_1).f0)) := (blk_cell BK205.out 0).trans rfl
                         have hcz57_1 : w56.cell? ⟨gb205, 1, none⟩ = some (.string ((rd_T29 t201 x11_1).f1)) := (blk_cell BK205.out 1).trans rfl
                         have hcz57_2 : w56.cell? ⟨gb205, 2, none⟩ = some (.string ((rd_T29 t201 x11_1).f2)) := (blk_cell BK205.out 2).trans rfl
                         have hfz57_0 := blk_frozen BK205.out 0
                         have hfz57_1 := blk_frozen BK205.out 1
                         have hfz57_2 := blk_frozen BK205.out 2
                         try go_wp2_with (first | ((with_reducible refine gate_builtin (b := .append) (xs := #[.tmp 30, .tmp 34]) rfl ?_); at_builtin; refine Kd.S_append k52 (w0 := w) w.heap.size rfl (.tmp 30) (.tmp 34) 45 52 (.agg #[(.string ⟨#[]⟩), (.slice none 0 0)]) 40 rfl Tryd.underlying45 info52 rfl (by decide) (by omega) (.slice (some ad214) x3_1.length co54) x3_1 (⟨(rd_T29 t201 x11_1).f0, ([] : List (S74))⟩ : S52) [.string ((rd_T29 t201 x11_1).f0), .slice none 0 0] (fun _ => True) (fun _ => False) rfl rfl ?aP (fun k_ hk_ => hk_.elim) ?aF ?aO ?aB ?aS ?aL ?_; (case aP => exact k52_mkM _ _ _ (⟨(rd_T29 t201 x11_1).f0, ([] : List (S74))⟩ : S52) (Kd.R_nil _ _ _ _ _)); (case aB => exact (by repeat (first | (with_reducible first | exact HB.out | apply below_alloc | apply pw_below_drewN | apply below_drew1 | refine below_set ?_ GE205.out) | exact HB.out))); (case aF => exact (fun _ _ => trivial)); (case aO => exact (by (with_reducible repeat (first | apply Kd.S_alloc | apply Kd.S_drewN | apply Kd.S_drew)); exact Kd.S_mono HO_3.out (fun k_ hk => ⟨trivial, fun e_ => e_⟩))); (case aS => exact (below_size (by repeat (first | (with_reducible first | exact HB.out | apply below_alloc | apply pw_below_drewN | apply below_drew1 | refine below_set ?_ GE205.out) | exact HB.out)))); (case aL => have := LMc46.out; omega); intro v221 w58 ho hb hg hat; rw [← Ny220.out] at ho; have n0_ := Aside0.mk (Kd.R_over' (by (with_reducible repeat (first | apply Kd.R_alloc | apply Kd.R_drewN | apply Kd.R_drew)); exact HO_9.out) (Kd.S_typed (by (with_reducible repeat (first | apply Kd.S_alloc | apply Kd.S_drewN | apply Kd.S_drew)); exact HO_3.out)) (by decide) hg); have n1_ := Aside0.mk (blk_grown (g := gb205) (o := .cells #[.string ((rd_T29 t201 x11_1).f0), .string ((rd_T29 t201 x11_1).f1), .string ((rd_T29 t201 x11_1).f2)] 29 (0, 0)) (by (with_reducible repeat (first | refine blk_drewN ?_ _ | refine blk_drew ?_ | refine blk_alloc ?_ _)); exact BK205.out) hg (Kd.S_ne HO_3.out BK205.out (by decide))); have n2_ := Aside0.mk (Kd.R_after (ok := (fun _ => True)) (by (with_reducible repeat (first | apply Kd.R_alloc | apply Kd.R_drewN | apply Kd.R_drew)); exact HL214_1.out) hg hat); have n3_ := Aside0.mk (hb); have n4_ := Aside0.mk (ho); clear HO_9; clear BK205; clear HL214_1; clear HB; clear HO_3; have HO_9 := n0_; have BK205 := n1_; have HL214_1 := n2_; have HB := n3_; have HO222 := n4_; clear n0_ n1_ n2_ n3_ n4_; clear ho hb hg hat; obtain ⟨Ao59, co59, eo59⟩ := Kd.S_slice HO222.out; subst eo59))
                         have n0_ := Aside0.mk (Kd.R_drew HO_9.out)
                         have n1_ := Aside0.mk (Kd.R_drew HL214_1.out)
                         have n2_ := Aside0.mk (Kd.S_drew HO222.out)
                         have n3_ := Aside0.mk (blk_drew BK205.out)
                         have n4_ := Aside0.mk (below_drew1 HB.out)
                         clear HO_9
                         clear HL214_1
                         clear HO222
                         clear BK205
                         clear HB
                         have HO_9 := n0_
                         have HL214_1 := n1_
                         have HO222 := n2_
                         have BK205 := n3_
                         have HB := n4_
                         clear n0_ n1_ n2_ n3_ n4_
                         have p223 : 0 ≤ ((ji47) : Int) := of_decide_eq_true (by first | (with_reducible assumption) | assumption)
                         have q223 : (ji47) < (y220.length : Int) := of_decide_eq_true (by first | (with_reducible assumption) | assumption)
                         obtain ⟨ad223, A223_1, c223_1, e223, hx223_0, hx223_1, hl223_1, hi223_1⟩ := at_T52 (Kd.S_reads' HO222.out).2.2 (ji47) p223 q223
                         cases e223
                         obtain ⟨ce223, hce223, hMe223, hcc223⟩ := Kd.S_get HO222.out z52 (ji47) p223 (by first | exact q223 | exact of_decide_eq_true (by first | (with_reducible assumption) | assumption) | (have e_ := (Kd.S_reads' HO222.out).1; omega))
                         obtain ⟨ve223_1, rfl, ge223_1⟩ := k52_openM hMe223
                         have hv223_1 := hcc223 1 _ rfl
                         rw [add_field _ _ 1 (by omega)] at hv223_1
                         replace hv223_1 := Option.some.inj (hv223_1.symm.trans hx223_1)
                         rw [hv223_1] at ge223_1
                         have HL223_1 := Aside0.mk (show Kd.R k74 74 _ _ _ _ ((rd_T52 y220 (ji47)).f1) from ge223_1)
                         clear hv223_1 ge223_1
                         have HX223_1 := Aside0.mk hx223_1
                         clear hcc223 hce223
                         have HR223_1 := Aside0.mk hi223_1
                         have HC223_1 := Aside0.mk hl223_1
                         clear hi223_1 hl223_1
                         replace p223 := eq_true p223
                         replace q223 := eq_true q223
                         obtain ⟨go61, co61, eo61, gb61, gl61, cl61, HG61⟩ := Kd.S_form HO222.out (by have h_ : ((ji47) : Int) < ((y220.length : Int) : Int) := of_decide_eq_true (by first | (with_reducible assumption) | assumption); have h2_ : 0 ≤ ((ji47) : Int) := (of_decide_eq_true (by first | (with_reducible assumption) | assumption)); omega)
                         (first | cases eo61 | (injection eo61 with ea_ en_ ec_; (first | subst ea_ | (injection ea_ with ea_; subst ea_)); subst ec_; clear en_))
                         have GB61 := Aside0.mk gb61
                         have GG61 := Aside0.mk HG61
                         clear gb61 gl61 HG61
                         (first | simp only [add_plain] at hx223_0 | skip)
                         (first | simp only [add_plain] at hx223_1 | skip)
                         obtain ⟨oki61, ce61, hcl61, hM61, hcc61, _, _, hH61⟩ := Kd.S_elem HO222.out z52 ((ji47) : Int) (of_decide_eq_true (by first | (with_reducible assumption) | assumption)) (by have h_ : ((ji47) : Int) < ((y220.length : Int) : Int) := of_decide_eq_true (by first | (with_reducible assumption) | assumption); first | exact h_ | (have e_ := (Kd.S_reads' HO222.out).1; omega) | simpa using h_)
                         obtain ⟨ve61_1, rfl, ge61_1⟩ := k52_openM hM61
                         have hv61 := hcc61 1 _ rfl
                         have hX61 := HX223_1.out
                         (try simp only [add_plain] at hX61)
                         (try simp only [Nat.add_zero] at hv61)
                         replace hv61 := Option.some.inj (hv61.symm.trans hX61)
                         subst hv61
                         clear hX61 hcc61 hcl61
                         have UU61 := Aside0.mk (show Kd.R k74 74 _ w.heap.size oki61 (.slice A223_1 ((rd_T52 y220 (ji47)).f1).length c223_1) ((rd_T52 y220 (ji47)).f1) from ge61_1)
                         have HH61 := Aside0.mk hH61
                         have HN61 := Aside0.mk (Kd.S_reads' HO222.out).1
                         clear hH61 ge61_1
                         refine start_ (n := 17) (S := fun w' => w'.cell? ⟨gb205, 0, none⟩ = some (.string ((rd_T29 t201 x11_1).f0)) ∧ w'.cell? ⟨gb205, 1, none⟩ = some (.string ((rd_T29 t201 x11_1).f1)) ∧ w'.cell? ⟨gb205, 2, none⟩ = some (.string ((rd_T29 t201 x11_1).f2)) ∧ w'.cell? ⟨go61, (((ji47)).toNat * 2), none⟩ = some (.string ((rd_T52 y220 (ji47)).f0)) ∧ w'.cell? ⟨go61, (((ji47)).toNat * 2) + 1, none⟩ = some (.slice A223_1 ((rd_T52 y220 (ji47)).f1).length c223_1)) (ds := [16]) #[false, false, false, false, false, false, false, false, false, false, false, false, false, false, false, false, false] (by kernel_rfl) rfl rfl ⟨(blk_cell BK205.out 0).trans rfl, (blk_cell BK205.out 1).trans rfl, (blk_cell BK205.out 2).trans rfl, hx223_0, hx223_1⟩ (fun hHeld => ?_); refine with_tabW laws_sectionsOf.tab9 laws_sectionsOf.bits9 (fun HT_ HW_ => ?_)
                         generalize w58.drew = w60 at HO_9 HL214_1 HO222 BK205 HB GG61 HH61 HL223_1 HR223_1 HX223_1 UU61 hx223_0 hx223_1 hHeld ⊢
                         refine pure_ (i := 0) (N := some 39) (v := ?_) (a' := ?_) #[true, false, false, false, false, false, false, false, false, false, false, false, false, false, false, false, false] rfl rfl (any_of HT_.out (by kernel_rfl)) (fun _ _ _ h => h) (Or.inl ⟨by rfl, ?_⟩) ?_ ?_
                         rotate_left
                         · intro w'
                           go_simp
                           with_reducible rfl
                         rotate_left
                         · simp only [Act.put, List.setIfInBounds_toArray, List.set_cons_zero, List.set_cons_succ, i64_w, i32_w]
                           rfl
                         refine pure_ (i := 1) (N := some 40) (v := ?_) (a' := ?_) #[true, true, false, false, false, false, false, false, false, false, false, false, false, false, false, false, false] rfl rfl (any_of HT_.out (by kernel_rfl)) (fun _ _ _ h => h) (Or.inl ⟨by rfl, ?_⟩) ?_ ?_
                         rotate_left
                         · intro w'
                           go_simp
                           with_reducible rfl
                         rotate_left
                         · simp only [Act.put, List.setIfInBounds_toArray, List.set_cons_zero, List.set_cons_succ, i64_w, i32_w]
                           rfl
                         refine pure_ (i := 2) (N := some 41) (v := ?_) (a' := ?_) #[true, true, true, false, false, false, false, false, false, false, false, false, false, false, false, false, false] rfl rfl (any_of HT_.out (by kernel_rfl)) (fun _ _ _ h => h) (Or.inl ⟨by rfl, ?_⟩) ?_ ?_
                         rotate_left
                         · intro w'
                           go_simp
                           with_reducible rfl
                         rotate_left
                         · simp only [Act.put, List.setIfInBounds_toArray, List.set_cons_zero, List.set_cons_succ, i64_w, i32_w]
                           rfl
                         refine pure_ (i := 3) (N := some 42) (v := ?_) (a' := ?_) #[true, true, true, true, false, false, false, false, false, false, false, false, false, false, false, false, false] rfl rfl (any_of HT_.out (by kernel_rfl)) (fun _ _ _ h => h) (Or.inl ⟨by rfl, ?_⟩) ?_ ?_
                         rotate_left
                         · intro w'
                           go_simp
                           with_reducible rfl
                         rotate_left
                         · simp only [Act.put, List.setIfInBounds_toArray, List.set_cons_zero, List.set_cons_succ, i64_w, i32_w]
                           rfl
                         refine pure_ (i := 4) (N := some 43) (v := ?_) (a' := ?_) #[true, true, true, true, true, false, false, false, false, false, false, false, false, false, false, false, false] rfl rfl (any_of HT_.out (by kernel_rfl)) (fun _ _ _ h => h) (Or.inl ⟨by rfl, ?_⟩) ?_ ?_
                         rotate_left
                         · intro w'
                           go_simp
                           with_reducible rfl
                         rotate_left
                         · simp only [Act.put, List.setIfInBounds_toArray, List.set_cons_zero, List.set_cons_succ, i64_w, i32_w]
                           rfl
                         refine pure_ (i := 5) (N := some 44) (v := ?_) (a' := ?_) #[true, true, true, true, true, true, false, false, false, false, false, false, false, false, false, false, false] rfl rfl (any_of HT_.out (by kernel_rfl)) (fun _ _ _ h => h) (Or.inl ⟨by rfl, ?_⟩) ?_ ?_
                         rotate_left
                         · intro w'
                           go_simp
                           with_reducible rfl
                         rotate_left
                         · simp only [Act.put, List.setIfInBounds_toArray, List.set_cons_zero, List.set_cons_succ, i64_w, i32_w]
                           rfl
                         refine pure_ (i := 7) (N := some 46) (v := ?_) (a' := ?_) #[true, true, true, true, true, true, false, true, false, false, false, false, false, false, false, false, false] rfl rfl (any_of HT_.out (by kernel_rfl)) (fun _ _ _ h => h) (Or.inl ⟨by rfl, ?_⟩) ?_ ?_
                         rotate_left
                         · intro w'
                           go_simp
                           with_reducible rfl
                         rotate_left
                         · simp only [Act.put, List.setIfInBounds_toArray, List.set_cons_zero, List.set_cons_succ, i64_w, i32_w]
                           rfl
                         refine pure_ (i := 9) (N := some 48) (v := ?_) (a' := ?_) #[true, true, true, true, true, true, false, true, false, true, false, false, false, false, false, false, false] rfl rfl (any_of HT_.out (by kernel_rfl)) (fun _ _ _ h => h) (Or.inl ⟨by rfl, ?_⟩) ?_ ?_
                         rotate_left
                         · intro w'
                           go_simp
                           with_reducible rfl
                         rotate_left
                         · simp only [Act.put, List.setIfInBounds_toArray, List.set_cons_zero, List.set_cons_succ, i64_w, i32_w]
                           rfl
                         refine take_ (i := 6) (N := some 45) (v := ?_) (a' := ?_) #[true, true, true, true, true, true, true, true, false, true, false, false, false, false, false, false, false] rfl rfl (take_ofW HT_.out HW_.out (by kernel_rfl)) (fun _ _ _ h => h) (Or.inl ⟨by rfl, ?_⟩) hHeld ?_ ?_
                         rotate_left
                         · rintro w' ⟨s0, s1, s2, s3, s4⟩
                           go_simp
                           with_reducible rfl
                         rotate_left
                         · simp only [Act.put, List.setIfInBounds_toArray, List.set_cons_zero, List.set_cons_succ, i64_w, i32_w]
                           rfl
                         refine take_ (i := 8) (N := some 47) (v := ?_) (a' := ?_) #[true, true, true, true, true, true, true, true, true, true, false, false, false, false, false, false, false] rfl rfl (take_ofW HT_.out HW_.out (by kernel_rfl)) (fun _ _ _ h => h) (Or.inl ⟨by rfl, ?_⟩) hHeld ?_ ?_
                         rotate_left
                         · rintro w' ⟨s0, s1, s2, s3, s4⟩
                           go_simp
                           with_reducible rfl
                         rotate_left
                         · simp only [Act.put, List.setIfInBounds_toArray, List.set_cons_zero, List.set_cons_succ, i64_w, i32_w]
                           rfl
                         refine take_ (i := 10) (N := some 49) (v := ?_) (a' := ?_) #[true, true, true, true, true, true, true, true, true, true, true, false, false, false, false, false, false] rfl rfl (take_ofW HT_.out HW_.out (by kernel_rfl)) (fun _ _ _ h => h) (Or.inl ⟨by rfl, ?_⟩) hHeld ?_ ?_
                         rotate_left
                         · rintro w' ⟨s0, s1, s2, s3, s4⟩
                           go_simp
                           with_reducible rfl
                         rotate_left
                         · simp only [Act.put, List.setIfInBounds_toArray, List.set_cons_zero, List.set_cons_succ, i64_w, i32_w]
                           rfl
                         refine pure_ (i := 11) (N := some 50) (v := ?_) (a' := ?_) #[true, true, true, true, true, true, true, true, true, true, true, true, false, false, false, false, false] rfl rfl (any_of HT_.out (by kernel_rfl)) (fun _ _ _ h => h) (Or.inl ⟨by rfl, ?_⟩) ?_ ?_
                         rotate_left
                         · intro w'
                           go_simp
                           with_reducible rfl
                         rotate_left
                         · simp only [Act.put, List.setIfInBounds_toArray, List.set_cons_zero, List.set_cons_succ, i64_w, i32_w]
                           rfl
                         refine one_ (i := 12) (N := some 51) #[true, true, true, true, true, true, true, true, true, true, true, true, true, false, false, false, false] rfl rfl (one_of HT_.out (by kernel_rfl)) (by decide) (fun K hK => ?_)
                         refine value_ (w1 := ?_) (v := ?_) (by rfl) rfl ?_ ?_
                         rotate_left 2
                         · go_simp
                           constructor
                           · rfl
                           · rfl
                         refine hK.out _ _ ⟨(blk_cell (blk_alloc BK205.out _) 0).trans rfl, (blk_cell (blk_alloc BK205.out _) 1).trans rfl, (blk_cell (blk_alloc BK205.out _) 2).trans rfl, (World.cell?_alloc_lt _ _ _ (World.block_lt_of_cell? _ _ (hHeld.2.2.2.1))).trans (hHeld.2.2.2.1), (World.cell?_alloc_lt _ _ _ (World.block_lt_of_cell? _ _ (hHeld.2.2.2.2))).trans (hHeld.2.2.2.2)⟩ (fun hHeld => ?_)
                         clear hK K
                         refine norm_ (a' := ?_) ?_ ?_
                         rotate_left
                         · show Act.put _ (some 51) _ = _
                           simp only [Act.put, List.setIfInBounds_toArray, List.set_cons_zero, List.set_cons_succ, i64_w, i32_w]
                           rfl
                         refine one_ (i := 13) (N := some 52) #[true, true, true, true, true, true, true, true, true, true, true, true, true, true, false, false, false] rfl rfl (one_of HT_.out (by kernel_rfl)) (by decide) (fun K hK => ?_)
                         refine Kd.R_append_step k74 (w0 := w) w.heap.size (by rfl) (.tmp 45) (.tmp 51) 50 74 (.agg #[(.string ⟨#[]⟩), (.string ⟨#[]⟩)]) 32 rfl Tryd.underlying50 info74 rfl (by decide) (by omega) (.slice A223_1 ((rd_T52 y220 (ji47)).f1).length c223_1) ((rd_T52 y220 (ji47)).f1) (⟨(rd_T29 t201 x11_1).f1, (rd_T29 t201 x11_1).f2⟩ : S74) [.string ((rd_T29 t201 x11_1).f1), .string ((rd_T29 t201 x11_1).f2)] (fun k_ => oki61 k_ ∨ ((fun _ => True)) k_ ∧ w60.heap.size ≤ k_) (fun _ => False) rfl rfl ?aP (fun _ hk => hk.elim) ?aF ?aO ?aB ?aS ?aL ?_
                         (case aP => exact k74_mkM _ _ _ (⟨(rd_T29 t201 x11_1).f1, (rd_T29 t201 x11_1).f2⟩ : S74))
                         (case aB => exact (by repeat (first | (with_reducible first | exact HB.out | apply below_alloc | apply pw_below_drewN | apply below_drew1 | refine below_set ?_ GE205.out) | exact HB.out)))
                         (case aF => exact (fun k_ hk => .inr ⟨trivial, hk⟩))
                         (case aO => exact (by (with_reducible repeat (first | apply Kd.R_alloc | apply Kd.R_drewN | apply Kd.R_drew)); exact Kd.R_mono UU61.out (fun _ hk => .inl hk)))
                         (case aS => exact (below_size (by repeat (first | (with_reducible first | exact HB.out | apply below_alloc | apply pw_below_drewN | apply below_drew1 | refine below_set ?_ GE205.out) | exact HB.out))))
                         (case aL => have := LMc50.out; omega)
                         intro v225 w62 ho hb hg hat
                         (first | have HS3_ := cell_grown hg (hHeld.2.2.2.1) (by first | (rw [add_block]; exact (fun e_ => ((HL223_1.out.1 _ e_.symm).2) rfl)) | (show some (Addr.add _ _).block ≠ _; rw [add_block]; exact (fun e_ => ((HL223_1.out.1 _ e_.symm).2) rfl)) | exact (fun e_ => ((HL223_1.out.1 _ e_.symm).2) rfl)) | have HS3_ := cell_grown hg (cell_unalloc (hHeld.2.2.2.1) (by first | (rw [add_block]; exact Kd.S_lt HO222.out _ rfl) | (show (Addr.add _ _).block < _; rw [add_block]; exact Kd.S_lt HO222.out _ rfl) | exact Kd.S_lt HO222.out _ rfl)) (by first | (rw [add_block]; exact (fun e_ => ((HL223_1.out.1 _ e_.symm).2) rfl)) | (show some (Addr.add _ _).block ≠ _; rw [add_block]; exact (fun e_ => ((HL223_1.out.1 _ e_.symm).2) rfl)) | exact (fun e_ => ((HL223_1.out.1 _ e_.symm).2) rfl)))
                         (first | have HS4_ := cell_grown hg (hHeld.2.2.2.2) (by first | (rw [add_block]; exact (fun e_ => ((HL223_1.out.1 _ e_.symm).2) rfl)) | (show some (Addr.add _ _).block ≠ _; rw [add_block]; exact (fun e_ => ((HL223_1.out.1 _ e_.symm).2) rfl)) | exact (fun e_ => ((HL223_1.out.1 _ e_.symm).2) rfl)) | have HS4_ := cell_grown hg (cell_unalloc (hHeld.2.2.2.2) (by first | (rw [add_block]; exact Kd.S_lt HO222.out _ rfl) | (show (Addr.add _ _).block < _; rw [add_block]; exact Kd.S_lt HO222.out _ rfl) | exact Kd.S_lt HO222.out _ rfl)) (by first | (rw [add_block]; exact (fun e_ => ((HL223_1.out.1 _ e_.symm).2) rfl)) | (show some (Addr.add _ _).block ≠ _; rw [add_block]; exact (fun e_ => ((HL223_1.out.1 _ e_.symm).2) rfl)) | exact (fun e_ => ((HL223_1.out.1 _ e_.symm).2) rfl)))
                         rw [← Ny224.out] at ho
                         have n0_ := Aside0.mk (Kd.R_over' (v := (.slice A223_1 ((rd_T52 y220 (ji47)).f1).length c223_1)) (by (with_reducible repeat (first | apply Kd.R_alloc | apply Kd.R_drewN | apply Kd.R_drew)); exact HO_9.out) (Kd.R_typed HL223_1.out) (by decide) hg)
                         have n1_ := Aside0.mk (blk_grown (g := gb205) (o := .cells #[.string ((rd_T29 t201 x11_1).f0), .string ((rd_T29 t201 x11_1).f1), .string ((rd_T29 t201 x11_1).f2)] 29 (0, 0)) (by (with_reducible repeat (first | refine blk_drewN ?_ _ | refine blk_drew ?_ | refine blk_alloc ?_ _)); exact BK205.out) hg (Kd.R_ne HL223_1.out BK205.out (by decide)))
                         have n2_ := Aside0.mk (hb)
                         have n3_ := Aside0.mk (Kd.H_grown (Kd.H_widen (by repeat (first | exact HH61.out | refine Kd.H_alloc ?_ _ | refine Kd.H_drewN ?_ _ | refine Kd.H_drew ?_))) hg (fun k_ e_ => .inl (UU61.out.1 k_ e_)))
                         have n4_ := Aside0.mk (ho)
                         clear HO_9
                         clear BK205
                         clear HB
                         clear HH61
                         clear HO222
                         clear UU61
                         clear HL214_1
                         clear HL223_1
                         have HO_9 := n0_
                         have BK205 := n1_
                         have HB := n2_
                         have HH61 := n3_
                         have HO226 := n4_
                         clear n0_ n1_ n2_ n3_ n4_
                         clear ho hb hg hat
                         have p51 : 0 ≤ ((ji47) : Int) := of_decide_eq_true (by first | (with_reducible assumption) | assumption)
                         have q51 : ((ji47) : Int) < ((y220.length : Int) : Int) := of_decide_eq_true (by first | (with_reducible assumption) | assumption)
                         replace p51 := eq_true p51
                         replace q51 := eq_true q51
                         obtain ⟨Ao65, co65, eo65⟩ := Kd.R_slice HO226.out
                         (first | subst eo65 | (injection eo65 with f1_ f2_ f3_; have f4_ := f1_.symm; have f5_ := f3_.symm; clear f1_ f2_ f3_; subst f4_; subst f5_))
                         obtain ⟨_, _, hraw63, _, _, hcc63, _⟩ := Kd.H_raw HH61.out (of_decide_eq_true (by first | (with_reducible assumption) | assumption)) (by have h_ : ((ji47) : Int) < ((y220.length : Int) : Int) := of_decide_eq_true (by first | (with_reducible assumption) | assumption); first | exact h_ | (have e_ := (HN61.out); omega) | simpa using h_)
                         obtain ⟨_, hfr63⟩ := Kd.H_at HH61.out (of_decide_eq_true (by first | (with_reducible assumption) | assumption)) (by have h_ : ((ji47) : Int) < ((y220.length : Int) : Int) := of_decide_eq_true (by first | (with_reducible assumption) | assumption); first | exact h_ | (have e_ := (HN61.out); omega) | simpa using h_)
                         have hx63_0 := hcc63 1 _ rfl
                         have hf63_0 := hfr63 1
                         (try rw [show (k52).sz = 2 from rfl] at hx63_0)
                         (try rw [show (k52).sz = 2 from rfl] at hf63_0)
                         have HP63 := Kd.S_seg0 HH61.out (of_decide_eq_true (by first | (with_reducible assumption) | assumption)) (by have h_ : ((ji47) : Int) < ((y220.length : Int) : Int) := of_decide_eq_true (by first | (with_reducible assumption) | assumption); first | exact h_ | (have e_ := (HN61.out); omega) | simpa using h_) (seg := [.slice Ao65 y224.length co65]) (j := 1) (show 2 ≤ 2 from by decide) (x' := (⟨(rd_T52 y220 (ji47)).f0, y224⟩ : S52)) (k52_mkM _ _ _ (⟨(rd_T52 y220 (ji47)).f0, y224⟩ : S52) HO226.out) (fun _ hk => hk)
                         clear hcc63 hfr63
                         have HNB205_go61 := Aside0.mk (show gb205 ≠ go61 from by have h_ := Kd.R_ne hraw63 BK205.out (by decide); intro e_; exact h_ (by rw [e_]; rfl))
                         have HS63 := HP63.1
                         rw [← Ny227.out] at HS63
                         have HQ63 := Aside0.mk HS63
                         obtain ⟨_, hgg63⟩ := Kd.R_typed hraw63 go61 rfl
                         have GG63_ := Aside0.mk hgg63
                         clear HP63 HS63 hgg63
                         refine hK.out _ _ ⟨(blk_cell BK205.out 0).trans rfl, (blk_cell BK205.out 1).trans rfl, (blk_cell BK205.out 2).trans rfl, HS3_, HS4_⟩ (fun hHeld => ?_)
                         clear hK K
                         refine norm_ (a' := ?_) ?_ ?_
                         rotate_left
                         · show Act.put _ (some 52) _ = _
                           simp only [Act.put, List.setIfInBounds_toArray, List.set_cons_zero, List.set_cons_succ, i64_w, i32_w]
                           rfl
                         refine pure_ (i := 14) (N := some 53) (v := ?_) (a' := ?_) #[true, true, true, true, true, true, true, true, true, true, true, true, true, true, true, false, false] rfl rfl (any_of HT_.out (by kernel_rfl)) (fun _ _ _ h => h) (Or.inl ⟨by rfl, ?_⟩) ?_ ?_
                         rotate_left
                         · intro w'
                           go_simp
                           with_reducible rfl
                         rotate_left
                         · simp only [Act.put, List.setIfInBounds_toArray, List.set_cons_zero, List.set_cons_succ, i64_w, i32_w]
                           rfl
                         refine pure_ (i := 15) (N := some 54) (v := ?_) (a' := ?_) #[true, true, true, true, true, true, true, true, true, true, true, true, true, true, true, true, false] rfl rfl (any_of HT_.out (by kernel_rfl)) (fun _ _ _ h => h) (Or.inl ⟨by rfl, ?_⟩) ?_ ?_
                         rotate_left
                         · intro w'
                           go_simp
                           with_reducible rfl
                         rotate_left
                         · simp only [Act.put, List.setIfInBounds_toArray, List.set_cons_zero, List.set_cons_succ, i64_w, i32_w]
                           rfl
                         refine last_ (i := 16) (N := none) #[true, true, true, true, true, true, true, true, true, true, true, true, true, true, true, true, true] rfl rfl (one_of HT_.out (by kernel_rfl)) (by decide) (fun K hK => ?_)
                         refine skip_ (w1 := ?_) (by rfl) rfl ?_ ?_
                         rotate_left
                         · go_simp
                           rfl
                         refine hK.out _ _ ?_
                         clear hK K
                         refine done_ (done_of HT_.out (by kernel_rfl)) ?_
                         try go_wp2
                         go_roundg k1
                         case measure => have := HK1.out; omega
                         case rel => exact ⟨(y227), (wrap64 (x11_1 + 1)), (by first | rfl | (simp; done) | (simp [*]; done)), H', ⟨by have := HK1.out; omega⟩, ⟨by (with_reducible repeat (first | apply Kd.S_alloc | apply Kd.S_drewN | apply Kd.S_drew)); exact HQ63.out⟩, ⟨by (with_reducible repeat (first | apply Kd.R_alloc | apply Kd.R_drewN | apply Kd.R_drew)); exact Kd.R_mono (Kd.R_far (p := ⟨go61, ((ji47) : Int).toNat * 2 + 1, none⟩) (Kd.R_types HO_9.out GG63_.out (by decide)) (fun _ hk => hk.2) (.slice Ao65 y224.length co65)) (fun _ hk => trivial)⟩, ⟨by repeat (first | (with_reducible first | exact HB.out | apply below_alloc | apply pw_below_drewN | apply below_drew1 | refine below_set ?_ GB61.out | refine below_set ?_ GE205.out) | exact HB.out)⟩⟩
                       · rw [if_neg c50] at H
                         exact absurd H (by simp)
                     · rw [if_neg c49] at H
                       exact absurd H (by simp)
                   · rw [if_neg c48] at H
                     exact absurd H (by simp)
                 · rw [if_neg c46] at H
                   exact absurd H (by simp)
             · rw [if_neg c31] at H
               exact absurd H (by simp)
           · rw [if_neg c30] at H
             exact absurd H (by simp)
       · rw [if_neg c7] at H
         exact absurd H (by simp)
     · rw [if_neg c6] at H
       exact absurd H (by simp)
   · rw [if_neg c5] at H
     have c5b0 : decide (x11_1 < (t201.length : Int)) = false := decide_eq_false c5
     clear c5
     obtain rfl := Option.some.inj H
     go_wp2
     go_ret
     exact ⟨_, by first | rfl | (simp [errW_none, errW_some] <;> rfl) | (simp [*, errW_none, errW_some] <;> rfl), by (with_reducible repeat (first | apply Kd.S_alloc | apply Kd.S_drewN | apply Kd.S_drew)); exact HO_3.out, by repeat (first | (with_reducible first | exact HB.out | apply below_alloc | apply pw_below_drewN | apply below_drew1) | exact HB.out)⟩
end Go.Proofs.YtocdnceckljnaaaDoor.QV0
namespace Go.Proofs.YtocdnceckljnaaaDoor.QV0
open Go.RowKit Go.Proofs.YtocdnceckljnaaaDoorW.PrintWords Go.Proofs.YtocdnceckljnaaaDoorW.PrintLast Go.Proofs.YtocdnceckljnaaaDoorW.PrintMore
open Go.Proofs.YtocdnceckljnaaaDoor.U
set_option linter.unusedVariables false
set_option linter.unusedSimpArgs false
def ent74 (e : Bs × Bs) : S74 := ⟨B e.1, B e.2⟩
def sec52 (g : Bs × List (Bs × Bs)) : S52 := ⟨B g.1, g.2.map ent74⟩
def entS (y : EntB) : S74 := ⟨B y.n, B y.v⟩
def secS (x : SecB) : S52 := ⟨B x.s, x.es.map entS⟩
theorem secS_sp (x : SecB) : sec52 (SecB.sp x) = secS x := by
  unfold sec52 SecB.sp secS
  rw [List.map_map]
  rfl
theorem k74E (q : Nat) (hq : q ∈ 74 :: k74.E) : q = 74 := by simpa [k74, Kd.iso, Kd.pair, Kd.string, Kd.scalar] using hq
theorem k52E (q : Nat) (hq : q ∈ 52 :: k52.E) : q = 52 ∨ q = 74 := by simpa [k52, k74, Kd.iso, Kd.pair, Kd.slice, Kd.string, Kd.scalar] using hq
theorem catch_idle44 (p q : Addr) (w : World) :
    CallsD Tryd.prog 44 #[.pointer (some p), .pointer (some q)] .returning w fun e u' w' => e = .returned (.tuple #[]) ∧ u' = .returning ∧ w' = w := by
  refine callsD_of_wpS Tryd.func44 rfl fun c₀ cs hu => ?_
  apply wpS_seq
  apply wpS_region
  simp [wpOpsS, go_sem, recoverD, hu, Tryd.ntmps44, Exit.thenS]
  refine wpS_cond (t := false) (by simp [Act.eval, Array.replicate]) ?_
  simp only [Bool.false_eq_true, if_false]
  refine wpS_of_wp (wp_skip ?_)
  cases c₀
  simp_all [bodyPostS, results, Tryd.results44]
set_option maxHeartbeats 4000000 in
set_option maxRecDepth 100000 in
theorem des_sects (T : ByteArray) (w : World) (S' : List (Bs × List (Bs × Bs))) (O' : List (Bs × Bs × Bs)) (ht : Tabs w) (ha : ∀ c ∈ T.data.toList, c.toNat < 128) (hT : T.size ≤ 1000000000) (hR : readF T.data.toList = some (S', O')) :
    Calls Tryd.prog 45 #[.string T] w fun e w' => ∃ (v6 : Value) (Ss : List SecB), e = .returned (.tuple #[v6, .nilIface]) ∧ Below w.heap.size w w' ∧ kPtr.R 76 w' w.heap.size (fun _ => True) v6 (Ss.map (·.b)) ∧ (∀ x ∈ Ss, SecAt w' w.heap.size x) ∧ Ss.map SecB.sp = S' := by
  unfold readF at hR
  obtain ⟨R, hl, hR⟩ := Option.bind_eq_some_iff.mp hR
  split at hR
  · rename_i hRl
    have HC := Aside0.mk (des_all T w _ R S' O' ht ha hT hl hR hRl)
    clear hl hR hRl ha ht
    go_enter Tryd.func45, Tryd.ntmps45
    go_wp2_with (go_at_call 54; refine HC.out.mono ?_; rintro e w1 ⟨v6, v7, Ss, Os, rfl, hb, h1, h2, h3, h4, h5, h6⟩; have H := Aside0.mk (And.intro hb (And.intro h1 (And.intro h2 h5))); clear hb h1 h2 h3 h4 h5 h6)
    go_ret2
    exact ⟨_, Ss, rfl, H.out⟩
  · simp at hR
set_option maxHeartbeats 40000000 in
set_option maxRecDepth 100000 in
theorem unit_read_sections (T : ByteArray) (w : World) (S' : List (Bs × List (Bs × Bs))) (O' : List (Bs × Bs × Bs)) (ht : Tabs w) (ha : ∀ c ∈ T.data.toList, c.toNat < 128) (hT : T.size ≤ 1000000000) (hR : readF T.data.toList = some (S', O')) (hS : S'.length < 900000000) (hE : ∀ g ∈ S', g.2.length < 900000000) :
    Calls Tryd.prog 29 #[.string T] w fun e w' => ∃ v0 : Value, e = .returned (.tuple #[v0, .int .i64 0]) ∧ Kd.S k52 52 w' w.heap.size (fun _ => True) v0 (S'.map sec52) ∧ Below w.heap.size w w' := by
  have HTb := Aside0.mk ht
  have HA := Aside0.mk ha
  have HT := Aside0.mk hT
  have HR0 := Aside0.mk hR
  have hrb := Aside0.mk hS
  have hrE := Aside0.mk hE
  have hnn : ∀ (w : World), (binOp .neq 61 .nilIface .nilIface).run Tryd.prog w = .ok (.bool false) w := fun _ => rfl
  clear ht ha hT hR hS hE
  have hmf := hmf
  go_enter_defers Tryd.func29, Tryd.ntmps29
  go_upto_region 2 with (fail)
  clear hmf
  obtain ⟨hb0, hb1, hb2⟩ := alloc2_facts w (Obj.cells #[Value.slice none 0 0] 45) (Obj.cells #[Value.int IntKind.i64 0] 3)
  have HB := Aside0.mk hb0
  have Hb1 := Aside0.mk hb1
  have Hb2 := Aside0.mk hb2
  have HTW := Aside0.mk (HTb.out.below hb0)
  clear hb0 hb1 hb2
  generalize ((w.alloc (Obj.cells #[Value.slice none 0 0] 45)).alloc (Obj.cells #[Value.int IntKind.i64 0] 3)) = W at HB Hb1 Hb2 HTW ⊢
  go_wp2_with (go_at_call 45; refine (des_sects T W S' O' HTW.out HA.out HT.out HR0.out).mono ?_; rintro e W1 ⟨v6, Ss, rfl, hb, h1, h2, h3⟩; have HBW := Aside0.mk (below_over HB.out hb); have Hc1 := Aside0.mk ((hb.block _ (blk_lt Hb1.out)).trans Hb1.out); have Hc2 := Aside0.mk ((hb.block _ (blk_lt Hb2.out)).trans Hb2.out); have HRo := Aside0.mk h1; have HSs := Aside0.mk h2; have HSp := Aside0.mk h3; obtain ⟨A6, c6, hv6⟩ := Kd.R_slice h1; rw [List.length_map] at hv6; subst hv6; clear hb h1 h2 h3 Hb1 Hb2 HTW HB)
  have HB2b := Aside0.mk (show w.heap.size ≤ w.heap.size + 1 by omega)
  have hne0 : ¬ w.heap.size + 1 = w.heap.size := by omega
  have hne1 : ¬ w.heap.size = w.heap.size + 1 := by omega
  have hB12 := Aside0.mk hne1
  generalize w.heap.size + 1 = B2 at Hc2 hne0 hne1 hB12 HB2b ⊢
  have HB1b := Aside0.mk (Nat.le_refl w.heap.size)
  generalize hB1 : w.heap.size = B1 at Hc1 hne0 hne1 hB12 HB1b ⊢
  have HB1e := Aside0.mk hB1
  clear hB1
  have hol := Aside0.mk (show Ss.length = S'.length by rw [← HSp.out, List.length_map])
  have hSS := Aside0.mk (show S'.map sec52 = Ss.map secS by rw [← HSp.out, List.map_map]; exact List.map_congr_left fun x _ => secS_sp x)
  have hEs := Aside0.mk (show ∀ x ∈ Ss, x.es.length < 900000000 from fun x hx => by
    have := hrE.out (SecB.sp x) (by rw [← HSp.out]; exact List.mem_map_of_mem hx)
    unfold SecB.sp at this
    simpa using this)
  have HK0 := Aside0.mk (Kept.refl W1 (fun k => k = B1))
  have Hd1 := Aside0.mk Hc1.out
  clear HTb HA HT HR0
  go_loopg [21] Ss.length (fun kq v21 w' => ∃ (i : Nat) (u : Value), v21 = .int .i64 i ∧ Aside0 (i + kq = Ss.length) ∧ Aside0 (w'.heap[B1]? = some (.cells #[u] 45 (0, 0))) ∧ Aside0 (Kept W1 w' (fun k => k = B1)) ∧ Aside0 (Kd.S k52 52 w' w.heap.size (fun k => W1.heap.size ≤ k) u ((Ss.map secS).take i)) ∧ Aside0 (Below w.heap.size w w'))
  case atStart => exact ⟨0, _, rfl, ⟨by omega⟩, Hd1, HK0, ⟨Kd.S_nil _ _ _ _ _⟩, HBW⟩
  case round =>
    clear Hd1 HK0 HBW
    obtain ⟨i, u, rfl, HI, Hb1, HK, HU, HBw⟩ := hrel
    obtain ⟨Au, cu, hu⟩ := Kd.S_slice HU.out
    rw [List.length_take, List.length_map, Nat.min_eq_left (by have := HI.out; omega)] at hu
    subst hu
    have hB21 := Aside0.mk (show ¬ (fun k => k = B1) B2 from fun e => hB12.out e.symm)
    have Hb2 := Aside0.mk (blk_kept Hc2.out HK.out hB21.out)
    have hcb := cell_of_blk Hb1.out 0 _ rfl
    have hfb := blk_frozen Hb1.out 0
    have hcb2 := cell_of_blk Hb2.out 0 _ rfl
    have hfb2 := blk_frozen Hb2.out 0
    cases gk with
    | zero =>
      obtain rfl : i = Ss.length := by have := HI.out; omega
      go_wp2_with fail
      refine leaves_cons (f := 44) (args := #[.pointer (some ⟨B1, 0, none⟩), .pointer (some ⟨B2, 0, none⟩)]) (by simp) (by simp [go_sem]) ?_
      refine (catch_idle44 ⟨B1, 0, none⟩ ⟨B2, 0, none⟩ _).mono ?_
      rintro e u' w'' ⟨rfl, rfl, rfl⟩
      have hs1 : (wr.setCell ⟨B1, 0, none⟩ (Value.slice Au Ss.length cu)).cell? ⟨B1, 0, none⟩ = some (Value.slice Au Ss.length cu) := by simp [go_sem, hcb]
      have hcb2' : (wr.setCell ⟨B1, 0, none⟩ (Value.slice Au Ss.length cu)).cell? ⟨B2, 0, none⟩ = some (.int .i64 0) := by simp [go_sem, hcb2, hne0]
      have hs2 : ((wr.setCell ⟨B1, 0, none⟩ (Value.slice Au Ss.length cu)).setCell ⟨B2, 0, none⟩ (.int .i64 0)).cell? ⟨B2, 0, none⟩ = some (.int .i64 0) := by simp [go_sem, hcb2']
      have hB2' : (wr.setCell ⟨B1, 0, none⟩ (Value.slice Au Ss.length cu)).heap[B2]? = some (.cells #[.int .i64 0] 3 (0, 0)) := (Below.heap_setCell wr ⟨B1, 0, none⟩ _ B2 hne0).trans Hb2.out
      have hU : Kd.S k52 52 wr w.heap.size (fun _ => True) (.slice Au Ss.length cu) (S'.map sec52) := by
        have h := HU.out
        rw [List.take_of_length_le (by rw [List.length_map]; exact Nat.le_refl _), ← hSS.out] at h
        exact Kd.S_mono h (fun _ _ => trivial)
      have R1 := Aside0.mk (Kd.S_set (Kd.S_set hU Hb1.out (fun q hq => by rcases k52E q hq with h | h <;> (rw [h]; decide)) 0 (Value.slice Au Ss.length cu)) hB2' (fun q hq => by rcases k52E q hq with h | h <;> (rw [h]; decide)) 0 (.int .i64 0))
      have BW := Aside0.mk (below_set (below_set HBw.out (Nat.le_of_eq HB1e.out) (v := Value.slice Au Ss.length cu) (j := 0)) HB2b.out (v := .int .i64 0) (j := 0))
      clear hU hB2'
      simp [Leaves, settle, results, Tryd.results29, go_sem, hs1, hs2]
      exact ⟨R1.out, BW.out⟩
    | succ k1 =>
      obtain ⟨wo, hwo⟩ : ∃ z, z = wr := ⟨_, rfl⟩
      rw [← hwo] at Hb1 HK HU HBw Hb2 hcb hfb hcb2 hfb2 ⊢
      clear hwo wr
      have hi0 : i < Ss.length := by have := HI.out; omega
      obtain ⟨x, hx⟩ : ∃ x, Ss[i]? = some x := ⟨_, List.getElem?_eq_getElem hi0⟩
      have hxm : x ∈ Ss := List.mem_of_getElem? hx
      obtain ⟨gA, cA, hvA, _, hAt⟩ := kR_at HRo.out (by rw [List.length_map]; omega)
      have hpA := hAt i x.b (by rw [List.getElem?_map, hx]; rfl)
      obtain rfl : A6 = some ⟨gA, 0, none⟩ := by injection hvA
      obtain ⟨tA, hgA⟩ := kR_typed HRo.out gA rfl
      have hpA' := cell_kept hpA HK.out (show ¬ (gA = B1) from blk_ne hgA Hc1.out (by decide))
      have hX := HSs.out x hxm
      have hXb := blk_kept hX.blk HK.out (show ¬ (x.b = B1) from blk_ne hX.blk Hc1.out (by decide))
      obtain ⟨Ax, cx, hvx⟩ := Kd.R_slice hX.row
      rw [List.length_map] at hvx
      have HX := Aside0.mk hX
      have HXm := Aside0.mk hxm
      have g0 := cell_of_blk hXb 0 _ rfl
      have g1 := cell_of_blk hXb 1 _ rfl
      rw [hvx] at g1
      have HXv := Aside0.mk hvx
      have hm := Aside0.mk (show (Ss.map secS)[i]? = some (secS x) by rw [List.getElem?_map, hx]; rfl)
      have HEL := Aside0.mk (hEs.out x hxm)
      clear hAt hvA hx hxm hpA tA hgA hX hXb hvx
      have q1 : decide (i < Ss.length) = true := by simp; omega
      have z1 : (i : Int) < (Ss.length : Int) := by omega
      have HI0 := Aside0.mk hi0
      clear hi0
      obtain ⟨xb, hxb⟩ : ∃ k, k = wo.heap.size := ⟨_, rfl⟩
      have HXB := Aside0.mk hxb
      go_upto_region 9 with (fail)
      rw [← hxb]
      have hbn := below_new wo (Obj.cells #[Value.string (B x.s), Value.slice none 0 0] 52)
      have HB3 := Aside0.mk hbn
      have HX3 := Aside0.mk (show (wo.alloc (Obj.cells #[Value.string (B x.s), Value.slice none 0 0] 52)).heap[xb]? = some (.cells #[.string (B x.s), .slice none 0 0] 52 (0, 0)) by rw [hxb]; exact heap_alloc_new wo _)
      have f1 := keepcell hbn g1
      clear hpA' g0 g1 hcb hfb hcb2 hfb2 q1 z1 hxb hbn
      generalize (wo.alloc (Obj.cells #[Value.string (B x.s), Value.slice none 0 0] 52)) = w3 at HB3 HX3 f1 ⊢
      go_upto_region 10 with (fail)
      clear f1
      go_loopg [35] x.es.length (fun kq v35 w' => ∃ (q : Nat) (ue : Value), v35 = .int .i64 q ∧ Aside0 (q + kq = x.es.length) ∧ Aside0 (Below wo.heap.size wo w') ∧ Aside0 (w'.heap[xb]? = some (.cells #[.string (B x.s), ue] 52 (0, 0))) ∧ Aside0 (Kd.R k74 74 w' xb (fun _ => True) ue ((x.es.take q).map entS)))
      case atStart => exact ⟨0, _, rfl, ⟨by omega⟩, HB3, HX3, ⟨Kd.R_nil _ _ _ _ _⟩⟩
      case round =>
        clear HB3 HX3
        obtain ⟨q, ue, rfl, HQ, HBi, HXb, HE⟩ := hrel
        obtain ⟨Ae, ce, hue⟩ := Kd.R_slice HE.out
        rw [List.length_map, List.length_take, Nat.min_eq_left (by have := HQ.out; omega)] at hue
        subst hue
        have hbx := cell_of_blk HXb.out 1 _ rfl
        cases gk with
        | zero =>
          obtain rfl : q = x.es.length := by have := HQ.out; omega
          have hb0 := cell_of_blk HXb.out 0 _ rfl
          have Hb1i := Aside0.mk (blk_more Hb1.out HBi.out)
          have hc1 := cell_of_blk Hb1i.out 0 _ rfl
          have hf1 := blk_frozen Hb1i.out 0
          have q5 : decide ((x.es.length : Int) < (x.es.length : Int)) = false := by simp
          have HBwi := Aside0.mk (below_over HBw.out HBi.out)
          have hW1r := Aside0.mk (show W1.heap.size ≤ wo.heap.size from HK.out.1)
          have HUi := Aside0.mk (show Kd.S k52 52 wr w.heap.size (fun k => W1.heap.size ≤ k ∧ ¬ xb ≤ k) (.slice Au i cu) ((Ss.map secS).take i) from Kd.S_below (Kd.S_mono (Kd.S_bound HU.out) (fun k hk => ⟨hk.1, by have := hk.2.2.1; have := HXB.out; omega⟩)) HBi.out)
          have hulen := Aside0.mk (show ((Ss.map secS).take i).length = i by rw [List.length_take, List.length_map]; have := HI0.out; omega)
          have HEi := Aside0.mk (show Kd.R k74 74 wr w.heap.size (fun k => xb ≤ k) (.slice Ae x.es.length ce) (x.es.map entS) by
            have h := HE.out
            rw [List.take_length] at h
            exact Kd.R_mono (Kd.R_lower (Kd.R_bound h) (by rw [HXB.out]; exact HBw.out.size)) (fun k hk => hk.2.1))
          have huo := Aside0.mk (show ∀ k, (Value.slice Au i cu).ownBlock = some k → k < xb from fun k hk => by
            obtain ⟨c, hc⟩ := Kd.S_typed HU.out k hk
            rw [HXB.out]
            exact blk_lt hc)
          have huw := Aside0.mk (show ∀ k, (Value.slice Au i cu).ownBlock = some k → W1.heap.size ≤ k from fun k hk => (Kd.S_R HU.out).1 k hk)
          have hw1 := Aside0.mk (show wrap64 ((i : Int) + 1) = ((i + 1 : Nat) : Int) from wr1 i (by have := hrb.out; have := hol.out; have := HI0.out; omega))
          have HKi := Aside0.mk (HK.out.below HBi.out)
          clear HU HE HQ Hb1
          go_wp2_with ((with_reducible refine gate_builtin (b := .append) (xs := #[.tmp 54, .tmp 56]) rfl ?_); at_builtin; refine Kd.S_append k52 (w0 := w) w.heap.size rfl (.tmp 54) (.tmp 56) 45 52 (.agg #[.string ⟨#[]⟩, .slice none 0 0]) 40 rfl Tryd.underlying45 (by kernel_rfl) rfl (by decide) (by decide) (Value.slice Au i cu) ((Ss.map secS).take i) (secS x) [.string (B x.s), .slice Ae x.es.length ce] (fun k => W1.heap.size ≤ k) (fun k => xb ≤ k) rfl rfl (k52_mkM _ _ _ (secS x) HEi.out) (fun k hk => ⟨by have := hW1r.out; have := HXB.out; omega, fun e => by have := huo.out k e.symm; omega⟩) (fun k hk => by have := HKi.out.1; omega) HUi.out HBwi.out HBwi.out.size (by rw [hulen.out]; have := hrb.out; have := hol.out; have := HI0.out; omega) ?_; intro v7 w5 ho hb hg hat; obtain ⟨A7, c7, hv7⟩ := Kd.S_slice ho; rw [List.length_append, List.length_singleton, hulen.out] at hv7; subst hv7; have HO5 := Aside0.mk ho; have HB5 := Aside0.mk hb; have HG5 := Aside0.mk hg; have Hb15 := Aside0.mk (blk_grown Hb1i.out hg (Kd.S_ne HUi.out Hb1i.out (by decide))); have hc15 := cell_of_blk Hb15.out 0 _ rfl; have hf15 := blk_frozen Hb15.out 0; have HK5 := Aside0.mk (Kept.of_grown hg HKi.out (fun k hk => .inr (huw.out k hk))); clear ho hb hg hat)
          go_roundg k1
          case measure => omega
          case rel =>
            refine ⟨i + 1, .slice A7 (i + 1) c7, by first | rfl | (simp; done) | (rw [← hw1.out]), ⟨by have := HI.out; omega⟩, ⟨by have := blk_set Hb15.out 0 (.slice A7 (i + 1) c7); simpa using this⟩, ⟨HK5.out.setCell (.inl rfl) (.slice A7 (i + 1) c7)⟩, ⟨?_⟩, ⟨below_set HB5.out (Nat.le_of_eq HB1e.out)⟩⟩
            have h := Kd.S_set HO5.out Hb15.out (fun q hq => by rcases k52E q hq with h | h <;> (rw [h]; decide)) 0 (.slice A7 (i + 1) c7)
            rw [List.take_add_one, hm.out]
            exact h
        | succ k2 =>
          have hq : q < x.es.length := by have := HQ.out; omega
          obtain ⟨y, hy⟩ : ∃ y, x.es[q]? = some y := ⟨_, List.getElem?_eq_getElem hq⟩
          have hrow := HX.out.row
          rw [HXv.out] at hrow
          obtain ⟨gE, cE, hvE, _, hAtE⟩ := kR_at hrow (by rw [List.length_map]; omega)
          have hpE := hAtE q y.k (by rw [List.getElem?_map, hy]; rfl)
          obtain rfl : Ax = some ⟨gE, 0, none⟩ := by injection hvE
          obtain ⟨tE, hgE⟩ := kR_typed hrow gE rfl
          have hpE' := keepcell HBi.out (cell_kept hpE HK.out (show ¬ (gE = B1) from blk_ne hgE Hc1.out (by decide)))
          have hYe := HX.out.ents y (List.mem_of_getElem? hy)
          have HY : EntAt wr y := blk_more (blk_kept hYe HK.out (show ¬ (y.k = B1) from blk_ne hYe Hc1.out (by decide))) HBi.out
          have g0 := cell_of_blk HY 0 _ rfl
          have g1 := cell_of_blk HY 1 _ rfl
          have q5 : decide (q < x.es.length) = true := by simp; omega
          have z5 : (q : Int) < (x.es.length : Int) := by omega
          have HYq := Aside0.mk hy
          clear hrow hvE hAtE hpE tE hgE hYe hy hq
          go_upto_region 12 with (fail)
          clear hpE' q5 z5
          refine wp_region_noPanic ?_
          refine Go.Last.wp_region_x (S := fun w' => w'.cell? ⟨xb, 1, none⟩ = some (Value.slice Ae q ce) ∧ w'.cell? ⟨y.k, 0, none⟩ = some (.string (B y.n)) ∧ w'.cell? ⟨y.k, 1, none⟩ = some (.string (B y.v))) (n := 14) (by kernel_rfl) ?_
          have HS : (fun w' => w'.cell? ⟨xb, 1, none⟩ = some (Value.slice Ae q ce) ∧ w'.cell? ⟨y.k, 0, none⟩ = some (.string (B y.n)) ∧ w'.cell? ⟨y.k, 1, none⟩ = some (.string (B y.v))) wr.drew := ⟨hbx, g0, g1⟩
          have HBd := Aside0.mk (show Below wo.heap.size wo wr.drew from ⟨HBi.out.os, HBi.out.tape, HBi.out.output, HBi.out.size, HBi.out.block⟩)
          have HXd := Aside0.mk (show wr.drew.heap[xb]? = some (.cells #[.string (B x.s), Value.slice Ae q ce] 52 (0, 0)) from HXb.out)
          have HEd := Aside0.mk (show Kd.R k74 74 wr.drew xb (fun _ => True) (.slice Ae q ce) ((x.es.take q).map entS) from HE.out)
          have HYd := Aside0.mk (show EntAt wr.drew y from HY)
          change Go.Last.wpAnyX _ _ _ _ _ _ _ _ _ wr.drew
          clear hbx g0 g1 HBi HXb HE HY
          generalize wr.drew = wd at *
          show Go.Last.wpAnyX _ _ _ _ _ _ 15 _ _ _
          refine Go.Last.wpAnyX_at 15 rfl (by kernel_rfl) (by kernel_rfl) (by kernel_rfl) (by kernel_rfl) (fun _ _ _ h => h) (v := ?_) (Or.inl ⟨by rfl, ?_⟩) (by assumption) ?_
          rotate_left
          · intro w hSw
            (try dsimp only at hSw)
            go_split_ands
            go_simp
            first | done | with_reducible rfl
          (try simp only [Nat.reduceSub, Nat.reduceAdd, Act.put, List.setIfInBounds_toArray, List.set_cons_zero, List.set_cons_succ])
          refine Go.Last.wpAnyX_at 15 rfl (by kernel_rfl) (by kernel_rfl) (by kernel_rfl) (by kernel_rfl) (fun _ _ _ h => h) (v := ?_) (Or.inl ⟨by rfl, ?_⟩) (by assumption) ?_
          rotate_left
          · intro w hSw
            (try dsimp only at hSw)
            go_split_ands
            go_simp
            first | done | with_reducible rfl
          (try simp only [Nat.reduceSub, Nat.reduceAdd, Act.put, List.setIfInBounds_toArray, List.set_cons_zero, List.set_cons_succ])
          refine Go.Last.wpAnyX_at 15 rfl (by kernel_rfl) (by kernel_rfl) (by kernel_rfl) (by kernel_rfl) (fun _ _ _ h => h) (v := ?_) (Or.inl ⟨by rfl, ?_⟩) (by assumption) ?_
          rotate_left
          · intro w hSw
            (try dsimp only at hSw)
            go_split_ands
            go_simp
            first | done | with_reducible rfl
          (try simp only [Nat.reduceSub, Nat.reduceAdd, Act.put, List.setIfInBounds_toArray, List.set_cons_zero, List.set_cons_succ])
          refine Go.Last.wpAnyX_at 15 rfl (by kernel_rfl) (by kernel_rfl) (by kernel_rfl) (by kernel_rfl) (fun _ _ _ h => h) (v := ?_) (Or.inl ⟨by rfl, ?_⟩) (by assumption) ?_
          rotate_left
          · intro w hSw
            (try dsimp only at hSw)
            go_split_ands
            go_simp
            first | done | with_reducible rfl
          (try simp only [Nat.reduceSub, Nat.reduceAdd, Act.put, List.setIfInBounds_toArray, List.set_cons_zero, List.set_cons_succ])
          refine Go.Last.wpAnyX_at 15 rfl (by kernel_rfl) (by kernel_rfl) (by kernel_rfl) (by kernel_rfl) (fun _ _ _ h => h) (v := ?_) (Or.inl ⟨by rfl, ?_⟩) (by assumption) ?_
          rotate_left
          · intro w hSw
            (try dsimp only at hSw)
            go_split_ands
            go_simp
            first | done | with_reducible rfl
          (try simp only [Nat.reduceSub, Nat.reduceAdd, Act.put, List.setIfInBounds_toArray, List.set_cons_zero, List.set_cons_succ])
          refine Go.Last.wpAnyX_at 15 rfl (by kernel_rfl) (by kernel_rfl) (by kernel_rfl) (by kernel_rfl) (fun _ _ _ h => h) (v := ?_) (Or.inl ⟨by rfl, ?_⟩) (by assumption) ?_
          rotate_left
          · intro w hSw
            (try dsimp only at hSw)
            go_split_ands
            go_simp
            first | done | with_reducible rfl
          (try simp only [Nat.reduceSub, Nat.reduceAdd, Act.put, List.setIfInBounds_toArray, List.set_cons_zero, List.set_cons_succ])
          refine Go.Last.wpAnyX_at 15 rfl (by kernel_rfl) (by kernel_rfl) (by kernel_rfl) (by kernel_rfl) (fun _ _ _ h => h) (v := ?_) (Or.inl ⟨by rfl, ?_⟩) (by assumption) ?_
          rotate_left
          · intro w hSw
            (try dsimp only at hSw)
            go_split_ands
            go_simp
            first | done | with_reducible rfl
          (try simp only [Nat.reduceSub, Nat.reduceAdd, Act.put, List.setIfInBounds_toArray, List.set_cons_zero, List.set_cons_succ])
          refine Go.Last.wpAnyX_at 15 rfl (by kernel_rfl) (by kernel_rfl) (by kernel_rfl) (by kernel_rfl) (fun _ _ _ h => h) (v := ?_) (Or.inl ⟨by rfl, ?_⟩) (by assumption) ?_
          rotate_left
          · intro w hSw
            (try dsimp only at hSw)
            go_split_ands
            go_simp
            first | done | with_reducible rfl
          (try simp only [Nat.reduceSub, Nat.reduceAdd, Act.put, List.setIfInBounds_toArray, List.set_cons_zero, List.set_cons_succ])
          refine Go.Last.wpAnyX_at 15 rfl (by kernel_rfl) (by kernel_rfl) (by kernel_rfl) (by kernel_rfl) (fun _ _ _ h => h) (v := ?_) (Or.inl ⟨by rfl, ?_⟩) (by assumption) ?_
          rotate_left
          · intro w hSw
            (try dsimp only at hSw)
            go_split_ands
            go_simp
            first | done | with_reducible rfl
          (try simp only [Nat.reduceSub, Nat.reduceAdd, Act.put, List.setIfInBounds_toArray, List.set_cons_zero, List.set_cons_succ])
          refine Go.Last.wpAnyX_at 15 rfl (by kernel_rfl) (by kernel_rfl) (by kernel_rfl) (by kernel_rfl) (fun _ _ _ h => h) (v := ?_) (Or.inl ⟨by rfl, ?_⟩) (by assumption) ?_
          rotate_left
          · intro w hSw
            (try dsimp only at hSw)
            go_split_ands
            go_simp
            first | done | with_reducible rfl
          (try simp only [Nat.reduceSub, Nat.reduceAdd, Act.put, List.setIfInBounds_toArray, List.set_cons_zero, List.set_cons_succ])
          refine Go.Last.wpAnyX_at 15 rfl (by kernel_rfl) (by kernel_rfl) (by kernel_rfl) (by kernel_rfl) (fun _ _ _ h => h) (v := ?_) (Or.inl ⟨by rfl, ?_⟩) (by assumption) ?_
          rotate_left
          · intro w hSw
            (try dsimp only at hSw)
            go_split_ands
            go_simp
            first | done | with_reducible rfl
          (try simp only [Nat.reduceSub, Nat.reduceAdd, Act.put, List.setIfInBounds_toArray, List.set_cons_zero, List.set_cons_succ])
          refine Go.Last.wpAnyX_one (i := 11) (o := { dst := some 50, op := Op.buildSlice 50 1 #[(0, Operand.tmp 49)], type := 50, pos := "units.go:79", after := #[{ on := 10, ground := Ground.data }], guard := none }) (by kernel_rfl) rfl ?_
          intro K1 hK1
          go_simp
          have HSb : (fun w' => w'.cell? ⟨xb, 1, none⟩ = some (Value.slice Ae q ce) ∧ w'.cell? ⟨y.k, 0, none⟩ = some (.string (B y.n)) ∧ w'.cell? ⟨y.k, 1, none⟩ = some (.string (B y.v))) (wd.alloc (Obj.cells #[.string (B y.n), .string (B y.v)] 74)) := ⟨keepcell (below_new _ _) HS.1, keepcell (below_new _ _) HS.2.1, keepcell (below_new _ _) HS.2.2⟩
          refine hK1 _ _ (fun _ => HSb) ?_
          clear hK1 K1
          (try simp only [Act.put, List.setIfInBounds_toArray, List.set_cons_zero, List.set_cons_succ])
          refine Go.Last.wpAnyX_one (i := 12) (o := { dst := some 51, op := Op.call { callee := Callee.builtin Builtin.append, args := #[Operand.tmp 40, Operand.tmp 50], argTypes := #[50, 50] }, type := 50, pos := "units.go:79", after := #[{ on := 1, ground := Ground.data }, { on := 11, ground := Ground.data }], guard := none }) (by kernel_rfl) rfl ?_
          intro K2 hK2
          have hlen := Aside0.mk (show ((x.es.take q).map entS).length = q by rw [List.length_map, List.length_take]; have := HQ.out; omega)
          have hneB := Aside0.mk (show some xb ≠ (Value.slice Ae q ce).ownBlock from Kd.R_ne HEd.out HXd.out (by decide))
          have hneI := Aside0.mk (show some y.k ≠ (Value.slice Ae q ce).ownBlock from Kd.R_ne HEd.out HYd.out (by decide))
          refine Kd.R_append_step (w0 := wo) k74 xb (by rfl) (.tmp 40) (.tmp 50) 50 74 (.agg #[.string ⟨#[]⟩, .string ⟨#[]⟩]) 32 rfl (by kernel_rfl) (by kernel_rfl) (by decide) (by decide) (by decide) (Value.slice Ae q ce) ((x.es.take q).map entS) (entS y) [.string (B y.n), .string (B y.v)] (fun _ => True) (fun _ => False) rfl rfl (k74_mkM _ _ _ (entS y)) (fun _ h => h.elim) (fun _ _ => trivial) HEd.out (by rw [HXB.out]; exact HBd.out) (by rw [HXB.out]; exact HBd.out.size) (by rw [hlen.out]; have := HEL.out; have := HQ.out; omega) ?_
          intro v1 w1 HR1 HB1 hg hat
          have hT : (x.es.take q).map entS ++ [entS y] = (x.es.take (q + 1)).map entS := by rw [List.take_add_one, HYq.out, List.map_append]; rfl
          rw [hT] at HR1
          clear hT
          obtain ⟨Av, cv, hv⟩ := Kd.R_slice HR1
          rw [List.length_map, List.length_take, Nat.min_eq_left (by have := HQ.out; omega)] at hv
          subst hv
          have Hb1e := Aside0.mk ((hg.block _ (blk_lt HXd.out) hneB.out).trans HXd.out)
          have HSe : (fun w' => w'.cell? ⟨xb, 1, none⟩ = some (Value.slice Ae q ce) ∧ w'.cell? ⟨y.k, 0, none⟩ = some (.string (B y.n)) ∧ w'.cell? ⟨y.k, 1, none⟩ = some (.string (B y.v))) w1 := ⟨cell_grown hg HS.1 hneB.out, cell_grown hg HS.2.1 hneI.out, cell_grown hg HS.2.2 hneI.out⟩
          refine hK2 _ _ (fun _ => HSe) ?_
          clear hK2 K2 HSb HS
          (try simp only [Act.put, List.setIfInBounds_toArray, List.set_cons_zero, List.set_cons_succ])
          refine Go.Last.wpAnyX_one (i := 13) (o := { dst := some 52, op := Op.fieldAddr 52 (Operand.tmp 8) 1, type := 0, pos := "units.go:79", after := #[{ on := 0, ground := Ground.phase }, { on := 1, ground := Ground.phase }, { on := 2, ground := Ground.phase }, { on := 3, ground := Ground.phase }, { on := 4, ground := Ground.phase }, { on := 5, ground := Ground.phase }, { on := 6, ground := Ground.phase }, { on := 7, ground := Ground.phase }, { on := 8, ground := Ground.phase }, { on := 9, ground := Ground.phase }, { on := 10, ground := Ground.phase }, { on := 11, ground := Ground.phase }, { on := 12, ground := Ground.phase }], guard := none }) (by kernel_rfl) rfl ?_
          intro K4 hK4
          go_simp
          refine hK4 _ _ (fun _ => HSe) ?_
          clear hK4 K4
          (try simp only [Act.put, List.setIfInBounds_toArray, List.set_cons_zero, List.set_cons_succ])
          refine Go.Last.wpAnyX_one (i := 14) (o := { dst := none, op := Op.store 50 (Operand.tmp 52) (Operand.tmp 51), type := 0, pos := "units.go:79", after := #[{ on := 13, ground := Ground.data }, { on := 12, ground := Ground.data }, { on := 12, ground := Ground.chain }, { on := 0, ground := Ground.phase }, { on := 1, ground := Ground.phase }, { on := 2, ground := Ground.phase }, { on := 3, ground := Ground.phase }, { on := 4, ground := Ground.phase }, { on := 5, ground := Ground.phase }, { on := 6, ground := Ground.phase }, { on := 7, ground := Ground.phase }, { on := 8, ground := Ground.phase }, { on := 9, ground := Ground.phase }, { on := 10, ground := Ground.phase }, { on := 11, ground := Ground.phase }, { on := 12, ground := Ground.phase }], guard := none }) (by kernel_rfl) rfl ?_
          intro K3 hK3
          have hcB := cell_of_blk Hb1e.out 1 _ rfl
          have hfB := blk_frozen Hb1e.out 1
          go_simp
          refine hK3 _ _ (fun e => absurd rfl e) ?_
          refine Go.Last.wpAnyX_done (by kernel_rfl) ?_ _
          refine NoPanic.normal ?_
          have Q1 := Aside0.mk (blk_set Hb1e.out 1 (Value.slice Av (q + 1) cv))
          have Q3 := Aside0.mk (Kd.R_set HR1 Hb1e.out (fun z hz => by rw [k74E z hz]; decide) 1 (Value.slice Av (q + 1) cv))
          have HB1w : Below wo.heap.size wo w1 := by rw [← HXB.out]; exact HB1
          have Q5 := Aside0.mk (below_set HB1w (Nat.le_of_eq HXB.out.symm) (v := Value.slice Av (q + 1) cv) (j := 1))
          have hw := Aside0.mk (show wrap64 ((q : Int) + 1) = ((q + 1 : Nat) : Int) from wr1 q (by have := HEL.out; have := HQ.out; omega))
          clear hcB hfB HR1 HB1 HB1w HSe HEd HBd HXd HYd Hb1e hg hat hK3 K3 hneB hneI hlen
          generalize w1.setCell ⟨xb, 1, none⟩ (Value.slice Av (q + 1) cv) = w2 at Q1 Q3 Q5 ⊢
          go_wp2
          go_roundg k2
          case measure => omega
          case rel => exact ⟨q + 1, _, by first | rfl | (simp; done) | (rw [← hw.out]), ⟨by have := HQ.out; omega⟩, Q5, ⟨by simpa using Q1.out⟩, Q3⟩
end Go.Proofs.YtocdnceckljnaaaDoor.QV0
namespace Go.Proofs.YtocdnceckljnaaaDoor.U
open Go.RowKit Go.Proofs.YtocdnceckljnaaaDoorW.PrintWords Go.Proofs.YtocdnceckljnaaaDoorW.PrintLast Go.Proofs.YtocdnceckljnaaaDoorW.PrintMore
set_option linter.unusedVariables false
set_option linter.unusedSimpArgs false
abbrev Gp := Bs × List (Bs × Bs)
def entsG (es : List (Bs × Bs)) : Bs := es.flatMap fun e => e.1 ++ [61] ++ e.2 ++ [10]
def secG (g : Gp) : Bs := [91] ++ g.1 ++ [93] ++ [10] ++ entsG g.2
def accG (gs : List Gp) (j : Nat) : Bs := (List.range j).flatMap fun i => secG (gs.getD i ([], [])) ++ if i + 1 < gs.length then [10] else []
def writeG (gs : List Gp) : Bs := accG gs gs.length
theorem accG_succ (gs : List Gp) (j : Nat) : accG gs (j + 1) = accG gs j ++ (secG (gs.getD j ([], [])) ++ if j + 1 < gs.length then [10] else []) := by
  unfold accG
  rw [List.range_succ, List.flatMap_append]
  simp
structure GSh (g : Gp) : Prop where
  n : g.1.length ≤ 1000
  l : g.2.length ≤ 1000
  e : ∀ x ∈ g.2, x.1.length ≤ 1000 ∧ x.2.length ≤ 1000
def GShort (gs : List Gp) : Prop := gs.length ≤ 1000 ∧ ∀ g ∈ gs, GSh g
theorem entsG_len (es : List (Bs × Bs)) (h : ∀ x ∈ es, x.1.length ≤ 1000 ∧ x.2.length ≤ 1000) : (entsG es).length ≤ 2002 * es.length := by
  induction es with
  | nil => simp [entsG]
  | cons x es ih =>
    have h1 := ih (fun y hy => h y (List.mem_cons_of_mem _ hy))
    have h2 := h x List.mem_cons_self
    unfold entsG at h1 ⊢
    rw [List.flatMap_cons, List.length_append, List.length_cons]
    simp only [List.length_append, List.length_cons, List.length_nil]
    omega
theorem accG_len (gs : List Gp) (h : ∀ g ∈ gs, GSh g) (j : Nat) : (accG gs j).length ≤ 2010001 * j := by
  induction j with
  | zero => simp [accG]
  | succ j ih =>
    have hg : GSh (gs.getD j ([], [])) := by
      by_cases hj : j < gs.length
      · rw [List.getD_eq_getElem?_getD, List.getElem?_eq_getElem hj]
        exact h _ (List.getElem_mem hj)
      · rw [List.getD_eq_getElem?_getD, List.getElem?_eq_none (by omega)]
        exact ⟨by simp, by simp, by simp⟩
    have h1 := entsG_len _ hg.e
    have h2 := hg.l
    have h3 := hg.n
    have h4 : (if j + 1 < gs.length then ([10] : Bs) else []).length ≤ 1 := by split <;> simp
    rw [accG_succ]
    unfold secG
    simp only [List.length_append, List.length_cons, List.length_nil]
    omega
theorem entsG_succ (es : List (Bs × Bs)) (q : Nat) (y : Bs × Bs) (hq : es[q]? = some y) : entsG (es.take (q + 1)) = entsG (es.take q) ++ (y.1 ++ [61] ++ y.2 ++ [10]) := by
  unfold entsG
  rw [List.take_add_one, hq]
  simp
theorem bgrown {w W W1 : World} {gb : Nat} (h : Below w.heap.size w W) (hg : W.grownBy W1 (some gb)) (hb : w.heap.size ≤ gb) : Below w.heap.size w W1 :=
  pw_below_grown h _ h.size hg (fun k e => by injection e with e; rw [← e]; exact hb)
theorem blk_more_to {W W1 : World} {k : Nat} {o : Obj} (h : W.heap[k]? = some o) (hb : Below W.heap.size W W1) : W1.heap[k]? = some o := (hb.block k (blk_lt h)).trans h
set_option maxHeartbeats 40000000 in
set_option maxRecDepth 100000 in
theorem serialize_sections (A : Option Addr) (cap base : Nat) (Ss : List SecB) (w : World) (hR : kPtr.R 76 w base (fun _ => True) (.slice A Ss.length cap) (Ss.map (·.b))) (hS : ∀ x ∈ Ss, SecAt w base x) (hSh : GShort (Ss.map SecB.sp)) :
    Calls Tryd.prog 43 #[.slice A Ss.length cap] w fun e w' => e = .returned (.string (B (writeG (Ss.map SecB.sp)))) ∧ Below w.heap.size w w' := by
  have HR := Aside0.mk hR
  have HSs := Aside0.mk hS
  have HSH := Aside0.mk hSh
  have hgl := Aside0.mk (show Ss.length ≤ 1000 by have := hSh.1; rwa [List.length_map] at this)
  have HT0 := Aside0.mk (show TxAt (w.alloc (.cells #[.string ⟨#[]⟩] 9)) w.heap.size (accG (Ss.map SecB.sp) 0) from heap_alloc_new w _)
  have HB0 := Aside0.mk (below_new w (.cells #[.string ⟨#[]⟩] 9))
  clear hR hS hSh
  go_enter Tryd.func43, Tryd.ntmps43
  go_wp2
  generalize (w.alloc (Obj.cells #[Value.string ⟨#[]⟩] 9)) = W0 at HT0 HB0 ⊢
  obtain ⟨gb, hgb⟩ : ∃ k, k = w.heap.size := ⟨_, rfl⟩
  rw [← hgb] at HT0 ⊢
  have HGB := Aside0.mk (Nat.le_of_eq hgb.symm)
  clear hgb
  go_loopg [10] Ss.length (fun kq v10 w' => ∃ (i : Nat), v10 = .int .i64 i ∧ Aside0 (i + kq = Ss.length) ∧ Aside0 (Below w.heap.size w w') ∧ Aside0 (TxAt w' gb (accG (Ss.map SecB.sp) i)))
  case atStart => exact ⟨0, rfl, ⟨by omega⟩, HB0, HT0⟩
  case round =>
    clear HB0 HT0
    obtain ⟨i, rfl, HI, HBo, HTo⟩ := hrel
    cases gk with
    | zero =>
      obtain rfl : i = Ss.length := by have := HI.out; omega
      have q1 : decide ((Ss.length : Int) < (Ss.length : Int)) = false := by simp
      have hc := HTo.out.c0
      have hlt := World.block_lt_of_cell? _ _ hc
      have hml := Aside0.mk (show (Ss.map SecB.sp).length = Ss.length from List.length_map _)
      go_wp2
      go_ret
      exact ⟨by unfold writeG; rw [hml.out]; rfl, HBo.out⟩
    | succ k1 =>
      have hi : i < Ss.length := by have := HI.out; omega
      obtain ⟨x, hx⟩ : ∃ x, Ss[i]? = some x := ⟨_, List.getElem?_eq_getElem hi⟩
      have hxm : x ∈ Ss := List.mem_of_getElem? hx
      obtain ⟨gA, cA, hvA, _, hAt⟩ := kR_at HR.out (by rw [List.length_map]; omega)
      have hpA := keepcell HBo.out (hAt i x.b (by rw [List.getElem?_map, hx]; rfl))
      obtain rfl : A = some ⟨gA, 0, none⟩ := by injection hvA
      have hX := HSs.out x hxm
      have HX := Aside0.mk hX
      have g0 := keepcell HBo.out (cell_of_blk hX.blk 0 _ rfl)
      obtain ⟨Ax, cx, hvx⟩ := Kd.R_slice hX.row
      rw [List.length_map] at hvx
      have HXv := Aside0.mk hvx
      have hg := HSH.out.2 (SecB.sp x) (List.mem_map_of_mem hxm)
      have HG := Aside0.mk (show x.s.length ≤ 1000 ∧ x.es.length ≤ 1000 ∧ ∀ y ∈ x.es, y.n.length ≤ 1000 ∧ y.v.length ≤ 1000 from ⟨hg.n, by have := hg.l; unfold SecB.sp at this; simpa using this, fun y hy => hg.e (y.n, y.v) (by unfold SecB.sp; exact List.mem_map_of_mem hy)⟩)
      have hgd := Aside0.mk (show (Ss.map SecB.sp).getD i ([], []) = SecB.sp x by rw [List.getD_eq_getElem?_getD, List.getElem?_map, hx]; rfl)
      have hacc := Aside0.mk (accG_len (Ss.map SecB.sp) HSH.out.2 i)
      have hil := Aside0.mk (show i ≤ 1000 by have := hgl.out; omega)
      have hw1 := Aside0.mk (show wrap64 ((i : Int) + 1) = ((i + 1 : Nat) : Int) from wr1 i (by have := hil.out; omega))
      have hsc := Aside0.mk (accG_succ (Ss.map SecB.sp) i)
      have hml := Aside0.mk (show (Ss.map SecB.sp).length = Ss.length from List.length_map _)
      have q1 : decide (i < Ss.length) = true := by simp; omega
      have z1 : (i : Int) < (Ss.length : Int) := by omega
      have HXB := Aside0.mk hX.blk
      clear hAt hvA hx hxm hX hvx hg hi
      obtain ⟨acc, hac⟩ : ∃ z, z = accG (Ss.map SecB.sp) i := ⟨_, rfl⟩
      rw [← hac] at HTo hacc
      have HAC := Aside0.mk hac
      clear hac
      go_wp2_with (first
        | (go_at_call 51; refine (w_header gb acc x.s _ HTo.out (by have := hacc.out; have := hil.out; have := HG.out.1; omega)).mono ?_; rintro e w3 ⟨rfl, ht, hg⟩; have HT3 := Aside0.mk ht; have HB3 := Aside0.mk (bgrown HBo.out hg HGB.out); clear ht hg)
        | (go_at_call 52; refine (w_newline gb (acc ++ [91] ++ x.s ++ [93]) _ HT3.out (by have := hacc.out; have := hil.out; have := HG.out.1; simp only [List.length_append, List.length_cons, List.length_nil]; omega)).mono ?_; rintro e w4 ⟨rfl, ht, hg⟩; have HT4 := Aside0.mk ht; have HB4 := Aside0.mk (bgrown HB3.out hg HGB.out); have g1 := keepcell HB4.out (cell_of_blk HXB.out 1 _ rfl); rw [HXv.out] at g1; clear ht hg))
      obtain ⟨acc2, hac2⟩ : ∃ z, z = acc ++ [91] ++ x.s ++ [93] ++ [10] := ⟨_, rfl⟩
      rw [← hac2] at HT4
      have HAC2 := Aside0.mk hac2
      have hac2l := Aside0.mk (show acc2.length ≤ 2010001 * i + 1003 by have := hacc.out; have := HG.out.1; rw [hac2]; simp only [List.length_append, List.length_cons, List.length_nil]; omega)
      clear hac2 HTo HBo HT3 HB3 hpA g0 q1 z1
      have HT5 := Aside0.mk (show TxAt w4 gb (acc2 ++ entsG (((SecB.sp x).2).take 0)) by have h := HT4.out; simpa [entsG] using h)
      clear HT4
      go_loopg [26] x.es.length (fun kq v26 w' => ∃ (q : Nat), v26 = .int .i64 q ∧ Aside0 (q + kq = x.es.length) ∧ Aside0 (Below w.heap.size w w') ∧ Aside0 (TxAt w' gb (acc2 ++ entsG (((SecB.sp x).2).take q))))
      case atStart => exact ⟨0, rfl, ⟨by omega⟩, HB4, HT5⟩
      case round =>
        clear HB4 HT5
        obtain ⟨q, rfl, HQ, HBi, HTi⟩ := hrel
        have hel := Aside0.mk (show (SecB.sp x).2.length = x.es.length from List.length_map _)
        have hEl := Aside0.mk (show (entsG (((SecB.sp x).2).take q)).length ≤ 2002000 by
          have h1 := entsG_len (((SecB.sp x).2).take q) (fun z hz => by
            obtain ⟨y, hy, rfl⟩ := List.mem_map.1 (List.mem_of_mem_take hz)
            exact HG.out.2.2 y hy)
          have h2 := HG.out.2.1
          rw [List.length_take, hel.out] at h1
          omega)
        cases gk with
        | zero =>
          obtain rfl : q = x.es.length := by have := HQ.out; omega
          have q5 : decide ((x.es.length : Int) < (x.es.length : Int)) = false := by simp
          have hse := Aside0.mk (show acc2 ++ entsG (((SecB.sp x).2).take x.es.length) = acc ++ secG (SecB.sp x) by
            rw [← hel.out, List.take_length, HAC2.out]
            unfold secG
            simp only [List.append_assoc]
            rfl)
          rw [hse.out] at HTi
          by_cases hlast : i + 1 < Ss.length
          · have q6 : decide ((i : Int) < (Ss.length : Int) - 1) = true := by simp; omega
            have HLa := Aside0.mk hlast
            have hws : wrap64 ((Ss.length : Int) - 1) = (Ss.length : Int) - 1 := by have := hgl.out; unfold wrap64; omega
            clear hlast
            go_wp2_with (go_at_call 52; refine (w_newline gb (acc ++ secG (SecB.sp x)) _ HTi.out (by rw [← hse.out]; have h1 := hac2l.out; have h2 := hEl.out; have h3 := hil.out; rw [List.length_append]; omega)).mono ?_; rintro e w6 ⟨rfl, ht, hg⟩; have HT6 := Aside0.mk ht; have HB6 := Aside0.mk (bgrown HBi.out hg HGB.out); clear ht hg)
            clear hws
            go_roundg k1
            case measure => omega
            case rel => exact ⟨i + 1, by first | rfl | (simp; done) | (rw [← hw1.out]), ⟨by have := HI.out; omega⟩, HB6, ⟨by rw [hsc.out, hgd.out, hml.out, if_pos HLa.out, ← List.append_assoc, ← HAC.out]; exact HT6.out⟩⟩
          · have q6 : decide ((i : Int) < (Ss.length : Int) - 1) = false := by simp; omega
            have HLa := Aside0.mk hlast
            have hws : wrap64 ((Ss.length : Int) - 1) = (Ss.length : Int) - 1 := by have := hgl.out; unfold wrap64; omega
            clear hlast
            go_wp2
            clear hws
            go_roundg k1
            case measure => omega
            case rel => exact ⟨i + 1, by first | rfl | (simp; done) | (rw [← hw1.out]), ⟨by have := HI.out; omega⟩, HBi, ⟨by rw [hsc.out, hgd.out, hml.out, if_neg HLa.out, List.append_nil, ← HAC.out]; exact HTi.out⟩⟩
        | succ k2 =>
          have hq : q < x.es.length := by have := HQ.out; omega
          obtain ⟨y, hy⟩ : ∃ y, x.es[q]? = some y := ⟨_, List.getElem?_eq_getElem hq⟩
          have hym : y ∈ x.es := List.mem_of_getElem? hy
          have hrow := HX.out.row
          rw [HXv.out] at hrow
          obtain ⟨gE, cE, hvE, _, hAtE⟩ := kR_at hrow (by rw [List.length_map]; omega)
          have hpE := keepcell HBi.out (hAtE q y.k (by rw [List.getElem?_map, hy]; rfl))
          obtain rfl : Ax = some ⟨gE, 0, none⟩ := by injection hvE
          have hXb := blk_more_to HX.out.blk HBi.out
          have HY := blk_more_to (HX.out.ents y hym) HBi.out
          have g0 := cell_of_blk hXb 0 _ rfl
          have e0 := cell_of_blk HY 0 _ rfl
          have e1 := cell_of_blk HY 1 _ rfl
          have HYP := Aside0.mk (HG.out.2.2 y hym)
          have hes := Aside0.mk (entsG_succ (SecB.sp x).2 q (y.n, y.v) (show (x.es.map fun e => (e.n, e.v))[q]? = _ by rw [List.getElem?_map, hy]; rfl))
          have hw2 := Aside0.mk (show wrap64 ((q : Int) + 1) = ((q + 1 : Nat) : Int) from wr1 q (by have := HG.out.2.1; omega))
          have q5 : decide (q < x.es.length) = true := by simp; omega
          have z5 : (q : Int) < (x.es.length : Int) := by omega
          obtain ⟨accq, haq⟩ : ∃ z, z = acc2 ++ entsG (((SecB.sp x).2).take q) := ⟨_, rfl⟩
          rw [← haq] at HTi
          have HAQ := Aside0.mk haq
          have HAQl := Aside0.mk (show accq.length ≤ 3000000000 by have h1 := hac2l.out; have h2 := hEl.out; have h3 := hil.out; rw [haq, List.length_append]; omega)
          clear hrow hvE hAtE hy hym haq hq hEl
          go_upto_region 10 with (fail)
          clear hpE q5 z5
          refine Go.Last.wp_region_x (S := fun w' => w'.cell? ⟨x.b, 0, none⟩ = some (.string (B x.s)) ∧ w'.cell? ⟨y.k, 0, none⟩ = some (.string (B y.n)) ∧ w'.cell? ⟨y.k, 1, none⟩ = some (.string (B y.v))) (n := 15) (by kernel_rfl) ?_
          have HS : (fun w' => w'.cell? ⟨x.b, 0, none⟩ = some (.string (B x.s)) ∧ w'.cell? ⟨y.k, 0, none⟩ = some (.string (B y.n)) ∧ w'.cell? ⟨y.k, 1, none⟩ = some (.string (B y.v))) wr.drew := ⟨g0, e0, e1⟩
          have HBd := Aside0.mk (show Below w.heap.size w wr.drew from ⟨HBi.out.os, HBi.out.tape, HBi.out.output, HBi.out.size, HBi.out.block⟩)
          have HTd := Aside0.mk (show TxAt wr.drew gb accq from HTi.out)
          have hneb := Aside0.mk (show some x.b ≠ some gb from fun e => by have h3 : wr.heap[x.b]? = _ := hXb; rw [Option.some.inj e, (show wr.heap[gb]? = _ from HTi.out)] at h3; simp at h3)
          have hney := Aside0.mk (show some y.k ≠ some gb from fun e => by have h3 : wr.heap[y.k]? = _ := HY; rw [Option.some.inj e, (show wr.heap[gb]? = _ from HTi.out)] at h3; simp at h3)
          change Go.Last.wpAnyX _ _ _ _ _ _ _ _ _ wr.drew
          clear g0 e0 e1 HBi HTi hXb HY
          generalize wr.drew = wd at *
          show Go.Last.wpAnyX _ _ _ _ _ _ 15 _ _ _
          refine Go.Last.wpAnyX_at 15 rfl (by kernel_rfl) (by kernel_rfl) (by kernel_rfl) (by kernel_rfl) (fun _ _ _ h => h) (v := ?_) (Or.inl ⟨by rfl, ?_⟩) (by assumption) ?_
          rotate_left
          · intro w hSw
            (try dsimp only at hSw)
            go_split_ands
            go_simp
            first | done | with_reducible rfl
          (try simp only [Nat.reduceSub, Nat.reduceAdd, Act.put, List.setIfInBounds_toArray, List.set_cons_zero, List.set_cons_succ])
          refine Go.Last.wpAnyX_at 15 rfl (by kernel_rfl) (by kernel_rfl) (by kernel_rfl) (by kernel_rfl) (fun _ _ _ h => h) (v := ?_) (Or.inl ⟨by rfl, ?_⟩) (by assumption) ?_
          rotate_left
          · intro w hSw
            (try dsimp only at hSw)
            go_split_ands
            go_simp
            first | done | with_reducible rfl
          (try simp only [Nat.reduceSub, Nat.reduceAdd, Act.put, List.setIfInBounds_toArray, List.set_cons_zero, List.set_cons_succ])
          refine Go.Last.wpAnyX_at 15 rfl (by kernel_rfl) (by kernel_rfl) (by kernel_rfl) (by kernel_rfl) (fun _ _ _ h => h) (v := ?_) (Or.inl ⟨by rfl, ?_⟩) (by assumption) ?_
          rotate_left
          · intro w hSw
            (try dsimp only at hSw)
            go_split_ands
            go_simp
            first | done | with_reducible rfl
          (try simp only [Nat.reduceSub, Nat.reduceAdd, Act.put, List.setIfInBounds_toArray, List.set_cons_zero, List.set_cons_succ])
          refine Go.Last.wpAnyX_at 15 rfl (by kernel_rfl) (by kernel_rfl) (by kernel_rfl) (by kernel_rfl) (fun _ _ _ h => h) (v := ?_) (Or.inl ⟨by rfl, ?_⟩) (by assumption) ?_
          rotate_left
          · intro w hSw
            (try dsimp only at hSw)
            go_split_ands
            go_simp
            first | done | with_reducible rfl
          (try simp only [Nat.reduceSub, Nat.reduceAdd, Act.put, List.setIfInBounds_toArray, List.set_cons_zero, List.set_cons_succ])
          refine Go.Last.wpAnyX_at 15 rfl (by kernel_rfl) (by kernel_rfl) (by kernel_rfl) (by kernel_rfl) (fun _ _ _ h => h) (v := ?_) (Or.inl ⟨by rfl, ?_⟩) (by assumption) ?_
          rotate_left
          · intro w hSw
            (try dsimp only at hSw)
            go_split_ands
            go_simp
            first | done | with_reducible rfl
          (try simp only [Nat.reduceSub, Nat.reduceAdd, Act.put, List.setIfInBounds_toArray, List.set_cons_zero, List.set_cons_succ])
          refine Go.Last.wpAnyX_at 15 rfl (by kernel_rfl) (by kernel_rfl) (by kernel_rfl) (by kernel_rfl) (fun _ _ _ h => h) (v := ?_) (Or.inl ⟨by rfl, ?_⟩) (by assumption) ?_
          rotate_left
          · intro w hSw
            (try dsimp only at hSw)
            go_split_ands
            go_simp
            first | done | with_reducible rfl
          (try simp only [Nat.reduceSub, Nat.reduceAdd, Act.put, List.setIfInBounds_toArray, List.set_cons_zero, List.set_cons_succ])
          refine Go.Last.wpAnyX_at 15 rfl (by kernel_rfl) (by kernel_rfl) (by kernel_rfl) (by kernel_rfl) (fun _ _ _ h => h) (v := ?_) (Or.inl ⟨by rfl, ?_⟩) (by assumption) ?_
          rotate_left
          · intro w hSw
            (try dsimp only at hSw)
            go_split_ands
            go_simp
            first | done | with_reducible rfl
          (try simp only [Nat.reduceSub, Nat.reduceAdd, Act.put, List.setIfInBounds_toArray, List.set_cons_zero, List.set_cons_succ])
          refine Go.Last.wpAnyX_at 15 rfl (by kernel_rfl) (by kernel_rfl) (by kernel_rfl) (by kernel_rfl) (fun _ _ _ h => h) (v := ?_) (Or.inl ⟨by rfl, ?_⟩) (by assumption) ?_
          rotate_left
          · intro w hSw
            (try dsimp only at hSw)
            go_split_ands
            go_simp
            first | done | with_reducible rfl
          (try simp only [Nat.reduceSub, Nat.reduceAdd, Act.put, List.setIfInBounds_toArray, List.set_cons_zero, List.set_cons_succ])
          refine Go.Last.wpAnyX_at 15 rfl (by kernel_rfl) (by kernel_rfl) (by kernel_rfl) (by kernel_rfl) (fun _ _ _ h => h) (v := ?_) (Or.inl ⟨by rfl, ?_⟩) (by assumption) ?_
          rotate_left
          · intro w hSw
            (try dsimp only at hSw)
            go_split_ands
            go_simp
            first | done | with_reducible rfl
          (try simp only [Nat.reduceSub, Nat.reduceAdd, Act.put, List.setIfInBounds_toArray, List.set_cons_zero, List.set_cons_succ])
          refine Go.Last.wpAnyX_at 15 rfl (by kernel_rfl) (by kernel_rfl) (by kernel_rfl) (by kernel_rfl) (fun _ _ _ h => h) (v := ?_) (Or.inl ⟨by rfl, ?_⟩) (by assumption) ?_
          rotate_left
          · intro w hSw
            (try dsimp only at hSw)
            go_split_ands
            go_simp
            first | done | with_reducible rfl
          (try simp only [Nat.reduceSub, Nat.reduceAdd, Act.put, List.setIfInBounds_toArray, List.set_cons_zero, List.set_cons_succ])
          refine Go.Last.wpAnyX_at 15 rfl (by kernel_rfl) (by kernel_rfl) (by kernel_rfl) (by kernel_rfl) (fun _ _ _ h => h) (v := ?_) (Or.inl ⟨by rfl, ?_⟩) (by assumption) ?_
          rotate_left
          · intro w hSw
            (try dsimp only at hSw)
            go_split_ands
            go_simp
            first | done | with_reducible rfl
          (try simp only [Nat.reduceSub, Nat.reduceAdd, Act.put, List.setIfInBounds_toArray, List.set_cons_zero, List.set_cons_succ])
          refine Go.Last.wpAnyX_at 15 rfl (by kernel_rfl) (by kernel_rfl) (by kernel_rfl) (by kernel_rfl) (fun _ _ _ h => h) (v := ?_) (Or.inl ⟨by rfl, ?_⟩) (by assumption) ?_
          rotate_left
          · intro w hSw
            (try dsimp only at hSw)
            go_split_ands
            go_simp
            first | done | with_reducible rfl
          (try simp only [Nat.reduceSub, Nat.reduceAdd, Act.put, List.setIfInBounds_toArray, List.set_cons_zero, List.set_cons_succ])
          refine Go.Last.wpAnyX_at 15 rfl (by kernel_rfl) (by kernel_rfl) (by kernel_rfl) (by kernel_rfl) (fun _ _ _ h => h) (v := ?_) (Or.inl ⟨by rfl, ?_⟩) (by assumption) ?_
          rotate_left
          · intro w hSw
            (try dsimp only at hSw)
            go_split_ands
            go_simp
            first | done | with_reducible rfl
          (try simp only [Nat.reduceSub, Nat.reduceAdd, Act.put, List.setIfInBounds_toArray, List.set_cons_zero, List.set_cons_succ])
          refine Go.Last.wpAnyX_one (i := 13) (o := { dst := some 43, op := Op.box 64 (Operand.tmp 42), type := 55, pos := "serialize.go:66", after := #[{ on := 12, ground := Ground.data }], guard := none }) (by kernel_rfl) rfl ?_
          intro K1 hK1
          go_simp
          have HSb : (fun w' => w'.cell? ⟨x.b, 0, none⟩ = some (.string (B x.s)) ∧ w'.cell? ⟨y.k, 0, none⟩ = some (.string (B y.n)) ∧ w'.cell? ⟨y.k, 1, none⟩ = some (.string (B y.v))) (wd.alloc (Obj.cells #[.string (B x.s), .string (B y.n), .string (B y.v)] 64)) := ⟨keepcell (below_new _ _) HS.1, keepcell (below_new _ _) HS.2.1, keepcell (below_new _ _) HS.2.2⟩
          refine hK1 _ _ (fun _ => HSb) ?_
          clear hK1 K1
          have HO3 := Aside0.mk (show OptAt (wd.alloc (Obj.cells #[.string (B x.s), .string (B y.n), .string (B y.v)] 64)) ⟨wd.heap.size, x.s, y.n, y.v⟩ from heap_alloc_new wd _)
          have HB3 := Aside0.mk (below_over HBd.out (below_new wd (Obj.cells #[.string (B x.s), .string (B y.n), .string (B y.v)] 64)))
          have HT3 := Aside0.mk (show TxAt (wd.alloc (Obj.cells #[.string (B x.s), .string (B y.n), .string (B y.v)] 64)) gb accq from blk_more_to HTd.out (below_new wd (Obj.cells #[.string (B x.s), .string (B y.n), .string (B y.v)] 64)))
          clear HS HBd HTd
          generalize (wd.alloc (Obj.cells #[.string (B x.s), .string (B y.n), .string (B y.v)] 64)) = w3 at HSb HO3 HB3 HT3 ⊢
          generalize wd.heap.size = ob at *
          (try simp only [Act.put, List.setIfInBounds_toArray, List.set_cons_zero, List.set_cons_succ])
          refine Go.Last.wpAnyX_one (i := 14) (o := { dst := some 44, op := Op.call { callee := Callee.value (Operand.func 53), args := #[Operand.tmp 3, Operand.tmp 43], argTypes := #[91, 55] }, type := 0, pos := "serialize.go:66", after := #[{ on := 13, ground := Ground.data }], guard := none }) (by kernel_rfl) rfl ?_
          intro K2 hK2
          go_simp
          go_at_call 53
          refine (w_option gb ob accq x.s y.n y.v w3 HT3.out HO3.out (by have h1 := HAQl.out; have h2 := HYP.out; omega)).mono ?_
          rintro e w5 ⟨rfl, ht, hg⟩
          refine hK2 _ _ (fun _ => ⟨cell_grown hg HSb.1 hneb.out, cell_grown hg HSb.2.1 hney.out, cell_grown hg HSb.2.2 hney.out⟩) ?_
          refine Go.Last.wpAnyX_done (by kernel_rfl) ?_ _
          have HT4 := Aside0.mk ht
          have HB4 := Aside0.mk (bgrown HB3.out hg HGB.out)
          clear hK2 K2 HSb HO3 HB3 HT3 ht hg hneb hney
          go_wp2_with (go_at_call 52; refine (w_newline gb (accq ++ y.n ++ [61] ++ y.v) _ HT4.out (by have h1 := HAQl.out; have h2 := HYP.out; simp only [List.length_append, List.length_cons, List.length_nil]; omega)).mono ?_; rintro e w6 ⟨rfl, ht, hg⟩; have HT6 := Aside0.mk ht; have HB6 := Aside0.mk (bgrown HB4.out hg HGB.out); clear ht hg)
          go_roundg k2
          case measure => omega
          case rel => exact ⟨q + 1, by first | rfl | (simp; done) | (rw [← hw2.out]), ⟨by have := HQ.out; omega⟩, HB6, ⟨by rw [hes.out]; have h := HT6.out; rw [HAQ.out] at h; simpa only [List.append_assoc] using h⟩⟩
end Go.Proofs.YtocdnceckljnaaaDoor.U
namespace Go.Proofs.YtocdnceckljnaaaDoor.QV0
open Go.RowKit Go.Proofs.YtocdnceckljnaaaDoorW.PrintWords Go.Proofs.YtocdnceckljnaaaDoorW.PrintLast Go.Proofs.YtocdnceckljnaaaDoorW.PrintMore
open Go.Proofs.YtocdnceckljnaaaDoor.U
set_option linter.unusedVariables false
set_option linter.unusedSimpArgs false
def gpEnt (e : S74) : Bs × Bs := (e.f0.data.toList, e.f1.data.toList)
def gpOf (x : S52) : Gp := (x.f0.data.toList, x.f1.map gpEnt)
theorem Bl (T : ByteArray) : T = B T.data.toList := by cases T; rfl
theorem secAt_more {W W1 : World} {base : Nat} {x : SecB} (h : SecAt W base x) (hb : Below W.heap.size W W1) : SecAt W1 base x :=
  h.move (hb.block _ (blk_lt h.blk)) (Kd.R_below h.row hb) (fun k c hk => hb.block k (blk_lt hk))
set_option maxHeartbeats 40000000 in
set_option maxRecDepth 100000 in
theorem unit_write_sections (A : Option Addr) (cap : Nat) (l : List S52) (w : World) (hC : Kd.C k52 w A l.length l) (hSh : GShort (l.map gpOf)) :
    Calls Tryd.prog 28 #[.slice A l.length cap] w fun e w' => e = .returned (.string (B (writeG (l.map gpOf)))) ∧ Below w.heap.size w w' := by
  have HC := Aside0.mk hC
  have HSH := Aside0.mk hSh
  have HL := Aside0.mk (show l.length ≤ 1000 by have := hSh.1; rwa [List.length_map] at this)
  have HB0 := Aside0.mk (Below.refl w.heap.size w)
  clear hC hSh
  go_enter Tryd.func28, Tryd.ntmps28
  go_wp2
  go_loopg [11, 3] l.length (fun kq v11 v3 w' => ∃ (i : Nat) (Ss : List SecB), v11 = .int .i64 i ∧ Aside0 (i + kq = l.length) ∧ Aside0 (Below w.heap.size w w') ∧ Aside0 (kPtr.R 76 w' w.heap.size (fun _ => True) v3 (Ss.map (·.b))) ∧ Aside0 (∀ x ∈ Ss, SecAt w' w.heap.size x) ∧ Aside0 (Ss.map SecB.sp = (l.map gpOf).take i))
  case atStart => exact ⟨0, [], rfl, ⟨by omega⟩, HB0, ⟨Kd.R_nil _ _ _ _ _⟩, ⟨fun x hx => by simp at hx⟩, ⟨by simp⟩⟩
  case round =>
    clear HB0
    obtain ⟨i, Ss, rfl, HI, HB, HR, HS, HSp⟩ := hrel
    cases gk with
    | zero =>
      obtain rfl : i = l.length := by have := HI.out; omega
      have q1 : decide ((l.length : Int) < (l.length : Int)) = false := by simp
      obtain ⟨A3, c3, h3⟩ := Kd.R_slice HR.out
      rw [List.length_map] at h3
      subst h3
      have hsp := Aside0.mk (show Ss.map SecB.sp = l.map gpOf by have h := HSp.out; rwa [List.take_of_length_le (by rw [List.length_map]; exact Nat.le_refl _)] at h)
      go_wp2_with (go_at_call 43; refine (serialize_sections A3 c3 w.heap.size Ss _ HR.out HS.out (by rw [hsp.out]; exact HSH.out)).mono ?_; rintro e w2 ⟨rfl, hb⟩; have HB2 := Aside0.mk (below_over HB.out hb); clear hb; rw [hsp.out])
      go_ret
      exact ⟨rfl, HB2.out⟩
    | succ k1 =>
      have hi : i < l.length := by have := HI.out; omega
      obtain ⟨ad, A1, c1, rfl, d0, d1, hl1, hC1⟩ := at_T52 HC.out (i : Int) (by omega) (by omega)
      rw [Int.toNat_natCast] at d0 d1
      obtain ⟨x, hx⟩ : ∃ x, x = rd_T52 l (i : Int) := ⟨_, rfl⟩
      rw [← hx] at d0 d1 hl1 hC1
      have hx2 : l[i]? = some x := by rw [hx]; unfold rd_T52; rw [Int.toNat_natCast, List.getD_eq_getElem?_getD, List.getElem?_eq_getElem hi]; rfl
      have hm := Aside0.mk (show (l.map gpOf)[i]? = some (gpOf x) by rw [List.getElem?_map, hx2]; rfl)
      have hgs := Aside0.mk (HSH.out.2 (gpOf x) (List.mem_map_of_mem (List.mem_of_getElem? hx2)))
      have hgl := Aside0.mk (show (gpOf x).2.length = x.f1.length from List.length_map _)
      have HEL := Aside0.mk (show x.f1.length ≤ 1000 by rw [← hgl.out]; exact hgs.out.l)
      obtain ⟨xs, hxs⟩ : ∃ z, z = x.f0.data.toList := ⟨_, rfl⟩
      have HXs := Aside0.mk hxs
      have hx0 : x.f0 = B xs := by rw [hxs]; exact Bl _
      rw [hx0] at d0
      have d0' := keepcell HB.out d0
      have d1' := keepcell HB.out d1
      have HC1 := Aside0.mk hC1
      have q1 : decide (i < l.length) = true := by simp; omega
      have z1 : (i : Int) < (l.length : Int) := by omega
      have HI0 := Aside0.mk hi
      clear hx hx2 d0 d1 hl1 hC1 hi hxs hx0
      go_upto_region 5 with (fail)
      have hbn := below_new wr (Obj.cells #[Value.string (B xs), Value.slice A1 x.f1.length c1] 52)
      have HBo := Aside0.mk (below_over HB.out hbn)
      have HRo := Aside0.mk (Kd.R_below HR.out hbn)
      have HSo := Aside0.mk (fun (y : SecB) (hy : y ∈ Ss) => secAt_more (HS.out y hy) hbn)
      have hb3 := heap_alloc_new wr (Obj.cells #[Value.string (B xs), Value.slice A1 x.f1.length c1] 52)
      have Hb3 := Aside0.mk hb3
      have f0 := cell_of_blk hb3 0 _ rfl
      have f1 := cell_of_blk hb3 1 _ rfl
      clear HB HR HS d0' d1' q1 z1 hbn hb3
      generalize (wr.alloc (Obj.cells #[Value.string (B xs), Value.slice A1 x.f1.length c1] 52)) = wo at HBo HRo HSo Hb3 f0 f1 ⊢
      generalize wr.heap.size = sb at *
      go_upto_region 6 with (fail)
      obtain ⟨xb, hxb⟩ : ∃ k, k = wo.heap.size := ⟨_, rfl⟩
      have HXB := Aside0.mk hxb
      rw [← hxb]
      have hbn := below_new wo (Obj.cells #[Value.string (B xs), Value.slice none 0 0] 79)
      have HB4 := Aside0.mk hbn
      have HX4 := Aside0.mk (show (wo.alloc (Obj.cells #[Value.string (B xs), Value.slice none 0 0] 79)).heap[xb]? = some (.cells #[.string (B xs), .slice none 0 0] 79 (0, 0)) by rw [hxb]; exact heap_alloc_new wo _)
      have f1' := keepcell hbn f1
      clear f0 f1 hxb hbn
      generalize (wo.alloc (Obj.cells #[Value.string (B xs), Value.slice none 0 0] 79)) = w4 at HB4 HX4 f1' ⊢
      go_upto_region 7 with (fail)
      clear f1'
      go_loopg [22] x.f1.length (fun kq v22 w' => ∃ (q : Nat) (es : List EntB) (ve : Value), v22 = .int .i64 q ∧ Aside0 (q + kq = x.f1.length) ∧ Aside0 (Below wo.heap.size wo w') ∧ Aside0 (w'.heap[xb]? = some (.cells #[.string (B xs), ve] 79 (0, 0))) ∧ Aside0 (kPtr.R 80 w' xb (fun _ => True) ve (es.map (·.k))) ∧ Aside0 (∀ e ∈ es, EntAt w' e) ∧ Aside0 (es.map (fun e => (e.n, e.v)) = ((gpOf x).2).take q))
      case atStart => exact ⟨0, [], _, rfl, ⟨by omega⟩, HB4, HX4, ⟨Kd.R_nil _ _ _ _ _⟩, ⟨fun e he => by simp at he⟩, ⟨by simp⟩⟩
      case round =>
        clear HB4 HX4
        obtain ⟨q, es, ve, rfl, HQ, HBi, HXb, HE, HT, HEm⟩ := hrel
        have HEsl := Aside0.mk (show es.length = q by have h := congrArg List.length HEm.out; rw [List.length_map, List.length_take, hgl.out] at h; have := HQ.out; omega)
        obtain ⟨Ae, ce, hve⟩ := Kd.R_slice HE.out
        rw [List.length_map, HEsl.out] at hve
        subst hve
        cases gk with
        | zero =>
          obtain rfl : q = x.f1.length := by have := HQ.out; omega
          have q5 : decide ((x.f1.length : Int) < (x.f1.length : Int)) = false := by simp
          have hul := Aside0.mk (show (Ss.map (·.b)).length = i by rw [List.length_map]; have h := congrArg List.length HSp.out; rw [List.length_map, List.length_take, List.length_map] at h; have := HI0.out; omega)
          have HBw := Aside0.mk (below_over HBo.out HBi.out)
          have HRw := Aside0.mk (Kd.R_below HRo.out HBi.out)
          have HNs := Aside0.mk (show SecAt wr w.heap.size ⟨xb, xs, .slice Ae x.f1.length ce, es⟩ from ⟨HXb.out, Kd.R_lower HE.out (by rw [HXB.out]; exact HBo.out.size), HT.out⟩)
          have HSw := Aside0.mk (fun (y : SecB) (hy : y ∈ Ss) => secAt_more (HSo.out y hy) HBi.out)
          have hw1 := Aside0.mk (show wrap64 ((i : Int) + 1) = ((i + 1 : Nat) : Int) from wr1 i (by have := HL.out; have := HI0.out; omega))
          clear HRo HSo HE HT HXb HBi
          go_wp2_with ((with_reducible refine gate_builtin (b := .append) (xs := #[.tmp 42, .tmp 44]) rfl ?_); at_builtin; refine Kd.R_append kPtr (w0 := w) w.heap.size rfl (.tmp 42) (.tmp 44) 75 76 (.pointer none) 8 rfl Tryd.underlying75 (by kernel_rfl) rfl (by decide) (by decide) u3 (Ss.map (·.b)) xb [.pointer (some ⟨xb, 0, none⟩)] (fun _ => True) (fun _ => False) rfl rfl rfl (fun _ h => h.elim) (fun _ _ => trivial) HRw.out HBw.out HBw.out.size (by rw [hul.out]; have := HL.out; have := HI0.out; omega) ?_; intro v7 w9 ho hb hg hat; have HR9 := Aside0.mk ho; have HB9 := Aside0.mk hb; have HS9 := Aside0.mk (fun (y : SecB) (hy : y ∈ Ss ++ [⟨xb, xs, .slice Ae x.f1.length ce, es⟩]) => (show SecAt w9 w.heap.size y by
              have hY : SecAt wr w.heap.size y := by
                rcases List.mem_append.1 hy with h | h
                · exact HSw.out y h
                · rw [List.mem_singleton.1 h]; exact HNs.out
              exact hY.move (hg.block _ (blk_lt hY.blk) (Kd.R_ne HRw.out hY.blk (by decide))) (kR_other hY.row HRw.out hg (by decide)) (fun k c hk => hg.block _ (blk_lt hk) (Kd.R_ne HRw.out hk (by decide))))); clear ho hb hg hat)
          go_roundg k1
          case measure => omega
          case rel =>
            refine ⟨i + 1, Ss ++ [⟨xb, xs, .slice Ae x.f1.length ce, es⟩], by first | rfl | (simp; done) | (rw [← hw1.out]), ⟨by have := HI.out; omega⟩, HB9, ⟨?_⟩, HS9, ⟨?_⟩⟩
            · rw [List.map_append]; exact HR9.out
            · rw [List.map_append, HSp.out, List.take_add_one, hm.out]
              have he : es.map (fun e => (e.n, e.v)) = (gpOf x).2 := by have h := HEm.out; rwa [← hgl.out, List.take_length] at h
              have hs : SecB.sp ⟨xb, xs, .slice Ae x.f1.length ce, es⟩ = gpOf x := by unfold SecB.sp; dsimp only; rw [he]; exact congrArg (·, _) HXs.out
              rw [List.map_cons, List.map_nil, hs]
              rfl
        | succ k2 =>
          have hq : q < x.f1.length := by have := HQ.out; omega
          obtain ⟨ad2, hA1, g0, g1⟩ := at_T74 HC1.out (q : Int) (by omega) (by omega)
          subst hA1
          rw [Int.toNat_natCast] at g0 g1
          obtain ⟨y, hy⟩ : ∃ y, y = rd_T74 x.f1 (q : Int) := ⟨_, rfl⟩
          rw [← hy] at g0 g1
          have hy2 : x.f1[q]? = some y := by rw [hy]; unfold rd_T74; rw [Int.toNat_natCast, List.getD_eq_getElem?_getD, List.getElem?_eq_getElem hq]; rfl
          obtain ⟨yn, hyn⟩ : ∃ z, z = y.f0.data.toList := ⟨_, rfl⟩
          obtain ⟨yv, hyv⟩ : ∃ z, z = y.f1.data.toList := ⟨_, rfl⟩
          have hy0 : y.f0 = B yn := by rw [hyn]; exact Bl _
          have hy1 : y.f1 = B yv := by rw [hyv]; exact Bl _
          rw [hy0] at g0
          rw [hy1] at g1
          have HYq := Aside0.mk (show ((gpOf x).2)[q]? = some (yn, yv) by unfold gpOf; dsimp only; rw [List.getElem?_map, hy2, hyn, hyv]; rfl)
          have HBw := below_over HBo.out HBi.out
          have g0' := keepcell HBw g0
          have g1' := keepcell HBw g1
          have q5 : decide (q < x.f1.length) = true := by simp; omega
          have z5 : (q : Int) < (x.f1.length : Int) := by omega
          clear hy hy2 hyn hyv hy0 hy1 g0 g1 HBw hq
          go_upto_region 9 with (fail)
          have hbn := below_new wr (Obj.cells #[Value.string (B yn), Value.string (B yv)] 74)
          have HB5 := Aside0.mk (below_over HBi.out hbn)
          have HX5 := Aside0.mk (blk_more_to HXb.out hbn)
          have HE5 := Aside0.mk (Kd.R_below HE.out hbn)
          have HT5 := Aside0.mk (fun (e : EntB) (he : e ∈ es) => (show EntAt (wr.alloc (Obj.cells #[Value.string (B yn), Value.string (B yv)] 74)) e from blk_more_to (HT.out e he) hbn))
          have hb5 := heap_alloc_new wr (Obj.cells #[Value.string (B yn), Value.string (B yv)] 74)
          have Hb5 := Aside0.mk hb5
          have f0 := cell_of_blk hb5 0 _ rfl
          have f1 := cell_of_blk hb5 1 _ rfl
          have hbx := cell_of_blk HX5.out 1 _ rfl
          clear HBi HXb HE HT g0' g1' q5 z5 hb5 hbn
          generalize (wr.alloc (Obj.cells #[Value.string (B yn), Value.string (B yv)] 74)) = w5 at HB5 HX5 HE5 HT5 Hb5 f0 f1 hbx ⊢
          generalize wr.heap.size = eb at *
          refine Go.Last.wp_region_x (S := fun w' => w'.cell? ⟨xb, 1, none⟩ = some (Value.slice Ae q ce) ∧ w'.cell? ⟨eb, 0, none⟩ = some (.string (B yn)) ∧ w'.cell? ⟨eb, 1, none⟩ = some (.string (B yv))) (n := 15) (by kernel_rfl) ?_
          have HS : (fun w' => w'.cell? ⟨xb, 1, none⟩ = some (Value.slice Ae q ce) ∧ w'.cell? ⟨eb, 0, none⟩ = some (.string (B yn)) ∧ w'.cell? ⟨eb, 1, none⟩ = some (.string (B yv))) w5.drew := ⟨hbx, f0, f1⟩
          have HBd := Aside0.mk (show Below wo.heap.size wo w5.drew from ⟨HB5.out.os, HB5.out.tape, HB5.out.output, HB5.out.size, HB5.out.block⟩)
          have HXd := Aside0.mk (show w5.drew.heap[xb]? = some (.cells #[.string (B xs), Value.slice Ae q ce] 79 (0, 0)) from HX5.out)
          have HEd := Aside0.mk (show kPtr.R 80 w5.drew xb (fun _ => True) (.slice Ae q ce) (es.map (·.k)) from HE5.out)
          have HTd := Aside0.mk (show ∀ e ∈ es, EntAt w5.drew e from HT5.out)
          have Hbd := Aside0.mk (show w5.drew.heap[eb]? = some (.cells #[.string (B yn), .string (B yv)] 74 (0, 0)) from Hb5.out)
          change Go.Last.wpAnyX _ _ _ _ _ _ _ _ _ w5.drew
          clear hbx f0 f1 HB5 HX5 HE5 HT5 Hb5
          generalize w5.drew = wd at *
          show Go.Last.wpAnyX _ _ _ _ _ _ 16 _ _ _
          refine Go.Last.wpAnyX_at 16 rfl (by kernel_rfl) (by kernel_rfl) (by kernel_rfl) (by kernel_rfl) (fun _ _ _ h => h) (v := ?_) (Or.inl ⟨by rfl, ?_⟩) (by assumption) ?_
          rotate_left
          · intro w hSw
            (try dsimp only at hSw)
            go_split_ands
            go_simp
            first | done | with_reducible rfl
          (try simp only [Nat.reduceSub, Nat.reduceAdd, Act.put, List.setIfInBounds_toArray, List.set_cons_zero, List.set_cons_succ])
          refine Go.Last.wpAnyX_at 16 rfl (by kernel_rfl) (by kernel_rfl) (by kernel_rfl) (by kernel_rfl) (fun _ _ _ h => h) (v := ?_) (Or.inl ⟨by rfl, ?_⟩) (by assumption) ?_
          rotate_left
          · intro w hSw
            (try dsimp only at hSw)
            go_split_ands
            go_simp
            first | done | with_reducible rfl
          (try simp only [Nat.reduceSub, Nat.reduceAdd, Act.put, List.setIfInBounds_toArray, List.set_cons_zero, List.set_cons_succ])
          refine Go.Last.wpAnyX_at 16 rfl (by kernel_rfl) (by kernel_rfl) (by kernel_rfl) (by kernel_rfl) (fun _ _ _ h => h) (v := ?_) (Or.inl ⟨by rfl, ?_⟩) (by assumption) ?_
          rotate_left
          · intro w hSw
            (try dsimp only at hSw)
            go_split_ands
            go_simp
            first | done | with_reducible rfl
          (try simp only [Nat.reduceSub, Nat.reduceAdd, Act.put, List.setIfInBounds_toArray, List.set_cons_zero, List.set_cons_succ])
          refine Go.Last.wpAnyX_at 16 rfl (by kernel_rfl) (by kernel_rfl) (by kernel_rfl) (by kernel_rfl) (fun _ _ _ h => h) (v := ?_) (Or.inl ⟨by rfl, ?_⟩) (by assumption) ?_
          rotate_left
          · intro w hSw
            (try dsimp only at hSw)
            go_split_ands
            go_simp
            first | done | with_reducible rfl
          (try simp only [Nat.reduceSub, Nat.reduceAdd, Act.put, List.setIfInBounds_toArray, List.set_cons_zero, List.set_cons_succ])
          refine Go.Last.wpAnyX_at 16 rfl (by kernel_rfl) (by kernel_rfl) (by kernel_rfl) (by kernel_rfl) (fun _ _ _ h => h) (v := ?_) (Or.inl ⟨by rfl, ?_⟩) (by assumption) ?_
          rotate_left
          · intro w hSw
            (try dsimp only at hSw)
            go_split_ands
            go_simp
            first | done | with_reducible rfl
          (try simp only [Nat.reduceSub, Nat.reduceAdd, Act.put, List.setIfInBounds_toArray, List.set_cons_zero, List.set_cons_succ])
          refine Go.Last.wpAnyX_at 16 rfl (by kernel_rfl) (by kernel_rfl) (by kernel_rfl) (by kernel_rfl) (fun _ _ _ h => h) (v := ?_) (Or.inl ⟨by rfl, ?_⟩) (by assumption) ?_
          rotate_left
          · intro w hSw
            (try dsimp only at hSw)
            go_split_ands
            go_simp
            first | done | with_reducible rfl
          (try simp only [Nat.reduceSub, Nat.reduceAdd, Act.put, List.setIfInBounds_toArray, List.set_cons_zero, List.set_cons_succ])
          refine Go.Last.wpAnyX_at 16 rfl (by kernel_rfl) (by kernel_rfl) (by kernel_rfl) (by kernel_rfl) (fun _ _ _ h => h) (v := ?_) (Or.inl ⟨by rfl, ?_⟩) (by assumption) ?_
          rotate_left
          · intro w hSw
            (try dsimp only at hSw)
            go_split_ands
            go_simp
            first | done | with_reducible rfl
          (try simp only [Nat.reduceSub, Nat.reduceAdd, Act.put, List.setIfInBounds_toArray, List.set_cons_zero, List.set_cons_succ])
          refine Go.Last.wpAnyX_at 16 rfl (by kernel_rfl) (by kernel_rfl) (by kernel_rfl) (by kernel_rfl) (fun _ _ _ h => h) (v := ?_) (Or.inl ⟨by rfl, ?_⟩) (by assumption) ?_
          rotate_left
          · intro w hSw
            (try dsimp only at hSw)
            go_split_ands
            go_simp
            first | done | with_reducible rfl
          (try simp only [Nat.reduceSub, Nat.reduceAdd, Act.put, List.setIfInBounds_toArray, List.set_cons_zero, List.set_cons_succ])
          refine Go.Last.wpAnyX_at 16 rfl (by kernel_rfl) (by kernel_rfl) (by kernel_rfl) (by kernel_rfl) (fun _ _ _ h => h) (v := ?_) (Or.inl ⟨by rfl, ?_⟩) (by assumption) ?_
          rotate_left
          · intro w hSw
            (try dsimp only at hSw)
            go_split_ands
            go_simp
            first | done | with_reducible rfl
          (try simp only [Nat.reduceSub, Nat.reduceAdd, Act.put, List.setIfInBounds_toArray, List.set_cons_zero, List.set_cons_succ])
          refine Go.Last.wpAnyX_at 16 rfl (by kernel_rfl) (by kernel_rfl) (by kernel_rfl) (by kernel_rfl) (fun _ _ _ h => h) (v := ?_) (Or.inl ⟨by rfl, ?_⟩) (by assumption) ?_
          rotate_left
          · intro w hSw
            (try dsimp only at hSw)
            go_split_ands
            go_simp
            first | done | with_reducible rfl
          (try simp only [Nat.reduceSub, Nat.reduceAdd, Act.put, List.setIfInBounds_toArray, List.set_cons_zero, List.set_cons_succ])
          refine Go.Last.wpAnyX_one (i := 10) (o := { dst := some 36, op := Op.box 81 (Operand.tmp 35), type := 80, pos := "units.go:41", after := #[{ on := 9, ground := Ground.data }], guard := none }) (by kernel_rfl) rfl ?_
          intro K1 hK1
          go_simp
          have HSb : (fun w' => w'.cell? ⟨xb, 1, none⟩ = some (Value.slice Ae q ce) ∧ w'.cell? ⟨eb, 0, none⟩ = some (.string (B yn)) ∧ w'.cell? ⟨eb, 1, none⟩ = some (.string (B yv))) (wd.alloc (Obj.cells #[.string (B yn), .string (B yv)] 81)) := ⟨keepcell (below_new _ _) HS.1, keepcell (below_new _ _) HS.2.1, keepcell (below_new _ _) HS.2.2⟩
          refine hK1 _ _ (fun _ => HSb) ?_
          clear hK1 K1
          have hbn := below_new wd (Obj.cells #[.string (B yn), .string (B yv)] 81)
          have HN6 := Aside0.mk (show EntAt (wd.alloc (Obj.cells #[.string (B yn), .string (B yv)] 81)) ⟨wd.heap.size, yn, yv⟩ from heap_alloc_new wd _)
          have HB6 := Aside0.mk (below_over HBd.out hbn)
          have HX6 := Aside0.mk (blk_more_to HXd.out hbn)
          have HE6 := Aside0.mk (Kd.R_below HEd.out hbn)
          have HT6 := Aside0.mk (fun (e : EntB) (he : e ∈ es) => (show EntAt (wd.alloc (Obj.cells #[.string (B yn), .string (B yv)] 81)) e from blk_more_to (HTd.out e he) hbn))
          have Hb6 := Aside0.mk (blk_more_to Hbd.out hbn)
          clear HS HBd HXd HEd HTd Hbd hbn
          generalize (wd.alloc (Obj.cells #[.string (B yn), .string (B yv)] 81)) = w6 at HSb HN6 HB6 HX6 HE6 HT6 Hb6 ⊢
          generalize wd.heap.size = ob at *
          (try simp only [Act.put, List.setIfInBounds_toArray, List.set_cons_zero, List.set_cons_succ])
          refine Go.Last.wpAnyX_one (i := 11) (o := { dst := some 37, op := Op.buildSlice 77 1 #[(0, Operand.tmp 36)], type := 77, pos := "units.go:41", after := #[{ on := 10, ground := Ground.data }], guard := none }) (by kernel_rfl) rfl ?_
          intro K2 hK2
          go_simp
          have HSc : (fun w' => w'.cell? ⟨xb, 1, none⟩ = some (Value.slice Ae q ce) ∧ w'.cell? ⟨eb, 0, none⟩ = some (.string (B yn)) ∧ w'.cell? ⟨eb, 1, none⟩ = some (.string (B yv))) (w6.alloc (Obj.cells #[.pointer (some ⟨ob, 0, none⟩)] 80)) := ⟨keepcell (below_new _ _) HSb.1, keepcell (below_new _ _) HSb.2.1, keepcell (below_new _ _) HSb.2.2⟩
          refine hK2 _ _ (fun _ => HSc) ?_
          clear hK2 K2
          (try simp only [Act.put, List.setIfInBounds_toArray, List.set_cons_zero, List.set_cons_succ])
          refine Go.Last.wpAnyX_one (i := 12) (o := { dst := some 38, op := Op.call { callee := Callee.builtin Builtin.append, args := #[Operand.tmp 30, Operand.tmp 37], argTypes := #[77, 77] }, type := 77, pos := "units.go:41", after := #[{ on := 4, ground := Ground.data }, { on := 11, ground := Ground.data }], guard := none }) (by kernel_rfl) rfl ?_
          intro K3 hK3
          have hlen := Aside0.mk (show (es.map (·.k)).length = q by rw [List.length_map]; exact HEsl.out)
          have hneB := Aside0.mk (show some xb ≠ (Value.slice Ae q ce).ownBlock from Kd.R_ne HE6.out HX6.out (by decide))
          have hneI := Aside0.mk (show some eb ≠ (Value.slice Ae q ce).ownBlock from Kd.R_ne HE6.out Hb6.out (by decide))
          refine Kd.R_append_step (w0 := wo) kPtr xb (by rfl) (.tmp 30) (.tmp 37) 77 80 (.pointer none) 8 rfl (by kernel_rfl) (by kernel_rfl) (by decide) (by decide) (by decide) (Value.slice Ae q ce) (es.map (·.k)) ob [.pointer (some ⟨ob, 0, none⟩)] (fun _ => True) (fun _ => False) rfl rfl rfl (fun _ h => h.elim) (fun _ _ => trivial) HE6.out (by rw [HXB.out]; exact HB6.out) (by rw [HXB.out]; exact HB6.out.size) (by rw [hlen.out]; have := HEL.out; have := HQ.out; omega) ?_
          intro v1 w7 HR1 HB1 hg hat
          obtain ⟨Av, cv, hv⟩ := Kd.R_slice HR1
          rw [List.length_append, List.length_singleton, hlen.out] at hv
          subst hv
          have hX7 := Aside0.mk (blk_grown HX6.out hg hneB.out)
          have HSe : (fun w' => w'.cell? ⟨xb, 1, none⟩ = some (Value.slice Ae q ce) ∧ w'.cell? ⟨eb, 0, none⟩ = some (.string (B yn)) ∧ w'.cell? ⟨eb, 1, none⟩ = some (.string (B yv))) w7 := ⟨cell_grown hg HSb.1 hneB.out, cell_grown hg HSb.2.1 hneI.out, cell_grown hg HSb.2.2 hneI.out⟩
          have HT7 := Aside0.mk (fun (e : EntB) (he : e ∈ es ++ [⟨ob, yn, yv⟩]) => (show EntAt w7 e by
            have hE : EntAt w6 e := by
              rcases List.mem_append.1 he with h | h
              · exact HT6.out e h
              · rw [List.mem_singleton.1 h]; exact HN6.out
            exact blk_grown hE hg (Kd.R_ne HE6.out hE (by decide))))
          refine hK3 _ _ (fun _ => HSe) ?_
          clear hK3 K3 HSb HSc
          (try simp only [Act.put, List.setIfInBounds_toArray, List.set_cons_zero, List.set_cons_succ])
          refine Go.Last.wpAnyX_one (i := 13) (o := { dst := some 39, op := Op.nilCheck (Operand.tmp 26), type := 0, pos := "units.go:41", after := #[{ on := 0, ground := Ground.data }, { on := 0, ground := Ground.phase }, { on := 1, ground := Ground.phase }, { on := 2, ground := Ground.phase }, { on := 3, ground := Ground.phase }, { on := 4, ground := Ground.phase }, { on := 5, ground := Ground.phase }, { on := 6, ground := Ground.phase }, { on := 7, ground := Ground.phase }, { on := 8, ground := Ground.phase }, { on := 9, ground := Ground.phase }, { on := 10, ground := Ground.phase }, { on := 11, ground := Ground.phase }, { on := 12, ground := Ground.phase }], guard := none }) (by kernel_rfl) rfl ?_
          intro K4 hK4
          go_simp
          refine hK4 _ _ (fun _ => HSe) ?_
          clear hK4 K4
          (try simp only [Act.put, List.setIfInBounds_toArray, List.set_cons_zero, List.set_cons_succ])
          refine Go.Last.wpAnyX_one (i := 14) (o := { dst := some 40, op := Op.fieldAddr 79 (Operand.tmp 39) 1, type := 0, pos := "units.go:41", after := #[{ on := 13, ground := Ground.data }, { on := 0, ground := Ground.phase }, { on := 1, ground := Ground.phase }, { on := 2, ground := Ground.phase }, { on := 3, ground := Ground.phase }, { on := 4, ground := Ground.phase }, { on := 5, ground := Ground.phase }, { on := 6, ground := Ground.phase }, { on := 7, ground := Ground.phase }, { on := 8, ground := Ground.phase }, { on := 9, ground := Ground.phase }, { on := 10, ground := Ground.phase }, { on := 11, ground := Ground.phase }, { on := 12, ground := Ground.phase }], guard := none }) (by kernel_rfl) rfl ?_
          intro K5 hK5
          go_simp
          refine hK5 _ _ (fun _ => HSe) ?_
          clear hK5 K5
          (try simp only [Act.put, List.setIfInBounds_toArray, List.set_cons_zero, List.set_cons_succ])
          refine Go.Last.wpAnyX_one (i := 15) (o := { dst := none, op := Op.store 77 (Operand.tmp 40) (Operand.tmp 38), type := 0, pos := "units.go:41", after := #[{ on := 14, ground := Ground.data }, { on := 12, ground := Ground.data }, { on := 12, ground := Ground.chain }, { on := 0, ground := Ground.phase }, { on := 1, ground := Ground.phase }, { on := 2, ground := Ground.phase }, { on := 3, ground := Ground.phase }, { on := 4, ground := Ground.phase }, { on := 5, ground := Ground.phase }, { on := 6, ground := Ground.phase }, { on := 7, ground := Ground.phase }, { on := 8, ground := Ground.phase }, { on := 9, ground := Ground.phase }, { on := 10, ground := Ground.phase }, { on := 11, ground := Ground.phase }, { on := 12, ground := Ground.phase }], guard := none }) (by kernel_rfl) rfl ?_
          intro K6 hK6
          have hcB := cell_of_blk hX7.out 1 _ rfl
          have hfB := blk_frozen hX7.out 1
          go_simp
          refine hK6 _ _ (fun e => absurd rfl e) ?_
          refine Go.Last.wpAnyX_done (by kernel_rfl) ?_ _
          have Q1 := Aside0.mk (blk_set hX7.out 1 (Value.slice Av (q + 1) cv))
          have Q3 := Aside0.mk (kR_far HR1 hX7.out (by decide) 1 (Value.slice Av (q + 1) cv))
          have HB1w : Below wo.heap.size wo w7 := by rw [← HXB.out]; exact HB1
          have Q5 := Aside0.mk (below_set HB1w (Nat.le_of_eq HXB.out.symm) (v := Value.slice Av (q + 1) cv) (j := 1))
          have Q6 := Aside0.mk (fun (e : EntB) (he : e ∈ es ++ [⟨ob, yn, yv⟩]) => (show EntAt (w7.setCell ⟨xb, 1, none⟩ (Value.slice Av (q + 1) cv)) e from (Below.heap_setCell w7 ⟨xb, 1, none⟩ _ e.k (blk_ne (HT7.out e he) hX7.out (by decide))).trans (HT7.out e he)))
          have hw := Aside0.mk (show wrap64 ((q : Int) + 1) = ((q + 1 : Nat) : Int) from wr1 q (by have := HEL.out; have := HQ.out; omega))
          clear hcB hfB HR1 HB1 HB1w HSe HN6 HB6 HX6 HE6 HT6 Hb6 hX7 HT7 hg hat hK6 K6 hneB hneI hlen
          generalize w7.setCell ⟨xb, 1, none⟩ (Value.slice Av (q + 1) cv) = w8 at Q1 Q3 Q5 Q6 ⊢
          go_wp2
          go_roundg k2
          case measure => omega
          case rel =>
            refine ⟨q + 1, es ++ [⟨ob, yn, yv⟩], _, by first | rfl | (simp; done) | (rw [← hw.out]), ⟨by have := HQ.out; omega⟩, Q5, ⟨by simpa using Q1.out⟩, ⟨?_⟩, Q6, ⟨?_⟩⟩
            · rw [List.map_append]; exact Q3.out
            · rw [List.map_append, HEm.out, List.take_add_one, HYq.out]; rfl
end Go.Proofs.YtocdnceckljnaaaDoor.QV0
