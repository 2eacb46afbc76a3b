/- The texts Ck, Cl, Cm, Cn, without what the claims do not use, laid together by a program of this session (wip/tools/bundle.py). Conditions: those of each theorem. -/
import Derived.Test.YtabfehcpcjcomaaGreatDoorIc2
import Derived.Test.YtabfehcpcjcomaaGreatDoorCards
import Derived.Test.YtabfehcpcjcomaaGreatDoorTie
import Derived.WalkKit
import Derived.ProofKit
import Derived.OpenShut
import Derived.SizedLaws
import Derived.Deep.DeepHandedRow
import Derived.Deep.DeepWitnessRowRef
import Derived.Lib.LaidIn
import Derived.Lib.LaidTab
import Derived.LaidSub
import Derived.Deep.Slices
namespace Go.Proofs.YtabfehcpcjcomaaGreatDoor.Ck
open Go.ChangeShapes Go.WideShapes Go.ChangeAt Go.RowKit Go.Deep
open Go.Proofs.YtabfehcpcjcomaaGreatDoorW.PrintWords Go.Proofs.YtabfehcpcjcomaaGreatDoor.R
set_option linter.unusedVariables false
set_option linter.unusedSimpArgs false
theorem own : ownKnob Tryz.prog.godebug = none := by kernel_rfl
def lit1 : DataW Unit → Value
  | .lit (.int k n) => .int k n
  | .lit (.float k b) => .float k b
  | .lit (.bool b) => .bool b
  | .lit (.string l) => .string ⟨l.toArray⟩
  | _ => .nilIface
def flat1 : DataW Unit → List Value
  | .agg l => l.map lit1
  | .slice l _ => l.map lit1
  | d => [lit1 d]
def flat2 : DataW Unit → List Value
  | .agg l => l.flatMap flat1
  | .slice l _ => l.flatMap flat1
  | _ => []
def slen : DataW Unit → Nat
  | .slice l _ => l.length
  | _ => 0
def inner : DataW Unit → DataW Unit
  | .iface _ (.ptr d) => d
  | .ptr d => d
  | d => d
noncomputable def laidWorld (os : Os) : World :=
  let N := (World.settled Tryz.prog os).heap.size
  let w0 := World.holding Tryz.prog os ⟨#[.cells #[.slice (some ⟨N + 1, 0, none⟩) 7 7, .slice none 0 0, .int .i64 2] 213,
    .cells (([9, 13, 1, 32, 133, 101, 160, 5760, 5600, 8192, 8202, 1, 8232, 8233, 1, 8239, 8287, 48, 12288, 12288, 1] : List Int).map fun z => Value.int .u16 z).toArray 216,
    .cells (flat1 Rows.laid_internal_strconv_powtab).toArray 3,
    .cells (flat1 Rows.laid_internal_strconv_float64pow10).toArray 31,
    .cells (flat1 Rows.laid_internal_strconv_float32pow10).toArray 221,
    .cells (flat2 Rows.laid_internal_strconv_leftcheats).toArray 284,
    .cells (flat1 (inner Rows.laid_strconv_ErrRange)).toArray 180,
    .cells (flat1 (inner Rows.laid_strconv_ErrSyntax)).toArray 180], #[], []⟩
  let put (h : Array Obj) (g : Nat) (cs : Array Value) : Array Obj := h.modify g fun
    | .cells _ t frozen => .cells cs t frozen
    | o => o
  let h := put w0.heap 13 (flat1 Rows.laid_internal_strconv_uint64pow10).toArray
  let h := put h 1 (flat1 Rows.laid_strings_asciiSpace).toArray
  let h := put h 3 #[.iface 178 (.pointer (some ⟨N + 7, 0, none⟩))]
  let h := put h 4 #[.iface 178 (.pointer (some ⟨N + 6, 0, none⟩))]
  let h := put h 14 (flat1 Rows.laid_math_bits_deBruijn32tab).toArray
  let h := put h 15 (flat1 Rows.laid_math_bits_deBruijn64tab).toArray
  let h := put h 2 #[.pointer (some ⟨N, 0, none⟩)]
  let h := put h 5 (flat1 Rows.laid_internal_strconv_float32info).toArray
  let h := put h 6 #[.bool true]
  let h := put h 7 (flat1 Rows.laid_internal_strconv_float64info).toArray
  let h := put h 8 #[.slice (some ⟨N + 4, 0, none⟩) 11 11]
  let h := put h 9 #[.slice (some ⟨N + 2, 0, none⟩) 9 9]
  let h := put h 10 #[.slice (some ⟨N + 3, 0, none⟩) 23 23]
  let h := put h 11 (flat2 Rows.laid_internal_strconv_pow10Tab).toArray
  let h := put h 12 #[.slice (some ⟨N + 5, 0, none⟩) (slen Rows.laid_internal_strconv_leftcheats) (slen Rows.laid_internal_strconv_leftcheats)]
  { w0 with heap := h }
noncomputable abbrev N0 : Nat := (World.settled Tryz.prog default).heap.size
theorem laid14 (os : Os) (args : Array Value) : LaidIn Tryz.prog ((laidWorld os).forCall (fun _ _ => 0) ⟨#[], args, []⟩).memory (Rows.fnStatmReadRow.laid.take 14) [14, 15, 5, 7, 6, 9, N0 + 2, 10, N0 + 3, 8, N0 + 4, 13, 4, N0 + 6, 3, N0 + 7, 2, N0, N0 + 1, 1, 12, N0 + 5] :=
  LaidIn.of_run _ 8 (by kernel_rfl) (by kernel_rfl) (by kernel_rfl) (by kernel_rfl)
end Go.Proofs.YtabfehcpcjcomaaGreatDoor.Ck
namespace Go.Proofs.YtabfehcpcjcomaaGreatDoor.Ck
open Go.ChangeShapes Go.WideShapes Go.ChangeAt Go.RowKit Go.Deep
open Go.Proofs.YtabfehcpcjcomaaGreatDoorW.PrintWords Go.Proofs.YtabfehcpcjcomaaGreatDoor.R
set_option linter.unusedVariables false
noncomputable abbrev W0 (os : Os) (args : Array Value) : World := ((laidWorld os).forCall (fun _ _ => 0) ⟨#[], args, []⟩).memory
theorem pow_blk (os : Os) (args : Array Value) : (W0 os args).heap[11]? = some (.cells (flat2 Rows.laid_internal_strconv_pow10Tab).toArray 274 (0, 0)) := by kernel_rfl
theorem pow_read (os : Os) (args : Array Value) : DataW.trod (fun _ => ()) Tryz.prog (W0 os args) 0 (fun _ => true) false 8 274 (flat2 Rows.laid_internal_strconv_pow10Tab).toArray.toList = some (Rows.laid_internal_strconv_pow10Tab, []) := by kernel_rfl
theorem pow_flat : (flat2 Rows.laid_internal_strconv_pow10Tab).all (fun v => match v with | .iface _ _ => false | _ => true) = true := by kernel_rfl
theorem laid1 (os : Os) (args : Array Value) : LaidIn Tryz.prog (W0 os args) [("internal/strconv.pow10Tab", Rows.laid_internal_strconv_pow10Tab)] [11] := by
  have hb := pow_blk os args
  refine LaidIn.one (g := 11) (t := 274) (cs := (flat2 Rows.laid_internal_strconv_pow10Tab).toArray) (fuel := 8) (p := []) [11] (by kernel_rfl) (by kernel_rfl) ?_ (pow_read os args) ?_ ?_ ?_
  · unfold World.var?
    rw [show Tryz.prog.globalNamed "internal/strconv.pow10Tab" = some 11 by kernel_rfl]
    simp only [Option.bind_some, hb]
  · rw [List.append_nil]; exact rowP_nodup _ _
  · intro b off hp
    rw [List.append_nil] at hp
    obtain ⟨i, hi, e⟩ := MemPlace.mem_row.1 hp
    injection e with e1 e2
    have e1' : b = 11 := e1
    subst e1'
    refine ⟨⟨_, _, hb⟩, fun u v hc => ?_⟩
    rw [blk_cell hb off] at hc
    have hm : Value.iface u v ∈ flat2 Rows.laid_internal_strconv_pow10Tab := by
      rw [List.getElem?_toArray] at hc
      exact List.mem_of_getElem? hc
    have := List.all_eq_true.1 pow_flat _ hm
    simp at this
  · intro x hx
    rw [List.append_nil] at hx
    obtain ⟨i, hi, rfl⟩ := MemPlace.mem_row.1 hx
    exact List.mem_singleton.2 rfl
theorem laid_met (os : Os) (args : Array Value) : laidMet Tryz.prog Rows.fnStatmReadRow.laid (W0 os args) :=
  (LaidIn.append (laid14 os args) (laid1 os args) (by kernel_rfl)).met
abbrev rowL : List (String × DataW Unit) := Rows.fnStatmReadRow.laid
theorem pick (W : World) (h : laidMetH Tryz.prog rowL W) (n : String) (d : DataW Unit) (hf : rowL.filter (fun x => x.1 == n) = [(n, d)]) (hd : d.handleName?.isSome = false) : laidMet Tryz.prog [(n, d)] W := by
  have h1 := h.filter (fun x => x.1 == n)
  rw [hf] at h1
  unfold laidMetH at h1
  rw [show ([(n, d)] : List (String × DataW Unit)).filter (fun x => x.snd.handleName?.isSome) = [] by simp [List.filter, hd]] at h1
  exact h1
theorem trod_f64 {W : World} {base m : Nat} {sp : Nat → Bool} {v : Value} {b : Nat} {pl : List MemPlace} (h : DataW.trod (fun _ => ()) Tryz.prog W base sp false m 31 [v] = some (.lit (.float .f64 b), pl)) : v = .float .f64 b := by
  cases m with
  | zero => simp [DataW.trod] at h
  | succ m =>
    have hu := Tryz.underlying31
    cases v <;> simp [DataW.trod, hu] at h
    obtain ⟨⟨rfl, _⟩, rfl, _⟩ := h
    rfl
end Go.Proofs.YtabfehcpcjcomaaGreatDoor.Ck
namespace Go.Proofs.YtabfehcpcjcomaaGreatDoor.Ck
open Go.ChangeShapes Go.WideShapes Go.ChangeAt Go.RowKit Go.Deep
open Go.Proofs.YtabfehcpcjcomaaGreatDoorW.PrintWords Go.Proofs.YtabfehcpcjcomaaGreatDoor.R
set_option linter.unusedVariables false
theorem tab_opt {W : World} (h : laidMetH Tryz.prog rowL W) : W.cell? ⟨6, 0, none⟩ = some (.bool true) := by
  obtain ⟨ps, ⟨g, t, cs, fuel, p, q, hg, ht, hv, hd, _, _⟩, _⟩ := pick W h "internal/strconv.optimize" (.lit (.bool true)) (by kernel_rfl) (by kernel_rfl)
  obtain rfl : 6 = g := Option.some.inj ((show Tryz.prog.globalNamed "internal/strconv.optimize" = some 6 by kernel_rfl).symm.trans hg)
  obtain rfl : 4 = t := Option.some.inj ((show (Tryz.prog.globals[6]?).map (·.type) = some 4 by kernel_rfl).symm.trans ht)
  obtain ⟨b, hc, hx⟩ := DataW.trod_bool Tryz.underlying4 hd
  have := World.var?_cell hg hv 0
  rw [this]
  have hb : true = b := by
    have := congrArg Prod.fst hx
    simpa using this
  rw [← hb] at hc
  have : cs = #[.bool true] := by apply Array.toList_inj.1; rw [hc]
  rw [this]
  rfl
theorem tab_pow {W : World} (h : laidMetH Tryz.prog rowL W) : ∃ (A : Addr) (c : Nat), W.cell? ⟨10, 0, none⟩ = some (.slice (some A) 23 c) ∧ 23 ≤ c ∧ ∀ i, i < 23 → W.cell? (A.add i) = some (.float .f64 (pow10F.getD i 0)) := by
  obtain ⟨ps, ⟨g, t, cs, fuel, p, q, hg, ht, hv, hd, _, _⟩, _⟩ := pick W h "internal/strconv.float64pow10" (.slice (pow10F.map fun b => .lit (.float .f64 b)) []) (by kernel_rfl) (by kernel_rfl)
  obtain rfl : 10 = g := Option.some.inj ((show Tryz.prog.globalNamed "internal/strconv.float64pow10" = some 10 by kernel_rfl).symm.trans hg)
  obtain rfl : 77 = t := Option.some.inj ((show (Tryz.prog.globals[10]?).map (·.type) = some 77 by kernel_rfl).symm.trans ht)
  rcases open_slice1 Tryz.underlying77 (by kernel_rfl) hd with ⟨_, hx⟩ | ⟨a, len, cap, m, n, V, D, Pl, hc, _, hl, _, hm, hx, hi⟩
  · cases hx
  · have h1 := congrArg Prod.fst hx
    simp only [DataW.slice.injEq] at h1
    obtain ⟨h2, h3⟩ := h1
    have hlen : len = 23 := by have := congrArg List.length h2; simpa [pow10F] using this.symm
    subst hlen
    have hcs : cs = #[.slice (some a) 23 cap] := by apply Array.toList_inj.1; rw [hc]
    have hm' : 23 ≤ m := by rw [hm]; split <;> omega
    refine ⟨a, cap, by rw [World.var?_cell hg hv 0, hcs]; rfl, hl, fun i hi' => ?_⟩
    obtain ⟨hv1, hd1⟩ := hi i (by omega)
    have hDi : D i = .lit (.float .f64 (pow10F.getD i 0)) := by
      have h4 := congrArg (fun l => l[i]?) h2
      simp only [List.getElem?_map, List.getElem?_range hi', Option.map_some] at h4
      have hp : pow10F[i]? = some (pow10F.getD i 0) := by
        rw [List.getD_eq_getElem?_getD, List.getElem?_eq_getElem (by simpa [pow10F] using hi')]; rfl
      rw [hp] at h4
      exact (Option.some.inj h4).symm
    rw [hDi] at hd1
    rw [hv1, trod_f64 hd1]
theorem tab_info {W : World} (h : laidMetH Tryz.prog rowL W) : W.cell? ⟨7, 0, none⟩ = some (.int .u64 52) := by
  obtain ⟨ps, ⟨g, t, cs, fuel, p, q, hg, ht, hv, hd, _, _⟩, _⟩ := pick W h "internal/strconv.float64info" (.agg [.lit (.int .u64 52), .lit (.int .u64 11), .lit (.int .i64 (-1023))]) (by kernel_rfl) (by kernel_rfl)
  obtain rfl : 7 = g := Option.some.inj ((show Tryz.prog.globalNamed "internal/strconv.float64info" = some 7 by kernel_rfl).symm.trans hg)
  obtain rfl : 237 = t := Option.some.inj ((show (Tryz.prog.globals[7]?).map (·.type) = some 237 by kernel_rfl).symm.trans ht)
  obtain ⟨xs, k, _, hx, hcl, hxl, hf⟩ := DataW.trod_struct Tryz.underlying237 hd
  have h0 := hf 0 _ rfl
  have hc1 : Tryz.prog.cellsOf 173 = 1 := by kernel_rfl
  have hm := congrArg Prod.fst hx
  have hx0 : ∃ y, xs[0]? = some y ∧ y.1 = .lit (.int .u64 52) := by
    have h4 := congrArg (fun d => match d with | DataW.agg l => l[0]? | _ => none) hm
    simp only [List.getElem?_map] at h4
    cases hy : xs[0]? with
    | none => rw [hy] at h4; cases h4
    | some y => rw [hy] at h4; exact ⟨y, rfl, (Option.some.inj h4).symm⟩
  obtain ⟨y, hy, hy1⟩ := hx0
  rw [hy] at h0
  obtain ⟨n, hn, hyn, _⟩ := DataW.trod_int (k := .u64) (by kernel_rfl) h0
  rw [hyn] at hy1
  simp only [DataW.lit.injEq, Lit.int.injEq, true_and] at hy1
  subst hy1
  rw [World.var?_cell hg hv 0]
  have hl : cs.toList.take 1 = [.int .u64 52] := by rw [← hc1]; exact hn
  have := congrArg (fun l => l[0]?) hl
  simpa using this
theorem tab_s {W : World} (h : laidMetH Tryz.prog rowL W) : Lib.TabIs Tryz.prog W "strings.asciiSpace" .u8 Lib.asciiSpaceTab :=
  Lib.tabIs_of_head (t := 182) (e := 5) (n := 256) (rest := []) (g := 1) (by kernel_rfl) (by kernel_rfl) (by kernel_rfl) (by kernel_rfl) (by kernel_rfl) (by kernel_rfl) (pick W h "strings.asciiSpace" (Lib.tabData .u8 Lib.asciiSpaceTab) (by kernel_rfl) (by kernel_rfl))
theorem tabs_of {W : World} (h : laidMetH Tryz.prog rowL W) : LTabs W := ⟨⟨tab_opt h, tab_info h, tab_pow h⟩, tab_s h⟩
end Go.Proofs.YtabfehcpcjcomaaGreatDoor.Ck
namespace Go.Proofs.YtabfehcpcjcomaaGreatDoor.Ck
open Go.ChangeShapes Go.WideShapes Go.ChangeAt Go.RowKit Go.Deep
open Go.Proofs.YtabfehcpcjcomaaGreatDoorW.PrintWords Go.Proofs.YtabfehcpcjcomaaGreatDoor.R
set_option linter.unusedVariables false
def oneB (P : Program) (w0 w : World) (g : Nat) : Bool :=
  match (w0.heap[g]?).bind Obj.row? with
  | none => true
  | some (zero, t) =>
    match w.heap[g]? with
    | some (.cells cs t' frozen) => decide (t' = t) && decide (frozen = (0, 0)) && cs.size == zero.size && (!P.buildable t || Row.okRefB P w t cs)
    | _ => false
theorem look_parts (P : Program) (w : World) : w.variablesRefB P = (List.range P.globals.size).all (oneB P (begin P (fun _ _ => 0) default).world w) := rfl
def isU64 : Value → Bool
  | .int .u64 n => decide (0 ≤ n) && decide (n < 18446744073709551616)
  | _ => false
theorem cell_u64 (w : World) (v : Value) (h : isU64 v = true) : Cell.okRefB Tryz.prog w 30 v = true := by
  unfold isU64 at h
  split at h
  · rename_i n
    simp only [Bool.and_eq_true, decide_eq_true_eq] at h
    have h1 : (IntKind.u64).min = 0 := by decide
    have h2 : (IntKind.u64).max = 18446744073709551615 := by decide
    unfold Cell.okRefB Cell.okB
    simp only [Tryz.underlying30, h1, h2, decide_true, Bool.true_and, Bool.and_eq_true, decide_eq_true_eq]
    omega
  · cases h
theorem row_u64 (w : World) (t : TypeId) (n : Nat) (cs : List Value) (hn : 0 < n) (ht : Tryz.prog.cellTypes Tryz.prog.depth t = some (List.replicate n 30)) (hl : cs.length = n) (ha : cs.all isU64 = true) : Row.okRefB Tryz.prog w t cs.toArray = true := by
  unfold Row.okRefB
  rw [ht]
  simp only [List.length_replicate, Bool.and_eq_true, beq_iff_eq, List.all_eq_true, List.mem_range, List.size_toArray]
  refine ⟨by rw [hl]; exact Nat.mod_self n, fun i hi => ?_⟩
  have hi' : i < cs.length := hi
  rw [List.getElem?_toArray, List.getElem?_eq_getElem hi', List.getElem?_replicate, if_pos (Nat.mod_lt _ hn)]
  exact cell_u64 w _ (List.all_eq_true.1 ha _ (List.getElem_mem hi'))
theorem pow_types : Tryz.prog.cellTypes Tryz.prog.depth 274 = some (List.replicate 1392 30) := by kernel_rfl
theorem pow_len : (flat2 Rows.laid_internal_strconv_pow10Tab).length = 1392 := by kernel_rfl
theorem pow_all : (flat2 Rows.laid_internal_strconv_pow10Tab).all isU64 = true := by kernel_rfl
theorem pow_zero : (((begin Tryz.prog (fun _ _ => 0) default).world.heap[11]?).bind Obj.row?).map (fun x => (x.1.size, x.2)) = some (1392, 274) := by kernel_rfl
theorem one11 (os : Os) (args : Array Value) (w : World) (hw : w.heap[11]? = some (.cells (flat2 Rows.laid_internal_strconv_pow10Tab).toArray 274 (0, 0))) : oneB Tryz.prog (begin Tryz.prog (fun _ _ => 0) default).world w 11 = true := by
  obtain ⟨⟨z, t⟩, hz, hzt⟩ := Option.map_eq_some_iff.1 pow_zero
  simp only [Prod.mk.injEq] at hzt
  obtain ⟨hz1, rfl⟩ := hzt
  unfold oneB
  rw [hz]
  simp only [hw]
  rw [row_u64 w 274 1392 _ (by decide) pow_types pow_len pow_all, hz1, List.size_toArray, pow_len]
  simp
theorem rest_ok (os : Os) (args : Array Value) : ([0, 1, 2, 3, 4, 5, 6, 7, 8, 9, 10, 12, 13, 14, 15, 16].all (oneB Tryz.prog (begin Tryz.prog (fun _ _ => 0) default).world ((laidWorld os).forCall (fun _ _ => 0) ⟨#[], args, []⟩))) = true := by kernel_rfl
theorem glob_n : Tryz.prog.globals.size = 17 := by kernel_rfl
theorem vars_ok (os : Os) (args : Array Value) : ((laidWorld os).forCall (fun _ _ => 0) ⟨#[], args, []⟩).variablesRefB Tryz.prog = true := by
  rw [look_parts, glob_n, List.all_eq_true]
  have hr := rest_ok os args
  rw [List.all_eq_true] at hr
  intro g hg
  by_cases h : g = 11
  · subst h
    exact one11 os args _ (by have := pow_blk os args; exact this)
  · refine hr g ?_
    have := List.mem_range.1 hg
    have : g = 0 ∨ g = 1 ∨ g = 2 ∨ g = 3 ∨ g = 4 ∨ g = 5 ∨ g = 6 ∨ g = 7 ∨ g = 8 ∨ g = 9 ∨ g = 10 ∨ g = 12 ∨ g = 13 ∨ g = 14 ∨ g = 15 ∨ g = 16 := by omega
    rcases this with rfl | rfl | rfl | rfl | rfl | rfl | rfl | rfl | rfl | rfl | rfl | rfl | rfl | rfl | rfl | rfl <;> decide
end Go.Proofs.YtabfehcpcjcomaaGreatDoor.Ck
