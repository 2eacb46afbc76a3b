/- The settled variables are well-formed: the great table apart, so that the kernel need not walk it by its places. Conditions: none. -/
import Derived.Test.YtabfehcpcjcomaaDoorCm
namespace Go.Proofs.YtabfehcpcjcomaaDoor.Ck
open Go.ChangeShapes Go.WideShapes Go.ChangeAt Go.RowKit Go.Deep
open Go.Proofs.YtabfehcpcjcomaaDoorW.PrintWords Go.Proofs.YtabfehcpcjcomaaDoor.R
set_option linter.unusedVariables false
abbrev args0 : Array Value := #[.int .u64 0, .int .u64 0, .int .u64 0]
/-- One variable's part of the look. -/
def oneB (P : Program) (w0 w : World) (g : Nat) : Bool :=
  match (w0.heap[g]?).bind Obj.row? with
  | none => true
  | some (zero, t) =>
    match w.heap[g]? with
    | some (.cells cs t' frozen) => decide (t' = t) && decide (frozen = (0, 0)) && cs.size == zero.size && (!P.buildable t || Row.okRefB P w t cs)
    | _ => false
theorem look_parts (P : Program) (w : World) : w.variablesRefB P = (List.range P.globals.size).all (oneB P (begin P (fun _ _ => 0) default).world w) := rfl
def isU64 : Value → Bool
  | .int .u64 n => decide (0 ≤ n) && decide (n < 18446744073709551616)
  | _ => false
theorem cell_u64 (w : World) (v : Value) (h : isU64 v = true) : Cell.okRefB Tryd.prog w 22 v = true := by
  unfold isU64 at h
  split at h
  · rename_i n
    simp only [Bool.and_eq_true, decide_eq_true_eq] at h
    have h1 : (IntKind.u64).min = 0 := by decide
    have h2 : (IntKind.u64).max = 18446744073709551615 := by decide
    unfold Cell.okRefB Cell.okB
    simp only [Tryd.underlying22, h1, h2, decide_true, Bool.true_and, Bool.and_eq_true, decide_eq_true_eq]
    omega
  · cases h
theorem row_u64 (w : World) (t : TypeId) (n : Nat) (cs : List Value) (hn : 0 < n) (ht : Tryd.prog.cellTypes Tryd.prog.depth t = some (List.replicate n 22)) (hl : cs.length = n) (ha : cs.all isU64 = true) : Row.okRefB Tryd.prog w t cs.toArray = true := by
  unfold Row.okRefB
  rw [ht]
  simp only [List.length_replicate, Bool.and_eq_true, beq_iff_eq, List.all_eq_true, List.mem_range, List.size_toArray]
  refine ⟨by rw [hl]; exact Nat.mod_self n, fun i hi => ?_⟩
  have hi' : i < cs.length := hi
  rw [List.getElem?_toArray, List.getElem?_eq_getElem hi', List.getElem?_replicate, if_pos (Nat.mod_lt _ hn)]
  exact cell_u64 w _ (List.all_eq_true.1 ha _ (List.getElem_mem hi'))
theorem pow_types : Tryd.prog.cellTypes Tryd.prog.depth 173 = some (List.replicate 1392 22) := by kernel_rfl
theorem pow_len : (flat2 Rows.laid_internal_strconv_pow10Tab).length = 1392 := by kernel_rfl
theorem pow_all : (flat2 Rows.laid_internal_strconv_pow10Tab).all isU64 = true := by kernel_rfl
theorem pow_zero : (((begin Tryd.prog (fun _ _ => 0) default).world.heap[13]?).bind Obj.row?).map (fun x => (x.1.size, x.2)) = some (1392, 173) := by kernel_rfl
theorem one13 (os : Os) (args : Array Value) (w : World) (hw : w.heap[13]? = some (.cells (flat2 Rows.laid_internal_strconv_pow10Tab).toArray 173 (0, 0))) : oneB Tryd.prog (begin Tryd.prog (fun _ _ => 0) default).world w 13 = true := by
  obtain ⟨⟨z, t⟩, hz, hzt⟩ := Option.map_eq_some_iff.1 pow_zero
  simp only [Prod.mk.injEq] at hzt
  obtain ⟨hz1, rfl⟩ := hzt
  unfold oneB
  rw [hz]
  simp only [hw]
  rw [row_u64 w 173 1392 _ (by decide) pow_types pow_len pow_all, hz1, List.size_toArray, pow_len]
  simp
theorem rest_ok (os : Os) (args : Array Value) : ([0, 1, 2, 3, 4, 5, 6, 7, 8, 9, 10, 11, 12, 14, 15].all (oneB Tryd.prog (begin Tryd.prog (fun _ _ => 0) default).world ((laidWorld os).forCall (fun _ _ => 0) ⟨#[], args, []⟩))) = true := by kernel_rfl
theorem glob_n : Tryd.prog.globals.size = 16 := by kernel_rfl
theorem vars_ok (os : Os) (args : Array Value) : ((laidWorld os).forCall (fun _ _ => 0) ⟨#[], args, []⟩).variablesRefB Tryd.prog = true := by
  rw [look_parts, glob_n, List.all_eq_true]
  have hr := rest_ok os args
  rw [List.all_eq_true] at hr
  intro g hg
  by_cases h : g = 13
  · subst h
    exact one13 os args _ (by have := pow_blk os args; exact this)
  · refine hr g ?_
    have := List.mem_range.1 hg
    have : g = 0 ∨ g = 1 ∨ g = 2 ∨ g = 3 ∨ g = 4 ∨ g = 5 ∨ g = 6 ∨ g = 7 ∨ g = 8 ∨ g = 9 ∨ g = 10 ∨ g = 11 ∨ g = 12 ∨ g = 14 ∨ g = 15 := by omega
    rcases this with rfl | rfl | rfl | rfl | rfl | rfl | rfl | rfl | rfl | rfl | rfl | rfl | rfl | rfl | rfl <;> decide
end Go.Proofs.YtabfehcpcjcomaaDoor.Ck
