/- The great table of powers of ten among the listed variables. Conditions: none. -/
import Derived.Test.YtabfehcpcjcomaaDoorCk
import Derived.Deep.Slices
namespace Go.Proofs.YtabfehcpcjcomaaDoor.Ck
open Go.ChangeShapes Go.WideShapes Go.ChangeAt Go.RowKit Go.Deep
open Go.Proofs.YtabfehcpcjcomaaDoorW.PrintWords Go.Proofs.YtabfehcpcjcomaaDoor.R
set_option linter.unusedVariables false
noncomputable abbrev W0 (os : Os) (args : Array Value) : World := ((laidWorld os).forCall (fun _ _ => 0) ⟨#[], args, []⟩).memory
theorem pow_blk (os : Os) (args : Array Value) : (W0 os args).heap[13]? = some (.cells (flat2 Rows.laid_internal_strconv_pow10Tab).toArray 173 (0, 0)) := by kernel_rfl
theorem pow_read (os : Os) (args : Array Value) : DataW.trod (fun _ => ()) Tryd.prog (W0 os args) 0 (fun _ => true) false 8 173 (flat2 Rows.laid_internal_strconv_pow10Tab).toArray.toList = some (Rows.laid_internal_strconv_pow10Tab, []) := by kernel_rfl
theorem pow_flat : (flat2 Rows.laid_internal_strconv_pow10Tab).all (fun v => match v with | .iface _ _ => false | _ => true) = true := by kernel_rfl
theorem laid1 (os : Os) (args : Array Value) : LaidIn Tryd.prog (W0 os args) [("internal/strconv.pow10Tab", Rows.laid_internal_strconv_pow10Tab)] [13] := by
  have hb := pow_blk os args
  refine LaidIn.one (g := 13) (t := 173) (cs := (flat2 Rows.laid_internal_strconv_pow10Tab).toArray) (fuel := 8) (p := []) [13] (by kernel_rfl) (by kernel_rfl) ?_ (pow_read os args) ?_ ?_ ?_
  · unfold World.var?
    rw [show Tryd.prog.globalNamed "internal/strconv.pow10Tab" = some 13 by kernel_rfl]
    simp only [Option.bind_some, hb]
  · rw [List.append_nil]; exact rowP_nodup _ _
  · intro b off hp
    rw [List.append_nil] at hp
    obtain ⟨i, hi, e⟩ := MemPlace.mem_row.1 hp
    injection e with e1 e2
    have e1' : b = 13 := e1
    subst e1'
    refine ⟨⟨_, _, hb⟩, fun u v hc => ?_⟩
    rw [blk_cell hb off] at hc
    have hm : Value.iface u v ∈ flat2 Rows.laid_internal_strconv_pow10Tab := by
      rw [List.getElem?_toArray] at hc
      exact List.mem_of_getElem? hc
    have := List.all_eq_true.1 pow_flat _ hm
    simp at this
  · intro x hx
    rw [List.append_nil] at hx
    obtain ⟨i, hi, rfl⟩ := MemPlace.mem_row.1 hx
    exact List.mem_singleton.2 rfl
theorem laid_met (os : Os) (args : Array Value) : laidMet Tryd.prog Rows.fnTaskSchedstatRow.laid (W0 os args) :=
  (LaidIn.append (laid14 os args) (laid1 os args) (by kernel_rfl)).met
abbrev rowL : List (String × DataW Unit) := Rows.fnTaskSchedstatRow.laid
theorem pick (W : World) (h : laidMetH Tryd.prog rowL W) (n : String) (d : DataW Unit) (hf : rowL.filter (fun x => x.1 == n) = [(n, d)]) (hd : d.handleName?.isSome = false) : laidMet Tryd.prog [(n, d)] W := by
  have h1 := h.filter (fun x => x.1 == n)
  rw [hf] at h1
  unfold laidMetH at h1
  rw [show ([(n, d)] : List (String × DataW Unit)).filter (fun x => x.snd.handleName?.isSome) = [] by simp [List.filter, hd]] at h1
  exact h1
theorem trod_f64 {W : World} {base m : Nat} {sp : Nat → Bool} {v : Value} {b : Nat} {pl : List MemPlace} (h : DataW.trod (fun _ => ()) Tryd.prog W base sp false m 23 [v] = some (.lit (.float .f64 b), pl)) : v = .float .f64 b := by
  cases m with
  | zero => simp [DataW.trod] at h
  | succ m =>
    have hu := Tryd.underlying23
    cases v <;> simp [DataW.trod, hu] at h
    obtain ⟨⟨rfl, _⟩, rfl, _⟩ := h
    rfl
end Go.Proofs.YtabfehcpcjcomaaDoor.Ck
