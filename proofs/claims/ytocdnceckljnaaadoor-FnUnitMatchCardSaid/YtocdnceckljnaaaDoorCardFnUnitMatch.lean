/- Two options match exactly if their sections, names and values are equal. The row's own conditions: the listed variables of Go's library hold what the program's text lays (tied by the card). -/
import Derived.Test.YtocdnceckljnaaaDoorUCk
namespace Go.Proofs.YtocdnceckljnaaaDoor.fnUnitMatch
open Go.ChangeShapes Go.WideShapes Go.ChangeAt Go.RowKit
open Go.Proofs.YtocdnceckljnaaaDoorW.PrintWords Go.Proofs.YtocdnceckljnaaaDoor.U Go.Proofs.YtocdnceckljnaaaDoor.UCk
set_option linter.unusedVariables false
set_option linter.unusedSimpArgs false
theorem laid_met (os : Os) (args : Array Value) : laidMet Tryd.prog Rows.fnUnitMatchRow.laid ((laidWorld os).forCall (fun _ _ => 0) ⟨#[], args, []⟩).memory :=
  (LaidIn.of_run [4, 6, N0, N0 + 1, 5, 8, 3] 8 (by kernel_rfl) (by kernel_rfl) (by kernel_rfl) (by kernel_rfl)).met
theorem witness_row (os : Os) {H : Type} (enc : TypeId × Value → H) :
    (OpenSpec.ofChange Rows.fnUnitMatchSpec).preRow enc Tryd.prog Tryd.f4 Rows.fnUnitMatchRow.domain false Rows.fnUnitMatchRow.laid ((laidWorld os).forCall (fun _ _ => 0) ⟨#[], #[.agg #[.string ⟨#[]⟩, .string ⟨#[]⟩, .string ⟨#[]⟩], .agg #[.string ⟨#[]⟩, .string ⟨#[]⟩, .string ⟨#[]⟩]], []⟩).memory #[.agg #[.string ⟨#[]⟩, .string ⟨#[]⟩, .string ⟨#[]⟩], .agg #[.string ⟨#[]⟩, .string ⟨#[]⟩, .string ⟨#[]⟩]] := by
  have hw : (DataW.whole enc Tryd.prog ((laidWorld os).forCall (fun _ _ => 0) ⟨#[], #[.agg #[.string ⟨#[]⟩, .string ⟨#[]⟩, .string ⟨#[]⟩], .agg #[.string ⟨#[]⟩, .string ⟨#[]⟩, .string ⟨#[]⟩]], []⟩).memory Tryd.f4.params.toList Rows.fnUnitMatchSpec.vars false (#[.agg #[.string ⟨#[]⟩, .string ⟨#[]⟩, .string ⟨#[]⟩], .agg #[.string ⟨#[]⟩, .string ⟨#[]⟩, .string ⟨#[]⟩]] : Array Value).toList 8).map (fun x => (x.1, x.2.1)) =
      some ([.agg [.lit (.string []), .lit (.string []), .lit (.string [])], .agg [.lit (.string []), .lit (.string []), .lit (.string [])]], []) := by kernel_rfl
  obtain ⟨⟨x1, x2, x3⟩, hx, hx1⟩ := Option.map_eq_some_iff.1 hw
  simp only [Prod.mk.injEq] at hx1
  obtain ⟨rfl, rfl⟩ := hx1
  exact OpenSpec.preRow_of_cond 8 hx (by kernel_rfl) (fun k hk => by cases hk) (by kernel_rfl) (laid_met os _)
set_option maxRecDepth 100000 in
theorem lifted (os : Os) (started : os.Started) (H : Type) (enc : TypeId × Value → H) (F : Stop.Interp) :
    ReturnsInHanded {} Tryd.checked os 4 .any ((OpenSpec.ofChange Rows.fnUnitMatchSpec).preRow enc Tryd.prog Tryd.f4 Rows.fnUnitMatchRow.domain false Rows.fnUnitMatchRow.laid) (((OpenSpec.ofChange Rows.fnUnitMatchSpec).at F).post enc Tryd.prog Tryd.f4 false true false false) := by
  refine returnsInHanded_of_row (C := Tryd.checked) (s := OpenSpec.ofChange Rows.fnUnitMatchSpec) own started (by kernel_rfl) Tryd.func4
    (witness_row_atRef (enc := enc) (C := Tryd.checked) false (laidWorld os) #[.agg #[.string ⟨#[]⟩, .string ⟨#[]⟩, .string ⟨#[]⟩], .agg #[.string ⟨#[]⟩, .string ⟨#[]⟩, .string ⟨#[]⟩]] rfl (by kernel_rfl) (by kernel_rfl) (by kernel_rfl) (witness_row os enc)) ?_
  intro W base args ds gs before hval0 hW hcnd _ hsz0 hL hsh _
  have hsz : (DataW.weightsEach Tryd.prog (Tryd.f4.params.toList ++ (OpenSpec.ofChange Rows.fnUnitMatchSpec).bare.plain.varTypes Tryd.prog) (ds ++ gs)).all (· ≤ reachBytes) = true := hsz0
  have hval : ∀ (j : Nat) t v, Tryd.f4.params[j]? = some t → args[j]? = some v → Value.okWide Tryd.prog W .any base t v := hval0
  have hW' := hW
  obtain ⟨p, q, hA0, hV, rfl, hfz, hnd⟩ := hW
  have hA : DataW.TrodAll enc Tryd.prog W 0 (fun _ => true) true Tryd.f4.params.toList args.toList ds p := hA0
  rw [Tryd.params4] at hA hval hsz
  obtain ⟨v0, vs0, d0, ds0, p0, q0, hargs, rfl, rfl, h0, r0⟩ := trodAll_cons hA
  obtain ⟨v1, vs1, d1, ds1, p1, q1, hargs1, rfl, rfl, h1, r1⟩ := trodAll_cons r0
  obtain ⟨rfl, rfl, rfl⟩ := trodAll_nil r1
  obtain rfl : args = #[v0, v1] := by cases args; simp_all
  obtain ⟨rfl, rfl⟩ := trodVars_none hV
  have k0 := h0
  have k1 := h1
  have lt0 : ∀ x ∈ p0, x.block < W.heap.size := by obtain ⟨m, hm⟩ := k0; exact DataW.trod_lt m _ _ _ hm
  have lt1 : ∀ x ∈ p1, x.block < W.heap.size := by obtain ⟨m, hm⟩ := k1; exact DataW.trod_lt m _ _ _ hm
  obtain ⟨cs0, rfl, hcs0⟩ := okWide_struct Tryd.underlying29 (hval 0 29 v0 rfl rfl)
  obtain ⟨cs1, rfl, hcs1⟩ := okWide_struct Tryd.underlying29 (hval 1 29 v1 rfl rfl)
  obtain ⟨a, rfl⟩ : ∃ a, cs0 = cellsOf a := by
    obtain ⟨fuel, hf⟩ := h0
    exact open_opt' hf
  obtain ⟨b, rfl⟩ : ∃ b, cs1 = cellsOf b := by
    obtain ⟨fuel, hf⟩ := h1
    exact open_opt' hf
  clear hA0 hval0 hsz0 hsz
  refine (fn_unit_match a b W (tabs_of hL)).mono fun e W' ⟨he, bel⟩ => ?_
  subst he
  exact ⟨_, rfl, _, _, _, [], _, [], hW', trodAll_mk1 (shut_bool Tryd.underlying4 _), (trodAll_cons_mk (Below.trod laidOut (by kernel_rfl) (of_decide_eq_true (by kernel_rfl)) k0 bel lt0) (trodAll_cons_mk (Below.trod laidOut (by kernel_rfl) (of_decide_eq_true (by kernel_rfl)) k1 bel lt1) trodAll_mk0)), rfl, bel.frame _, fun h => by cases h⟩
theorem said : Rows.FnUnitMatchSaid :=
  OpenClaim.holds_of_cond 4 Tryd.f4 rfl rfl rfl rfl rfl rfl rfl ⟨rfl, rfl, rfl, rfl, rfl⟩ rfl rfl rfl rfl rfl (by kernel_rfl) Tryd.func4 (by kernel_rfl)
    (of_decide_eq_true (by kernel_rfl)) (by unfold Func.isWrapper; first | (rw [if_pos (by decide +kernel)]; kernel_rfl) | (rw [if_neg (by decide +kernel)]; exact ⟨rfl, rfl⟩))
    (fun os started H enc _ F => by rw [OpenClaim.pre_eq_preRow]; exact lifted os started H enc F)
/-- No parameter wants a stand-in; the program's own looks are off. -/
theorem plain (f : FuncId) (fn : Func) (hf : Tryd.pinned.checked.prog.funcNamed "pub-frontispiece/laws.FnUnitMatch" = some f) (hfn : Tryd.pinned.checked.prog.funcs[f]? = some fn) :
    true = Tryd.pinned.checked.prog.looks [] ∧ ∀ (j : Nat) t, fn.params[j]? = some t → Tryd.pinned.checked.prog.wantsStandIn t = false := by
  obtain rfl : f = 4 := Option.some.inj ((show Tryd.prog.funcNamed "pub-frontispiece/laws.FnUnitMatch" = some 4 by kernel_rfl).symm.trans hf) |>.symm
  obtain rfl : fn = Tryd.f4 := (Option.some.inj (Tryd.func4.symm.trans hfn)).symm
  refine ⟨by kernel_rfl, fun j t ht => ?_⟩
  rw [Tryd.params4] at ht
  obtain rfl : t = 29 := by simpa using Array.mem_of_getElem? ht
  exact (show Tryd.prog.wantsStandIn 29 = false by kernel_rfl)
theorem card : Rows.FnUnitMatchCardSaid :=
  Claim7.holds_tied_plain_at .later [] _ _ _ _ said (fun _ h => by cases h) (by kernel_rfl) (fun _ h => by cases h) fnUnitMatch_row_tie rfl ⟨rfl, rfl⟩ (by kernel_rfl) rfl plain (by kernel_rfl)
#print axioms card
end Go.Proofs.YtocdnceckljnaaaDoor.fnUnitMatch
namespace Go.Proofs.YtocdnceckljnaaaDoor
/-- The card, under a short name, for the claim. -/
theorem fnUnitMatch_card_holds : Rows.FnUnitMatchCardSaid := fnUnitMatch.card
end Go.Proofs.YtocdnceckljnaaaDoor
