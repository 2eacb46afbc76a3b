/- laws.reads, laws.zzFits8. Conditions: see each theorem. -/
import Derived.Test.YtocdnceckljnaaaDoorUt
namespace Go.Proofs.YtocdnceckljnaaaDoor.U
open Go.RowKit Go.Proofs.YtocdnceckljnaaaDoorW.PrintWords Go.Proofs.YtocdnceckljnaaaDoorW.PrintLast Go.Proofs.YtocdnceckljnaaaDoorW.PrintMore
set_option linter.unusedVariables false
set_option linter.unusedSimpArgs false
theorem addr0 (a : Addr) : a.add (0 * 3) = a := by cases a; simp [Addr.add]
/-- The text of the sanity check. -/
def sanity : Bs := [91, 85, 110, 105, 116, 93, 10, 65, 102, 116, 101, 114, 61, 97, 46, 116, 97, 114, 103, 101, 116, 10]
theorem sanity_read : readF sanity = some ([([85, 110, 105, 116], [([65, 102, 116, 101, 114], [97, 46, 116, 97, 114, 103, 101, 116])])], [([85, 110, 105, 116], [65, 102, 116, 101, 114], [97, 46, 116, 97, 114, 103, 101, 116])]) := by kernel_rfl
theorem sanity_asc : ∀ c ∈ sanity, c.toNat < 128 := by decide +kernel
set_option maxHeartbeats 4000000 in
set_option maxRecDepth 100000 in
theorem reads_calls (w : World) (ht : Tabs w) : Calls Tryd.prog 16 #[] w fun e w' => e = .returned (.bool true) ∧ Below w.heap.size w w' := by
  have HU := Aside0.mk (unit_read (B sanity) w _ _ ht sanity_asc (by decide +kernel) sanity_read (by decide))
  have heq : ∀ w : World, (binOp .eql 29 (.agg #[.string (B [85, 110, 105, 116]), .string (B [65, 102, 116, 101, 114]), .string (B [97, 46, 116, 97, 114, 103, 101, 116])]) (.agg #[.string ⟨#[85, 110, 105, 116]⟩, .string ⟨#[65, 102, 116, 101, 114]⟩, .string ⟨#[97, 46, 116, 97, 114, 103, 101, 116]⟩])).run Tryd.prog w = .ok (.bool true) w := fun _ => rfl
  clear ht
  unfold sanity B at HU
  go_enter Tryd.func16, Tryd.ntmps16
  go_wp2_with (go_at_call 22; refine HU.out.mono ?_; rintro e w1 ⟨v0, rfl, hR, hb⟩; have HB := Aside0.mk hb; obtain ⟨A, c, hv, _, hC⟩ := Kd.R_reads hR; subst hv; obtain ⟨ad, rfl, c0, c1, c2⟩ := opt_cells hC 0 _ rfl; rw [addr0] at c0 c1 c2; clear hb hR hC)
  go_ret
  exact ⟨rfl, HB.out⟩
end Go.Proofs.YtocdnceckljnaaaDoor.U
