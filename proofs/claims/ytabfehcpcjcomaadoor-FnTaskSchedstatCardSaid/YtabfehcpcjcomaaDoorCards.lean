/-
  DERIVED. GIVEN WITH THE SEED: THE CARDS: each row of YtabfehcpcjcomaaDoorRows.lean that lists a variable, with what it lists TIED to the program's text (the seventh form; the later family's looks); each row that meets fmt, with fmt's text TOLD by the authors' own Lean function (tested against real Go, not proved from fmt's source: count such statements apart). THE CARD IS WHAT COUNTS. Prove the row's statement (the work); the ties are given (YtabfehcpcjcomaaDoorTie.lean); close each card by the builder's one call (the guide's Derived/Test/ToyasCard.lean, 'card_holds'). Laid BY PROGRAM, IN A SANDBOX (cutbox-door.mjs). By AI agents, Wed Nov 11 2026. No macro, syntax, notation, axiom, sorry.
-/
import Derived.Test.YtabfehcpcjcomaaDoorRows
import GoSem.ClaimSeven
namespace Go.Proofs.YtabfehcpcjcomaaDoor
namespace Rows

/-- THE TIED CARD OF 'laws.FnTaskSchedstat'. -/
def fnTaskSchedstatCard : Claim7 := { stood := { row := fnTaskSchedstatRow, standIns := [], harness := (true, "083adad1ce5ba04e98260df6b81e694c4ac3aece667d802edacce48cdc785ddb"), looks := true }, kinds := [], alts := [], laidByText := true, laidKinds := [.data, .data, .widerDeep, .widerDeep, .data, .data, .data, .data, .data, .sentinel, .sentinel, .listed, .data, .pinned, .pinned], laidTests := true, laidLooks := .later }
def FnTaskSchedstatCardSaid : Prop := Claim7.holds Tryd.pinned (.plain (OpenSpec.ofChange fnTaskSchedstatSpec)) fnTaskSchedstatCard

/-- THE SECOND FORM's CARD OF 'laws.FnTaskSchedstat'. -/
def fnTaskSchedstatUptoCard : Claim7 := { stood := { row := fnTaskSchedstatUptoRow, standIns := [], harness := (true, "083adad1ce5ba04e98260df6b81e694c4ac3aece667d802edacce48cdc785ddb"), looks := true }, kinds := [], alts := [], laidByText := true, laidKinds := [.data, .data, .widerDeep, .widerDeep, .data, .data, .data, .data, .data, .sentinel, .sentinel, .listed, .data, .pinned, .pinned], laidTests := true, laidLooks := .later }
def FnTaskSchedstatUptoCardSaid : Prop := Claim7.holds Tryd.pinned (.plain (OpenSpec.upto fnTaskSchedstatSpec)) fnTaskSchedstatUptoCard
end Rows
end Go.Proofs.YtabfehcpcjcomaaDoor
