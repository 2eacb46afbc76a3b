/-
  DERIVED. GIVEN WITH THE SEED: THE CARDS: each row of YtocdnceckljnaaaDoorRows.lean that lists a variable, with what it lists TIED to the program's text (the seventh form; the later family's looks); each row that meets fmt, with fmt's text TOLD by the authors' own Lean function (tested against real Go, not proved from fmt's source: count such statements apart). THE CARD IS WHAT COUNTS. Prove the row's statement (the work); the ties are given (YtocdnceckljnaaaDoorTie.lean); close each card by the builder's one call (the guide's Derived/Test/ToyasCard.lean, 'card_holds'). Laid BY PROGRAM, IN A SANDBOX (cutbox-door.mjs). By AI agents, Wed Nov 11 2026. No macro, syntax, notation, axiom, sorry.
-/
import Derived.Test.YtocdnceckljnaaaDoorRows
import GoSem.ClaimSeven
namespace Go.Proofs.YtocdnceckljnaaaDoor
namespace Rows

/-- THE TIED CARD OF 'laws.FnPathBack'. -/
def fnPathBackCard : Claim7 := { stood := { row := fnPathBackRow, standIns := [], harness := (true, "2a785c6d77619424ea3c0a23414b1b01c931946b80b76a5294194b1aaa7d67c7"), looks := true }, kinds := [], alts := [], laidByText := true, laidKinds := [.data, .data, .data, .sentinel, .sentinel], laidTests := true, laidLooks := .later }
def FnPathBackCardSaid : Prop := Claim7.holds Tryd.pinned (.plain (OpenSpec.ofChange fnPathBackSpec)) fnPathBackCard

/-- THE TIED CARD OF 'laws.FnUnitMatch'. -/
def fnUnitMatchCard : Claim7 := { stood := { row := fnUnitMatchRow, standIns := [], harness := (true, "2a785c6d77619424ea3c0a23414b1b01c931946b80b76a5294194b1aaa7d67c7"), looks := true }, kinds := [], alts := [], laidByText := true, laidKinds := [.data, .listed, .data, .data, .pinned], laidTests := true, laidLooks := .later }
def FnUnitMatchCardSaid : Prop := Claim7.holds Tryd.pinned (.plain (OpenSpec.ofChange fnUnitMatchSpec)) fnUnitMatchCard

/-- THE TIED CARD OF 'laws.FnUnitComments'. -/
def fnUnitCommentsCard : Claim7 := { stood := { row := fnUnitCommentsRow, standIns := [], harness := (true, "2a785c6d77619424ea3c0a23414b1b01c931946b80b76a5294194b1aaa7d67c7"), looks := true }, kinds := [], alts := [], laidByText := true, laidKinds := [.data, .listed, .data, .data, .pinned], laidTests := true, laidLooks := .later }
def FnUnitCommentsCardSaid : Prop := Claim7.holds Tryd.pinned (.plain (OpenSpec.ofChange fnUnitCommentsSpec)) fnUnitCommentsCard

/-- THE TIED CARD OF 'laws.FnUnitText'. -/
def fnUnitTextCard : Claim7 := { stood := { row := fnUnitTextRow, standIns := [], harness := (true, "2a785c6d77619424ea3c0a23414b1b01c931946b80b76a5294194b1aaa7d67c7"), looks := true }, kinds := [], alts := [], laidByText := true, laidKinds := [.data, .listed, .data, .data, .pinned], laidTests := true, laidLooks := .later }
def FnUnitTextCardSaid : Prop := Claim7.holds Tryd.pinned (.plain (OpenSpec.ofChange fnUnitTextSpec)) fnUnitTextCard

/-- THE TIED CARD OF 'laws.FnUnitSections'. -/
def fnUnitSectionsCard : Claim7 := { stood := { row := fnUnitSectionsRow, standIns := [], harness := (true, "2a785c6d77619424ea3c0a23414b1b01c931946b80b76a5294194b1aaa7d67c7"), looks := true }, kinds := [], alts := [], laidByText := true, laidKinds := [.data, .listed, .data, .data, .pinned], laidTests := true, laidLooks := .later }
def FnUnitSectionsCardSaid : Prop := Claim7.holds Tryd.pinned (.plain (OpenSpec.ofChange fnUnitSectionsSpec)) fnUnitSectionsCard

/-- THE SECOND FORM's CARD OF 'laws.FnPathBack'. -/
def fnPathBackUptoCard : Claim7 := { stood := { row := fnPathBackUptoRow, standIns := [], harness := (true, "2a785c6d77619424ea3c0a23414b1b01c931946b80b76a5294194b1aaa7d67c7"), looks := true }, kinds := [], alts := [], laidByText := true, laidKinds := [.data, .data, .data, .sentinel, .sentinel], laidTests := true, laidLooks := .later }
def FnPathBackUptoCardSaid : Prop := Claim7.holds Tryd.pinned (.plain (OpenSpec.upto fnPathBackSpec)) fnPathBackUptoCard

/-- THE SECOND FORM's CARD OF 'laws.FnUnitMatch'. -/
def fnUnitMatchUptoCard : Claim7 := { stood := { row := fnUnitMatchUptoRow, standIns := [], harness := (true, "2a785c6d77619424ea3c0a23414b1b01c931946b80b76a5294194b1aaa7d67c7"), looks := true }, kinds := [], alts := [], laidByText := true, laidKinds := [.data, .listed, .data, .data, .pinned], laidTests := true, laidLooks := .later }
def FnUnitMatchUptoCardSaid : Prop := Claim7.holds Tryd.pinned (.plain (OpenSpec.upto fnUnitMatchSpec)) fnUnitMatchUptoCard

/-- THE SECOND FORM's CARD OF 'laws.FnUnitComments'. -/
def fnUnitCommentsUptoCard : Claim7 := { stood := { row := fnUnitCommentsUptoRow, standIns := [], harness := (true, "2a785c6d77619424ea3c0a23414b1b01c931946b80b76a5294194b1aaa7d67c7"), looks := true }, kinds := [], alts := [], laidByText := true, laidKinds := [.data, .listed, .data, .data, .pinned], laidTests := true, laidLooks := .later }
def FnUnitCommentsUptoCardSaid : Prop := Claim7.holds Tryd.pinned (.plain (OpenSpec.upto fnUnitCommentsSpec)) fnUnitCommentsUptoCard

/-- THE SECOND FORM's CARD OF 'laws.FnUnitText'. -/
def fnUnitTextUptoCard : Claim7 := { stood := { row := fnUnitTextUptoRow, standIns := [], harness := (true, "2a785c6d77619424ea3c0a23414b1b01c931946b80b76a5294194b1aaa7d67c7"), looks := true }, kinds := [], alts := [], laidByText := true, laidKinds := [.data, .listed, .data, .data, .pinned], laidTests := true, laidLooks := .later }
def FnUnitTextUptoCardSaid : Prop := Claim7.holds Tryd.pinned (.plain (OpenSpec.upto fnUnitTextSpec)) fnUnitTextUptoCard

/-- THE SECOND FORM's CARD OF 'laws.FnUnitSections'. -/
def fnUnitSectionsUptoCard : Claim7 := { stood := { row := fnUnitSectionsUptoRow, standIns := [], harness := (true, "2a785c6d77619424ea3c0a23414b1b01c931946b80b76a5294194b1aaa7d67c7"), looks := true }, kinds := [], alts := [], laidByText := true, laidKinds := [.data, .listed, .data, .data, .pinned], laidTests := true, laidLooks := .later }
def FnUnitSectionsUptoCardSaid : Prop := Claim7.holds Tryd.pinned (.plain (OpenSpec.upto fnUnitSectionsSpec)) fnUnitSectionsUptoCard
end Rows
end Go.Proofs.YtocdnceckljnaaaDoor
