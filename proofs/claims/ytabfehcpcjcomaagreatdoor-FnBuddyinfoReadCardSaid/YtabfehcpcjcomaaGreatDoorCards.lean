/-
  DERIVED. GIVEN WITH THE SEED: THE CARDS: each row of YtabfehcpcjcomaaGreatDoorRows.lean that lists a variable, with what it lists TIED to the program's text (the seventh form; the later family's looks); each row that meets fmt, with fmt's text TOLD by the authors' own Lean function (tested against real Go, not proved from fmt's source: count such statements apart). THE CARD IS WHAT COUNTS. Prove the row's statement (the work); the ties are given (YtabfehcpcjcomaaGreatDoorTie.lean); close each card by the builder's one call (the guide's Derived/Test/ToyasCard.lean, 'card_holds'). Laid BY PROGRAM, IN A SANDBOX (cutbox-door.mjs). By AI agents, Wed Nov 11 2026. No macro, syntax, notation, axiom, sorry.
-/
import Derived.Test.YtabfehcpcjcomaaGreatDoorRows
import GoSem.ClaimSeven
namespace Go.Proofs.YtabfehcpcjcomaaGreatDoor
namespace Rows

/-- THE TIED CARD OF 'laws.FnLoadavgRead'. -/
def fnLoadavgReadCard : Claim7 := { stood := { row := fnLoadavgReadRow, standIns := [], harness := (true, "56d046856e59de8a97454f978ffcf50c6db4756b730b2932ab83f81377163363"), looks := true }, kinds := [], alts := [], laidByText := true, laidKinds := [.data, .data, .widerDeep, .widerDeep, .data, .data, .data, .data, .data, .sentinel, .sentinel, .listed, .data, .pinned, .pinned], laidTests := true, laidLooks := .later }
def FnLoadavgReadCardSaid : Prop := Claim7.holds Tryz.pinned (.plain (OpenSpec.ofChange fnLoadavgReadSpec)) fnLoadavgReadCard

/-- THE TIED CARD OF 'laws.FnBuddyinfoRead'. -/
def fnBuddyinfoReadCard : Claim7 := { stood := { row := fnBuddyinfoReadRow, standIns := [], harness := (true, "56d046856e59de8a97454f978ffcf50c6db4756b730b2932ab83f81377163363"), looks := true }, kinds := [], alts := [], laidByText := true, laidKinds := [.data, .data, .widerDeep, .widerDeep, .data, .data, .data, .data, .data, .sentinel, .sentinel, .listed, .data, .pinned, .pinned], laidTests := true, laidLooks := .later }
def FnBuddyinfoReadCardSaid : Prop := Claim7.holds Tryz.pinned (.plain (OpenSpec.ofChange fnBuddyinfoReadSpec)) fnBuddyinfoReadCard

/-- THE TIED CARD OF 'laws.FnStatmRead'. -/
def fnStatmReadCard : Claim7 := { stood := { row := fnStatmReadRow, standIns := [], harness := (true, "56d046856e59de8a97454f978ffcf50c6db4756b730b2932ab83f81377163363"), looks := true }, kinds := [], alts := [], laidByText := true, laidKinds := [.data, .data, .widerDeep, .widerDeep, .data, .data, .data, .data, .data, .sentinel, .sentinel, .listed, .data, .pinned, .pinned], laidTests := true, laidLooks := .later }
def FnStatmReadCardSaid : Prop := Claim7.holds Tryz.pinned (.plain (OpenSpec.ofChange fnStatmReadSpec)) fnStatmReadCard

/-- THE TIED CARD OF 'laws.FnConntrackRead'. -/
def fnConntrackReadCard : Claim7 := { stood := { row := fnConntrackReadRow, standIns := [], harness := (true, "56d046856e59de8a97454f978ffcf50c6db4756b730b2932ab83f81377163363"), looks := true }, kinds := [], alts := [], laidByText := true, laidKinds := [.data, .data, .widerDeep, .widerDeep, .data, .data, .data, .data, .data, .sentinel, .sentinel, .listed, .data, .pinned, .pinned], laidTests := true, laidLooks := .later }
def FnConntrackReadCardSaid : Prop := Claim7.holds Tryz.pinned (.plain (OpenSpec.ofChange fnConntrackReadSpec)) fnConntrackReadCard

/-- THE TIED CARD OF 'laws.FnSoftnetRead'. -/
def fnSoftnetReadCard : Claim7 := { stood := { row := fnSoftnetReadRow, standIns := [], harness := (true, "56d046856e59de8a97454f978ffcf50c6db4756b730b2932ab83f81377163363"), looks := true }, kinds := [], alts := [], laidByText := true, laidKinds := [.data, .data, .widerDeep, .widerDeep, .data, .data, .data, .data, .data, .sentinel, .sentinel, .listed, .data, .pinned, .pinned], laidTests := true, laidLooks := .later }
def FnSoftnetReadCardSaid : Prop := Claim7.holds Tryz.pinned (.plain (OpenSpec.ofChange fnSoftnetReadSpec)) fnSoftnetReadCard

/-- THE TIED CARD OF 'laws.FnRouteRead'. -/
def fnRouteReadCard : Claim7 := { stood := { row := fnRouteReadRow, standIns := [], harness := (true, "56d046856e59de8a97454f978ffcf50c6db4756b730b2932ab83f81377163363"), looks := true }, kinds := [], alts := [], laidByText := true, laidKinds := [.data, .data, .widerDeep, .widerDeep, .data, .data, .data, .data, .data, .sentinel, .sentinel, .listed, .data, .pinned, .pinned], laidTests := true, laidLooks := .later }
def FnRouteReadCardSaid : Prop := Claim7.holds Tryz.pinned (.plain (OpenSpec.ofChange fnRouteReadSpec)) fnRouteReadCard

/-- THE SECOND FORM's CARD OF 'laws.FnLoadavgRead'. -/
def fnLoadavgReadUptoCard : Claim7 := { stood := { row := fnLoadavgReadUptoRow, standIns := [], harness := (true, "56d046856e59de8a97454f978ffcf50c6db4756b730b2932ab83f81377163363"), looks := true }, kinds := [], alts := [], laidByText := true, laidKinds := [.data, .data, .widerDeep, .widerDeep, .data, .data, .data, .data, .data, .sentinel, .sentinel, .listed, .data, .pinned, .pinned], laidTests := true, laidLooks := .later }
def FnLoadavgReadUptoCardSaid : Prop := Claim7.holds Tryz.pinned (.plain (OpenSpec.upto fnLoadavgReadSpec)) fnLoadavgReadUptoCard

/-- THE SECOND FORM's CARD OF 'laws.FnBuddyinfoRead'. -/
def fnBuddyinfoReadUptoCard : Claim7 := { stood := { row := fnBuddyinfoReadUptoRow, standIns := [], harness := (true, "56d046856e59de8a97454f978ffcf50c6db4756b730b2932ab83f81377163363"), looks := true }, kinds := [], alts := [], laidByText := true, laidKinds := [.data, .data, .widerDeep, .widerDeep, .data, .data, .data, .data, .data, .sentinel, .sentinel, .listed, .data, .pinned, .pinned], laidTests := true, laidLooks := .later }
def FnBuddyinfoReadUptoCardSaid : Prop := Claim7.holds Tryz.pinned (.plain (OpenSpec.upto fnBuddyinfoReadSpec)) fnBuddyinfoReadUptoCard

/-- THE SECOND FORM's CARD OF 'laws.FnStatmRead'. -/
def fnStatmReadUptoCard : Claim7 := { stood := { row := fnStatmReadUptoRow, standIns := [], harness := (true, "56d046856e59de8a97454f978ffcf50c6db4756b730b2932ab83f81377163363"), looks := true }, kinds := [], alts := [], laidByText := true, laidKinds := [.data, .data, .widerDeep, .widerDeep, .data, .data, .data, .data, .data, .sentinel, .sentinel, .listed, .data, .pinned, .pinned], laidTests := true, laidLooks := .later }
def FnStatmReadUptoCardSaid : Prop := Claim7.holds Tryz.pinned (.plain (OpenSpec.upto fnStatmReadSpec)) fnStatmReadUptoCard

/-- THE SECOND FORM's CARD OF 'laws.FnConntrackRead'. -/
def fnConntrackReadUptoCard : Claim7 := { stood := { row := fnConntrackReadUptoRow, standIns := [], harness := (true, "56d046856e59de8a97454f978ffcf50c6db4756b730b2932ab83f81377163363"), looks := true }, kinds := [], alts := [], laidByText := true, laidKinds := [.data, .data, .widerDeep, .widerDeep, .data, .data, .data, .data, .data, .sentinel, .sentinel, .listed, .data, .pinned, .pinned], laidTests := true, laidLooks := .later }
def FnConntrackReadUptoCardSaid : Prop := Claim7.holds Tryz.pinned (.plain (OpenSpec.upto fnConntrackReadSpec)) fnConntrackReadUptoCard

/-- THE SECOND FORM's CARD OF 'laws.FnSoftnetRead'. -/
def fnSoftnetReadUptoCard : Claim7 := { stood := { row := fnSoftnetReadUptoRow, standIns := [], harness := (true, "56d046856e59de8a97454f978ffcf50c6db4756b730b2932ab83f81377163363"), looks := true }, kinds := [], alts := [], laidByText := true, laidKinds := [.data, .data, .widerDeep, .widerDeep, .data, .data, .data, .data, .data, .sentinel, .sentinel, .listed, .data, .pinned, .pinned], laidTests := true, laidLooks := .later }
def FnSoftnetReadUptoCardSaid : Prop := Claim7.holds Tryz.pinned (.plain (OpenSpec.upto fnSoftnetReadSpec)) fnSoftnetReadUptoCard

/-- THE SECOND FORM's CARD OF 'laws.FnRouteRead'. -/
def fnRouteReadUptoCard : Claim7 := { stood := { row := fnRouteReadUptoRow, standIns := [], harness := (true, "56d046856e59de8a97454f978ffcf50c6db4756b730b2932ab83f81377163363"), looks := true }, kinds := [], alts := [], laidByText := true, laidKinds := [.data, .data, .widerDeep, .widerDeep, .data, .data, .data, .data, .data, .sentinel, .sentinel, .listed, .data, .pinned, .pinned], laidTests := true, laidLooks := .later }
def FnRouteReadUptoCardSaid : Prop := Claim7.holds Tryz.pinned (.plain (OpenSpec.upto fnRouteReadSpec)) fnRouteReadUptoCard
end Rows
end Go.Proofs.YtabfehcpcjcomaaGreatDoor
