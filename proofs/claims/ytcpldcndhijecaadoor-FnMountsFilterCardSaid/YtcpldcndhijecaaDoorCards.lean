/-
  DERIVED. GIVEN WITH THE SEED: THE CARDS: each row of YtcpldcndhijecaaDoorRows.lean that lists a variable, with what it lists TIED to the program's text (the seventh form; the later family's looks); each row that meets fmt, with fmt's text TOLD by the authors' own Lean function (tested against real Go, not proved from fmt's source: count such statements apart). THE CARD IS WHAT COUNTS. Prove the row's statement (the work); the ties are given (YtcpldcndhijecaaDoorTie.lean); close each card by the builder's one call (the guide's Derived/Test/ToyasCard.lean, 'card_holds'). Laid BY PROGRAM, IN A SANDBOX (cutbox-door.mjs). By AI agents, Wed Nov 11 2026. No macro, syntax, notation, axiom, sorry.
-/
import Derived.Test.YtcpldcndhijecaaDoorRows
import GoSem.ClaimSeven
namespace Go.Proofs.YtcpldcndhijecaaDoor
namespace Rows

/-- THE TIED CARD OF 'laws.FnMountsBack'. -/
def fnMountsBackCard : Claim7 := { stood := { row := fnMountsBackRow, standIns := [], harness := (true, "75b37c7c24a14d41c80c3ee860a6630f16c980605fbba909b8f30c7a0b1a8a66"), looks := true }, kinds := [], alts := [], laidByText := true, laidKinds := [.data, .data, .data, .sentinel, .sentinel], laidTests := true, laidLooks := .later }
def FnMountsBackCardSaid : Prop := Claim7.holds Tryd.pinned (.plain (OpenSpec.ofChange fnMountsBackSpec)) fnMountsBackCard

/-- THE TIED CARD OF 'laws.FnMountsFilter'. -/
def fnMountsFilterCard : Claim7 := { stood := { row := fnMountsFilterRow, standIns := [], harness := (true, "75b37c7c24a14d41c80c3ee860a6630f16c980605fbba909b8f30c7a0b1a8a66"), looks := true }, kinds := [], alts := [], laidByText := true, laidKinds := [.data, .data, .data, .sentinel, .sentinel], laidTests := true, laidLooks := .later }
def FnMountsFilterCardSaid : Prop := Claim7.holds Tryd.pinned (.plain (OpenSpec.ofChange fnMountsFilterSpec)) fnMountsFilterCard

/-- THE TIED CARD OF 'laws.FnMountsParents'. -/
def fnMountsParentsCard : Claim7 := { stood := { row := fnMountsParentsRow, standIns := [], harness := (true, "75b37c7c24a14d41c80c3ee860a6630f16c980605fbba909b8f30c7a0b1a8a66"), looks := true }, kinds := [], alts := [], laidByText := true, laidKinds := [.data, .data, .data, .sentinel, .sentinel], laidTests := true, laidLooks := .later }
def FnMountsParentsCardSaid : Prop := Claim7.holds Tryd.pinned (.plain (OpenSpec.ofChange fnMountsParentsSpec)) fnMountsParentsCard

/-- THE TIED CARD OF 'laws.FnMountsSingle'. -/
def fnMountsSingleCard : Claim7 := { stood := { row := fnMountsSingleRow, standIns := [], harness := (true, "75b37c7c24a14d41c80c3ee860a6630f16c980605fbba909b8f30c7a0b1a8a66"), looks := true }, kinds := [], alts := [], laidByText := true, laidKinds := [.data, .data, .data, .sentinel, .sentinel], laidTests := true, laidLooks := .later }
def FnMountsSingleCardSaid : Prop := Claim7.holds Tryd.pinned (.plain (OpenSpec.ofChange fnMountsSingleSpec)) fnMountsSingleCard

/-- THE SECOND FORM's CARD OF 'laws.FnMountsBack'. -/
def fnMountsBackUptoCard : Claim7 := { stood := { row := fnMountsBackUptoRow, standIns := [], harness := (true, "75b37c7c24a14d41c80c3ee860a6630f16c980605fbba909b8f30c7a0b1a8a66"), looks := true }, kinds := [], alts := [], laidByText := true, laidKinds := [.data, .data, .data, .sentinel, .sentinel], laidTests := true, laidLooks := .later }
def FnMountsBackUptoCardSaid : Prop := Claim7.holds Tryd.pinned (.plain (OpenSpec.upto fnMountsBackSpec)) fnMountsBackUptoCard

/-- THE SECOND FORM's CARD OF 'laws.FnMountsFilter'. -/
def fnMountsFilterUptoCard : Claim7 := { stood := { row := fnMountsFilterUptoRow, standIns := [], harness := (true, "75b37c7c24a14d41c80c3ee860a6630f16c980605fbba909b8f30c7a0b1a8a66"), looks := true }, kinds := [], alts := [], laidByText := true, laidKinds := [.data, .data, .data, .sentinel, .sentinel], laidTests := true, laidLooks := .later }
def FnMountsFilterUptoCardSaid : Prop := Claim7.holds Tryd.pinned (.plain (OpenSpec.upto fnMountsFilterSpec)) fnMountsFilterUptoCard

/-- THE SECOND FORM's CARD OF 'laws.FnMountsParents'. -/
def fnMountsParentsUptoCard : Claim7 := { stood := { row := fnMountsParentsUptoRow, standIns := [], harness := (true, "75b37c7c24a14d41c80c3ee860a6630f16c980605fbba909b8f30c7a0b1a8a66"), looks := true }, kinds := [], alts := [], laidByText := true, laidKinds := [.data, .data, .data, .sentinel, .sentinel], laidTests := true, laidLooks := .later }
def FnMountsParentsUptoCardSaid : Prop := Claim7.holds Tryd.pinned (.plain (OpenSpec.upto fnMountsParentsSpec)) fnMountsParentsUptoCard

/-- THE SECOND FORM's CARD OF 'laws.FnMountsSingle'. -/
def fnMountsSingleUptoCard : Claim7 := { stood := { row := fnMountsSingleUptoRow, standIns := [], harness := (true, "75b37c7c24a14d41c80c3ee860a6630f16c980605fbba909b8f30c7a0b1a8a66"), looks := true }, kinds := [], alts := [], laidByText := true, laidKinds := [.data, .data, .data, .sentinel, .sentinel], laidTests := true, laidLooks := .later }
def FnMountsSingleUptoCardSaid : Prop := Claim7.holds Tryd.pinned (.plain (OpenSpec.upto fnMountsSingleSpec)) fnMountsSingleUptoCard
end Rows
end Go.Proofs.YtcpldcndhijecaaDoor
