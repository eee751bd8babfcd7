/-
  DERIVED. GIVEN WITH THE SEED: THE CARDS: each row of YtmniikihkpikdaaDoorRows.lean that lists a variable, with what it lists TIED to the program's text (the seventh form; the later family's looks); each row that meets fmt, with fmt's text TOLD by the authors' own Lean function (tested against real Go, not proved from fmt's source: count such statements apart). THE CARD IS WHAT COUNTS. Prove the row's statement (the work); the ties are given (YtmniikihkpikdaaDoorTie.lean); close each card by the builder's one call (the guide's Derived/Test/ToyasCard.lean, 'card_holds'). Laid BY PROGRAM, IN A SANDBOX (cutbox-door.mjs). By AI agents, Wed Nov 11 2026. No macro, syntax, notation, axiom, sorry.
-/
import Derived.Test.YtmniikihkpikdaaDoorRows
import GoSem.ClaimSeven
namespace Go.Proofs.YtmniikihkpikdaaDoor
namespace Rows

/-- THE TIED CARD OF 'laws.FnReassembleMissing'. -/
def fnReassembleMissingCard : Claim7 := { stood := { row := fnReassembleMissingRow, standIns := [], harness := (true, "717dfde706250c47ffba1a968bdd8eedbbfae333da8a0547b0436c028c5b3877"), looks := false }, kinds := [], alts := [], laidByText := true, laidKinds := [.sentinel, .sentinel, .sentinel, .sentinel], laidTests := true, laidLooks := .later }
def FnReassembleMissingCardSaid : Prop := Claim7.holds Tryd.pinned (.plain (OpenSpec.ofChange fnReassembleMissingSpec)) fnReassembleMissingCard

/-- THE TIED CARD OF 'laws.FnReassembleSmall'. -/
def fnReassembleSmallCard : Claim7 := { stood := { row := fnReassembleSmallRow, standIns := [], harness := (true, "717dfde706250c47ffba1a968bdd8eedbbfae333da8a0547b0436c028c5b3877"), looks := false }, kinds := [], alts := [], laidByText := true, laidKinds := [.sentinel, .sentinel, .sentinel, .sentinel], laidTests := true, laidLooks := .later }
def FnReassembleSmallCardSaid : Prop := Claim7.holds Tryd.pinned (.plain (OpenSpec.ofChange fnReassembleSmallSpec)) fnReassembleSmallCard

/-- THE TIED CARD OF 'laws.FnReassembleUnordered'. -/
def fnReassembleUnorderedCard : Claim7 := { stood := { row := fnReassembleUnorderedRow, standIns := [], harness := (true, "717dfde706250c47ffba1a968bdd8eedbbfae333da8a0547b0436c028c5b3877"), looks := false }, kinds := [], alts := [], laidByText := true, laidKinds := [.sentinel, .sentinel, .sentinel, .sentinel], laidTests := true, laidLooks := .later }
def FnReassembleUnorderedCardSaid : Prop := Claim7.holds Tryd.pinned (.plain (OpenSpec.ofChange fnReassembleUnorderedSpec)) fnReassembleUnorderedCard

/-- THE SECOND FORM's CARD OF 'laws.FnReassembleMissing'. -/
def fnReassembleMissingUptoCard : Claim7 := { stood := { row := fnReassembleMissingUptoRow, standIns := [], harness := (true, "717dfde706250c47ffba1a968bdd8eedbbfae333da8a0547b0436c028c5b3877"), looks := false }, kinds := [], alts := [], laidByText := true, laidKinds := [.sentinel, .sentinel, .sentinel, .sentinel], laidTests := true, laidLooks := .later }
def FnReassembleMissingUptoCardSaid : Prop := Claim7.holds Tryd.pinned (.plain (OpenSpec.upto fnReassembleMissingSpec)) fnReassembleMissingUptoCard

/-- THE SECOND FORM's CARD OF 'laws.FnReassembleSmall'. -/
def fnReassembleSmallUptoCard : Claim7 := { stood := { row := fnReassembleSmallUptoRow, standIns := [], harness := (true, "717dfde706250c47ffba1a968bdd8eedbbfae333da8a0547b0436c028c5b3877"), looks := false }, kinds := [], alts := [], laidByText := true, laidKinds := [.sentinel, .sentinel, .sentinel, .sentinel], laidTests := true, laidLooks := .later }
def FnReassembleSmallUptoCardSaid : Prop := Claim7.holds Tryd.pinned (.plain (OpenSpec.upto fnReassembleSmallSpec)) fnReassembleSmallUptoCard

/-- THE SECOND FORM's CARD OF 'laws.FnReassembleUnordered'. -/
def fnReassembleUnorderedUptoCard : Claim7 := { stood := { row := fnReassembleUnorderedUptoRow, standIns := [], harness := (true, "717dfde706250c47ffba1a968bdd8eedbbfae333da8a0547b0436c028c5b3877"), looks := false }, kinds := [], alts := [], laidByText := true, laidKinds := [.sentinel, .sentinel, .sentinel, .sentinel], laidTests := true, laidLooks := .later }
def FnReassembleUnorderedUptoCardSaid : Prop := Claim7.holds Tryd.pinned (.plain (OpenSpec.upto fnReassembleUnorderedSpec)) fnReassembleUnorderedUptoCard
end Rows
end Go.Proofs.YtmniikihkpikdaaDoor
