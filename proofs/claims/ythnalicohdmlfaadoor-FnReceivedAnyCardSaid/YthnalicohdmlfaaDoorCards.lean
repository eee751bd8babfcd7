/-
  DERIVED. GIVEN WITH THE SEED: THE CARDS: each row of YthnalicohdmlfaaDoorRows.lean that lists a variable, with what it lists TIED to the program's text (the seventh form; the later family's looks); each row that meets fmt, with fmt's text TOLD by the authors' own Lean function (tested against real Go, not proved from fmt's source: count such statements apart). THE CARD IS WHAT COUNTS. Prove the row's statement (the work); the ties are given (YthnalicohdmlfaaDoorTie.lean); close each card by the builder's one call (the guide's Derived/Test/ToyasCard.lean, 'card_holds'). Laid BY PROGRAM, IN A SANDBOX (cutbox-door.mjs). By AI agents, Wed Nov 11 2026. No macro, syntax, notation, axiom, sorry.
-/
import Derived.Test.YthnalicohdmlfaaDoorRows
import GoSem.ClaimSeven
namespace Go.Proofs.YthnalicohdmlfaaDoor
namespace Rows

/-- THE TIED CARD OF 'laws.FnReceivedAny'. -/
def fnReceivedAnyCard : Claim7 := { stood := { row := fnReceivedAnyRow, standIns := [], harness := (true, "ad5fe94e5854cd5d4491793c059dd8e0e81e0b99814d64b869b2736203355625"), looks := false }, kinds := [], alts := [], laidByText := true, laidKinds := [.data], laidTests := true, laidLooks := .later }
def FnReceivedAnyCardSaid : Prop := Claim7.holds Tryd.pinned (.plain (OpenSpec.ofChange fnReceivedAnySpec)) fnReceivedAnyCard

/-- THE SECOND FORM's CARD OF 'laws.FnReceivedAny'. -/
def fnReceivedAnyUptoCard : Claim7 := { stood := { row := fnReceivedAnyUptoRow, standIns := [], harness := (true, "ad5fe94e5854cd5d4491793c059dd8e0e81e0b99814d64b869b2736203355625"), looks := false }, kinds := [], alts := [], laidByText := true, laidKinds := [.data], laidTests := true, laidLooks := .later }
def FnReceivedAnyUptoCardSaid : Prop := Claim7.holds Tryd.pinned (.plain (OpenSpec.upto fnReceivedAnySpec)) fnReceivedAnyUptoCard
end Rows
end Go.Proofs.YthnalicohdmlfaaDoor
