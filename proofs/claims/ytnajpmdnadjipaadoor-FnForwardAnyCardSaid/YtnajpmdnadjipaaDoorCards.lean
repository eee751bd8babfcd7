/-
  DERIVED. GIVEN WITH THE SEED: THE CARDS: each row of YtnajpmdnadjipaaDoorRows.lean that lists a variable, with what it lists TIED to the program's text (the seventh form; the later family's looks); each row that meets fmt, with fmt's text TOLD by the authors' own Lean function (tested against real Go, not proved from fmt's source: count such statements apart). THE CARD IS WHAT COUNTS. Prove the row's statement (the work); the ties are given (YtnajpmdnadjipaaDoorTie.lean); close each card by the builder's one call (the guide's Derived/Test/ToyasCard.lean, 'card_holds'). Laid BY PROGRAM, IN A SANDBOX (cutbox-door.mjs). By AI agents, Wed Nov 11 2026. No macro, syntax, notation, axiom, sorry.
-/
import Derived.Test.YtnajpmdnadjipaaDoorRows
import GoSem.ClaimSeven
namespace Go.Proofs.YtnajpmdnadjipaaDoor
namespace Rows

/-- THE TIED CARD OF 'laws.FnCookieAny'. -/
def fnCookieAnyCard : Claim7 := { stood := { row := fnCookieAnyRow, standIns := [], harness := (true, "280c3943b5beeda88eb7e6c520b4dcc633c93939c7205ef8ce5630a7034eb84b"), looks := false }, kinds := [], alts := [], laidByText := true, laidKinds := [.sentinel, .sentinel, .sentinel, .sentinel], laidTests := true, laidLooks := .later }
def FnCookieAnyCardSaid : Prop := Claim7.holds Tryd.pinned (.plain (OpenSpec.ofChange fnCookieAnySpec)) fnCookieAnyCard

/-- THE TIED CARD OF 'laws.FnShutdownAny'. -/
def fnShutdownAnyCard : Claim7 := { stood := { row := fnShutdownAnyRow, standIns := [], harness := (true, "280c3943b5beeda88eb7e6c520b4dcc633c93939c7205ef8ce5630a7034eb84b"), looks := false }, kinds := [], alts := [], laidByText := true, laidKinds := [.sentinel, .sentinel, .sentinel, .sentinel, .sentinel], laidTests := true, laidLooks := .later }
def FnShutdownAnyCardSaid : Prop := Claim7.holds Tryd.pinned (.plain (OpenSpec.ofChange fnShutdownAnySpec)) fnShutdownAnyCard

/-- THE TIED CARD OF 'laws.FnDataAny'. -/
def fnDataAnyCard : Claim7 := { stood := { row := fnDataAnyRow, standIns := [], harness := (true, "280c3943b5beeda88eb7e6c520b4dcc633c93939c7205ef8ce5630a7034eb84b"), looks := false }, kinds := [], alts := [], laidByText := true, laidKinds := [.sentinel, .sentinel, .sentinel, .sentinel, .sentinel], laidTests := true, laidLooks := .later }
def FnDataAnyCardSaid : Prop := Claim7.holds Tryd.pinned (.plain (OpenSpec.ofChange fnDataAnySpec)) fnDataAnyCard

/-- THE TIED CARD OF 'laws.FnSackAny'. -/
def fnSackAnyCard : Claim7 := { stood := { row := fnSackAnyRow, standIns := [], harness := (true, "280c3943b5beeda88eb7e6c520b4dcc633c93939c7205ef8ce5630a7034eb84b"), looks := false }, kinds := [], alts := [], laidByText := true, laidKinds := [.sentinel, .sentinel, .sentinel, .sentinel, .sentinel, .sentinel], laidTests := true, laidLooks := .later }
def FnSackAnyCardSaid : Prop := Claim7.holds Tryd.pinned (.plain (OpenSpec.ofChange fnSackAnySpec)) fnSackAnyCard

/-- THE TIED CARD OF 'laws.FnForwardAny'. -/
def fnForwardAnyCard : Claim7 := { stood := { row := fnForwardAnyRow, standIns := [], harness := (true, "280c3943b5beeda88eb7e6c520b4dcc633c93939c7205ef8ce5630a7034eb84b"), looks := false }, kinds := [], alts := [], laidByText := true, laidKinds := [.sentinel, .sentinel, .sentinel, .sentinel, .sentinel], laidTests := true, laidLooks := .later }
def FnForwardAnyCardSaid : Prop := Claim7.holds Tryd.pinned (.plain (OpenSpec.ofChange fnForwardAnySpec)) fnForwardAnyCard

/-- THE TIED CARD OF 'laws.FnShort'. -/
def fnShortCard : Claim7 := { stood := { row := fnShortRow, standIns := [], harness := (true, "280c3943b5beeda88eb7e6c520b4dcc633c93939c7205ef8ce5630a7034eb84b"), looks := false }, kinds := [], alts := [], laidByText := true, laidKinds := [.sentinel, .sentinel, .sentinel, .sentinel, .sentinel, .sentinel, .sentinel, .sentinel, .sentinel, .sentinel, .sentinel, .sentinel, .sentinel], laidTests := true, laidLooks := .later }
def FnShortCardSaid : Prop := Claim7.holds Tryd.pinned (.plain (OpenSpec.ofChange fnShortSpec)) fnShortCard

/-- THE SECOND FORM's CARD OF 'laws.FnCookieAny'. -/
def fnCookieAnyUptoCard : Claim7 := { stood := { row := fnCookieAnyUptoRow, standIns := [], harness := (true, "280c3943b5beeda88eb7e6c520b4dcc633c93939c7205ef8ce5630a7034eb84b"), looks := false }, kinds := [], alts := [], laidByText := true, laidKinds := [.sentinel, .sentinel, .sentinel, .sentinel], laidTests := true, laidLooks := .later }
def FnCookieAnyUptoCardSaid : Prop := Claim7.holds Tryd.pinned (.plain (OpenSpec.upto fnCookieAnySpec)) fnCookieAnyUptoCard

/-- THE SECOND FORM's CARD OF 'laws.FnShutdownAny'. -/
def fnShutdownAnyUptoCard : Claim7 := { stood := { row := fnShutdownAnyUptoRow, standIns := [], harness := (true, "280c3943b5beeda88eb7e6c520b4dcc633c93939c7205ef8ce5630a7034eb84b"), looks := false }, kinds := [], alts := [], laidByText := true, laidKinds := [.sentinel, .sentinel, .sentinel, .sentinel, .sentinel], laidTests := true, laidLooks := .later }
def FnShutdownAnyUptoCardSaid : Prop := Claim7.holds Tryd.pinned (.plain (OpenSpec.upto fnShutdownAnySpec)) fnShutdownAnyUptoCard

/-- THE SECOND FORM's CARD OF 'laws.FnDataAny'. -/
def fnDataAnyUptoCard : Claim7 := { stood := { row := fnDataAnyUptoRow, standIns := [], harness := (true, "280c3943b5beeda88eb7e6c520b4dcc633c93939c7205ef8ce5630a7034eb84b"), looks := false }, kinds := [], alts := [], laidByText := true, laidKinds := [.sentinel, .sentinel, .sentinel, .sentinel, .sentinel], laidTests := true, laidLooks := .later }
def FnDataAnyUptoCardSaid : Prop := Claim7.holds Tryd.pinned (.plain (OpenSpec.upto fnDataAnySpec)) fnDataAnyUptoCard

/-- THE SECOND FORM's CARD OF 'laws.FnSackAny'. -/
def fnSackAnyUptoCard : Claim7 := { stood := { row := fnSackAnyUptoRow, standIns := [], harness := (true, "280c3943b5beeda88eb7e6c520b4dcc633c93939c7205ef8ce5630a7034eb84b"), looks := false }, kinds := [], alts := [], laidByText := true, laidKinds := [.sentinel, .sentinel, .sentinel, .sentinel, .sentinel, .sentinel], laidTests := true, laidLooks := .later }
def FnSackAnyUptoCardSaid : Prop := Claim7.holds Tryd.pinned (.plain (OpenSpec.upto fnSackAnySpec)) fnSackAnyUptoCard

/-- THE SECOND FORM's CARD OF 'laws.FnForwardAny'. -/
def fnForwardAnyUptoCard : Claim7 := { stood := { row := fnForwardAnyUptoRow, standIns := [], harness := (true, "280c3943b5beeda88eb7e6c520b4dcc633c93939c7205ef8ce5630a7034eb84b"), looks := false }, kinds := [], alts := [], laidByText := true, laidKinds := [.sentinel, .sentinel, .sentinel, .sentinel, .sentinel], laidTests := true, laidLooks := .later }
def FnForwardAnyUptoCardSaid : Prop := Claim7.holds Tryd.pinned (.plain (OpenSpec.upto fnForwardAnySpec)) fnForwardAnyUptoCard

/-- THE SECOND FORM's CARD OF 'laws.FnShort'. -/
def fnShortUptoCard : Claim7 := { stood := { row := fnShortUptoRow, standIns := [], harness := (true, "280c3943b5beeda88eb7e6c520b4dcc633c93939c7205ef8ce5630a7034eb84b"), looks := false }, kinds := [], alts := [], laidByText := true, laidKinds := [.sentinel, .sentinel, .sentinel, .sentinel, .sentinel, .sentinel, .sentinel, .sentinel, .sentinel, .sentinel, .sentinel, .sentinel, .sentinel], laidTests := true, laidLooks := .later }
def FnShortUptoCardSaid : Prop := Claim7.holds Tryd.pinned (.plain (OpenSpec.upto fnShortSpec)) fnShortUptoCard
end Rows
end Go.Proofs.YtnajpmdnadjipaaDoor
