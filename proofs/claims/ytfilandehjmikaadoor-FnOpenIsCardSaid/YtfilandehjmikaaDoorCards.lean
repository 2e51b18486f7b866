/-
  DERIVED. GIVEN WITH THE SEED: THE CARDS: each row of YtfilandehjmikaaDoorRows.lean that lists a variable, with what it lists TIED to the program's text (the seventh form; the later family's looks); each row that meets fmt, with fmt's text TOLD by the authors' own Lean function (tested against real Go, not proved from fmt's source: count such statements apart). THE CARD IS WHAT COUNTS. Prove the row's statement (the work); the ties are given (YtfilandehjmikaaDoorTie.lean); close each card by the builder's one call (the guide's Derived/Test/ToyasCard.lean, 'card_holds'). Laid BY PROGRAM, IN A SANDBOX (cutbox-door.mjs). By AI agents, Wed Nov 11 2026. No macro, syntax, notation, axiom, sorry.
-/
import Derived.Test.YtfilandehjmikaaDoorRows
import GoSem.ClaimSeven
namespace Go.Proofs.YtfilandehjmikaaDoor
namespace Rows

/-- THE TIED CARD OF 'laws.FnSizes'. -/
def fnSizesCard : Claim7 := { stood := { row := fnSizesRow, standIns := [], harness := (true, "dcddebe8a57cbc5ec5d1ef1f265641341a710f1c3173d232f1a5a14498c1ce81"), looks := false }, kinds := [], alts := [], laidByText := true, laidKinds := [.sentinel, .sentinel], laidTests := true, laidLooks := .later }
def FnSizesCardSaid : Prop := Claim7.holds Tryd.pinned (.plain (OpenSpec.ofChange fnSizesSpec)) fnSizesCard

/-- THE TIED CARD OF 'laws.FnSealIs'. -/
def fnSealIsCard : Claim7 := { stood := { row := fnSealIsRow, standIns := [], harness := (true, "dcddebe8a57cbc5ec5d1ef1f265641341a710f1c3173d232f1a5a14498c1ce81"), looks := false }, kinds := [], alts := [], laidByText := true, laidKinds := [.sentinel, .sentinel, .sentinel], laidTests := true, laidLooks := .later }
def FnSealIsCardSaid : Prop := Claim7.holds Tryd.pinned (.plain (OpenSpec.ofChange fnSealIsSpec)) fnSealIsCard

/-- THE TIED CARD OF 'laws.FnSealPrefix'. -/
def fnSealPrefixCard : Claim7 := { stood := { row := fnSealPrefixRow, standIns := [], harness := (true, "dcddebe8a57cbc5ec5d1ef1f265641341a710f1c3173d232f1a5a14498c1ce81"), looks := false }, kinds := [], alts := [], laidByText := true, laidKinds := [.sentinel, .sentinel, .sentinel], laidTests := true, laidLooks := .later }
def FnSealPrefixCardSaid : Prop := Claim7.holds Tryd.pinned (.plain (OpenSpec.ofChange fnSealPrefixSpec)) fnSealPrefixCard

/-- THE TIED CARD OF 'laws.FnOpenIs'. -/
def fnOpenIsCard : Claim7 := { stood := { row := fnOpenIsRow, standIns := [], harness := (true, "dcddebe8a57cbc5ec5d1ef1f265641341a710f1c3173d232f1a5a14498c1ce81"), looks := false }, kinds := [], alts := [], laidByText := true, laidKinds := [.sentinel, .sentinel, .sentinel, .sentinel], laidTests := true, laidLooks := .later }
def FnOpenIsCardSaid : Prop := Claim7.holds Tryd.pinned (.plain (OpenSpec.ofChange fnOpenIsSpec)) fnOpenIsCard

/-- THE TIED CARD OF 'laws.FnOpenShort'. -/
def fnOpenShortCard : Claim7 := { stood := { row := fnOpenShortRow, standIns := [], harness := (true, "dcddebe8a57cbc5ec5d1ef1f265641341a710f1c3173d232f1a5a14498c1ce81"), looks := false }, kinds := [], alts := [], laidByText := true, laidKinds := [.sentinel, .sentinel, .sentinel, .sentinel], laidTests := true, laidLooks := .later }
def FnOpenShortCardSaid : Prop := Claim7.holds Tryd.pinned (.plain (OpenSpec.ofChange fnOpenShortSpec)) fnOpenShortCard

/-- THE TIED CARD OF 'laws.FnOpenSeal'. -/
def fnOpenSealCard : Claim7 := { stood := { row := fnOpenSealRow, standIns := [], harness := (true, "dcddebe8a57cbc5ec5d1ef1f265641341a710f1c3173d232f1a5a14498c1ce81"), looks := false }, kinds := [], alts := [], laidByText := true, laidKinds := [.sentinel, .sentinel, .sentinel, .sentinel], laidTests := true, laidLooks := .later }
def FnOpenSealCardSaid : Prop := Claim7.holds Tryd.pinned (.plain (OpenSpec.ofChange fnOpenSealSpec)) fnOpenSealCard

/-- THE TIED CARD OF 'laws.FnOpenTurned'. -/
def fnOpenTurnedCard : Claim7 := { stood := { row := fnOpenTurnedRow, standIns := [], harness := (true, "dcddebe8a57cbc5ec5d1ef1f265641341a710f1c3173d232f1a5a14498c1ce81"), looks := false }, kinds := [], alts := [], laidByText := true, laidKinds := [.sentinel, .sentinel, .sentinel, .sentinel], laidTests := true, laidLooks := .later }
def FnOpenTurnedCardSaid : Prop := Claim7.holds Tryd.pinned (.plain (OpenSpec.ofChange fnOpenTurnedSpec)) fnOpenTurnedCard

/-- THE TIED CARD OF 'laws.FnSealBehind'. -/
def fnSealBehindCard : Claim7 := { stood := { row := fnSealBehindRow, standIns := [], harness := (true, "dcddebe8a57cbc5ec5d1ef1f265641341a710f1c3173d232f1a5a14498c1ce81"), looks := false }, kinds := [], alts := [], laidByText := true, laidKinds := [.sentinel, .sentinel, .sentinel, .sentinel], laidTests := true, laidLooks := .later }
def FnSealBehindCardSaid : Prop := Claim7.holds Tryd.pinned (.plain (OpenSpec.ofChange fnSealBehindSpec)) fnSealBehindCard

/-- THE SECOND FORM's CARD OF 'laws.FnSizes'. -/
def fnSizesUptoCard : Claim7 := { stood := { row := fnSizesUptoRow, standIns := [], harness := (true, "dcddebe8a57cbc5ec5d1ef1f265641341a710f1c3173d232f1a5a14498c1ce81"), looks := false }, kinds := [], alts := [], laidByText := true, laidKinds := [.sentinel, .sentinel], laidTests := true, laidLooks := .later }
def FnSizesUptoCardSaid : Prop := Claim7.holds Tryd.pinned (.plain (OpenSpec.upto fnSizesSpec)) fnSizesUptoCard

/-- THE SECOND FORM's CARD OF 'laws.FnSealIs'. -/
def fnSealIsUptoCard : Claim7 := { stood := { row := fnSealIsUptoRow, standIns := [], harness := (true, "dcddebe8a57cbc5ec5d1ef1f265641341a710f1c3173d232f1a5a14498c1ce81"), looks := false }, kinds := [], alts := [], laidByText := true, laidKinds := [.sentinel, .sentinel, .sentinel], laidTests := true, laidLooks := .later }
def FnSealIsUptoCardSaid : Prop := Claim7.holds Tryd.pinned (.plain (OpenSpec.upto fnSealIsSpec)) fnSealIsUptoCard

/-- THE SECOND FORM's CARD OF 'laws.FnSealPrefix'. -/
def fnSealPrefixUptoCard : Claim7 := { stood := { row := fnSealPrefixUptoRow, standIns := [], harness := (true, "dcddebe8a57cbc5ec5d1ef1f265641341a710f1c3173d232f1a5a14498c1ce81"), looks := false }, kinds := [], alts := [], laidByText := true, laidKinds := [.sentinel, .sentinel, .sentinel], laidTests := true, laidLooks := .later }
def FnSealPrefixUptoCardSaid : Prop := Claim7.holds Tryd.pinned (.plain (OpenSpec.upto fnSealPrefixSpec)) fnSealPrefixUptoCard

/-- THE SECOND FORM's CARD OF 'laws.FnOpenIs'. -/
def fnOpenIsUptoCard : Claim7 := { stood := { row := fnOpenIsUptoRow, standIns := [], harness := (true, "dcddebe8a57cbc5ec5d1ef1f265641341a710f1c3173d232f1a5a14498c1ce81"), looks := false }, kinds := [], alts := [], laidByText := true, laidKinds := [.sentinel, .sentinel, .sentinel, .sentinel], laidTests := true, laidLooks := .later }
def FnOpenIsUptoCardSaid : Prop := Claim7.holds Tryd.pinned (.plain (OpenSpec.upto fnOpenIsSpec)) fnOpenIsUptoCard

/-- THE SECOND FORM's CARD OF 'laws.FnOpenShort'. -/
def fnOpenShortUptoCard : Claim7 := { stood := { row := fnOpenShortUptoRow, standIns := [], harness := (true, "dcddebe8a57cbc5ec5d1ef1f265641341a710f1c3173d232f1a5a14498c1ce81"), looks := false }, kinds := [], alts := [], laidByText := true, laidKinds := [.sentinel, .sentinel, .sentinel, .sentinel], laidTests := true, laidLooks := .later }
def FnOpenShortUptoCardSaid : Prop := Claim7.holds Tryd.pinned (.plain (OpenSpec.upto fnOpenShortSpec)) fnOpenShortUptoCard

/-- THE SECOND FORM's CARD OF 'laws.FnOpenSeal'. -/
def fnOpenSealUptoCard : Claim7 := { stood := { row := fnOpenSealUptoRow, standIns := [], harness := (true, "dcddebe8a57cbc5ec5d1ef1f265641341a710f1c3173d232f1a5a14498c1ce81"), looks := false }, kinds := [], alts := [], laidByText := true, laidKinds := [.sentinel, .sentinel, .sentinel, .sentinel], laidTests := true, laidLooks := .later }
def FnOpenSealUptoCardSaid : Prop := Claim7.holds Tryd.pinned (.plain (OpenSpec.upto fnOpenSealSpec)) fnOpenSealUptoCard

/-- THE SECOND FORM's CARD OF 'laws.FnOpenTurned'. -/
def fnOpenTurnedUptoCard : Claim7 := { stood := { row := fnOpenTurnedUptoRow, standIns := [], harness := (true, "dcddebe8a57cbc5ec5d1ef1f265641341a710f1c3173d232f1a5a14498c1ce81"), looks := false }, kinds := [], alts := [], laidByText := true, laidKinds := [.sentinel, .sentinel, .sentinel, .sentinel], laidTests := true, laidLooks := .later }
def FnOpenTurnedUptoCardSaid : Prop := Claim7.holds Tryd.pinned (.plain (OpenSpec.upto fnOpenTurnedSpec)) fnOpenTurnedUptoCard

/-- THE SECOND FORM's CARD OF 'laws.FnSealBehind'. -/
def fnSealBehindUptoCard : Claim7 := { stood := { row := fnSealBehindUptoRow, standIns := [], harness := (true, "dcddebe8a57cbc5ec5d1ef1f265641341a710f1c3173d232f1a5a14498c1ce81"), looks := false }, kinds := [], alts := [], laidByText := true, laidKinds := [.sentinel, .sentinel, .sentinel, .sentinel], laidTests := true, laidLooks := .later }
def FnSealBehindUptoCardSaid : Prop := Claim7.holds Tryd.pinned (.plain (OpenSpec.upto fnSealBehindSpec)) fnSealBehindUptoCard
end Rows
end Go.Proofs.YtfilandehjmikaaDoor
