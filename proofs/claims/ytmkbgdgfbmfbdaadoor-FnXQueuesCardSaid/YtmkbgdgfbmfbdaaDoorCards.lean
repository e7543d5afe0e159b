/-
  DERIVED. GIVEN WITH THE SEED: THE CARDS: each row of YtmkbgdgfbmfbdaaDoorRows.lean that lists a variable, with what it lists TIED to the program's text (the seventh form; the later family's looks); each row that meets fmt, with fmt's text TOLD by the authors' own Lean function (tested against real Go, not proved from fmt's source: count such statements apart). THE CARD IS WHAT COUNTS. Prove the row's statement (the work); the ties are given (YtmkbgdgfbmfbdaaDoorTie.lean); close each card by the builder's one call (the guide's Derived/Test/ToyasCard.lean, 'card_holds'). Laid BY PROGRAM, IN A SANDBOX (cutbox-door.mjs). By AI agents, Wed Nov 11 2026. No macro, syntax, notation, axiom, sorry.
-/
import Derived.Test.YtmkbgdgfbmfbdaaDoorRows
import GoSem.ClaimSeven
namespace Go.Proofs.YtmkbgdgfbmfbdaaDoor
namespace Rows

/-- THE TIED CARD OF 'laws.FnPQAgain'. -/
def fnPQAgainCard : Claim7 := { stood := { row := fnPQAgainRow, standIns := [], harness := (true, "932657419c9e11dc2c4243749cc4ab9a662abb79d67e8ed19f0195c3f5bdc527"), looks := true }, kinds := [], alts := [], laidByText := true, laidKinds := [.sentinel, .sentinel, .sentinel], laidTests := true, laidLooks := .later }
def FnPQAgainCardSaid : Prop := Claim7.holds Tryd.pinned (.plain (OpenSpec.ofChange fnPQAgainSpec)) fnPQAgainCard

/-- THE TIED CARD OF 'laws.FnPQShift'. -/
def fnPQShiftCard : Claim7 := { stood := { row := fnPQShiftRow, standIns := [], harness := (true, "932657419c9e11dc2c4243749cc4ab9a662abb79d67e8ed19f0195c3f5bdc527"), looks := true }, kinds := [], alts := [], laidByText := true, laidKinds := [.sentinel, .sentinel, .sentinel], laidTests := true, laidLooks := .later }
def FnPQShiftCardSaid : Prop := Claim7.holds Tryd.pinned (.plain (OpenSpec.ofChange fnPQShiftSpec)) fnPQShiftCard

/-- THE TIED CARD OF 'laws.FnPQTurned'. -/
def fnPQTurnedCard : Claim7 := { stood := { row := fnPQTurnedRow, standIns := [], harness := (true, "932657419c9e11dc2c4243749cc4ab9a662abb79d67e8ed19f0195c3f5bdc527"), looks := true }, kinds := [], alts := [], laidByText := true, laidKinds := [.sentinel, .sentinel, .sentinel], laidTests := true, laidLooks := .later }
def FnPQTurnedCardSaid : Prop := Claim7.holds Tryd.pinned (.plain (OpenSpec.ofChange fnPQTurnedSpec)) fnPQTurnedCard

/-- THE TIED CARD OF 'laws.FnXQueues'. -/
def fnXQueuesCard : Claim7 := { stood := { row := fnXQueuesRow, standIns := [], harness := (true, "932657419c9e11dc2c4243749cc4ab9a662abb79d67e8ed19f0195c3f5bdc527"), looks := true }, kinds := [], alts := [], laidByText := true, laidKinds := [.sentinel, .sentinel, .sentinel], laidTests := true, laidLooks := .later }
def FnXQueuesCardSaid : Prop := Claim7.holds Tryd.pinned (.plain (OpenSpec.ofChange fnXQueuesSpec)) fnXQueuesCard

/-- THE SECOND FORM's CARD OF 'laws.FnPQAgain'. -/
def fnPQAgainUptoCard : Claim7 := { stood := { row := fnPQAgainUptoRow, standIns := [], harness := (true, "932657419c9e11dc2c4243749cc4ab9a662abb79d67e8ed19f0195c3f5bdc527"), looks := true }, kinds := [], alts := [], laidByText := true, laidKinds := [.sentinel, .sentinel, .sentinel], laidTests := true, laidLooks := .later }
def FnPQAgainUptoCardSaid : Prop := Claim7.holds Tryd.pinned (.plain (OpenSpec.upto fnPQAgainSpec)) fnPQAgainUptoCard

/-- THE SECOND FORM's CARD OF 'laws.FnPQShift'. -/
def fnPQShiftUptoCard : Claim7 := { stood := { row := fnPQShiftUptoRow, standIns := [], harness := (true, "932657419c9e11dc2c4243749cc4ab9a662abb79d67e8ed19f0195c3f5bdc527"), looks := true }, kinds := [], alts := [], laidByText := true, laidKinds := [.sentinel, .sentinel, .sentinel], laidTests := true, laidLooks := .later }
def FnPQShiftUptoCardSaid : Prop := Claim7.holds Tryd.pinned (.plain (OpenSpec.upto fnPQShiftSpec)) fnPQShiftUptoCard

/-- THE SECOND FORM's CARD OF 'laws.FnPQTurned'. -/
def fnPQTurnedUptoCard : Claim7 := { stood := { row := fnPQTurnedUptoRow, standIns := [], harness := (true, "932657419c9e11dc2c4243749cc4ab9a662abb79d67e8ed19f0195c3f5bdc527"), looks := true }, kinds := [], alts := [], laidByText := true, laidKinds := [.sentinel, .sentinel, .sentinel], laidTests := true, laidLooks := .later }
def FnPQTurnedUptoCardSaid : Prop := Claim7.holds Tryd.pinned (.plain (OpenSpec.upto fnPQTurnedSpec)) fnPQTurnedUptoCard

/-- THE SECOND FORM's CARD OF 'laws.FnXQueues'. -/
def fnXQueuesUptoCard : Claim7 := { stood := { row := fnXQueuesUptoRow, standIns := [], harness := (true, "932657419c9e11dc2c4243749cc4ab9a662abb79d67e8ed19f0195c3f5bdc527"), looks := true }, kinds := [], alts := [], laidByText := true, laidKinds := [.sentinel, .sentinel, .sentinel], laidTests := true, laidLooks := .later }
def FnXQueuesUptoCardSaid : Prop := Claim7.holds Tryd.pinned (.plain (OpenSpec.upto fnXQueuesSpec)) fnXQueuesUptoCard
end Rows
end Go.Proofs.YtmkbgdgfbmfbdaaDoor
