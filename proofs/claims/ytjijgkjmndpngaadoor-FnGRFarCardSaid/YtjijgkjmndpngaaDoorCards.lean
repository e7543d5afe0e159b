/-
  DERIVED. GIVEN WITH THE SEED: THE CARDS: each row of YtjijgkjmndpngaaDoorRows.lean that lists a variable, with what it lists TIED to the program's text (the seventh form; the later family's looks); each row that meets fmt, with fmt's text TOLD by the authors' own Lean function (tested against real Go, not proved from fmt's source: count such statements apart). THE CARD IS WHAT COUNTS. Prove the row's statement (the work); the ties are given (YtjijgkjmndpngaaDoorTie.lean); close each card by the builder's one call (the guide's Derived/Test/ToyasCard.lean, 'card_holds'). Laid BY PROGRAM, IN A SANDBOX (cutbox-door.mjs). By AI agents, Wed Nov 11 2026. No macro, syntax, notation, axiom, sorry.
-/
import Derived.Test.YtjijgkjmndpngaaDoorRows
import GoSem.ClaimSeven
namespace Go.Proofs.YtjijgkjmndpngaaDoor
namespace Rows

/-- THE TIED CARD OF 'laws.FnGRApart'. -/
def fnGRApartCard : Claim7 := { stood := { row := fnGRApartRow, standIns := [], harness := (true, "9d222f3f3ff382fdd2b33171b2b677963c2ada1f013bda898c1714b13d7279ba"), looks := true }, kinds := [], alts := [], laidByText := true, laidKinds := [.sentinel, .sentinel, .sentinel], laidTests := true, laidLooks := .later }
def FnGRApartCardSaid : Prop := Claim7.holds Tryd.pinned (.plain (OpenSpec.ofChange fnGRApartSpec)) fnGRApartCard

/-- THE TIED CARD OF 'laws.FnGRFar'. -/
def fnGRFarCard : Claim7 := { stood := { row := fnGRFarRow, standIns := [], harness := (true, "9d222f3f3ff382fdd2b33171b2b677963c2ada1f013bda898c1714b13d7279ba"), looks := true }, kinds := [], alts := [], laidByText := true, laidKinds := [.sentinel, .sentinel, .sentinel], laidTests := true, laidLooks := .later }
def FnGRFarCardSaid : Prop := Claim7.holds Tryd.pinned (.plain (OpenSpec.ofChange fnGRFarSpec)) fnGRFarCard

/-- THE SECOND FORM's CARD OF 'laws.FnGRApart'. -/
def fnGRApartUptoCard : Claim7 := { stood := { row := fnGRApartUptoRow, standIns := [], harness := (true, "9d222f3f3ff382fdd2b33171b2b677963c2ada1f013bda898c1714b13d7279ba"), looks := true }, kinds := [], alts := [], laidByText := true, laidKinds := [.sentinel, .sentinel, .sentinel], laidTests := true, laidLooks := .later }
def FnGRApartUptoCardSaid : Prop := Claim7.holds Tryd.pinned (.plain (OpenSpec.upto fnGRApartSpec)) fnGRApartUptoCard

/-- THE SECOND FORM's CARD OF 'laws.FnGRFar'. -/
def fnGRFarUptoCard : Claim7 := { stood := { row := fnGRFarUptoRow, standIns := [], harness := (true, "9d222f3f3ff382fdd2b33171b2b677963c2ada1f013bda898c1714b13d7279ba"), looks := true }, kinds := [], alts := [], laidByText := true, laidKinds := [.sentinel, .sentinel, .sentinel], laidTests := true, laidLooks := .later }
def FnGRFarUptoCardSaid : Prop := Claim7.holds Tryd.pinned (.plain (OpenSpec.upto fnGRFarSpec)) fnGRFarUptoCard
end Rows
end Go.Proofs.YtjijgkjmndpngaaDoor
