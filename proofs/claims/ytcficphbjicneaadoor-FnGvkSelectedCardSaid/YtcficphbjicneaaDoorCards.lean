/-
  DERIVED. GIVEN WITH THE SEED: THE CARDS: each row of YtcficphbjicneaaDoorRows.lean that lists a variable, with what it lists TIED to the program's text (the seventh form; the later family's looks); each row that meets fmt, with fmt's text TOLD by the authors' own Lean function (tested against real Go, not proved from fmt's source: count such statements apart). THE CARD IS WHAT COUNTS. Prove the row's statement (the work); the ties are given (YtcficphbjicneaaDoorTie.lean); close each card by the builder's one call (the guide's Derived/Test/ToyasCard.lean, 'card_holds'). Laid BY PROGRAM, IN A SANDBOX (cutbox-door.mjs). By AI agents, Wed Nov 11 2026. No macro, syntax, notation, axiom, sorry.
-/
import Derived.Test.YtcficphbjicneaaDoorRows
import GoSem.ClaimSeven
namespace Go.Proofs.YtcficphbjicneaaDoor
namespace Rows

/-- THE TIED CARD OF 'laws.FnGvkSelected'. -/
def fnGvkSelectedCard : Claim7 := { stood := { row := fnGvkSelectedRow, standIns := [], harness := (true, "c1667defb1b6fb1bd34e61b52cb1b34d3f563430807d99d1883117196eea9a4f"), looks := false }, kinds := [], alts := [], laidByText := true, laidKinds := [.data, .data], laidTests := true, laidLooks := .later }
def FnGvkSelectedCardSaid : Prop := Claim7.holds Tryd.pinned (.plain (OpenSpec.ofChange fnGvkSelectedSpec)) fnGvkSelectedCard

/-- THE TIED CARD OF 'laws.FnPathMatches'. -/
def fnPathMatchesCard : Claim7 := { stood := { row := fnPathMatchesRow, standIns := [], harness := (true, "c1667defb1b6fb1bd34e61b52cb1b34d3f563430807d99d1883117196eea9a4f"), looks := false }, kinds := [], alts := [], laidByText := true, laidKinds := [.data, .pinned], laidTests := true, laidLooks := .later }
def FnPathMatchesCardSaid : Prop := Claim7.holds Tryd.pinned (.plain (OpenSpec.ofChange fnPathMatchesSpec)) fnPathMatchesCard

/-- THE SECOND FORM's CARD OF 'laws.FnGvkSelected'. -/
def fnGvkSelectedUptoCard : Claim7 := { stood := { row := fnGvkSelectedUptoRow, standIns := [], harness := (true, "c1667defb1b6fb1bd34e61b52cb1b34d3f563430807d99d1883117196eea9a4f"), looks := false }, kinds := [], alts := [], laidByText := true, laidKinds := [.data, .data], laidTests := true, laidLooks := .later }
def FnGvkSelectedUptoCardSaid : Prop := Claim7.holds Tryd.pinned (.plain (OpenSpec.upto fnGvkSelectedSpec)) fnGvkSelectedUptoCard

/-- THE SECOND FORM's CARD OF 'laws.FnPathMatches'. -/
def fnPathMatchesUptoCard : Claim7 := { stood := { row := fnPathMatchesUptoRow, standIns := [], harness := (true, "c1667defb1b6fb1bd34e61b52cb1b34d3f563430807d99d1883117196eea9a4f"), looks := false }, kinds := [], alts := [], laidByText := true, laidKinds := [.data, .pinned], laidTests := true, laidLooks := .later }
def FnPathMatchesUptoCardSaid : Prop := Claim7.holds Tryd.pinned (.plain (OpenSpec.upto fnPathMatchesSpec)) fnPathMatchesUptoCard
end Rows
end Go.Proofs.YtcficphbjicneaaDoor
