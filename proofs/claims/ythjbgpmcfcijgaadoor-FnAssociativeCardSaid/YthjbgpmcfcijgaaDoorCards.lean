/-
  DERIVED. GIVEN WITH THE SEED: THE CARDS: each row of YthjbgpmcfcijgaaDoorRows.lean that lists a variable, with what it lists TIED to the program's text (the seventh form; the later family's looks); each row that meets fmt, with fmt's text TOLD by the authors' own Lean function (tested against real Go, not proved from fmt's source: count such statements apart). THE CARD IS WHAT COUNTS. Prove the row's statement (the work); the ties are given (YthjbgpmcfcijgaaDoorTie.lean); close each card by the builder's one call (the guide's Derived/Test/ToyasCard.lean, 'card_holds'). Laid BY PROGRAM, IN A SANDBOX (cutbox-door.mjs). By AI agents, Wed Nov 11 2026. No macro, syntax, notation, axiom, sorry.
-/
import Derived.Test.YthjbgpmcfcijgaaDoorRows
import GoSem.ClaimSeven
namespace Go.Proofs.YthjbgpmcfcijgaaDoor
namespace Rows

/-- THE TIED CARD OF 'laws.FnPathMatches'. -/
def fnPathMatchesCard : Claim7 := { stood := { row := fnPathMatchesRow, standIns := [], harness := (true, "d65dad2bca93240fc94df054dbcef063a7706ba46443fd68f11ac90fb2fa168c"), looks := true }, kinds := [], alts := [], laidByText := true, laidKinds := [.data, .pinned], laidTests := true, laidLooks := .later }
def FnPathMatchesCardSaid : Prop := Claim7.holds Tryd.pinned (.plain (OpenSpec.ofChange fnPathMatchesSpec)) fnPathMatchesCard

/-- THE TIED CARD OF 'laws.FnAssociative'. -/
def fnAssociativeCard : Claim7 := { stood := { row := fnAssociativeRow, standIns := [], harness := (true, "d65dad2bca93240fc94df054dbcef063a7706ba46443fd68f11ac90fb2fa168c"), looks := true }, kinds := [], alts := [], laidByText := true, laidKinds := [.data], laidTests := true, laidLooks := .later }
def FnAssociativeCardSaid : Prop := Claim7.holds Tryd.pinned (.plain (OpenSpec.ofChange fnAssociativeSpec)) fnAssociativeCard

/-- THE SECOND FORM's CARD OF 'laws.FnPathMatches'. -/
def fnPathMatchesUptoCard : Claim7 := { stood := { row := fnPathMatchesUptoRow, standIns := [], harness := (true, "d65dad2bca93240fc94df054dbcef063a7706ba46443fd68f11ac90fb2fa168c"), looks := true }, kinds := [], alts := [], laidByText := true, laidKinds := [.data, .pinned], laidTests := true, laidLooks := .later }
def FnPathMatchesUptoCardSaid : Prop := Claim7.holds Tryd.pinned (.plain (OpenSpec.upto fnPathMatchesSpec)) fnPathMatchesUptoCard

/-- THE SECOND FORM's CARD OF 'laws.FnAssociative'. -/
def fnAssociativeUptoCard : Claim7 := { stood := { row := fnAssociativeUptoRow, standIns := [], harness := (true, "d65dad2bca93240fc94df054dbcef063a7706ba46443fd68f11ac90fb2fa168c"), looks := true }, kinds := [], alts := [], laidByText := true, laidKinds := [.data], laidTests := true, laidLooks := .later }
def FnAssociativeUptoCardSaid : Prop := Claim7.holds Tryd.pinned (.plain (OpenSpec.upto fnAssociativeSpec)) fnAssociativeUptoCard
end Rows
end Go.Proofs.YthjbgpmcfcijgaaDoor
