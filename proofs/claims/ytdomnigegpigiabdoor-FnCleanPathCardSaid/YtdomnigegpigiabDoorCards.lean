/-
  DERIVED. GIVEN WITH THE SEED: THE CARDS: each row of YtdomnigegpigiabDoorRows.lean that lists a variable, with what it lists TIED to the program's text (the seventh form; the later family's looks); each row that meets fmt, with fmt's text TOLD by the authors' own Lean function (tested against real Go, not proved from fmt's source: count such statements apart). THE CARD IS WHAT COUNTS. Prove the row's statement (the work); the ties are given (YtdomnigegpigiabDoorTie.lean); close each card by the builder's one call (the guide's Derived/Test/ToyasCard.lean, 'card_holds'). Laid BY PROGRAM, IN A SANDBOX (cutbox-door.mjs). By AI agents, Wed Nov 11 2026. No macro, syntax, notation, axiom, sorry.
-/
import Derived.Test.YtdomnigegpigiabDoorRows
import GoSem.ClaimSeven
namespace Go.Proofs.YtdomnigegpigiabDoor
namespace Rows

/-- THE TIED CARD OF 'laws.FnReleaseName'. -/
def fnReleaseNameCard : Claim7 := { stood := { row := fnReleaseNameRow, standIns := [], harness := (true, "312c4f92d1a774ace0bbdee029ede4811c3fd0d68e91c1384eec3e1bc1bd6d70"), looks := false }, kinds := [], alts := [], laidByText := true, laidKinds := [.sentinel, .sentinel], laidTests := true, laidLooks := .later }
def FnReleaseNameCardSaid : Prop := Claim7.holds Tryd.pinned (.plain (OpenSpec.ofChange fnReleaseNameSpec)) fnReleaseNameCard

/-- THE TIED CARD OF 'laws.FnCleanPath'. -/
def fnCleanPathCard : Claim7 := { stood := { row := fnCleanPathRow, standIns := [], harness := (true, "312c4f92d1a774ace0bbdee029ede4811c3fd0d68e91c1384eec3e1bc1bd6d70"), looks := false }, kinds := [], alts := [], laidByText := true, laidKinds := [.data, .pinned], laidTests := true, laidLooks := .later }
def FnCleanPathCardSaid : Prop := Claim7.holds Tryd.pinned (.plain (OpenSpec.ofChange fnCleanPathSpec)) fnCleanPathCard

/-- THE SECOND FORM's CARD OF 'laws.FnReleaseName'. -/
def fnReleaseNameUptoCard : Claim7 := { stood := { row := fnReleaseNameUptoRow, standIns := [], harness := (true, "312c4f92d1a774ace0bbdee029ede4811c3fd0d68e91c1384eec3e1bc1bd6d70"), looks := false }, kinds := [], alts := [], laidByText := true, laidKinds := [.sentinel, .sentinel], laidTests := true, laidLooks := .later }
def FnReleaseNameUptoCardSaid : Prop := Claim7.holds Tryd.pinned (.plain (OpenSpec.upto fnReleaseNameSpec)) fnReleaseNameUptoCard

/-- THE SECOND FORM's CARD OF 'laws.FnCleanPath'. -/
def fnCleanPathUptoCard : Claim7 := { stood := { row := fnCleanPathUptoRow, standIns := [], harness := (true, "312c4f92d1a774ace0bbdee029ede4811c3fd0d68e91c1384eec3e1bc1bd6d70"), looks := false }, kinds := [], alts := [], laidByText := true, laidKinds := [.data, .pinned], laidTests := true, laidLooks := .later }
def FnCleanPathUptoCardSaid : Prop := Claim7.holds Tryd.pinned (.plain (OpenSpec.upto fnCleanPathSpec)) fnCleanPathUptoCard
end Rows
end Go.Proofs.YtdomnigegpigiabDoor
