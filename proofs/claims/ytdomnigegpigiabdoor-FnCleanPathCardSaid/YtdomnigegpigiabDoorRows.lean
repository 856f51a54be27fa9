/-
  NARROWER THAN 'FOR EVERY INPUT', by the rows' own cells (each row's printed sentence says how): FnReleaseName: ifaces, laid · FnCleanPath: laid.
  DERIVED. THE GIVEN ROWS OF THIS SEAT. 2 by the template 'for every input the law returns true; each argument reads behind the call as it read before'; 0 by the template 'total and deterministic' (their statements: YtdomnigegpigiabDoorTotals.lean).
  GIVEN WITH THE SEED: the statements are not yours to turn. If you find one false, say at which input.
  Laid BY PROGRAM, IN A SANDBOX (cutbox-rows.mjs): the forced cells as the released guide's own fill.sh prints them over the translation f47cdc295cb1b6f4… (all of the seat's roots in one cut). By AI agents, Wed Nov 11 2026. No macro, syntax, notation, axiom, sorry.
-/
import Derived.Test.YtdomnigegpigiabDoorChecked
import GoSem.PinnedTables
import GoSem.Claim
import GoSem.ClaimJoined
import GoSem.ClaimMapViews
import Derived.JoinedTies
import Derived.KernelRfl
namespace Go.Proofs.YtdomnigegpigiabDoor
/- THE CELL 'sum', in the pinned program and in every row, IS THE sha256 OF THE DUMP (.gsa) THAT YtdomnigegpigiabDoorProg.lean LOADS. Nothing in Lean hashes anything: it is a label: what it is worth is what the hold of that sum in a sandbox is worth. -/
noncomputable def Tryd.pinned : Pinned := { name := "ytdomnigegpigiabdoor", sum := "f47cdc295cb1b6f49bd1ed193eab67f8e1ce03934cfb82d0dc9ab331bd4fec8a", checked := Tryd.checked }
namespace Rows
def none {H : Type} : Left H := { results := [], args := [] }

/- WHAT THE LISTED PACKAGE-LEVEL VARIABLES READ AS WHEN THE CALL BEGINS. Each datum BY PROGRAM (the guide's laid-datum.mjs) off the statement by which the dump's own 'gosem.cut.vars' lays the variable. In a bare row this is a premise. The card (YtdomnigegpigiabDoorCards.lean) ties it to the program's text. -/
def laid_given_example_pub_antistrophe_pub_helm_pkg_chartutil_errMissingName {H : Type} : DataW H := .iface "*errors.errorString" (.ptr (.agg [.lit (.string [110, 111, 32, 110, 97, 109, 101, 32, 112, 114, 111, 118, 105, 100, 101, 100])]))
def laid_given_example_pub_antistrophe_pub_helm_pkg_chartutil_errInvalidName {H : Type} : DataW H := .iface "*errors.errorString" (.ptr (.agg [.lit (.string [105, 110, 118, 97, 108, 105, 100, 32, 114, 101, 108, 101, 97, 115, 101, 32, 110, 97, 109, 101])]))
def laid_unicode_utf8_acceptRanges {H : Type} : DataW H := .agg [.agg [.lit (.int .u8 128), .lit (.int .u8 191)], .agg [.lit (.int .u8 160), .lit (.int .u8 191)], .agg [.lit (.int .u8 128), .lit (.int .u8 159)], .agg [.lit (.int .u8 144), .lit (.int .u8 191)], .agg [.lit (.int .u8 128), .lit (.int .u8 143)], .agg [.lit (.int .u8 0), .lit (.int .u8 0)], .agg [.lit (.int .u8 0), .lit (.int .u8 0)], .agg [.lit (.int .u8 0), .lit (.int .u8 0)], .agg [.lit (.int .u8 0), .lit (.int .u8 0)], .agg [.lit (.int .u8 0), .lit (.int .u8 0)], .agg [.lit (.int .u8 0), .lit (.int .u8 0)], .agg [.lit (.int .u8 0), .lit (.int .u8 0)], .agg [.lit (.int .u8 0), .lit (.int .u8 0)], .agg [.lit (.int .u8 0), .lit (.int .u8 0)], .agg [.lit (.int .u8 0), .lit (.int .u8 0)], .agg [.lit (.int .u8 0), .lit (.int .u8 0)]]
/-- One of Go's own tables, pinned by name: the form's constant. -/
def laid_unicode_utf8_first : DataW Unit := Go.Pinned.utf8First

/-- 'laws.FnReleaseName': WHATEVER THE INPUT: true; the input reads as it did. -/
def fnReleaseNameSpec : ChangeSpec := { name := "fnReleaseName", vars := ["given.example/pub-antistrophe/pub/helm/pkg/chartutil.errMissingName", "given.example/pub-antistrophe/pub/helm/pkg/chartutil.errInvalidName"], fn := fun _ => fun
  | [d, g1, g2] => { results := [.lit (.bool true)], args := [d], vars := [g1, g2] }
  | _ => none }
def fnReleaseNameRow : OpenClaim := { program := "ytdomnigegpigiabdoor", sum := "f47cdc295cb1b6f49bd1ed193eab67f8e1ce03934cfb82d0dc9ab331bd4fec8a", func := "given.example/pub-antistrophe/laws.FnReleaseName", spec := "fnReleaseName", named := ["given.example/pub-antistrophe/pub/helm/pkg/chartutil.errMissingName", "given.example/pub-antistrophe/pub/helm/pkg/chartutil.errInvalidName"], ifaces := true, apart := false, laid := [("given.example/pub-antistrophe/pub/helm/pkg/chartutil.errMissingName", laid_given_example_pub_antistrophe_pub_helm_pkg_chartutil_errMissingName), ("given.example/pub-antistrophe/pub/helm/pkg/chartutil.errInvalidName", laid_given_example_pub_antistrophe_pub_helm_pkg_chartutil_errInvalidName)] }
def FnReleaseNameSaid : Prop := fnReleaseNameRow.holds Tryd.pinned (OpenSpec.ofChange fnReleaseNameSpec)

/-- ITS FALSE NEIGHBOUR: 'it returns false'. Refute it at one input. -/
def fnReleaseNameWrong : ChangeSpec := { name := "fnReleaseName", vars := ["given.example/pub-antistrophe/pub/helm/pkg/chartutil.errMissingName", "given.example/pub-antistrophe/pub/helm/pkg/chartutil.errInvalidName"], fn := fun _ => fun
  | [d, g1, g2] => { results := [.lit (.bool false)], args := [d], vars := [g1, g2] }
  | _ => none }
def FnReleaseNameWrongFalsely : Prop := fnReleaseNameRow.holds Tryd.pinned (OpenSpec.ofChange fnReleaseNameWrong)

/-- 'laws.FnCleanPath': WHATEVER THE INPUT: true; the input reads as it did. -/
def fnCleanPathSpec : ChangeSpec := { name := "fnCleanPath", fn := fun _ => fun
  | [d] => { results := [.lit (.bool true)], args := [d] }
  | _ => none }
def fnCleanPathRow : OpenClaim := { program := "ytdomnigegpigiabdoor", sum := "f47cdc295cb1b6f49bd1ed193eab67f8e1ce03934cfb82d0dc9ab331bd4fec8a", func := "given.example/pub-antistrophe/laws.FnCleanPath", spec := "fnCleanPath", named := ["unicode/utf8.first", "unicode/utf8.acceptRanges"], apart := false, laid := [("unicode/utf8.acceptRanges", laid_unicode_utf8_acceptRanges), ("unicode/utf8.first", laid_unicode_utf8_first)] }
def FnCleanPathSaid : Prop := fnCleanPathRow.holds Tryd.pinned (OpenSpec.ofChange fnCleanPathSpec)

/-- ITS FALSE NEIGHBOUR: 'it returns false'. Refute it at one input. -/
def fnCleanPathWrong : ChangeSpec := { name := "fnCleanPath", fn := fun _ => fun
  | [d] => { results := [.lit (.bool false)], args := [d] }
  | _ => none }
def FnCleanPathWrongFalsely : Prop := fnCleanPathRow.holds Tryd.pinned (OpenSpec.ofChange fnCleanPathWrong)

/- THE SECOND FORM. 'bulk': how many values and letters a reading holds, each counted each time it is reached (what is shared counts as often as it is met; a slice's spare places count too). A statement '..UptoSaid' is the law's where the arguments, and the package variables that the reading takes, are together of bulk at most 1048576: NARROWER than '..Said'. Prove '..Said' where nothing that the law and all that it calls make is longer than what came in: it says more and counts as full. Else prove '..UptoSaid'. A law counts once. -/
mutual
def uptoBulk {H : Type} : DataW H → Nat
  | .lit (.string bytes) => bytes.length + 1
  | .lit _ => 1
  | .nil => 1
  | .ptr d => uptoBulk d + 1
  | .slice elems spare => uptoBulkAll elems + uptoBulkAll spare + 1
  | .agg parts => uptoBulkAll parts + 1
  | .iface _ d => uptoBulk d + 1
  | .map entries => uptoBulkEntries entries + 1
  | .held _ => 1
def uptoBulkAll {H : Type} : List (DataW H) → Nat
  | [] => 0
  | d :: r => uptoBulk d + uptoBulkAll r
def uptoBulkEntries {H : Type} : List (Lit × DataW H) → Nat
  | [] => 0
  | x :: r => uptoBulkEntry x + uptoBulkEntries r
def uptoBulkEntry {H : Type} : Lit × DataW H → Nat
  | (.string bytes, d) => bytes.length + uptoBulk d + 1
  | (_, d) => uptoBulk d + 1
 end
def uptoSmall : (H : Type) → List (DataW H) → Bool := fun _ ds => decide (uptoBulkAll ds ≤ 1048576)
def OpenSpec.upto (s : _root_.Go.ChangeSpec) : _root_.Go.OpenSpec := { _root_.Go.OpenSpec.ofChange s with cond := some uptoSmall }

/-- 'laws.FnReleaseName', WHERE WHAT IT READS IS OF BULK AT MOST 1048576: true; the input reads as it did. -/
def fnReleaseNameUptoRow : OpenClaim := { program := "ytdomnigegpigiabdoor", sum := "f47cdc295cb1b6f49bd1ed193eab67f8e1ce03934cfb82d0dc9ab331bd4fec8a", func := "given.example/pub-antistrophe/laws.FnReleaseName", spec := "fnReleaseName", named := ["given.example/pub-antistrophe/pub/helm/pkg/chartutil.errMissingName", "given.example/pub-antistrophe/pub/helm/pkg/chartutil.errInvalidName"], ifaces := true, apart := false, laid := [("given.example/pub-antistrophe/pub/helm/pkg/chartutil.errMissingName", laid_given_example_pub_antistrophe_pub_helm_pkg_chartutil_errMissingName), ("given.example/pub-antistrophe/pub/helm/pkg/chartutil.errInvalidName", laid_given_example_pub_antistrophe_pub_helm_pkg_chartutil_errInvalidName)], narrowed := true }
def FnReleaseNameUptoSaid : Prop := fnReleaseNameUptoRow.holds Tryd.pinned (OpenSpec.upto fnReleaseNameSpec)

/-- 'laws.FnCleanPath', WHERE WHAT IT READS IS OF BULK AT MOST 1048576: true; the input reads as it did. -/
def fnCleanPathUptoRow : OpenClaim := { program := "ytdomnigegpigiabdoor", sum := "f47cdc295cb1b6f49bd1ed193eab67f8e1ce03934cfb82d0dc9ab331bd4fec8a", func := "given.example/pub-antistrophe/laws.FnCleanPath", spec := "fnCleanPath", named := ["unicode/utf8.first", "unicode/utf8.acceptRanges"], apart := false, laid := [("unicode/utf8.acceptRanges", laid_unicode_utf8_acceptRanges), ("unicode/utf8.first", laid_unicode_utf8_first)], narrowed := true }
def FnCleanPathUptoSaid : Prop := fnCleanPathUptoRow.holds Tryd.pinned (OpenSpec.upto fnCleanPathSpec)

end Rows
end Go.Proofs.YtdomnigegpigiabDoor
