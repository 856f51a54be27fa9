/-
  NARROWER THAN 'FOR EVERY INPUT', by the rows' own cells (each row's printed sentence says how): FnWantTags: loops · FnTablesMerge: loops · FnTableAt: loops · FnTablesNone: loops · FnTablesGlobals: loops · FnChartCoalesce: loops.
  DERIVED. THE GIVEN ROWS OF THIS SEAT. 6 by the template 'for every input the law returns true; each argument reads behind the call as it read before'; 0 by the template 'total and deterministic' (their statements: YtogfpbnbojhpoaaTotals.lean).
  GIVEN WITH THE SEED: the statements are not yours to turn. If you find one false, say at which input.
  Laid BY PROGRAM, IN A SANDBOX (cutbox-rows.mjs): the forced cells as the released guide's own fill.sh prints them over the translation c94a07ab1b5b74cd… (all of the seat's roots in one cut). By AI agents, Wed Nov 11 2026. No macro, syntax, notation, axiom, sorry.
-/
import Derived.Test.YtogfpbnbojhpoaaChecked
import GoSem.Claim
import GoSem.ClaimJoined
import GoSem.ClaimMapViews
import Derived.JoinedTies
import Derived.KernelRfl
namespace Go.Proofs.Ytogfpbnbojhpoaa
/- THE CELL 'sum', in the pinned program and in every row, IS THE sha256 OF THE DUMP (.gsa) THAT YtogfpbnbojhpoaaProg.lean LOADS. Nothing in Lean hashes anything: it is a label: what it is worth is what the hold of that sum in a sandbox is worth. -/
noncomputable def Try.pinned : Pinned := { name := "ytogfpbnbojhpoaa", sum := "c94a07ab1b5b74cd567805d1629e7241de8f496827f0141512c6fd81bda3e0fd", checked := Try.checked }
namespace Rows
def none {H : Type} : Left H := { results := [], args := [] }

/-- 'laws.FnWantTags': WHATEVER THE INPUT: true; the input reads as it did. -/
def fnWantTagsSpec : ChangeSpec := { name := "fnWantTags", fn := fun _ => fun
  | [d1, d2] => { results := [.lit (.bool true)], args := [d1, d2] }
  | _ => none }
def fnWantTagsRow : OpenClaim := { program := "ytogfpbnbojhpoaa", sum := "c94a07ab1b5b74cd567805d1629e7241de8f496827f0141512c6fd81bda3e0fd", func := "given.example/pub-antistrophe/laws.FnWantTags", spec := "fnWantTags", unfollowed := true, recurses := true, loops := true, apart := false }
def FnWantTagsSaid : Prop := fnWantTagsRow.holds Try.pinned (OpenSpec.ofChange fnWantTagsSpec)

/-- ITS FALSE NEIGHBOUR: 'it returns false'. Refute it at one input. -/
def fnWantTagsWrong : ChangeSpec := { name := "fnWantTags", fn := fun _ => fun
  | [d1, d2] => { results := [.lit (.bool false)], args := [d1, d2] }
  | _ => none }
def FnWantTagsWrongFalsely : Prop := fnWantTagsRow.holds Try.pinned (OpenSpec.ofChange fnWantTagsWrong)

/-- 'laws.FnTablesMerge': WHATEVER THE INPUT: true; the input reads as it did. -/
def fnTablesMergeSpec : ChangeSpec := { name := "fnTablesMerge", fn := fun _ => fun
  | [d1, d2] => { results := [.lit (.bool true)], args := [d1, d2] }
  | _ => none }
def fnTablesMergeRow : OpenClaim := { program := "ytogfpbnbojhpoaa", sum := "c94a07ab1b5b74cd567805d1629e7241de8f496827f0141512c6fd81bda3e0fd", func := "given.example/pub-antistrophe/laws.FnTablesMerge", spec := "fnTablesMerge", unfollowed := true, recurses := true, loops := true, apart := false }
def FnTablesMergeSaid : Prop := fnTablesMergeRow.holds Try.pinned (OpenSpec.ofChange fnTablesMergeSpec)

/-- ITS FALSE NEIGHBOUR: 'it returns false'. Refute it at one input. -/
def fnTablesMergeWrong : ChangeSpec := { name := "fnTablesMerge", fn := fun _ => fun
  | [d1, d2] => { results := [.lit (.bool false)], args := [d1, d2] }
  | _ => none }
def FnTablesMergeWrongFalsely : Prop := fnTablesMergeRow.holds Try.pinned (OpenSpec.ofChange fnTablesMergeWrong)

/-- 'laws.FnTableAt': WHATEVER THE INPUT: true; the input reads as it did. -/
def fnTableAtSpec : ChangeSpec := { name := "fnTableAt", fn := fun _ => fun
  | [d1, d2] => { results := [.lit (.bool true)], args := [d1, d2] }
  | _ => none }
def fnTableAtRow : OpenClaim := { program := "ytogfpbnbojhpoaa", sum := "c94a07ab1b5b74cd567805d1629e7241de8f496827f0141512c6fd81bda3e0fd", func := "given.example/pub-antistrophe/laws.FnTableAt", spec := "fnTableAt", unfollowed := true, recurses := true, loops := true, apart := false }
def FnTableAtSaid : Prop := fnTableAtRow.holds Try.pinned (OpenSpec.ofChange fnTableAtSpec)

/-- ITS FALSE NEIGHBOUR: 'it returns false'. Refute it at one input. -/
def fnTableAtWrong : ChangeSpec := { name := "fnTableAt", fn := fun _ => fun
  | [d1, d2] => { results := [.lit (.bool false)], args := [d1, d2] }
  | _ => none }
def FnTableAtWrongFalsely : Prop := fnTableAtRow.holds Try.pinned (OpenSpec.ofChange fnTableAtWrong)

/-- 'laws.FnTablesNone': WHATEVER THE INPUT: true; the input reads as it did. -/
def fnTablesNoneSpec : ChangeSpec := { name := "fnTablesNone", fn := fun _ => fun
  | [d1, d2] => { results := [.lit (.bool true)], args := [d1, d2] }
  | _ => none }
def fnTablesNoneRow : OpenClaim := { program := "ytogfpbnbojhpoaa", sum := "c94a07ab1b5b74cd567805d1629e7241de8f496827f0141512c6fd81bda3e0fd", func := "given.example/pub-antistrophe/laws.FnTablesNone", spec := "fnTablesNone", unfollowed := true, recurses := true, loops := true, apart := false }
def FnTablesNoneSaid : Prop := fnTablesNoneRow.holds Try.pinned (OpenSpec.ofChange fnTablesNoneSpec)

/-- ITS FALSE NEIGHBOUR: 'it returns false'. Refute it at one input. -/
def fnTablesNoneWrong : ChangeSpec := { name := "fnTablesNone", fn := fun _ => fun
  | [d1, d2] => { results := [.lit (.bool false)], args := [d1, d2] }
  | _ => none }
def FnTablesNoneWrongFalsely : Prop := fnTablesNoneRow.holds Try.pinned (OpenSpec.ofChange fnTablesNoneWrong)

/-- 'laws.FnTablesGlobals': WHATEVER THE INPUT: true; the input reads as it did. -/
def fnTablesGlobalsSpec : ChangeSpec := { name := "fnTablesGlobals", fn := fun _ => fun
  | [d1, d2] => { results := [.lit (.bool true)], args := [d1, d2] }
  | _ => none }
def fnTablesGlobalsRow : OpenClaim := { program := "ytogfpbnbojhpoaa", sum := "c94a07ab1b5b74cd567805d1629e7241de8f496827f0141512c6fd81bda3e0fd", func := "given.example/pub-antistrophe/laws.FnTablesGlobals", spec := "fnTablesGlobals", unfollowed := true, recurses := true, loops := true, apart := false }
def FnTablesGlobalsSaid : Prop := fnTablesGlobalsRow.holds Try.pinned (OpenSpec.ofChange fnTablesGlobalsSpec)

/-- ITS FALSE NEIGHBOUR: 'it returns false'. Refute it at one input. -/
def fnTablesGlobalsWrong : ChangeSpec := { name := "fnTablesGlobals", fn := fun _ => fun
  | [d1, d2] => { results := [.lit (.bool false)], args := [d1, d2] }
  | _ => none }
def FnTablesGlobalsWrongFalsely : Prop := fnTablesGlobalsRow.holds Try.pinned (OpenSpec.ofChange fnTablesGlobalsWrong)

/-- 'laws.FnChartCoalesce': WHATEVER THE INPUT: true; the input reads as it did. -/
def fnChartCoalesceSpec : ChangeSpec := { name := "fnChartCoalesce", fn := fun _ => fun
  | [d1, d2] => { results := [.lit (.bool true)], args := [d1, d2] }
  | _ => none }
def fnChartCoalesceRow : OpenClaim := { program := "ytogfpbnbojhpoaa", sum := "c94a07ab1b5b74cd567805d1629e7241de8f496827f0141512c6fd81bda3e0fd", func := "given.example/pub-antistrophe/laws.FnChartCoalesce", spec := "fnChartCoalesce", unfollowed := true, recurses := true, loops := true, apart := false }
def FnChartCoalesceSaid : Prop := fnChartCoalesceRow.holds Try.pinned (OpenSpec.ofChange fnChartCoalesceSpec)

/-- ITS FALSE NEIGHBOUR: 'it returns false'. Refute it at one input. -/
def fnChartCoalesceWrong : ChangeSpec := { name := "fnChartCoalesce", fn := fun _ => fun
  | [d1, d2] => { results := [.lit (.bool false)], args := [d1, d2] }
  | _ => none }
def FnChartCoalesceWrongFalsely : Prop := fnChartCoalesceRow.holds Try.pinned (OpenSpec.ofChange fnChartCoalesceWrong)

/- THE SECOND FORM. 'bulk': how many values and letters a reading holds, each counted each time it is reached (what is shared counts as often as it is met; a slice's spare places count too). A statement '..UptoSaid' is the law's where the arguments, and the package variables that the reading takes, are together of bulk at most 1048576: NARROWER than '..Said'. Prove '..Said' where nothing that the law and all that it calls make is longer than what came in: it says more and counts as full. Else prove '..UptoSaid'. A law counts once. -/
mutual
def uptoBulk {H : Type} : DataW H → Nat
  | .lit (.string bytes) => bytes.length + 1
  | .lit _ => 1
  | .nil => 1
  | .ptr d => uptoBulk d + 1
  | .slice elems spare => uptoBulkAll elems + uptoBulkAll spare + 1
  | .agg parts => uptoBulkAll parts + 1
  | .iface _ d => uptoBulk d + 1
  | .map entries => uptoBulkEntries entries + 1
  | .held _ => 1
def uptoBulkAll {H : Type} : List (DataW H) → Nat
  | [] => 0
  | d :: r => uptoBulk d + uptoBulkAll r
def uptoBulkEntries {H : Type} : List (Lit × DataW H) → Nat
  | [] => 0
  | x :: r => uptoBulkEntry x + uptoBulkEntries r
def uptoBulkEntry {H : Type} : Lit × DataW H → Nat
  | (.string bytes, d) => bytes.length + uptoBulk d + 1
  | (_, d) => uptoBulk d + 1
 end
def uptoSmall : (H : Type) → List (DataW H) → Bool := fun _ ds => decide (uptoBulkAll ds ≤ 1048576)
def OpenSpec.upto (s : _root_.Go.ChangeSpec) : _root_.Go.OpenSpec := { _root_.Go.OpenSpec.ofChange s with cond := some uptoSmall }

/-- 'laws.FnWantTags', WHERE WHAT IT READS IS OF BULK AT MOST 1048576: true; the input reads as it did. -/
def fnWantTagsUptoRow : OpenClaim := { program := "ytogfpbnbojhpoaa", sum := "c94a07ab1b5b74cd567805d1629e7241de8f496827f0141512c6fd81bda3e0fd", func := "given.example/pub-antistrophe/laws.FnWantTags", spec := "fnWantTags", unfollowed := true, recurses := true, loops := true, apart := false, narrowed := true }
def FnWantTagsUptoSaid : Prop := fnWantTagsUptoRow.holds Try.pinned (OpenSpec.upto fnWantTagsSpec)

/-- 'laws.FnTablesMerge', WHERE WHAT IT READS IS OF BULK AT MOST 1048576: true; the input reads as it did. -/
def fnTablesMergeUptoRow : OpenClaim := { program := "ytogfpbnbojhpoaa", sum := "c94a07ab1b5b74cd567805d1629e7241de8f496827f0141512c6fd81bda3e0fd", func := "given.example/pub-antistrophe/laws.FnTablesMerge", spec := "fnTablesMerge", unfollowed := true, recurses := true, loops := true, apart := false, narrowed := true }
def FnTablesMergeUptoSaid : Prop := fnTablesMergeUptoRow.holds Try.pinned (OpenSpec.upto fnTablesMergeSpec)

/-- 'laws.FnTableAt', WHERE WHAT IT READS IS OF BULK AT MOST 1048576: true; the input reads as it did. -/
def fnTableAtUptoRow : OpenClaim := { program := "ytogfpbnbojhpoaa", sum := "c94a07ab1b5b74cd567805d1629e7241de8f496827f0141512c6fd81bda3e0fd", func := "given.example/pub-antistrophe/laws.FnTableAt", spec := "fnTableAt", unfollowed := true, recurses := true, loops := true, apart := false, narrowed := true }
def FnTableAtUptoSaid : Prop := fnTableAtUptoRow.holds Try.pinned (OpenSpec.upto fnTableAtSpec)

/-- 'laws.FnTablesNone', WHERE WHAT IT READS IS OF BULK AT MOST 1048576: true; the input reads as it did. -/
def fnTablesNoneUptoRow : OpenClaim := { program := "ytogfpbnbojhpoaa", sum := "c94a07ab1b5b74cd567805d1629e7241de8f496827f0141512c6fd81bda3e0fd", func := "given.example/pub-antistrophe/laws.FnTablesNone", spec := "fnTablesNone", unfollowed := true, recurses := true, loops := true, apart := false, narrowed := true }
def FnTablesNoneUptoSaid : Prop := fnTablesNoneUptoRow.holds Try.pinned (OpenSpec.upto fnTablesNoneSpec)

/-- 'laws.FnTablesGlobals', WHERE WHAT IT READS IS OF BULK AT MOST 1048576: true; the input reads as it did. -/
def fnTablesGlobalsUptoRow : OpenClaim := { program := "ytogfpbnbojhpoaa", sum := "c94a07ab1b5b74cd567805d1629e7241de8f496827f0141512c6fd81bda3e0fd", func := "given.example/pub-antistrophe/laws.FnTablesGlobals", spec := "fnTablesGlobals", unfollowed := true, recurses := true, loops := true, apart := false, narrowed := true }
def FnTablesGlobalsUptoSaid : Prop := fnTablesGlobalsUptoRow.holds Try.pinned (OpenSpec.upto fnTablesGlobalsSpec)

/-- 'laws.FnChartCoalesce', WHERE WHAT IT READS IS OF BULK AT MOST 1048576: true; the input reads as it did. -/
def fnChartCoalesceUptoRow : OpenClaim := { program := "ytogfpbnbojhpoaa", sum := "c94a07ab1b5b74cd567805d1629e7241de8f496827f0141512c6fd81bda3e0fd", func := "given.example/pub-antistrophe/laws.FnChartCoalesce", spec := "fnChartCoalesce", unfollowed := true, recurses := true, loops := true, apart := false, narrowed := true }
def FnChartCoalesceUptoSaid : Prop := fnChartCoalesceUptoRow.holds Try.pinned (OpenSpec.upto fnChartCoalesceSpec)

end Rows
end Go.Proofs.Ytogfpbnbojhpoaa
