/-
  No cell of these rows narrows 'for every input' (looked for: loops, veiled, ifaces, maps, wideKeys, modest, calm, conditions, laid).
  DERIVED. THE GIVEN ROWS OF THIS SEAT. 4 by the template 'for every input the law returns true; each argument reads behind the call as it read before'; 0 by the template 'total and deterministic' (their statements: YtdomnigegpigiabTotals.lean).
  GIVEN WITH THE SEED: the statements are not yours to turn. If you find one false, say at which input.
  Laid BY PROGRAM, IN A SANDBOX (cutbox-rows.mjs): the forced cells as the released guide's own fill.sh prints them over the translation a73dfd95de81fde8… (all of the seat's roots in one cut). By AI agents, Wed Nov 11 2026. No macro, syntax, notation, axiom, sorry.
-/
import Derived.Test.YtdomnigegpigiabChecked
import GoSem.Claim
import GoSem.ClaimJoined
import GoSem.ClaimMapViews
import Derived.JoinedTies
import Derived.KernelRfl
namespace Go.Proofs.Ytdomnigegpigiab
/- THE CELL 'sum', in the pinned program and in every row, IS THE sha256 OF THE DUMP (.gsa) THAT YtdomnigegpigiabProg.lean LOADS. Nothing in Lean hashes anything: it is a label: what it is worth is what the hold of that sum in a sandbox is worth. -/
noncomputable def Try.pinned : Pinned := { name := "ytdomnigegpigiab", sum := "a73dfd95de81fde8f36012bfb42cae97bc33b600e80e2e11f167cc9aa12056a1", checked := Try.checked }
namespace Rows
def none {H : Type} : Left H := { results := [], args := [] }

/-- 'laws.FnKeyMerge': WHATEVER THE INPUT: true; the input reads as it did. -/
def fnKeyMergeSpec : ChangeSpec := { name := "fnKeyMerge", fn := fun _ => fun
  | [d1, d2] => { results := [.lit (.bool true)], args := [d1, d2] }
  | _ => none }
def fnKeyMergeRow : OpenClaim := { program := "ytdomnigegpigiab", sum := "a73dfd95de81fde8f36012bfb42cae97bc33b600e80e2e11f167cc9aa12056a1", func := "given.example/pub-antistrophe/laws.FnKeyMerge", spec := "fnKeyMerge", apart := false }
def FnKeyMergeSaid : Prop := fnKeyMergeRow.holds Try.pinned (OpenSpec.ofChange fnKeyMergeSpec)

/-- ITS FALSE NEIGHBOUR: 'it returns false'. Refute it at one input. -/
def fnKeyMergeWrong : ChangeSpec := { name := "fnKeyMerge", fn := fun _ => fun
  | [d1, d2] => { results := [.lit (.bool false)], args := [d1, d2] }
  | _ => none }
def FnKeyMergeWrongFalsely : Prop := fnKeyMergeRow.holds Try.pinned (OpenSpec.ofChange fnKeyMergeWrong)

/-- 'laws.FnSplitIndex': WHATEVER THE INPUT: true; the input reads as it did. -/
def fnSplitIndexSpec : ChangeSpec := { name := "fnSplitIndex", fn := fun _ => fun
  | [d1, d2] => { results := [.lit (.bool true)], args := [d1, d2] }
  | _ => none }
def fnSplitIndexRow : OpenClaim := { program := "ytdomnigegpigiab", sum := "a73dfd95de81fde8f36012bfb42cae97bc33b600e80e2e11f167cc9aa12056a1", func := "given.example/pub-antistrophe/laws.FnSplitIndex", spec := "fnSplitIndex", apart := false }
def FnSplitIndexSaid : Prop := fnSplitIndexRow.holds Try.pinned (OpenSpec.ofChange fnSplitIndexSpec)

/-- ITS FALSE NEIGHBOUR: 'it returns false'. Refute it at one input. -/
def fnSplitIndexWrong : ChangeSpec := { name := "fnSplitIndex", fn := fun _ => fun
  | [d1, d2] => { results := [.lit (.bool false)], args := [d1, d2] }
  | _ => none }
def FnSplitIndexWrongFalsely : Prop := fnSplitIndexRow.holds Try.pinned (OpenSpec.ofChange fnSplitIndexWrong)

/-- 'laws.FnPathSplit': WHATEVER THE INPUT: true; the input reads as it did. -/
def fnPathSplitSpec : ChangeSpec := { name := "fnPathSplit", fn := fun _ => fun
  | [d1, d2] => { results := [.lit (.bool true)], args := [d1, d2] }
  | _ => none }
def fnPathSplitRow : OpenClaim := { program := "ytdomnigegpigiab", sum := "a73dfd95de81fde8f36012bfb42cae97bc33b600e80e2e11f167cc9aa12056a1", func := "given.example/pub-antistrophe/laws.FnPathSplit", spec := "fnPathSplit", apart := false }
def FnPathSplitSaid : Prop := fnPathSplitRow.holds Try.pinned (OpenSpec.ofChange fnPathSplitSpec)

/-- ITS FALSE NEIGHBOUR: 'it returns false'. Refute it at one input. -/
def fnPathSplitWrong : ChangeSpec := { name := "fnPathSplit", fn := fun _ => fun
  | [d1, d2] => { results := [.lit (.bool false)], args := [d1, d2] }
  | _ => none }
def FnPathSplitWrongFalsely : Prop := fnPathSplitRow.holds Try.pinned (OpenSpec.ofChange fnPathSplitWrong)

/-- 'laws.FnGvkBack': WHATEVER THE INPUT: true; the input reads as it did. -/
def fnGvkBackSpec : ChangeSpec := { name := "fnGvkBack", fn := fun _ => fun
  | [d1, d2] => { results := [.lit (.bool true)], args := [d1, d2] }
  | _ => none }
def fnGvkBackRow : OpenClaim := { program := "ytdomnigegpigiab", sum := "a73dfd95de81fde8f36012bfb42cae97bc33b600e80e2e11f167cc9aa12056a1", func := "given.example/pub-antistrophe/laws.FnGvkBack", spec := "fnGvkBack", inPlace := ["internal/abi.NoEscape", "internal/bytealg.MakeNoZero"], apart := false }
def FnGvkBackSaid : Prop := fnGvkBackRow.holds Try.pinned (OpenSpec.ofChange fnGvkBackSpec)

/-- ITS FALSE NEIGHBOUR: 'it returns false'. Refute it at one input. -/
def fnGvkBackWrong : ChangeSpec := { name := "fnGvkBack", fn := fun _ => fun
  | [d1, d2] => { results := [.lit (.bool false)], args := [d1, d2] }
  | _ => none }
def FnGvkBackWrongFalsely : Prop := fnGvkBackRow.holds Try.pinned (OpenSpec.ofChange fnGvkBackWrong)

/- THE SECOND FORM. 'bulk': how many values and letters a reading holds, each counted each time it is reached (what is shared counts as often as it is met; a slice's spare places count too). A statement '..UptoSaid' is the law's where the arguments, and the package variables that the reading takes, are together of bulk at most 1048576: NARROWER than '..Said'. Prove '..Said' where nothing that the law and all that it calls make is longer than what came in: it says more and counts as full. Else prove '..UptoSaid'. A law counts once. -/
mutual
def uptoBulk {H : Type} : DataW H → Nat
  | .lit (.string bytes) => bytes.length + 1
  | .lit _ => 1
  | .nil => 1
  | .ptr d => uptoBulk d + 1
  | .slice elems spare => uptoBulkAll elems + uptoBulkAll spare + 1
  | .agg parts => uptoBulkAll parts + 1
  | .iface _ d => uptoBulk d + 1
  | .map entries => uptoBulkEntries entries + 1
  | .held _ => 1
def uptoBulkAll {H : Type} : List (DataW H) → Nat
  | [] => 0
  | d :: r => uptoBulk d + uptoBulkAll r
def uptoBulkEntries {H : Type} : List (Lit × DataW H) → Nat
  | [] => 0
  | x :: r => uptoBulkEntry x + uptoBulkEntries r
def uptoBulkEntry {H : Type} : Lit × DataW H → Nat
  | (.string bytes, d) => bytes.length + uptoBulk d + 1
  | (_, d) => uptoBulk d + 1
 end
def uptoSmall : (H : Type) → List (DataW H) → Bool := fun _ ds => decide (uptoBulkAll ds ≤ 1048576)
def OpenSpec.upto (s : _root_.Go.ChangeSpec) : _root_.Go.OpenSpec := { _root_.Go.OpenSpec.ofChange s with cond := some uptoSmall }

/-- 'laws.FnKeyMerge', WHERE WHAT IT READS IS OF BULK AT MOST 1048576: true; the input reads as it did. -/
def fnKeyMergeUptoRow : OpenClaim := { program := "ytdomnigegpigiab", sum := "a73dfd95de81fde8f36012bfb42cae97bc33b600e80e2e11f167cc9aa12056a1", func := "given.example/pub-antistrophe/laws.FnKeyMerge", spec := "fnKeyMerge", apart := false, narrowed := true }
def FnKeyMergeUptoSaid : Prop := fnKeyMergeUptoRow.holds Try.pinned (OpenSpec.upto fnKeyMergeSpec)

/-- 'laws.FnSplitIndex', WHERE WHAT IT READS IS OF BULK AT MOST 1048576: true; the input reads as it did. -/
def fnSplitIndexUptoRow : OpenClaim := { program := "ytdomnigegpigiab", sum := "a73dfd95de81fde8f36012bfb42cae97bc33b600e80e2e11f167cc9aa12056a1", func := "given.example/pub-antistrophe/laws.FnSplitIndex", spec := "fnSplitIndex", apart := false, narrowed := true }
def FnSplitIndexUptoSaid : Prop := fnSplitIndexUptoRow.holds Try.pinned (OpenSpec.upto fnSplitIndexSpec)

/-- 'laws.FnPathSplit', WHERE WHAT IT READS IS OF BULK AT MOST 1048576: true; the input reads as it did. -/
def fnPathSplitUptoRow : OpenClaim := { program := "ytdomnigegpigiab", sum := "a73dfd95de81fde8f36012bfb42cae97bc33b600e80e2e11f167cc9aa12056a1", func := "given.example/pub-antistrophe/laws.FnPathSplit", spec := "fnPathSplit", apart := false, narrowed := true }
def FnPathSplitUptoSaid : Prop := fnPathSplitUptoRow.holds Try.pinned (OpenSpec.upto fnPathSplitSpec)

/-- 'laws.FnGvkBack', WHERE WHAT IT READS IS OF BULK AT MOST 1048576: true; the input reads as it did. -/
def fnGvkBackUptoRow : OpenClaim := { program := "ytdomnigegpigiab", sum := "a73dfd95de81fde8f36012bfb42cae97bc33b600e80e2e11f167cc9aa12056a1", func := "given.example/pub-antistrophe/laws.FnGvkBack", spec := "fnGvkBack", inPlace := ["internal/abi.NoEscape", "internal/bytealg.MakeNoZero"], apart := false, narrowed := true }
def FnGvkBackUptoSaid : Prop := fnGvkBackUptoRow.holds Try.pinned (OpenSpec.upto fnGvkBackSpec)

end Rows
end Go.Proofs.Ytdomnigegpigiab
