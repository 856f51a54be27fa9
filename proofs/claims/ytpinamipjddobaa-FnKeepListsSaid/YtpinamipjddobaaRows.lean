/-
  NARROWER THAN 'FOR EVERY INPUT', by the rows' own cells (each row's printed sentence says how): FnRoadSetTwo: loops · FnTreeAt: loops · FnTreeClear: loops · FnTreeMatch: loops · FnRoadElement: loops · FnTreeSetElement: loops · FnTreeNames: loops · FnKeepLists: loops.
  DERIVED. THE GIVEN ROWS OF THIS SEAT. 9 by the template 'for every input the law returns true; each argument reads behind the call as it read before'; 0 by the template 'total and deterministic' (their statements: YtpinamipjddobaaTotals.lean).
  GIVEN WITH THE SEED: the statements are not yours to turn. If you find one false, say at which input.
  Laid BY PROGRAM, IN A SANDBOX (cutbox-rows.mjs): the forced cells as the released guide's own fill.sh prints them over the translation 37c48bed5ae7b83d… (all of the seat's roots in one cut). By AI agents, Wed Nov 11 2026. No macro, syntax, notation, axiom, sorry.
-/
import Derived.Test.YtpinamipjddobaaChecked
import GoSem.Claim
import GoSem.ClaimJoined
import GoSem.ClaimMapViews
import Derived.JoinedTies
import Derived.KernelRfl
namespace Go.Proofs.Ytpinamipjddobaa
/- THE CELL 'sum', in the pinned program and in every row, IS THE sha256 OF THE DUMP (.gsa) THAT YtpinamipjddobaaProg.lean LOADS. Nothing in Lean hashes anything: it is a label: what it is worth is what the hold of that sum in a sandbox is worth. -/
noncomputable def Try.pinned : Pinned := { name := "ytpinamipjddobaa", sum := "37c48bed5ae7b83d93f0b2e69e4e27a5cbf1fba912a882188a7c887ceb4410ed", checked := Try.checked }
namespace Rows
def none {H : Type} : Left H := { results := [], args := [] }

/-- 'laws.FnRoadSetTwo': WHATEVER THE INPUT: true; the input reads as it did. -/
def fnRoadSetTwoSpec : ChangeSpec := { name := "fnRoadSetTwo", fn := fun _ => fun
  | [d1, d2, d3, d4, d5] => { results := [.lit (.bool true)], args := [d1, d2, d3, d4, d5] }
  | _ => none }
def fnRoadSetTwoRow : OpenClaim := { program := "ytpinamipjddobaa", sum := "37c48bed5ae7b83d93f0b2e69e4e27a5cbf1fba912a882188a7c887ceb4410ed", func := "given.example/pub-antistrophe/laws.FnRoadSetTwo", spec := "fnRoadSetTwo", unfollowed := true, recurses := true, loops := true, apart := false }
def FnRoadSetTwoSaid : Prop := fnRoadSetTwoRow.holds Try.pinned (OpenSpec.ofChange fnRoadSetTwoSpec)

/-- ITS FALSE NEIGHBOUR: 'it returns false'. Refute it at one input. -/
def fnRoadSetTwoWrong : ChangeSpec := { name := "fnRoadSetTwo", fn := fun _ => fun
  | [d1, d2, d3, d4, d5] => { results := [.lit (.bool false)], args := [d1, d2, d3, d4, d5] }
  | _ => none }
def FnRoadSetTwoWrongFalsely : Prop := fnRoadSetTwoRow.holds Try.pinned (OpenSpec.ofChange fnRoadSetTwoWrong)

/-- 'laws.FnRoadPrefix': WHATEVER THE INPUT: true; the input reads as it did. -/
def fnRoadPrefixSpec : ChangeSpec := { name := "fnRoadPrefix", fn := fun _ => fun
  | [d1, d2] => { results := [.lit (.bool true)], args := [d1, d2] }
  | _ => none }
def fnRoadPrefixRow : OpenClaim := { program := "ytpinamipjddobaa", sum := "37c48bed5ae7b83d93f0b2e69e4e27a5cbf1fba912a882188a7c887ceb4410ed", func := "given.example/pub-antistrophe/laws.FnRoadPrefix", spec := "fnRoadPrefix", unfollowed := true, recurses := true, apart := false }
def FnRoadPrefixSaid : Prop := fnRoadPrefixRow.holds Try.pinned (OpenSpec.ofChange fnRoadPrefixSpec)

/-- ITS FALSE NEIGHBOUR: 'it returns false'. Refute it at one input. -/
def fnRoadPrefixWrong : ChangeSpec := { name := "fnRoadPrefix", fn := fun _ => fun
  | [d1, d2] => { results := [.lit (.bool false)], args := [d1, d2] }
  | _ => none }
def FnRoadPrefixWrongFalsely : Prop := fnRoadPrefixRow.holds Try.pinned (OpenSpec.ofChange fnRoadPrefixWrong)

/-- 'laws.FnTreeAt': WHATEVER THE INPUT: true; the input reads as it did. -/
def fnTreeAtSpec : ChangeSpec := { name := "fnTreeAt", fn := fun _ => fun
  | [d1, d2] => { results := [.lit (.bool true)], args := [d1, d2] }
  | _ => none }
def fnTreeAtRow : OpenClaim := { program := "ytpinamipjddobaa", sum := "37c48bed5ae7b83d93f0b2e69e4e27a5cbf1fba912a882188a7c887ceb4410ed", func := "given.example/pub-antistrophe/laws.FnTreeAt", spec := "fnTreeAt", unfollowed := true, recurses := true, loops := true, apart := false }
def FnTreeAtSaid : Prop := fnTreeAtRow.holds Try.pinned (OpenSpec.ofChange fnTreeAtSpec)

/-- ITS FALSE NEIGHBOUR: 'it returns false'. Refute it at one input. -/
def fnTreeAtWrong : ChangeSpec := { name := "fnTreeAt", fn := fun _ => fun
  | [d1, d2] => { results := [.lit (.bool false)], args := [d1, d2] }
  | _ => none }
def FnTreeAtWrongFalsely : Prop := fnTreeAtRow.holds Try.pinned (OpenSpec.ofChange fnTreeAtWrong)

/-- 'laws.FnTreeClear': WHATEVER THE INPUT: true; the input reads as it did. -/
def fnTreeClearSpec : ChangeSpec := { name := "fnTreeClear", fn := fun _ => fun
  | [d1, d2, d3] => { results := [.lit (.bool true)], args := [d1, d2, d3] }
  | _ => none }
def fnTreeClearRow : OpenClaim := { program := "ytpinamipjddobaa", sum := "37c48bed5ae7b83d93f0b2e69e4e27a5cbf1fba912a882188a7c887ceb4410ed", func := "given.example/pub-antistrophe/laws.FnTreeClear", spec := "fnTreeClear", unfollowed := true, recurses := true, loops := true, apart := false }
def FnTreeClearSaid : Prop := fnTreeClearRow.holds Try.pinned (OpenSpec.ofChange fnTreeClearSpec)

/-- ITS FALSE NEIGHBOUR: 'it returns false'. Refute it at one input. -/
def fnTreeClearWrong : ChangeSpec := { name := "fnTreeClear", fn := fun _ => fun
  | [d1, d2, d3] => { results := [.lit (.bool false)], args := [d1, d2, d3] }
  | _ => none }
def FnTreeClearWrongFalsely : Prop := fnTreeClearRow.holds Try.pinned (OpenSpec.ofChange fnTreeClearWrong)

/-- 'laws.FnTreeMatch': WHATEVER THE INPUT: true; the input reads as it did. -/
def fnTreeMatchSpec : ChangeSpec := { name := "fnTreeMatch", fn := fun _ => fun
  | [d1, d2, d3] => { results := [.lit (.bool true)], args := [d1, d2, d3] }
  | _ => none }
def fnTreeMatchRow : OpenClaim := { program := "ytpinamipjddobaa", sum := "37c48bed5ae7b83d93f0b2e69e4e27a5cbf1fba912a882188a7c887ceb4410ed", func := "given.example/pub-antistrophe/laws.FnTreeMatch", spec := "fnTreeMatch", unfollowed := true, recurses := true, loops := true, apart := false }
def FnTreeMatchSaid : Prop := fnTreeMatchRow.holds Try.pinned (OpenSpec.ofChange fnTreeMatchSpec)

/-- ITS FALSE NEIGHBOUR: 'it returns false'. Refute it at one input. -/
def fnTreeMatchWrong : ChangeSpec := { name := "fnTreeMatch", fn := fun _ => fun
  | [d1, d2, d3] => { results := [.lit (.bool false)], args := [d1, d2, d3] }
  | _ => none }
def FnTreeMatchWrongFalsely : Prop := fnTreeMatchRow.holds Try.pinned (OpenSpec.ofChange fnTreeMatchWrong)

/-- 'laws.FnRoadElement': WHATEVER THE INPUT: true; the input reads as it did. -/
def fnRoadElementSpec : ChangeSpec := { name := "fnRoadElement", fn := fun _ => fun
  | [d1, d2, d3, d4] => { results := [.lit (.bool true)], args := [d1, d2, d3, d4] }
  | _ => none }
def fnRoadElementRow : OpenClaim := { program := "ytpinamipjddobaa", sum := "37c48bed5ae7b83d93f0b2e69e4e27a5cbf1fba912a882188a7c887ceb4410ed", func := "given.example/pub-antistrophe/laws.FnRoadElement", spec := "fnRoadElement", unfollowed := true, recurses := true, loops := true, apart := false }
def FnRoadElementSaid : Prop := fnRoadElementRow.holds Try.pinned (OpenSpec.ofChange fnRoadElementSpec)

/-- ITS FALSE NEIGHBOUR: 'it returns false'. Refute it at one input. -/
def fnRoadElementWrong : ChangeSpec := { name := "fnRoadElement", fn := fun _ => fun
  | [d1, d2, d3, d4] => { results := [.lit (.bool false)], args := [d1, d2, d3, d4] }
  | _ => none }
def FnRoadElementWrongFalsely : Prop := fnRoadElementRow.holds Try.pinned (OpenSpec.ofChange fnRoadElementWrong)

/-- 'laws.FnTreeSetElement': WHATEVER THE INPUT: true; the input reads as it did. -/
def fnTreeSetElementSpec : ChangeSpec := { name := "fnTreeSetElement", fn := fun _ => fun
  | [d1, d2, d3, d4] => { results := [.lit (.bool true)], args := [d1, d2, d3, d4] }
  | _ => none }
def fnTreeSetElementRow : OpenClaim := { program := "ytpinamipjddobaa", sum := "37c48bed5ae7b83d93f0b2e69e4e27a5cbf1fba912a882188a7c887ceb4410ed", func := "given.example/pub-antistrophe/laws.FnTreeSetElement", spec := "fnTreeSetElement", unfollowed := true, recurses := true, loops := true, apart := false }
def FnTreeSetElementSaid : Prop := fnTreeSetElementRow.holds Try.pinned (OpenSpec.ofChange fnTreeSetElementSpec)

/-- ITS FALSE NEIGHBOUR: 'it returns false'. Refute it at one input. -/
def fnTreeSetElementWrong : ChangeSpec := { name := "fnTreeSetElement", fn := fun _ => fun
  | [d1, d2, d3, d4] => { results := [.lit (.bool false)], args := [d1, d2, d3, d4] }
  | _ => none }
def FnTreeSetElementWrongFalsely : Prop := fnTreeSetElementRow.holds Try.pinned (OpenSpec.ofChange fnTreeSetElementWrong)

/-- 'laws.FnTreeNames': WHATEVER THE INPUT: true; the input reads as it did. -/
def fnTreeNamesSpec : ChangeSpec := { name := "fnTreeNames", fn := fun _ => fun
  | [d] => { results := [.lit (.bool true)], args := [d] }
  | _ => none }
def fnTreeNamesRow : OpenClaim := { program := "ytpinamipjddobaa", sum := "37c48bed5ae7b83d93f0b2e69e4e27a5cbf1fba912a882188a7c887ceb4410ed", func := "given.example/pub-antistrophe/laws.FnTreeNames", spec := "fnTreeNames", unfollowed := true, recurses := true, loops := true, apart := false }
def FnTreeNamesSaid : Prop := fnTreeNamesRow.holds Try.pinned (OpenSpec.ofChange fnTreeNamesSpec)

/-- ITS FALSE NEIGHBOUR: 'it returns false'. Refute it at one input. -/
def fnTreeNamesWrong : ChangeSpec := { name := "fnTreeNames", fn := fun _ => fun
  | [d] => { results := [.lit (.bool false)], args := [d] }
  | _ => none }
def FnTreeNamesWrongFalsely : Prop := fnTreeNamesRow.holds Try.pinned (OpenSpec.ofChange fnTreeNamesWrong)

/-- 'laws.FnKeepLists': WHATEVER THE INPUT: true; the input reads as it did. -/
def fnKeepListsSpec : ChangeSpec := { name := "fnKeepLists", fn := fun _ => fun
  | [d1, d2, d3, d4] => { results := [.lit (.bool true)], args := [d1, d2, d3, d4] }
  | _ => none }
def fnKeepListsRow : OpenClaim := { program := "ytpinamipjddobaa", sum := "37c48bed5ae7b83d93f0b2e69e4e27a5cbf1fba912a882188a7c887ceb4410ed", func := "given.example/pub-antistrophe/laws.FnKeepLists", spec := "fnKeepLists", unfollowed := true, recurses := true, loops := true, apart := false }
def FnKeepListsSaid : Prop := fnKeepListsRow.holds Try.pinned (OpenSpec.ofChange fnKeepListsSpec)

/-- ITS FALSE NEIGHBOUR: 'it returns false'. Refute it at one input. -/
def fnKeepListsWrong : ChangeSpec := { name := "fnKeepLists", fn := fun _ => fun
  | [d1, d2, d3, d4] => { results := [.lit (.bool false)], args := [d1, d2, d3, d4] }
  | _ => none }
def FnKeepListsWrongFalsely : Prop := fnKeepListsRow.holds Try.pinned (OpenSpec.ofChange fnKeepListsWrong)

/- THE SECOND FORM. 'bulk': how many values and letters a reading holds, each counted each time it is reached (what is shared counts as often as it is met; a slice's spare places count too). A statement '..UptoSaid' is the law's where the arguments, and the package variables that the reading takes, are together of bulk at most 1048576: NARROWER than '..Said'. Prove '..Said' where nothing that the law and all that it calls make is longer than what came in: it says more and counts as full. Else prove '..UptoSaid'. A law counts once. -/
mutual
def uptoBulk {H : Type} : DataW H → Nat
  | .lit (.string bytes) => bytes.length + 1
  | .lit _ => 1
  | .nil => 1
  | .ptr d => uptoBulk d + 1
  | .slice elems spare => uptoBulkAll elems + uptoBulkAll spare + 1
  | .agg parts => uptoBulkAll parts + 1
  | .iface _ d => uptoBulk d + 1
  | .map entries => uptoBulkEntries entries + 1
  | .held _ => 1
def uptoBulkAll {H : Type} : List (DataW H) → Nat
  | [] => 0
  | d :: r => uptoBulk d + uptoBulkAll r
def uptoBulkEntries {H : Type} : List (Lit × DataW H) → Nat
  | [] => 0
  | x :: r => uptoBulkEntry x + uptoBulkEntries r
def uptoBulkEntry {H : Type} : Lit × DataW H → Nat
  | (.string bytes, d) => bytes.length + uptoBulk d + 1
  | (_, d) => uptoBulk d + 1
 end
def uptoSmall : (H : Type) → List (DataW H) → Bool := fun _ ds => decide (uptoBulkAll ds ≤ 1048576)
def OpenSpec.upto (s : _root_.Go.ChangeSpec) : _root_.Go.OpenSpec := { _root_.Go.OpenSpec.ofChange s with cond := some uptoSmall }

/-- 'laws.FnRoadSetTwo', WHERE WHAT IT READS IS OF BULK AT MOST 1048576: true; the input reads as it did. -/
def fnRoadSetTwoUptoRow : OpenClaim := { program := "ytpinamipjddobaa", sum := "37c48bed5ae7b83d93f0b2e69e4e27a5cbf1fba912a882188a7c887ceb4410ed", func := "given.example/pub-antistrophe/laws.FnRoadSetTwo", spec := "fnRoadSetTwo", unfollowed := true, recurses := true, loops := true, apart := false, narrowed := true }
def FnRoadSetTwoUptoSaid : Prop := fnRoadSetTwoUptoRow.holds Try.pinned (OpenSpec.upto fnRoadSetTwoSpec)

/-- 'laws.FnRoadPrefix', WHERE WHAT IT READS IS OF BULK AT MOST 1048576: true; the input reads as it did. -/
def fnRoadPrefixUptoRow : OpenClaim := { program := "ytpinamipjddobaa", sum := "37c48bed5ae7b83d93f0b2e69e4e27a5cbf1fba912a882188a7c887ceb4410ed", func := "given.example/pub-antistrophe/laws.FnRoadPrefix", spec := "fnRoadPrefix", unfollowed := true, recurses := true, apart := false, narrowed := true }
def FnRoadPrefixUptoSaid : Prop := fnRoadPrefixUptoRow.holds Try.pinned (OpenSpec.upto fnRoadPrefixSpec)

/-- 'laws.FnTreeAt', WHERE WHAT IT READS IS OF BULK AT MOST 1048576: true; the input reads as it did. -/
def fnTreeAtUptoRow : OpenClaim := { program := "ytpinamipjddobaa", sum := "37c48bed5ae7b83d93f0b2e69e4e27a5cbf1fba912a882188a7c887ceb4410ed", func := "given.example/pub-antistrophe/laws.FnTreeAt", spec := "fnTreeAt", unfollowed := true, recurses := true, loops := true, apart := false, narrowed := true }
def FnTreeAtUptoSaid : Prop := fnTreeAtUptoRow.holds Try.pinned (OpenSpec.upto fnTreeAtSpec)

/-- 'laws.FnTreeClear', WHERE WHAT IT READS IS OF BULK AT MOST 1048576: true; the input reads as it did. -/
def fnTreeClearUptoRow : OpenClaim := { program := "ytpinamipjddobaa", sum := "37c48bed5ae7b83d93f0b2e69e4e27a5cbf1fba912a882188a7c887ceb4410ed", func := "given.example/pub-antistrophe/laws.FnTreeClear", spec := "fnTreeClear", unfollowed := true, recurses := true, loops := true, apart := false, narrowed := true }
def FnTreeClearUptoSaid : Prop := fnTreeClearUptoRow.holds Try.pinned (OpenSpec.upto fnTreeClearSpec)

/-- 'laws.FnTreeMatch', WHERE WHAT IT READS IS OF BULK AT MOST 1048576: true; the input reads as it did. -/
def fnTreeMatchUptoRow : OpenClaim := { program := "ytpinamipjddobaa", sum := "37c48bed5ae7b83d93f0b2e69e4e27a5cbf1fba912a882188a7c887ceb4410ed", func := "given.example/pub-antistrophe/laws.FnTreeMatch", spec := "fnTreeMatch", unfollowed := true, recurses := true, loops := true, apart := false, narrowed := true }
def FnTreeMatchUptoSaid : Prop := fnTreeMatchUptoRow.holds Try.pinned (OpenSpec.upto fnTreeMatchSpec)

/-- 'laws.FnRoadElement', WHERE WHAT IT READS IS OF BULK AT MOST 1048576: true; the input reads as it did. -/
def fnRoadElementUptoRow : OpenClaim := { program := "ytpinamipjddobaa", sum := "37c48bed5ae7b83d93f0b2e69e4e27a5cbf1fba912a882188a7c887ceb4410ed", func := "given.example/pub-antistrophe/laws.FnRoadElement", spec := "fnRoadElement", unfollowed := true, recurses := true, loops := true, apart := false, narrowed := true }
def FnRoadElementUptoSaid : Prop := fnRoadElementUptoRow.holds Try.pinned (OpenSpec.upto fnRoadElementSpec)

/-- 'laws.FnTreeSetElement', WHERE WHAT IT READS IS OF BULK AT MOST 1048576: true; the input reads as it did. -/
def fnTreeSetElementUptoRow : OpenClaim := { program := "ytpinamipjddobaa", sum := "37c48bed5ae7b83d93f0b2e69e4e27a5cbf1fba912a882188a7c887ceb4410ed", func := "given.example/pub-antistrophe/laws.FnTreeSetElement", spec := "fnTreeSetElement", unfollowed := true, recurses := true, loops := true, apart := false, narrowed := true }
def FnTreeSetElementUptoSaid : Prop := fnTreeSetElementUptoRow.holds Try.pinned (OpenSpec.upto fnTreeSetElementSpec)

/-- 'laws.FnTreeNames', WHERE WHAT IT READS IS OF BULK AT MOST 1048576: true; the input reads as it did. -/
def fnTreeNamesUptoRow : OpenClaim := { program := "ytpinamipjddobaa", sum := "37c48bed5ae7b83d93f0b2e69e4e27a5cbf1fba912a882188a7c887ceb4410ed", func := "given.example/pub-antistrophe/laws.FnTreeNames", spec := "fnTreeNames", unfollowed := true, recurses := true, loops := true, apart := false, narrowed := true }
def FnTreeNamesUptoSaid : Prop := fnTreeNamesUptoRow.holds Try.pinned (OpenSpec.upto fnTreeNamesSpec)

/-- 'laws.FnKeepLists', WHERE WHAT IT READS IS OF BULK AT MOST 1048576: true; the input reads as it did. -/
def fnKeepListsUptoRow : OpenClaim := { program := "ytpinamipjddobaa", sum := "37c48bed5ae7b83d93f0b2e69e4e27a5cbf1fba912a882188a7c887ceb4410ed", func := "given.example/pub-antistrophe/laws.FnKeepLists", spec := "fnKeepLists", unfollowed := true, recurses := true, loops := true, apart := false, narrowed := true }
def FnKeepListsUptoSaid : Prop := fnKeepListsUptoRow.holds Try.pinned (OpenSpec.upto fnKeepListsSpec)

end Rows
end Go.Proofs.Ytpinamipjddobaa
