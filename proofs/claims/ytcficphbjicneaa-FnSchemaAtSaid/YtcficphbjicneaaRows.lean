/-
  No cell of these rows narrows 'for every input' (looked for: loops, veiled, ifaces, maps, wideKeys, modest, calm, conditions, laid).
  DERIVED. THE GIVEN ROWS OF THIS SEAT. 4 by the template 'for every input the law returns true; each argument reads behind the call as it read before'; 0 by the template 'total and deterministic' (their statements: YtcficphbjicneaaTotals.lean).
  GIVEN WITH THE SEED: the statements are not yours to turn. If you find one false, say at which input.
  Laid BY PROGRAM, IN A SANDBOX (cutbox-rows.mjs): the forced cells as the released guide's own fill.sh prints them over the translation 7d24be908b929af7… (all of the seat's roots in one cut). By AI agents, Wed Nov 11 2026. No macro, syntax, notation, axiom, sorry.
-/
import Derived.Test.YtcficphbjicneaaChecked
import GoSem.Claim
import GoSem.ClaimJoined
import GoSem.ClaimMapViews
import Derived.JoinedTies
import Derived.KernelRfl
namespace Go.Proofs.Ytcficphbjicneaa
/- THE CELL 'sum', in the pinned program and in every row, IS THE sha256 OF THE DUMP (.gsa) THAT YtcficphbjicneaaProg.lean LOADS. Nothing in Lean hashes anything: it is a label: what it is worth is what the hold of that sum in a sandbox is worth. -/
noncomputable def Try.pinned : Pinned := { name := "ytcficphbjicneaa", sum := "7d24be908b929af788f70fd0c4a559ff08f153dc3bd0c968ca32004fee9ef722", checked := Try.checked }
namespace Rows
def none {H : Type} : Left H := { results := [], args := [] }

/-- 'laws.FnPathNames': WHATEVER THE INPUT: true; the input reads as it did. -/
def fnPathNamesSpec : ChangeSpec := { name := "fnPathNames", fn := fun _ => fun
  | [d1, d2] => { results := [.lit (.bool true)], args := [d1, d2] }
  | _ => none }
def fnPathNamesRow : OpenClaim := { program := "ytcficphbjicneaa", sum := "7d24be908b929af788f70fd0c4a559ff08f153dc3bd0c968ca32004fee9ef722", func := "given.example/pub-antistrophe/laws.FnPathNames", spec := "fnPathNames", apart := false }
def FnPathNamesSaid : Prop := fnPathNamesRow.holds Try.pinned (OpenSpec.ofChange fnPathNamesSpec)

/-- ITS FALSE NEIGHBOUR: 'it returns false'. Refute it at one input. -/
def fnPathNamesWrong : ChangeSpec := { name := "fnPathNames", fn := fun _ => fun
  | [d1, d2] => { results := [.lit (.bool false)], args := [d1, d2] }
  | _ => none }
def FnPathNamesWrongFalsely : Prop := fnPathNamesRow.holds Try.pinned (OpenSpec.ofChange fnPathNamesWrong)

/-- 'laws.FnIdBack': WHATEVER THE INPUT: true; the input reads as it did. -/
def fnIdBackSpec : ChangeSpec := { name := "fnIdBack", fn := fun _ => fun
  | [d] => { results := [.lit (.bool true)], args := [d] }
  | _ => none }
def fnIdBackRow : OpenClaim := { program := "ytcficphbjicneaa", sum := "7d24be908b929af788f70fd0c4a559ff08f153dc3bd0c968ca32004fee9ef722", func := "given.example/pub-antistrophe/laws.FnIdBack", spec := "fnIdBack", inPlace := ["internal/abi.NoEscape", "internal/bytealg.MakeNoZero"], unfollowed := true, recurses := true, apart := false }
def FnIdBackSaid : Prop := fnIdBackRow.holds Try.pinned (OpenSpec.ofChange fnIdBackSpec)

/-- ITS FALSE NEIGHBOUR: 'it returns false'. Refute it at one input. -/
def fnIdBackWrong : ChangeSpec := { name := "fnIdBack", fn := fun _ => fun
  | [d] => { results := [.lit (.bool false)], args := [d] }
  | _ => none }
def FnIdBackWrongFalsely : Prop := fnIdBackRow.holds Try.pinned (OpenSpec.ofChange fnIdBackWrong)

/-- 'laws.FnSeqIndentStyle': WHATEVER THE INPUT: true; the input reads as it did. -/
def fnSeqIndentStyleSpec : ChangeSpec := { name := "fnSeqIndentStyle", fn := fun _ => fun
  | [d] => { results := [.lit (.bool true)], args := [d] }
  | _ => none }
def fnSeqIndentStyleRow : OpenClaim := { program := "ytcficphbjicneaa", sum := "7d24be908b929af788f70fd0c4a559ff08f153dc3bd0c968ca32004fee9ef722", func := "given.example/pub-antistrophe/laws.FnSeqIndentStyle", spec := "fnSeqIndentStyle", apart := false }
def FnSeqIndentStyleSaid : Prop := fnSeqIndentStyleRow.holds Try.pinned (OpenSpec.ofChange fnSeqIndentStyleSpec)

/-- ITS FALSE NEIGHBOUR: 'it returns false'. Refute it at one input. -/
def fnSeqIndentStyleWrong : ChangeSpec := { name := "fnSeqIndentStyle", fn := fun _ => fun
  | [d] => { results := [.lit (.bool false)], args := [d] }
  | _ => none }
def FnSeqIndentStyleWrongFalsely : Prop := fnSeqIndentStyleRow.holds Try.pinned (OpenSpec.ofChange fnSeqIndentStyleWrong)

/-- 'laws.FnSchemaAt': WHATEVER THE INPUT: true; the input reads as it did. -/
def fnSchemaAtSpec : ChangeSpec := { name := "fnSchemaAt", fn := fun _ => fun
  | [d1, d2] => { results := [.lit (.bool true)], args := [d1, d2] }
  | _ => none }
def fnSchemaAtRow : OpenClaim := { program := "ytcficphbjicneaa", sum := "7d24be908b929af788f70fd0c4a559ff08f153dc3bd0c968ca32004fee9ef722", func := "given.example/pub-antistrophe/laws.FnSchemaAt", spec := "fnSchemaAt", unfollowed := true, recurses := true, apart := false }
def FnSchemaAtSaid : Prop := fnSchemaAtRow.holds Try.pinned (OpenSpec.ofChange fnSchemaAtSpec)

/-- ITS FALSE NEIGHBOUR: 'it returns false'. Refute it at one input. -/
def fnSchemaAtWrong : ChangeSpec := { name := "fnSchemaAt", fn := fun _ => fun
  | [d1, d2] => { results := [.lit (.bool false)], args := [d1, d2] }
  | _ => none }
def FnSchemaAtWrongFalsely : Prop := fnSchemaAtRow.holds Try.pinned (OpenSpec.ofChange fnSchemaAtWrong)

/- THE SECOND FORM. 'bulk': how many values and letters a reading holds, each counted each time it is reached (what is shared counts as often as it is met; a slice's spare places count too). A statement '..UptoSaid' is the law's where the arguments, and the package variables that the reading takes, are together of bulk at most 1048576: NARROWER than '..Said'. Prove '..Said' where nothing that the law and all that it calls make is longer than what came in: it says more and counts as full. Else prove '..UptoSaid'. A law counts once. -/
mutual
def uptoBulk {H : Type} : DataW H → Nat
  | .lit (.string bytes) => bytes.length + 1
  | .lit _ => 1
  | .nil => 1
  | .ptr d => uptoBulk d + 1
  | .slice elems spare => uptoBulkAll elems + uptoBulkAll spare + 1
  | .agg parts => uptoBulkAll parts + 1
  | .iface _ d => uptoBulk d + 1
  | .map entries => uptoBulkEntries entries + 1
  | .held _ => 1
def uptoBulkAll {H : Type} : List (DataW H) → Nat
  | [] => 0
  | d :: r => uptoBulk d + uptoBulkAll r
def uptoBulkEntries {H : Type} : List (Lit × DataW H) → Nat
  | [] => 0
  | x :: r => uptoBulkEntry x + uptoBulkEntries r
def uptoBulkEntry {H : Type} : Lit × DataW H → Nat
  | (.string bytes, d) => bytes.length + uptoBulk d + 1
  | (_, d) => uptoBulk d + 1
 end
def uptoSmall : (H : Type) → List (DataW H) → Bool := fun _ ds => decide (uptoBulkAll ds ≤ 1048576)
def OpenSpec.upto (s : _root_.Go.ChangeSpec) : _root_.Go.OpenSpec := { _root_.Go.OpenSpec.ofChange s with cond := some uptoSmall }

/-- 'laws.FnPathNames', WHERE WHAT IT READS IS OF BULK AT MOST 1048576: true; the input reads as it did. -/
def fnPathNamesUptoRow : OpenClaim := { program := "ytcficphbjicneaa", sum := "7d24be908b929af788f70fd0c4a559ff08f153dc3bd0c968ca32004fee9ef722", func := "given.example/pub-antistrophe/laws.FnPathNames", spec := "fnPathNames", apart := false, narrowed := true }
def FnPathNamesUptoSaid : Prop := fnPathNamesUptoRow.holds Try.pinned (OpenSpec.upto fnPathNamesSpec)

/-- 'laws.FnIdBack', WHERE WHAT IT READS IS OF BULK AT MOST 1048576: true; the input reads as it did. -/
def fnIdBackUptoRow : OpenClaim := { program := "ytcficphbjicneaa", sum := "7d24be908b929af788f70fd0c4a559ff08f153dc3bd0c968ca32004fee9ef722", func := "given.example/pub-antistrophe/laws.FnIdBack", spec := "fnIdBack", inPlace := ["internal/abi.NoEscape", "internal/bytealg.MakeNoZero"], unfollowed := true, recurses := true, apart := false, narrowed := true }
def FnIdBackUptoSaid : Prop := fnIdBackUptoRow.holds Try.pinned (OpenSpec.upto fnIdBackSpec)

/-- 'laws.FnSeqIndentStyle', WHERE WHAT IT READS IS OF BULK AT MOST 1048576: true; the input reads as it did. -/
def fnSeqIndentStyleUptoRow : OpenClaim := { program := "ytcficphbjicneaa", sum := "7d24be908b929af788f70fd0c4a559ff08f153dc3bd0c968ca32004fee9ef722", func := "given.example/pub-antistrophe/laws.FnSeqIndentStyle", spec := "fnSeqIndentStyle", apart := false, narrowed := true }
def FnSeqIndentStyleUptoSaid : Prop := fnSeqIndentStyleUptoRow.holds Try.pinned (OpenSpec.upto fnSeqIndentStyleSpec)

/-- 'laws.FnSchemaAt', WHERE WHAT IT READS IS OF BULK AT MOST 1048576: true; the input reads as it did. -/
def fnSchemaAtUptoRow : OpenClaim := { program := "ytcficphbjicneaa", sum := "7d24be908b929af788f70fd0c4a559ff08f153dc3bd0c968ca32004fee9ef722", func := "given.example/pub-antistrophe/laws.FnSchemaAt", spec := "fnSchemaAt", unfollowed := true, recurses := true, apart := false, narrowed := true }
def FnSchemaAtUptoSaid : Prop := fnSchemaAtUptoRow.holds Try.pinned (OpenSpec.upto fnSchemaAtSpec)

end Rows
end Go.Proofs.Ytcficphbjicneaa
