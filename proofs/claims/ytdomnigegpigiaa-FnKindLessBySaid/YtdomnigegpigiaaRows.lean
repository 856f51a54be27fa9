/-
  No cell of these rows narrows 'for every input' (looked for: loops, veiled, ifaces, maps, wideKeys, modest, calm, conditions, laid).
  DERIVED. THE GIVEN ROWS OF THIS SEAT. 6 by the template 'for every input the law returns true; each argument reads behind the call as it read before'; 0 by the template 'total and deterministic' (their statements: YtdomnigegpigiaaTotals.lean).
  GIVEN WITH THE SEED: the statements are not yours to turn. If you find one false, say at which input.
  Laid BY PROGRAM, IN A SANDBOX (cutbox-rows.mjs): the forced cells as the released guide's own fill.sh prints them over the translation 953812063cf20913… (all of the seat's roots in one cut). By AI agents, Wed Nov 11 2026. No macro, syntax, notation, axiom, sorry.
-/
import Derived.Test.YtdomnigegpigiaaChecked
import GoSem.Claim
import GoSem.ClaimJoined
import GoSem.ClaimMapViews
import Derived.JoinedTies
import Derived.KernelRfl
namespace Go.Proofs.Ytdomnigegpigiaa
/- THE CELL 'sum', in the pinned program and in every row, IS THE sha256 OF THE DUMP (.gsa) THAT YtdomnigegpigiaaProg.lean LOADS. Nothing in Lean hashes anything: it is a label: what it is worth is what the hold of that sum in a sandbox is worth. -/
noncomputable def Try.pinned : Pinned := { name := "ytdomnigegpigiaa", sum := "953812063cf209136122dd6290622464ecd97d372d21d682ea0fa656606c6be8", checked := Try.checked }
namespace Rows
def none {H : Type} : Left H := { results := [], args := [] }

/-- 'laws.FnGroupVersion': WHATEVER THE INPUT: true; the input reads as it did. -/
def fnGroupVersionSpec : ChangeSpec := { name := "fnGroupVersion", fn := fun _ => fun
  | [d] => { results := [.lit (.bool true)], args := [d] }
  | _ => none }
def fnGroupVersionRow : OpenClaim := { program := "ytdomnigegpigiaa", sum := "953812063cf209136122dd6290622464ecd97d372d21d682ea0fa656606c6be8", func := "given.example/pub-antistrophe/laws.FnGroupVersion", spec := "fnGroupVersion", apart := false }
def FnGroupVersionSaid : Prop := fnGroupVersionRow.holds Try.pinned (OpenSpec.ofChange fnGroupVersionSpec)

/-- ITS FALSE NEIGHBOUR: 'it returns false'. Refute it at one input. -/
def fnGroupVersionWrong : ChangeSpec := { name := "fnGroupVersion", fn := fun _ => fun
  | [d] => { results := [.lit (.bool false)], args := [d] }
  | _ => none }
def FnGroupVersionWrongFalsely : Prop := fnGroupVersionRow.holds Try.pinned (OpenSpec.ofChange fnGroupVersionWrong)

/-- 'laws.FnNodeStyle': WHATEVER THE INPUT: true; the input reads as it did. -/
def fnNodeStyleSpec : ChangeSpec := { name := "fnNodeStyle", fn := fun _ => fun
  | [d] => { results := [.lit (.bool true)], args := [d] }
  | _ => none }
def fnNodeStyleRow : OpenClaim := { program := "ytdomnigegpigiaa", sum := "953812063cf209136122dd6290622464ecd97d372d21d682ea0fa656606c6be8", func := "given.example/pub-antistrophe/laws.FnNodeStyle", spec := "fnNodeStyle", apart := false }
def FnNodeStyleSaid : Prop := fnNodeStyleRow.holds Try.pinned (OpenSpec.ofChange fnNodeStyleSpec)

/-- ITS FALSE NEIGHBOUR: 'it returns false'. Refute it at one input. -/
def fnNodeStyleWrong : ChangeSpec := { name := "fnNodeStyle", fn := fun _ => fun
  | [d] => { results := [.lit (.bool false)], args := [d] }
  | _ => none }
def FnNodeStyleWrongFalsely : Prop := fnNodeStyleRow.holds Try.pinned (OpenSpec.ofChange fnNodeStyleWrong)

/-- 'laws.FnPathBase': WHATEVER THE INPUT: true; the input reads as it did. -/
def fnPathBaseSpec : ChangeSpec := { name := "fnPathBase", fn := fun _ => fun
  | [d] => { results := [.lit (.bool true)], args := [d] }
  | _ => none }
def fnPathBaseRow : OpenClaim := { program := "ytdomnigegpigiaa", sum := "953812063cf209136122dd6290622464ecd97d372d21d682ea0fa656606c6be8", func := "given.example/pub-antistrophe/laws.FnPathBase", spec := "fnPathBase", apart := false }
def FnPathBaseSaid : Prop := fnPathBaseRow.holds Try.pinned (OpenSpec.ofChange fnPathBaseSpec)

/-- ITS FALSE NEIGHBOUR: 'it returns false'. Refute it at one input. -/
def fnPathBaseWrong : ChangeSpec := { name := "fnPathBase", fn := fun _ => fun
  | [d] => { results := [.lit (.bool false)], args := [d] }
  | _ => none }
def FnPathBaseWrongFalsely : Prop := fnPathBaseRow.holds Try.pinned (OpenSpec.ofChange fnPathBaseWrong)

/-- 'laws.FnPathBaseAny': WHATEVER THE INPUT: true; the input reads as it did. -/
def fnPathBaseAnySpec : ChangeSpec := { name := "fnPathBaseAny", fn := fun _ => fun
  | [d] => { results := [.lit (.bool true)], args := [d] }
  | _ => none }
def fnPathBaseAnyRow : OpenClaim := { program := "ytdomnigegpigiaa", sum := "953812063cf209136122dd6290622464ecd97d372d21d682ea0fa656606c6be8", func := "given.example/pub-antistrophe/laws.FnPathBaseAny", spec := "fnPathBaseAny", apart := false }
def FnPathBaseAnySaid : Prop := fnPathBaseAnyRow.holds Try.pinned (OpenSpec.ofChange fnPathBaseAnySpec)

/-- ITS FALSE NEIGHBOUR: 'it returns false'. Refute it at one input. -/
def fnPathBaseAnyWrong : ChangeSpec := { name := "fnPathBaseAny", fn := fun _ => fun
  | [d] => { results := [.lit (.bool false)], args := [d] }
  | _ => none }
def FnPathBaseAnyWrongFalsely : Prop := fnPathBaseAnyRow.holds Try.pinned (OpenSpec.ofChange fnPathBaseAnyWrong)

/-- 'laws.FnKindLessBy': WHATEVER THE INPUT: true; the input reads as it did. -/
def fnKindLessBySpec : ChangeSpec := { name := "fnKindLessBy", fn := fun _ => fun
  | [d1, d2, d3] => { results := [.lit (.bool true)], args := [d1, d2, d3] }
  | _ => none }
def fnKindLessByRow : OpenClaim := { program := "ytdomnigegpigiaa", sum := "953812063cf209136122dd6290622464ecd97d372d21d682ea0fa656606c6be8", func := "given.example/pub-antistrophe/laws.FnKindLessBy", spec := "fnKindLessBy", unfollowed := true, recurses := true, apart := false }
def FnKindLessBySaid : Prop := fnKindLessByRow.holds Try.pinned (OpenSpec.ofChange fnKindLessBySpec)

/-- ITS FALSE NEIGHBOUR: 'it returns false'. Refute it at one input. -/
def fnKindLessByWrong : ChangeSpec := { name := "fnKindLessBy", fn := fun _ => fun
  | [d1, d2, d3] => { results := [.lit (.bool false)], args := [d1, d2, d3] }
  | _ => none }
def FnKindLessByWrongFalsely : Prop := fnKindLessByRow.holds Try.pinned (OpenSpec.ofChange fnKindLessByWrong)

/-- 'laws.FnListInsert': WHATEVER THE INPUT: true; the input reads as it did. -/
def fnListInsertSpec : ChangeSpec := { name := "fnListInsert", fn := fun _ => fun
  | [d1, d2] => { results := [.lit (.bool true)], args := [d1, d2] }
  | _ => none }
def fnListInsertRow : OpenClaim := { program := "ytdomnigegpigiaa", sum := "953812063cf209136122dd6290622464ecd97d372d21d682ea0fa656606c6be8", func := "given.example/pub-antistrophe/laws.FnListInsert", spec := "fnListInsert", apart := false }
def FnListInsertSaid : Prop := fnListInsertRow.holds Try.pinned (OpenSpec.ofChange fnListInsertSpec)

/-- ITS FALSE NEIGHBOUR: 'it returns false'. Refute it at one input. -/
def fnListInsertWrong : ChangeSpec := { name := "fnListInsert", fn := fun _ => fun
  | [d1, d2] => { results := [.lit (.bool false)], args := [d1, d2] }
  | _ => none }
def FnListInsertWrongFalsely : Prop := fnListInsertRow.holds Try.pinned (OpenSpec.ofChange fnListInsertWrong)

/- THE SECOND FORM. 'bulk': how many values and letters a reading holds, each counted each time it is reached (what is shared counts as often as it is met; a slice's spare places count too). A statement '..UptoSaid' is the law's where the arguments, and the package variables that the reading takes, are together of bulk at most 1048576: NARROWER than '..Said'. Prove '..Said' where nothing that the law and all that it calls make is longer than what came in: it says more and counts as full. Else prove '..UptoSaid'. A law counts once. -/
mutual
def uptoBulk {H : Type} : DataW H → Nat
  | .lit (.string bytes) => bytes.length + 1
  | .lit _ => 1
  | .nil => 1
  | .ptr d => uptoBulk d + 1
  | .slice elems spare => uptoBulkAll elems + uptoBulkAll spare + 1
  | .agg parts => uptoBulkAll parts + 1
  | .iface _ d => uptoBulk d + 1
  | .map entries => uptoBulkEntries entries + 1
  | .held _ => 1
def uptoBulkAll {H : Type} : List (DataW H) → Nat
  | [] => 0
  | d :: r => uptoBulk d + uptoBulkAll r
def uptoBulkEntries {H : Type} : List (Lit × DataW H) → Nat
  | [] => 0
  | x :: r => uptoBulkEntry x + uptoBulkEntries r
def uptoBulkEntry {H : Type} : Lit × DataW H → Nat
  | (.string bytes, d) => bytes.length + uptoBulk d + 1
  | (_, d) => uptoBulk d + 1
 end
def uptoSmall : (H : Type) → List (DataW H) → Bool := fun _ ds => decide (uptoBulkAll ds ≤ 1048576)
def OpenSpec.upto (s : _root_.Go.ChangeSpec) : _root_.Go.OpenSpec := { _root_.Go.OpenSpec.ofChange s with cond := some uptoSmall }

/-- 'laws.FnGroupVersion', WHERE WHAT IT READS IS OF BULK AT MOST 1048576: true; the input reads as it did. -/
def fnGroupVersionUptoRow : OpenClaim := { program := "ytdomnigegpigiaa", sum := "953812063cf209136122dd6290622464ecd97d372d21d682ea0fa656606c6be8", func := "given.example/pub-antistrophe/laws.FnGroupVersion", spec := "fnGroupVersion", apart := false, narrowed := true }
def FnGroupVersionUptoSaid : Prop := fnGroupVersionUptoRow.holds Try.pinned (OpenSpec.upto fnGroupVersionSpec)

/-- 'laws.FnNodeStyle', WHERE WHAT IT READS IS OF BULK AT MOST 1048576: true; the input reads as it did. -/
def fnNodeStyleUptoRow : OpenClaim := { program := "ytdomnigegpigiaa", sum := "953812063cf209136122dd6290622464ecd97d372d21d682ea0fa656606c6be8", func := "given.example/pub-antistrophe/laws.FnNodeStyle", spec := "fnNodeStyle", apart := false, narrowed := true }
def FnNodeStyleUptoSaid : Prop := fnNodeStyleUptoRow.holds Try.pinned (OpenSpec.upto fnNodeStyleSpec)

/-- 'laws.FnPathBase', WHERE WHAT IT READS IS OF BULK AT MOST 1048576: true; the input reads as it did. -/
def fnPathBaseUptoRow : OpenClaim := { program := "ytdomnigegpigiaa", sum := "953812063cf209136122dd6290622464ecd97d372d21d682ea0fa656606c6be8", func := "given.example/pub-antistrophe/laws.FnPathBase", spec := "fnPathBase", apart := false, narrowed := true }
def FnPathBaseUptoSaid : Prop := fnPathBaseUptoRow.holds Try.pinned (OpenSpec.upto fnPathBaseSpec)

/-- 'laws.FnPathBaseAny', WHERE WHAT IT READS IS OF BULK AT MOST 1048576: true; the input reads as it did. -/
def fnPathBaseAnyUptoRow : OpenClaim := { program := "ytdomnigegpigiaa", sum := "953812063cf209136122dd6290622464ecd97d372d21d682ea0fa656606c6be8", func := "given.example/pub-antistrophe/laws.FnPathBaseAny", spec := "fnPathBaseAny", apart := false, narrowed := true }
def FnPathBaseAnyUptoSaid : Prop := fnPathBaseAnyUptoRow.holds Try.pinned (OpenSpec.upto fnPathBaseAnySpec)

/-- 'laws.FnKindLessBy', WHERE WHAT IT READS IS OF BULK AT MOST 1048576: true; the input reads as it did. -/
def fnKindLessByUptoRow : OpenClaim := { program := "ytdomnigegpigiaa", sum := "953812063cf209136122dd6290622464ecd97d372d21d682ea0fa656606c6be8", func := "given.example/pub-antistrophe/laws.FnKindLessBy", spec := "fnKindLessBy", unfollowed := true, recurses := true, apart := false, narrowed := true }
def FnKindLessByUptoSaid : Prop := fnKindLessByUptoRow.holds Try.pinned (OpenSpec.upto fnKindLessBySpec)

/-- 'laws.FnListInsert', WHERE WHAT IT READS IS OF BULK AT MOST 1048576: true; the input reads as it did. -/
def fnListInsertUptoRow : OpenClaim := { program := "ytdomnigegpigiaa", sum := "953812063cf209136122dd6290622464ecd97d372d21d682ea0fa656606c6be8", func := "given.example/pub-antistrophe/laws.FnListInsert", spec := "fnListInsert", apart := false, narrowed := true }
def FnListInsertUptoSaid : Prop := fnListInsertUptoRow.holds Try.pinned (OpenSpec.upto fnListInsertSpec)

end Rows
end Go.Proofs.Ytdomnigegpigiaa
