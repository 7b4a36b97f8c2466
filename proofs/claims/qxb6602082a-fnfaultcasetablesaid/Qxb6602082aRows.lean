/-
  No cell of these rows narrows 'for every input' (looked for: loops, veiled, ifaces, maps, wideKeys, modest, calm, conditions, laid).
  DERIVED. THE GIVEN ROWS OF THIS SEAT. 5 by the template 'for every input the law returns true; each argument reads behind the call as it read before'; 0 by the template 'total and deterministic' (their statements: Qxb6602082aTotals.lean).
  GIVEN WITH THE SEED: the statements are not yours to turn. If you find one false, say at which input.
  Laid BY PROGRAM, IN A SANDBOX (cutbox-rows.mjs): the forced cells as the released guide's own fill.sh prints them over the translation 55267750587151b2… (all of the seat's roots in one cut). By AI agents, Wed Nov 11 2026. No macro, syntax, notation, axiom, sorry.
-/
import Derived.Test.Qxb6602082aChecked
import GoSem.Claim
import GoSem.ClaimJoined
import GoSem.ClaimMapViews
import Derived.JoinedTies
import Derived.KernelRfl
namespace Go.Proofs.Qxb6602082a
/- THE CELL 'sum', in the pinned program and in every row, IS THE sha256 OF THE DUMP (.gsa) THAT Qxb6602082aProg.lean LOADS. Nothing in Lean hashes anything: it is a label: what it is worth is what the hold of that sum in a sandbox is worth. -/
noncomputable def Try.pinned : Pinned := { name := "qxb6602082a", sum := "55267750587151b261d146d45e143c0cfadf1dc3668618ebda502c99388b57b3", checked := Try.checked }
namespace Rows
def none {H : Type} : Left H := { results := [], args := [] }

/-- 'zzlaws_postgres_b1.FnJoinListMatchesSentenceModel': WHATEVER THE INPUT: true; the input reads as it did. -/
def fnJoinListMatchesSentenceModelSpec : ChangeSpec := { name := "fnJoinListMatchesSentenceModel", fn := fun _ => fun
  | [d1, d2] => { results := [.lit (.bool true)], args := [d1, d2] }
  | _ => none }
def fnJoinListMatchesSentenceModelRow : OpenClaim := { program := "qxb6602082a", sum := "55267750587151b261d146d45e143c0cfadf1dc3668618ebda502c99388b57b3", func := "example.com/ferryman/ferryman/zzlaws_postgres_b1.FnJoinListMatchesSentenceModel", spec := "fnJoinListMatchesSentenceModel", inPlace := ["internal/abi.NoEscape", "internal/bytealg.MakeNoZero"], apart := false }
def FnJoinListMatchesSentenceModelSaid : Prop := fnJoinListMatchesSentenceModelRow.holds Try.pinned (OpenSpec.ofChange fnJoinListMatchesSentenceModelSpec)

/-- ITS FALSE NEIGHBOUR: 'it returns false'. Refute it at one input. -/
def fnJoinListMatchesSentenceModelWrong : ChangeSpec := { name := "fnJoinListMatchesSentenceModel", fn := fun _ => fun
  | [d1, d2] => { results := [.lit (.bool false)], args := [d1, d2] }
  | _ => none }
def FnJoinListMatchesSentenceModelWrongFalsely : Prop := fnJoinListMatchesSentenceModelRow.holds Try.pinned (OpenSpec.ofChange fnJoinListMatchesSentenceModelWrong)

/-- 'zzlaws_postgres_b1.FnJoinListPeelsFirstItem': WHATEVER THE INPUT: true; the input reads as it did. -/
def fnJoinListPeelsFirstItemSpec : ChangeSpec := { name := "fnJoinListPeelsFirstItem", fn := fun _ => fun
  | [d1, d2] => { results := [.lit (.bool true)], args := [d1, d2] }
  | _ => none }
def fnJoinListPeelsFirstItemRow : OpenClaim := { program := "qxb6602082a", sum := "55267750587151b261d146d45e143c0cfadf1dc3668618ebda502c99388b57b3", func := "example.com/ferryman/ferryman/zzlaws_postgres_b1.FnJoinListPeelsFirstItem", spec := "fnJoinListPeelsFirstItem", inPlace := ["internal/abi.NoEscape", "internal/bytealg.MakeNoZero"], apart := false }
def FnJoinListPeelsFirstItemSaid : Prop := fnJoinListPeelsFirstItemRow.holds Try.pinned (OpenSpec.ofChange fnJoinListPeelsFirstItemSpec)

/-- ITS FALSE NEIGHBOUR: 'it returns false'. Refute it at one input. -/
def fnJoinListPeelsFirstItemWrong : ChangeSpec := { name := "fnJoinListPeelsFirstItem", fn := fun _ => fun
  | [d1, d2] => { results := [.lit (.bool false)], args := [d1, d2] }
  | _ => none }
def FnJoinListPeelsFirstItemWrongFalsely : Prop := fnJoinListPeelsFirstItemRow.holds Try.pinned (OpenSpec.ofChange fnJoinListPeelsFirstItemWrong)

/-- 'zzlaws_postgres_b1.FnDefinitionTellsNullnessAndFill': WHATEVER THE INPUT: true; the input reads as it did. -/
def fnDefinitionTellsNullnessAndFillSpec : ChangeSpec := { name := "fnDefinitionTellsNullnessAndFill", fn := fun _ => fun
  | [d1, d2, d3, d4, d5, d6, d7, d8, d9] => { results := [.lit (.bool true)], args := [d1, d2, d3, d4, d5, d6, d7, d8, d9] }
  | _ => none }
def fnDefinitionTellsNullnessAndFillRow : OpenClaim := { program := "qxb6602082a", sum := "55267750587151b261d146d45e143c0cfadf1dc3668618ebda502c99388b57b3", func := "example.com/ferryman/ferryman/zzlaws_postgres_b1.FnDefinitionTellsNullnessAndFill", spec := "fnDefinitionTellsNullnessAndFill", apart := false }
def FnDefinitionTellsNullnessAndFillSaid : Prop := fnDefinitionTellsNullnessAndFillRow.holds Try.pinned (OpenSpec.ofChange fnDefinitionTellsNullnessAndFillSpec)

/-- ITS FALSE NEIGHBOUR: 'it returns false'. Refute it at one input. -/
def fnDefinitionTellsNullnessAndFillWrong : ChangeSpec := { name := "fnDefinitionTellsNullnessAndFill", fn := fun _ => fun
  | [d1, d2, d3, d4, d5, d6, d7, d8, d9] => { results := [.lit (.bool false)], args := [d1, d2, d3, d4, d5, d6, d7, d8, d9] }
  | _ => none }
def FnDefinitionTellsNullnessAndFillWrongFalsely : Prop := fnDefinitionTellsNullnessAndFillRow.holds Try.pinned (OpenSpec.ofChange fnDefinitionTellsNullnessAndFillWrong)

/-- 'zzlaws_postgres_b1.FnFaultCaseTable': WHATEVER THE INPUT: true; the input reads as it did. -/
def fnFaultCaseTableSpec : ChangeSpec := { name := "fnFaultCaseTable", fn := fun _ => fun
  | [d1, d2, d3, d4, d5, d6, d7, d8, d9, d10, d11, d12] => { results := [.lit (.bool true)], args := [d1, d2, d3, d4, d5, d6, d7, d8, d9, d10, d11, d12] }
  | _ => none }
def fnFaultCaseTableRow : OpenClaim := { program := "qxb6602082a", sum := "55267750587151b261d146d45e143c0cfadf1dc3668618ebda502c99388b57b3", func := "example.com/ferryman/ferryman/zzlaws_postgres_b1.FnFaultCaseTable", spec := "fnFaultCaseTable", inPlace := ["internal/abi.NoEscape", "internal/bytealg.MakeNoZero"], apart := false }
def FnFaultCaseTableSaid : Prop := fnFaultCaseTableRow.holds Try.pinned (OpenSpec.ofChange fnFaultCaseTableSpec)

/-- ITS FALSE NEIGHBOUR: 'it returns false'. Refute it at one input. -/
def fnFaultCaseTableWrong : ChangeSpec := { name := "fnFaultCaseTable", fn := fun _ => fun
  | [d1, d2, d3, d4, d5, d6, d7, d8, d9, d10, d11, d12] => { results := [.lit (.bool false)], args := [d1, d2, d3, d4, d5, d6, d7, d8, d9, d10, d11, d12] }
  | _ => none }
def FnFaultCaseTableWrongFalsely : Prop := fnFaultCaseTableRow.holds Try.pinned (OpenSpec.ofChange fnFaultCaseTableWrong)

/-- 'zzlaws_postgres_b1.FnFaultAcceptsExactly': WHATEVER THE INPUT: true; the input reads as it did. -/
def fnFaultAcceptsExactlySpec : ChangeSpec := { name := "fnFaultAcceptsExactly", fn := fun _ => fun
  | [d1, d2, d3, d4, d5, d6, d7, d8, d9, d10, d11, d12] => { results := [.lit (.bool true)], args := [d1, d2, d3, d4, d5, d6, d7, d8, d9, d10, d11, d12] }
  | _ => none }
def fnFaultAcceptsExactlyRow : OpenClaim := { program := "qxb6602082a", sum := "55267750587151b261d146d45e143c0cfadf1dc3668618ebda502c99388b57b3", func := "example.com/ferryman/ferryman/zzlaws_postgres_b1.FnFaultAcceptsExactly", spec := "fnFaultAcceptsExactly", inPlace := ["internal/abi.NoEscape", "internal/bytealg.MakeNoZero"], apart := false }
def FnFaultAcceptsExactlySaid : Prop := fnFaultAcceptsExactlyRow.holds Try.pinned (OpenSpec.ofChange fnFaultAcceptsExactlySpec)

/-- ITS FALSE NEIGHBOUR: 'it returns false'. Refute it at one input. -/
def fnFaultAcceptsExactlyWrong : ChangeSpec := { name := "fnFaultAcceptsExactly", fn := fun _ => fun
  | [d1, d2, d3, d4, d5, d6, d7, d8, d9, d10, d11, d12] => { results := [.lit (.bool false)], args := [d1, d2, d3, d4, d5, d6, d7, d8, d9, d10, d11, d12] }
  | _ => none }
def FnFaultAcceptsExactlyWrongFalsely : Prop := fnFaultAcceptsExactlyRow.holds Try.pinned (OpenSpec.ofChange fnFaultAcceptsExactlyWrong)

end Rows
end Go.Proofs.Qxb6602082a
