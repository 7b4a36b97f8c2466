/-
  No cell of these rows narrows 'for every input' (looked for: loops, veiled, ifaces, maps, wideKeys, modest, calm, conditions, laid).
  DERIVED. THE GIVEN ROWS OF THIS SEAT. 3 by the template 'for every input the law returns true; each argument reads behind the call as it read before'; 0 by the template 'total and deterministic' (their statements: Qxb6601134aTotals.lean).
  GIVEN WITH THE SEED: the statements are not yours to turn. If you find one false, say at which input.
  Laid BY PROGRAM, IN A SANDBOX (cutbox-rows.mjs): the forced cells as the released guide's own fill.sh prints them over the translation f11a6a7f016ca6a6… (all of the seat's roots in one cut). By AI agents, Wed Nov 11 2026. No macro, syntax, notation, axiom, sorry.
-/
import Derived.Test.Qxb6601134aChecked
import GoSem.Claim
import GoSem.ClaimJoined
import GoSem.ClaimMapViews
import Derived.JoinedTies
import Derived.KernelRfl
namespace Go.Proofs.Qxb6601134a
/- THE CELL 'sum', in the pinned program and in every row, IS THE sha256 OF THE DUMP (.gsa) THAT Qxb6601134aProg.lean LOADS. Nothing in Lean hashes anything: it is a label: what it is worth is what the hold of that sum in a sandbox is worth. -/
noncomputable def Try.pinned : Pinned := { name := "qxb6601134a", sum := "f11a6a7f016ca6a6147381d079efdb0ee1129a17a435002b41949ed2557e593d", checked := Try.checked }
namespace Rows
def none {H : Type} : Left H := { results := [], args := [] }

/-- 'zzlaws_root_b1.FnAppendCopyTextDecodesBack': WHATEVER THE INPUT: true; the input reads as it did. -/
def fnAppendCopyTextDecodesBackSpec : ChangeSpec := { name := "fnAppendCopyTextDecodesBack", fn := fun _ => fun
  | [d1, d2] => { results := [.lit (.bool true)], args := [d1, d2] }
  | _ => none }
def fnAppendCopyTextDecodesBackRow : OpenClaim := { program := "qxb6601134a", sum := "f11a6a7f016ca6a6147381d079efdb0ee1129a17a435002b41949ed2557e593d", func := "example.com/writ/writ/zzlaws_root_b1.FnAppendCopyTextDecodesBack", spec := "fnAppendCopyTextDecodesBack", apart := false }
def FnAppendCopyTextDecodesBackSaid : Prop := fnAppendCopyTextDecodesBackRow.holds Try.pinned (OpenSpec.ofChange fnAppendCopyTextDecodesBackSpec)

/-- ITS FALSE NEIGHBOUR: 'it returns false'. Refute it at one input. -/
def fnAppendCopyTextDecodesBackWrong : ChangeSpec := { name := "fnAppendCopyTextDecodesBack", fn := fun _ => fun
  | [d1, d2] => { results := [.lit (.bool false)], args := [d1, d2] }
  | _ => none }
def FnAppendCopyTextDecodesBackWrongFalsely : Prop := fnAppendCopyTextDecodesBackRow.holds Try.pinned (OpenSpec.ofChange fnAppendCopyTextDecodesBackWrong)

/-- 'zzlaws_root_b1.FnAppendCopyTextSplitAgrees': WHATEVER THE INPUT: true; the input reads as it did. -/
def fnAppendCopyTextSplitAgreesSpec : ChangeSpec := { name := "fnAppendCopyTextSplitAgrees", fn := fun _ => fun
  | [d1, d2, d3] => { results := [.lit (.bool true)], args := [d1, d2, d3] }
  | _ => none }
def fnAppendCopyTextSplitAgreesRow : OpenClaim := { program := "qxb6601134a", sum := "f11a6a7f016ca6a6147381d079efdb0ee1129a17a435002b41949ed2557e593d", func := "example.com/writ/writ/zzlaws_root_b1.FnAppendCopyTextSplitAgrees", spec := "fnAppendCopyTextSplitAgrees", apart := false }
def FnAppendCopyTextSplitAgreesSaid : Prop := fnAppendCopyTextSplitAgreesRow.holds Try.pinned (OpenSpec.ofChange fnAppendCopyTextSplitAgreesSpec)

/-- ITS FALSE NEIGHBOUR: 'it returns false'. Refute it at one input. -/
def fnAppendCopyTextSplitAgreesWrong : ChangeSpec := { name := "fnAppendCopyTextSplitAgrees", fn := fun _ => fun
  | [d1, d2, d3] => { results := [.lit (.bool false)], args := [d1, d2, d3] }
  | _ => none }
def FnAppendCopyTextSplitAgreesWrongFalsely : Prop := fnAppendCopyTextSplitAgreesRow.holds Try.pinned (OpenSpec.ofChange fnAppendCopyTextSplitAgreesWrong)

/-- 'zzlaws_root_b1.FnDistinctColumnsCopies': WHATEVER THE INPUT: true; the input reads as it did. -/
def fnDistinctColumnsCopiesSpec : ChangeSpec := { name := "fnDistinctColumnsCopies", fn := fun _ => fun
  | [d1, d2] => { results := [.lit (.bool true)], args := [d1, d2] }
  | _ => none }
def fnDistinctColumnsCopiesRow : OpenClaim := { program := "qxb6601134a", sum := "f11a6a7f016ca6a6147381d079efdb0ee1129a17a435002b41949ed2557e593d", func := "example.com/writ/writ/zzlaws_root_b1.FnDistinctColumnsCopies", spec := "fnDistinctColumnsCopies", apart := false }
def FnDistinctColumnsCopiesSaid : Prop := fnDistinctColumnsCopiesRow.holds Try.pinned (OpenSpec.ofChange fnDistinctColumnsCopiesSpec)

/-- ITS FALSE NEIGHBOUR: 'it returns false'. Refute it at one input. -/
def fnDistinctColumnsCopiesWrong : ChangeSpec := { name := "fnDistinctColumnsCopies", fn := fun _ => fun
  | [d1, d2] => { results := [.lit (.bool false)], args := [d1, d2] }
  | _ => none }
def FnDistinctColumnsCopiesWrongFalsely : Prop := fnDistinctColumnsCopiesRow.holds Try.pinned (OpenSpec.ofChange fnDistinctColumnsCopiesWrong)

end Rows
end Go.Proofs.Qxb6601134a
