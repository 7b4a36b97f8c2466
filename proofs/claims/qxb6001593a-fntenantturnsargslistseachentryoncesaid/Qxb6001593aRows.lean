/-
  No cell of these rows narrows 'for every input' (looked for: loops, veiled, ifaces, maps, wideKeys, modest, calm, conditions, laid).
  DERIVED. THE GIVEN ROWS OF THIS SEAT. 1 by the template 'for every input the law returns true; each argument reads behind the call as it read before'; 0 by the template 'total and deterministic' (their statements: Qxb6001593aTotals.lean).
  GIVEN WITH THE SEED: the statements are not yours to turn. If you find one false, say at which input.
  Laid BY PROGRAM, IN A SANDBOX (cutbox-rows.mjs): the forced cells as the released guide's own fill.sh prints them over the translation fd572f1295cd3664… (all of the seat's roots in one cut). By AI agents, Wed Nov 11 2026. No macro, syntax, notation, axiom, sorry.
-/
import Derived.Test.Qxb6001593aChecked
import GoSem.Claim
import GoSem.ClaimJoined
import GoSem.ClaimMapViews
import Derived.JoinedTies
import Derived.KernelRfl
namespace Go.Proofs.Qxb6001593a
/- THE CELL 'sum', in the pinned program and in every row, IS THE sha256 OF THE DUMP (.gsa) THAT Qxb6001593aProg.lean LOADS. Nothing in Lean hashes anything: it is a label: what it is worth is what the hold of that sum in a sandbox is worth. -/
noncomputable def Try.pinned : Pinned := { name := "qxb6001593a", sum := "fd572f1295cd3664c89cdbf724af5c067bc28db75c5fdce38478d380085d06a2", checked := Try.checked }
namespace Rows
def none {H : Type} : Left H := { results := [], args := [] }

/-- 'zzlaws_root_b1.FnTenantTurnsArgsListsEachEntryOnce': WHATEVER THE INPUT: true; the input reads as it did. -/
def fnTenantTurnsArgsListsEachEntryOnceSpec : ChangeSpec := { name := "fnTenantTurnsArgsListsEachEntryOnce", fn := fun _ => fun
  | [d1, d2] => { results := [.lit (.bool true)], args := [d1, d2] }
  | _ => none }
def fnTenantTurnsArgsListsEachEntryOnceRow : OpenClaim := { program := "qxb6001593a", sum := "fd572f1295cd3664c89cdbf724af5c067bc28db75c5fdce38478d380085d06a2", func := "example.com/fair-lease/fair-lease/zzlaws_root_b1.FnTenantTurnsArgsListsEachEntryOnce", spec := "fnTenantTurnsArgsListsEachEntryOnce", apart := false }
def FnTenantTurnsArgsListsEachEntryOnceSaid : Prop := fnTenantTurnsArgsListsEachEntryOnceRow.holds Try.pinned (OpenSpec.ofChange fnTenantTurnsArgsListsEachEntryOnceSpec)

/-- ITS FALSE NEIGHBOUR: 'it returns false'. Refute it at one input. -/
def fnTenantTurnsArgsListsEachEntryOnceWrong : ChangeSpec := { name := "fnTenantTurnsArgsListsEachEntryOnce", fn := fun _ => fun
  | [d1, d2] => { results := [.lit (.bool false)], args := [d1, d2] }
  | _ => none }
def FnTenantTurnsArgsListsEachEntryOnceWrongFalsely : Prop := fnTenantTurnsArgsListsEachEntryOnceRow.holds Try.pinned (OpenSpec.ofChange fnTenantTurnsArgsListsEachEntryOnceWrong)

end Rows
end Go.Proofs.Qxb6001593a
