/-
  No cell of these rows narrows 'for every input' (looked for: loops, veiled, ifaces, maps, wideKeys, modest, calm, conditions, laid).
  DERIVED. THE GIVEN ROWS OF THIS SEAT. 3 by the template 'for every input the law returns true; each argument reads behind the call as it read before'; 0 by the template 'total and deterministic' (their statements: Qxb6604630aTotals.lean).
  GIVEN WITH THE SEED: the statements are not yours to turn. If you find one false, say at which input.
  Laid BY PROGRAM, IN A SANDBOX (cutbox-rows.mjs): the forced cells as the released guide's own fill.sh prints them over the translation 9ca4500cf2163a40… (all of the seat's roots in one cut). By AI agents, Wed Nov 11 2026. No macro, syntax, notation, axiom, sorry.
-/
import Derived.Test.Qxb6604630aChecked
import GoSem.Claim
import GoSem.ClaimJoined
import GoSem.ClaimMapViews
import Derived.JoinedTies
import Derived.KernelRfl
namespace Go.Proofs.Qxb6604630a
/- THE CELL 'sum', in the pinned program and in every row, IS THE sha256 OF THE DUMP (.gsa) THAT Qxb6604630aProg.lean LOADS. Nothing in Lean hashes anything: it is a label: what it is worth is what the hold of that sum in a sandbox is worth. -/
noncomputable def Try.pinned : Pinned := { name := "qxb6604630a", sum := "9ca4500cf2163a40ac337ea8eac69734e47cee6c034d0cd6b453c5904c3ece6b", checked := Try.checked }
namespace Rows
def none {H : Type} : Left H := { results := [], args := [] }

/-- 'zzlaws_internal_migration_b1.FnCreateIndexUniqueInsertsKeyword': WHATEVER THE INPUT: true; the input reads as it did. -/
def fnCreateIndexUniqueInsertsKeywordSpec : ChangeSpec := { name := "fnCreateIndexUniqueInsertsKeyword", fn := fun _ => fun
  | [d] => { results := [.lit (.bool true)], args := [d] }
  | _ => none }
def fnCreateIndexUniqueInsertsKeywordRow : OpenClaim := { program := "qxb6604630a", sum := "9ca4500cf2163a40ac337ea8eac69734e47cee6c034d0cd6b453c5904c3ece6b", func := "example.com/twin-schema/twin-schema/zzlaws_internal_migration_b1.FnCreateIndexUniqueInsertsKeyword", spec := "fnCreateIndexUniqueInsertsKeyword", apart := false }
def FnCreateIndexUniqueInsertsKeywordSaid : Prop := fnCreateIndexUniqueInsertsKeywordRow.holds Try.pinned (OpenSpec.ofChange fnCreateIndexUniqueInsertsKeywordSpec)

/-- ITS FALSE NEIGHBOUR: 'it returns false'. Refute it at one input. -/
def fnCreateIndexUniqueInsertsKeywordWrong : ChangeSpec := { name := "fnCreateIndexUniqueInsertsKeyword", fn := fun _ => fun
  | [d] => { results := [.lit (.bool false)], args := [d] }
  | _ => none }
def FnCreateIndexUniqueInsertsKeywordWrongFalsely : Prop := fnCreateIndexUniqueInsertsKeywordRow.holds Try.pinned (OpenSpec.ofChange fnCreateIndexUniqueInsertsKeywordWrong)

/-- 'zzlaws_internal_migration_b1.FnAllowanceDeclaredSplicesNoted': WHATEVER THE INPUT: true; the input reads as it did. -/
def fnAllowanceDeclaredSplicesNotedSpec : ChangeSpec := { name := "fnAllowanceDeclaredSplicesNoted", fn := fun _ => fun
  | [d] => { results := [.lit (.bool true)], args := [d] }
  | _ => none }
def fnAllowanceDeclaredSplicesNotedRow : OpenClaim := { program := "qxb6604630a", sum := "9ca4500cf2163a40ac337ea8eac69734e47cee6c034d0cd6b453c5904c3ece6b", func := "example.com/twin-schema/twin-schema/zzlaws_internal_migration_b1.FnAllowanceDeclaredSplicesNoted", spec := "fnAllowanceDeclaredSplicesNoted", apart := false }
def FnAllowanceDeclaredSplicesNotedSaid : Prop := fnAllowanceDeclaredSplicesNotedRow.holds Try.pinned (OpenSpec.ofChange fnAllowanceDeclaredSplicesNotedSpec)

/-- ITS FALSE NEIGHBOUR: 'it returns false'. Refute it at one input. -/
def fnAllowanceDeclaredSplicesNotedWrong : ChangeSpec := { name := "fnAllowanceDeclaredSplicesNoted", fn := fun _ => fun
  | [d] => { results := [.lit (.bool false)], args := [d] }
  | _ => none }
def FnAllowanceDeclaredSplicesNotedWrongFalsely : Prop := fnAllowanceDeclaredSplicesNotedRow.holds Try.pinned (OpenSpec.ofChange fnAllowanceDeclaredSplicesNotedWrong)

/-- 'zzlaws_internal_migration_b1.FnAllowanceDeclaredInjectiveAndRecoverable': WHATEVER THE INPUT: true; the input reads as it did. -/
def fnAllowanceDeclaredInjectiveAndRecoverableSpec : ChangeSpec := { name := "fnAllowanceDeclaredInjectiveAndRecoverable", fn := fun _ => fun
  | [d1, d2] => { results := [.lit (.bool true)], args := [d1, d2] }
  | _ => none }
def fnAllowanceDeclaredInjectiveAndRecoverableRow : OpenClaim := { program := "qxb6604630a", sum := "9ca4500cf2163a40ac337ea8eac69734e47cee6c034d0cd6b453c5904c3ece6b", func := "example.com/twin-schema/twin-schema/zzlaws_internal_migration_b1.FnAllowanceDeclaredInjectiveAndRecoverable", spec := "fnAllowanceDeclaredInjectiveAndRecoverable", apart := false }
def FnAllowanceDeclaredInjectiveAndRecoverableSaid : Prop := fnAllowanceDeclaredInjectiveAndRecoverableRow.holds Try.pinned (OpenSpec.ofChange fnAllowanceDeclaredInjectiveAndRecoverableSpec)

/-- ITS FALSE NEIGHBOUR: 'it returns false'. Refute it at one input. -/
def fnAllowanceDeclaredInjectiveAndRecoverableWrong : ChangeSpec := { name := "fnAllowanceDeclaredInjectiveAndRecoverable", fn := fun _ => fun
  | [d1, d2] => { results := [.lit (.bool false)], args := [d1, d2] }
  | _ => none }
def FnAllowanceDeclaredInjectiveAndRecoverableWrongFalsely : Prop := fnAllowanceDeclaredInjectiveAndRecoverableRow.holds Try.pinned (OpenSpec.ofChange fnAllowanceDeclaredInjectiveAndRecoverableWrong)

end Rows
end Go.Proofs.Qxb6604630a
