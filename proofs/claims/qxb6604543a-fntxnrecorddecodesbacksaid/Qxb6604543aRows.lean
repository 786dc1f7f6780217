/-
  No cell of these rows narrows 'for every input' (looked for: loops, veiled, ifaces, maps, wideKeys, modest, calm, conditions, laid).
  DERIVED. THE GIVEN ROWS OF THIS SEAT. 6 by the template 'for every input the law returns true; each argument reads behind the call as it read before'; 0 by the template 'total and deterministic' (their statements: Qxb6604543aTotals.lean).
  GIVEN WITH THE SEED: the statements are not yours to turn. If you find one false, say at which input.
  Laid BY PROGRAM, IN A SANDBOX (cutbox-rows.mjs): the forced cells as the released guide's own fill.sh prints them over the translation 5f43e0beb93dd3d4… (all of the seat's roots in one cut). By AI agents, Wed Nov 11 2026. No macro, syntax, notation, axiom, sorry.
-/
import Derived.Test.Qxb6604543aChecked
import GoSem.Claim
import GoSem.ClaimJoined
import GoSem.ClaimMapViews
import Derived.JoinedTies
import Derived.KernelRfl
namespace Go.Proofs.Qxb6604543a
/- THE CELL 'sum', in the pinned program and in every row, IS THE sha256 OF THE DUMP (.gsa) THAT Qxb6604543aProg.lean LOADS. Nothing in Lean hashes anything: it is a label: what it is worth is what the hold of that sum in a sandbox is worth. -/
noncomputable def Try.pinned : Pinned := { name := "qxb6604543a", sum := "5f43e0beb93dd3d47d4f6d3af787836faa4450efe95917c13932bfd292971af2", checked := Try.checked }
namespace Rows
def none {H : Type} : Left H := { results := [], args := [] }

/-- 'zzlaws_internal_kvstore_b1.FnHoldKeepsGreatestMode': WHATEVER THE INPUT: true; the input reads as it did. -/
def fnHoldKeepsGreatestModeSpec : ChangeSpec := { name := "fnHoldKeepsGreatestMode", fn := fun _ => fun
  | [d1, d2, d3] => { results := [.lit (.bool true)], args := [d1, d2, d3] }
  | _ => none }
def fnHoldKeepsGreatestModeRow : OpenClaim := { program := "qxb6604543a", sum := "5f43e0beb93dd3d47d4f6d3af787836faa4450efe95917c13932bfd292971af2", func := "example.com/concordat/concordat/zzlaws_internal_kvstore_b1.FnHoldKeepsGreatestMode", spec := "fnHoldKeepsGreatestMode", apart := false }
def FnHoldKeepsGreatestModeSaid : Prop := fnHoldKeepsGreatestModeRow.holds Try.pinned (OpenSpec.ofChange fnHoldKeepsGreatestModeSpec)

/-- ITS FALSE NEIGHBOUR: 'it returns false'. Refute it at one input. -/
def fnHoldKeepsGreatestModeWrong : ChangeSpec := { name := "fnHoldKeepsGreatestMode", fn := fun _ => fun
  | [d1, d2, d3] => { results := [.lit (.bool false)], args := [d1, d2, d3] }
  | _ => none }
def FnHoldKeepsGreatestModeWrongFalsely : Prop := fnHoldKeepsGreatestModeRow.holds Try.pinned (OpenSpec.ofChange fnHoldKeepsGreatestModeWrong)

/-- 'zzlaws_internal_kvstore_b1.FnHoldOrderFree': WHATEVER THE INPUT: true; the input reads as it did. -/
def fnHoldOrderFreeSpec : ChangeSpec := { name := "fnHoldOrderFree", fn := fun _ => fun
  | [d1, d2, d3] => { results := [.lit (.bool true)], args := [d1, d2, d3] }
  | _ => none }
def fnHoldOrderFreeRow : OpenClaim := { program := "qxb6604543a", sum := "5f43e0beb93dd3d47d4f6d3af787836faa4450efe95917c13932bfd292971af2", func := "example.com/concordat/concordat/zzlaws_internal_kvstore_b1.FnHoldOrderFree", spec := "fnHoldOrderFree", apart := false }
def FnHoldOrderFreeSaid : Prop := fnHoldOrderFreeRow.holds Try.pinned (OpenSpec.ofChange fnHoldOrderFreeSpec)

/-- ITS FALSE NEIGHBOUR: 'it returns false'. Refute it at one input. -/
def fnHoldOrderFreeWrong : ChangeSpec := { name := "fnHoldOrderFree", fn := fun _ => fun
  | [d1, d2, d3] => { results := [.lit (.bool false)], args := [d1, d2, d3] }
  | _ => none }
def FnHoldOrderFreeWrongFalsely : Prop := fnHoldOrderFreeRow.holds Try.pinned (OpenSpec.ofChange fnHoldOrderFreeWrong)

/-- 'zzlaws_internal_kvstore_b1.FnOthersIsPartsWithoutSelf': WHATEVER THE INPUT: true; the input reads as it did. -/
def fnOthersIsPartsWithoutSelfSpec : ChangeSpec := { name := "fnOthersIsPartsWithoutSelf", fn := fun _ => fun
  | [d1, d2] => { results := [.lit (.bool true)], args := [d1, d2] }
  | _ => none }
def fnOthersIsPartsWithoutSelfRow : OpenClaim := { program := "qxb6604543a", sum := "5f43e0beb93dd3d47d4f6d3af787836faa4450efe95917c13932bfd292971af2", func := "example.com/concordat/concordat/zzlaws_internal_kvstore_b1.FnOthersIsPartsWithoutSelf", spec := "fnOthersIsPartsWithoutSelf", unfollowed := true, recurses := true, apart := false }
def FnOthersIsPartsWithoutSelfSaid : Prop := fnOthersIsPartsWithoutSelfRow.holds Try.pinned (OpenSpec.ofChange fnOthersIsPartsWithoutSelfSpec)

/-- ITS FALSE NEIGHBOUR: 'it returns false'. Refute it at one input. -/
def fnOthersIsPartsWithoutSelfWrong : ChangeSpec := { name := "fnOthersIsPartsWithoutSelf", fn := fun _ => fun
  | [d1, d2] => { results := [.lit (.bool false)], args := [d1, d2] }
  | _ => none }
def FnOthersIsPartsWithoutSelfWrongFalsely : Prop := fnOthersIsPartsWithoutSelfRow.holds Try.pinned (OpenSpec.ofChange fnOthersIsPartsWithoutSelfWrong)

/-- 'zzlaws_internal_kvstore_b1.FnOthersTwoRemovalsCommute': WHATEVER THE INPUT: true; the input reads as it did. -/
def fnOthersTwoRemovalsCommuteSpec : ChangeSpec := { name := "fnOthersTwoRemovalsCommute", fn := fun _ => fun
  | [d1, d2, d3] => { results := [.lit (.bool true)], args := [d1, d2, d3] }
  | _ => none }
def fnOthersTwoRemovalsCommuteRow : OpenClaim := { program := "qxb6604543a", sum := "5f43e0beb93dd3d47d4f6d3af787836faa4450efe95917c13932bfd292971af2", func := "example.com/concordat/concordat/zzlaws_internal_kvstore_b1.FnOthersTwoRemovalsCommute", spec := "fnOthersTwoRemovalsCommute", unfollowed := true, recurses := true, apart := false }
def FnOthersTwoRemovalsCommuteSaid : Prop := fnOthersTwoRemovalsCommuteRow.holds Try.pinned (OpenSpec.ofChange fnOthersTwoRemovalsCommuteSpec)

/-- ITS FALSE NEIGHBOUR: 'it returns false'. Refute it at one input. -/
def fnOthersTwoRemovalsCommuteWrong : ChangeSpec := { name := "fnOthersTwoRemovalsCommute", fn := fun _ => fun
  | [d1, d2, d3] => { results := [.lit (.bool false)], args := [d1, d2, d3] }
  | _ => none }
def FnOthersTwoRemovalsCommuteWrongFalsely : Prop := fnOthersTwoRemovalsCommuteRow.holds Try.pinned (OpenSpec.ofChange fnOthersTwoRemovalsCommuteWrong)

/-- 'zzlaws_internal_kvstore_b1.FnTxnRecordDecodesBack': WHATEVER THE INPUT: true; the input reads as it did. -/
def fnTxnRecordDecodesBackSpec : ChangeSpec := { name := "fnTxnRecordDecodesBack", fn := fun _ => fun
  | [d1, d2] => { results := [.lit (.bool true)], args := [d1, d2] }
  | _ => none }
def fnTxnRecordDecodesBackRow : OpenClaim := { program := "qxb6604543a", sum := "5f43e0beb93dd3d47d4f6d3af787836faa4450efe95917c13932bfd292971af2", func := "example.com/concordat/concordat/zzlaws_internal_kvstore_b1.FnTxnRecordDecodesBack", spec := "fnTxnRecordDecodesBack", apart := false }
def FnTxnRecordDecodesBackSaid : Prop := fnTxnRecordDecodesBackRow.holds Try.pinned (OpenSpec.ofChange fnTxnRecordDecodesBackSpec)

/-- ITS FALSE NEIGHBOUR: 'it returns false'. Refute it at one input. -/
def fnTxnRecordDecodesBackWrong : ChangeSpec := { name := "fnTxnRecordDecodesBack", fn := fun _ => fun
  | [d1, d2] => { results := [.lit (.bool false)], args := [d1, d2] }
  | _ => none }
def FnTxnRecordDecodesBackWrongFalsely : Prop := fnTxnRecordDecodesBackRow.holds Try.pinned (OpenSpec.ofChange fnTxnRecordDecodesBackWrong)

/-- 'zzlaws_internal_kvstore_b1.FnTxnRecordIsPrefixFree': WHATEVER THE INPUT: true; the input reads as it did. -/
def fnTxnRecordIsPrefixFreeSpec : ChangeSpec := { name := "fnTxnRecordIsPrefixFree", fn := fun _ => fun
  | [d1, d2, d3, d4] => { results := [.lit (.bool true)], args := [d1, d2, d3, d4] }
  | _ => none }
def fnTxnRecordIsPrefixFreeRow : OpenClaim := { program := "qxb6604543a", sum := "5f43e0beb93dd3d47d4f6d3af787836faa4450efe95917c13932bfd292971af2", func := "example.com/concordat/concordat/zzlaws_internal_kvstore_b1.FnTxnRecordIsPrefixFree", spec := "fnTxnRecordIsPrefixFree", apart := false }
def FnTxnRecordIsPrefixFreeSaid : Prop := fnTxnRecordIsPrefixFreeRow.holds Try.pinned (OpenSpec.ofChange fnTxnRecordIsPrefixFreeSpec)

/-- ITS FALSE NEIGHBOUR: 'it returns false'. Refute it at one input. -/
def fnTxnRecordIsPrefixFreeWrong : ChangeSpec := { name := "fnTxnRecordIsPrefixFree", fn := fun _ => fun
  | [d1, d2, d3, d4] => { results := [.lit (.bool false)], args := [d1, d2, d3, d4] }
  | _ => none }
def FnTxnRecordIsPrefixFreeWrongFalsely : Prop := fnTxnRecordIsPrefixFreeRow.holds Try.pinned (OpenSpec.ofChange fnTxnRecordIsPrefixFreeWrong)

end Rows
end Go.Proofs.Qxb6604543a
