/-
  No cell of these rows narrows 'for every input' (looked for: loops, veiled, ifaces, maps, wideKeys, modest, calm, conditions, laid).
  DERIVED. THE GIVEN ROWS OF THIS SEAT. 4 by the template 'for every input the law returns true; each argument reads behind the call as it read before'; 0 by the template 'total and deterministic' (their statements: Qxb6604541aTotals.lean).
  GIVEN WITH THE SEED: the statements are not yours to turn. If you find one false, say at which input.
  Laid BY PROGRAM, IN A SANDBOX (cutbox-rows.mjs): the forced cells as the released guide's own fill.sh prints them over the translation 645ecbc924ed6c80… (all of the seat's roots in one cut). By AI agents, Wed Nov 11 2026. No macro, syntax, notation, axiom, sorry.
-/
import Derived.Test.Qxb6604541aChecked
import GoSem.Claim
import GoSem.ClaimJoined
import GoSem.ClaimMapViews
import Derived.JoinedTies
import Derived.KernelRfl
namespace Go.Proofs.Qxb6604541a
/- THE CELL 'sum', in the pinned program and in every row, IS THE sha256 OF THE DUMP (.gsa) THAT Qxb6604541aProg.lean LOADS. Nothing in Lean hashes anything: it is a label: what it is worth is what the hold of that sum in a sandbox is worth. -/
noncomputable def Try.pinned : Pinned := { name := "qxb6604541a", sum := "645ecbc924ed6c809c08aa4adcccc64d67b4cee0c7b37dda5d9c79e7a51175cc", checked := Try.checked }
namespace Rows
def none {H : Type} : Left H := { results := [], args := [] }

/-- 'zzlaws_causal_b1.FnNodeIsTextBeforeFirstDot': WHATEVER THE INPUT: true; the input reads as it did. -/
def fnNodeIsTextBeforeFirstDotSpec : ChangeSpec := { name := "fnNodeIsTextBeforeFirstDot", fn := fun _ => fun
  | [d] => { results := [.lit (.bool true)], args := [d] }
  | _ => none }
def fnNodeIsTextBeforeFirstDotRow : OpenClaim := { program := "qxb6604541a", sum := "645ecbc924ed6c809c08aa4adcccc64d67b4cee0c7b37dda5d9c79e7a51175cc", func := "example.com/dotmerge/dotmerge/zzlaws_causal_b1.FnNodeIsTextBeforeFirstDot", spec := "fnNodeIsTextBeforeFirstDot", inPlace := ["internal/bytealg.IndexByteString", "internal/bytealg.IndexString"], named := ["internal/bytealg.MaxLen"], apart := false }
def FnNodeIsTextBeforeFirstDotSaid : Prop := fnNodeIsTextBeforeFirstDotRow.holds Try.pinned (OpenSpec.ofChange fnNodeIsTextBeforeFirstDotSpec)

/-- ITS FALSE NEIGHBOUR: 'it returns false'. Refute it at one input. -/
def fnNodeIsTextBeforeFirstDotWrong : ChangeSpec := { name := "fnNodeIsTextBeforeFirstDot", fn := fun _ => fun
  | [d] => { results := [.lit (.bool false)], args := [d] }
  | _ => none }
def FnNodeIsTextBeforeFirstDotWrongFalsely : Prop := fnNodeIsTextBeforeFirstDotRow.holds Try.pinned (OpenSpec.ofChange fnNodeIsTextBeforeFirstDotWrong)

/-- 'zzlaws_causal_b1.FnNodeUndoesTag': WHATEVER THE INPUT: true; the input reads as it did. -/
def fnNodeUndoesTagSpec : ChangeSpec := { name := "fnNodeUndoesTag", fn := fun _ => fun
  | [d1, d2] => { results := [.lit (.bool true)], args := [d1, d2] }
  | _ => none }
def fnNodeUndoesTagRow : OpenClaim := { program := "qxb6604541a", sum := "645ecbc924ed6c809c08aa4adcccc64d67b4cee0c7b37dda5d9c79e7a51175cc", func := "example.com/dotmerge/dotmerge/zzlaws_causal_b1.FnNodeUndoesTag", spec := "fnNodeUndoesTag", inPlace := ["internal/bytealg.IndexByteString", "internal/bytealg.IndexString"], named := ["internal/bytealg.MaxLen"], apart := false }
def FnNodeUndoesTagSaid : Prop := fnNodeUndoesTagRow.holds Try.pinned (OpenSpec.ofChange fnNodeUndoesTagSpec)

/-- ITS FALSE NEIGHBOUR: 'it returns false'. Refute it at one input. -/
def fnNodeUndoesTagWrong : ChangeSpec := { name := "fnNodeUndoesTag", fn := fun _ => fun
  | [d1, d2] => { results := [.lit (.bool false)], args := [d1, d2] }
  | _ => none }
def FnNodeUndoesTagWrongFalsely : Prop := fnNodeUndoesTagRow.holds Try.pinned (OpenSpec.ofChange fnNodeUndoesTagWrong)

/-- 'zzlaws_causal_b1.FnAppendDotDecodes': WHATEVER THE INPUT: true; the input reads as it did. -/
def fnAppendDotDecodesSpec : ChangeSpec := { name := "fnAppendDotDecodes", fn := fun _ => fun
  | [d1, d2, d3, d4] => { results := [.lit (.bool true)], args := [d1, d2, d3, d4] }
  | _ => none }
def fnAppendDotDecodesRow : OpenClaim := { program := "qxb6604541a", sum := "645ecbc924ed6c809c08aa4adcccc64d67b4cee0c7b37dda5d9c79e7a51175cc", func := "example.com/dotmerge/dotmerge/zzlaws_causal_b1.FnAppendDotDecodes", spec := "fnAppendDotDecodes", unfollowed := true, recurses := true, apart := false }
def FnAppendDotDecodesSaid : Prop := fnAppendDotDecodesRow.holds Try.pinned (OpenSpec.ofChange fnAppendDotDecodesSpec)

/-- ITS FALSE NEIGHBOUR: 'it returns false'. Refute it at one input. -/
def fnAppendDotDecodesWrong : ChangeSpec := { name := "fnAppendDotDecodes", fn := fun _ => fun
  | [d1, d2, d3, d4] => { results := [.lit (.bool false)], args := [d1, d2, d3, d4] }
  | _ => none }
def FnAppendDotDecodesWrongFalsely : Prop := fnAppendDotDecodesRow.holds Try.pinned (OpenSpec.ofChange fnAppendDotDecodesWrong)

/-- 'zzlaws_causal_b1.FnAppendDotLocatesWriter': WHATEVER THE INPUT: true; the input reads as it did. -/
def fnAppendDotLocatesWriterSpec : ChangeSpec := { name := "fnAppendDotLocatesWriter", fn := fun _ => fun
  | [d1, d2, d3, d4] => { results := [.lit (.bool true)], args := [d1, d2, d3, d4] }
  | _ => none }
def fnAppendDotLocatesWriterRow : OpenClaim := { program := "qxb6604541a", sum := "645ecbc924ed6c809c08aa4adcccc64d67b4cee0c7b37dda5d9c79e7a51175cc", func := "example.com/dotmerge/dotmerge/zzlaws_causal_b1.FnAppendDotLocatesWriter", spec := "fnAppendDotLocatesWriter", unfollowed := true, recurses := true, apart := false }
def FnAppendDotLocatesWriterSaid : Prop := fnAppendDotLocatesWriterRow.holds Try.pinned (OpenSpec.ofChange fnAppendDotLocatesWriterSpec)

/-- ITS FALSE NEIGHBOUR: 'it returns false'. Refute it at one input. -/
def fnAppendDotLocatesWriterWrong : ChangeSpec := { name := "fnAppendDotLocatesWriter", fn := fun _ => fun
  | [d1, d2, d3, d4] => { results := [.lit (.bool false)], args := [d1, d2, d3, d4] }
  | _ => none }
def FnAppendDotLocatesWriterWrongFalsely : Prop := fnAppendDotLocatesWriterRow.holds Try.pinned (OpenSpec.ofChange fnAppendDotLocatesWriterWrong)

end Rows
end Go.Proofs.Qxb6604541a
